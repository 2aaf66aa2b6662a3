import Derived.Test.Qxb6616963aModsField
import Derived.Deep.OwnRows
namespace Go.Proofs.Qxb6616963aMods.Swap
open Go.RowKit
open Go.Proofs.Qxb6616963aMods

theorem info5 : (Trym.prog.info? 5).map (fun i => (i.zero, i.size, i.bytes)) = some (some (Value.int IntKind.u8 0), 1, 1) := by kernel_rfl

/-- A letter's case turned. -/
def sw (c : UInt8) : UInt8 := if 65 ≤ c.toNat ∧ c.toNat ≤ 90 then (c.toNat + 32).toUInt8 else if 97 ≤ c.toNat ∧ c.toNat ≤ 122 then (c.toNat - 32).toUInt8 else c

theorem sw_table : ∀ a : Fin 256, Field.tc (sw (a.val.toUInt8)) = Field.tc (a.val.toUInt8) := by decide +kernel

theorem sw_tc (c : UInt8) : Field.tc (sw c) = Field.tc c := by
  have h := sw_table ⟨c.toNat, c.toNat_lt⟩
  have e : (c.toNat).toUInt8 = c := by simp
  simp only [e] at h
  exact h

theorem sw_fn (l : List UInt8) : Field.fn (l.map sw) = Field.fn l := by
  unfold Field.fn
  rw [List.all_map, List.isEmpty_map]
  congr 2
  funext c
  exact sw_tc c

/-- The row after k rounds. -/
def row (l : List UInt8) (k j : Nat) : Value := .int .u8 (if j < k then ((sw (l.getD j 0)).toNat : Int) else 0)

theorem row_zero (l : List UInt8) (j : Nat) : Value.int .u8 0 = row l 0 j := by simp [row]

theorem row_step (l : List UInt8) (k : Nat) (v : Value) (hv : v = .int .u8 ((sw (l.getD k 0)).toNat : Int)) (j : Nat) : (if j = k then v else row l k j) = row l (k + 1) j := by
  by_cases e : j = k
  · subst e; simp [row, hv]
  · rw [if_neg e]
    unfold row
    by_cases h : j < k
    · rw [if_pos h, if_pos (by omega)]
    · rw [if_neg h, if_neg (by omega)]

theorem byte_getD (s : ByteArray) (k : Nat) (h : k < s.size) : s.data.toList.getD k 0 = s[k] := by
  rw [List.getD_eq_getElem?_getD, List.getElem?_eq_getElem (by simpa using h)]; rfl

theorem toNat_small (n : Nat) (h : n < 256) : (n.toUInt8).toNat = n := by
  rw [Nat.toUInt8_eq, UInt8.toNat_ofNat']; exact Nat.mod_eq_of_lt h

theorem sw_up (c : UInt8) (h1 : 65 ≤ c.toNat) (h2 : c.toNat ≤ 90) : Value.int .u8 ((c.toNat : Int) + 32) = .int .u8 ((sw c).toNat : Int) := by
  unfold sw; rw [if_pos ⟨h1, h2⟩, toNat_small _ (by omega)]; congr 1

theorem sw_down (c : UInt8) (h1 : 97 ≤ c.toNat) (h2 : c.toNat ≤ 122) : Value.int .u8 ((c.toNat : Int) - 32) = .int .u8 ((sw c).toNat : Int) := by
  unfold sw; rw [if_neg (by omega), if_pos ⟨h1, h2⟩, toNat_small _ (by omega)]; congr 1; omega

theorem sw_no (c : UInt8) (h1 : ¬ (65 ≤ c.toNat ∧ c.toNat ≤ 90)) (h2 : ¬ (97 ≤ c.toNat ∧ c.toNat ≤ 122)) : Value.int .u8 (c.toNat : Int) = .int .u8 ((sw c).toNat : Int) := by
  unfold sw; rw [if_neg h1, if_neg h2]

theorem conv_all (s : ByteArray) (wr : World) (B : Nat) (hrow : wr.rowIs B 5 s.size (row s.data.toList s.size)) :
    (convert 23 9 (.slice (some ⟨B, 0, none⟩) s.size s.size)).run Trym.prog wr = .ok (.string ⟨(s.data.toList.map sw).toArray⟩) wr := by
  have hl : (s.data.toList.map sw).length = s.size := by simp
  have hg := run_convert_bytes_back (P := Trym.prog) wr 23 9 5 ⟨B, 0, none⟩ s.size (s.data.toList.map sw) Trym.underlying23 Trym.underlying5 Trym.underlying9 (fun j hj => by
    have hj' : j < s.size := by omega
    have e : (s.data.toList.map sw)[j] = sw (s.data.toList.getD j 0) := by
      rw [List.getElem_map, List.getD_eq_getElem?_getD, List.getElem?_eq_getElem (by simpa using hj')]; rfl
    rw [e]
    have hce := hrow.cell (i := j) hj'
    unfold row at hce
    rw [if_pos hj'] at hce
    by_cases e0 : j = 0
    · subst e0; simpa [Addr.add] using hce
    · simpa [Addr.add, e0] using hce)
  rw [hl] at hg
  exact hg

set_option maxRecDepth 100000 in
set_option maxHeartbeats 1000000 in
theorem swap_any (s : ByteArray) (w : World) (hs : s.size ≤ 1048576) :
    Calls Trym.prog 9 #[.string s] w fun e w' => e = .returned (.string ⟨(s.data.toList.map sw).toArray⟩) ∧ Grown w w' := by
  have hmk := fun w => run_make_row' (P := Trym.prog) 23 5 (.int .u8 0) 1 Trym.underlying23 info5 rfl .i64 .i64 s.size (by omega) (by omega) w
  go_enter Trym.func9, Trym.ntmps9
  go_wp2_with fail
  go_loopw [4] (fun i wr => ∃ k : Nat, k ≤ s.size ∧ i = .int .i64 k ∧ Hid (wr.rowIs w.heap.size 5 s.size (row s.data.toList k)) ∧ Hid (Grown w wr)) (fun i _ => s.size - (intOf i).toNat)
  case atStart => exact ⟨0, Nat.zero_le _, rfl, (World.rowIs_made w _ _ _).congr (fun j _ => row_zero _ j), (Grown.refl _).alloc _ _⟩
  case round =>
    obtain ⟨k, hk, rfl, hrw, hgr⟩ := hrel
    clear hmk
    have hf1 : wr.frozen? ⟨w.heap.size, k, none⟩ = false := hrw.out.frozen _
    have hc1 : k < s.size → wr.cell? ⟨w.heap.size, k, none⟩ = some (row s.data.toList k k) := fun h => hrw.out.cell (by omega)
    by_cases hlt : k < s.size
    · have hbyte := s[k].toNat_lt
      rcases (by omega : s[k].toNat ≤ 64 ∨ (65 ≤ s[k].toNat ∧ s[k].toNat ≤ 90) ∨ (91 ≤ s[k].toNat ∧ s[k].toNat ≤ 96) ∨ (97 ≤ s[k].toNat ∧ s[k].toNat ≤ 122) ∨ 123 ≤ s[k].toNat) with g1 | ⟨g1, g2⟩ | ⟨g1, g2⟩ | ⟨g1, g2⟩ | g1
      · go_wp2_with fail
        go_roundw
        case rel => exact ⟨k + 1, by omega, by go_num, (hrw.out.set _ _).congr (fun j _ => row_step _ _ _ (by rw [byte_getD s k hlt]; exact sw_no _ (by omega) (by omega)) j), hgr.out.setCell (Nat.le_refl _) _⟩
        case measure => simp [intOf]; omega
      · go_wp2_with fail
        go_roundw
        case rel => exact ⟨k + 1, by omega, by go_num, (hrw.out.set _ _).congr (fun j _ => row_step _ _ _ (by rw [byte_getD s k hlt]; exact sw_up _ g1 g2) j), hgr.out.setCell (Nat.le_refl _) _⟩
        case measure => simp [intOf]; omega
      · go_wp2_with fail
        go_roundw
        case rel => exact ⟨k + 1, by omega, by go_num, (hrw.out.set _ _).congr (fun j _ => row_step _ _ _ (by rw [byte_getD s k hlt]; exact sw_no _ (by omega) (by omega)) j), hgr.out.setCell (Nat.le_refl _) _⟩
        case measure => simp [intOf]; omega
      · go_wp2_with fail
        go_roundw
        case rel => exact ⟨k + 1, by omega, by go_num, (hrw.out.set _ _).congr (fun j _ => row_step _ _ _ (by rw [byte_getD s k hlt]; exact sw_down _ g1 g2) j), hgr.out.setCell (Nat.le_refl _) _⟩
        case measure => simp [intOf]; omega
      · go_wp2_with fail
        go_roundw
        case rel => exact ⟨k + 1, by omega, by go_num, (hrw.out.set _ _).congr (fun j _ => row_step _ _ _ (by rw [byte_getD s k hlt]; exact sw_no _ (by omega) (by omega)) j), hgr.out.setCell (Nat.le_refl _) _⟩
        case measure => simp [intOf]; omega
    · obtain rfl : k = s.size := by omega
      clear hf1 hc1
      have kc := conv_all s wr w.heap.size hrw.out
      go_wp2_with fail
      go_ret
      exact ⟨rfl, hgr.out⟩

end Go.Proofs.Qxb6616963aMods.Swap
