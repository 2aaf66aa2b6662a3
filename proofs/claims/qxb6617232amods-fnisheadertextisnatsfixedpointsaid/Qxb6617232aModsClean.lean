import Derived.Test.Qxb6617232aModsHdr
import Derived.Test.Qxb6617232aModsPlain2
import Derived.Deep.OwnRows
import Derived.Lib.SlBytesRow
namespace Go.Proofs.Qxb6617232aMods.Clean
open Go.RowKit
open Go.Proofs.Qxb6617232aMods

theorem info5 : (Trym.prog.info? 5).map (fun i => (i.zero, i.size, i.bytes)) = some (some (Value.int IntKind.u8 0), 1, 1) := by kernel_rfl

set_option maxHeartbeats 400000 in
theorem blank_at (c : UInt8) (w : World) :
    Calls Trym.prog 10 #[.int .u8 (c.toNat : Int)] w fun e w' => e = .returned (.bool (Plain.blank c)) ∧ w' = w := by
  have e1 : (((c.toNat : Int)) == 32) = (c == 32) := by
    rw [Bool.eq_iff_iff, beq_iff_eq, beq_iff_eq]
    exact ⟨fun h => UInt8.toNat_inj.1 (by show c.toNat = 32; omega), fun h => by rw [h]; rfl⟩
  have e2 : (((c.toNat : Int)) == 9) = (c == 9) := by
    rw [Bool.eq_iff_iff, beq_iff_eq, beq_iff_eq]
    exact ⟨fun h => UInt8.toNat_inj.1 (by show c.toNat = 9; omega), fun h => by rw [h]; rfl⟩
  have HB : Hid (Plain.blank c = (((c.toNat : Int)) == 32 || ((c.toNat : Int)) == 9)) := by rw [e1, e2]; rfl
  clear e1 e2
  go_enter Trym.func10, Trym.ntmps10
  go_wp2
  · have h : (c.toNat : Int) = 32 := by assumption
    go_ret
    exact ⟨by rw [HB.out, h]; rfl, rfl⟩
  · go_ret
    exact ⟨by rw [HB.out]; rfl, rfl⟩

theorem grown_trans {a b c : World} (h1 : Grown a b) (h2 : Grown b c) : Grown a c :=
  ⟨World.keptBut_trans h1.1 h2.1, fun x => (h2.2.1 x).trans (h1.2.1 x), Nat.le_trans h1.2.2 h2.2.2⟩

/-- The row after k rounds. -/
def row (l : List UInt8) (k j : Nat) : Value := .int .u8 (if j < k then ((Plain.cl (l.getD j 0)).toNat : Int) else 0)

theorem row_zero (l : List UInt8) (j : Nat) : Value.int .u8 0 = row l 0 j := by simp [row]

theorem row_step (l : List UInt8) (k : Nat) (v : Value) (hv : v = .int .u8 ((Plain.cl (l.getD k 0)).toNat : Int)) (j : Nat) : (if j = k then v else row l k j) = row l (k + 1) j := by
  by_cases e : j = k
  · subst e; simp [row, hv]
  · rw [if_neg e]
    unfold row
    by_cases h : j < k
    · rw [if_pos h, if_pos (by omega)]
    · rw [if_neg h, if_neg (by omega)]

theorem byte_getD (s : ByteArray) (k : Nat) (h : k < s.size) : s.data.toList.getD k 0 = s[k] := by
  rw [List.getD_eq_getElem?_getD, List.getElem?_eq_getElem (by simpa using h)]; rfl

theorem cl_sp (c : UInt8) (h : (c.toNat : Int) = 13 ∨ ((c.toNat : Int) == 13) = true ∨ ((c.toNat : Int) == 10) = true) : Value.int .u8 32 = .int .u8 ((Plain.cl c).toNat : Int) := by
  have hc : c = 13 ∨ c = 10 := by
    rcases h with h | h | h
    · exact .inl (UInt8.toNat_inj.1 (by show c.toNat = 13; omega))
    · rw [beq_iff_eq] at h; exact .inl (UInt8.toNat_inj.1 (by show c.toNat = 13; omega))
    · rw [beq_iff_eq] at h; exact .inr (UInt8.toNat_inj.1 (by show c.toNat = 10; omega))
  rcases hc with rfl | rfl <;> rfl

theorem cl_no (c : UInt8) (h : ((c.toNat : Int) == 13) = false ∧ ((c.toNat : Int) == 10) = false) : Value.int .u8 (c.toNat : Int) = .int .u8 ((Plain.cl c).toNat : Int) := by
  rw [Plain.cl_id (fun e => by rw [e] at h; exact absurd h.1 (by decide)) (fun e => by rw [e] at h; exact absurd h.2 (by decide))]

/-- The bytes behind the first loop. -/
def mm (s : ByteArray) : List UInt8 := s.data.toList.map Plain.cl

theorem mm_length (s : ByteArray) : (mm s).length = s.size := by simp [mm]

def mb (s : ByteArray) (j : Nat) : UInt8 := (mm s).getD j 0

theorem row_full (s : ByteArray) (j : Nat) (h : j < s.size) : row s.data.toList s.size j = .int .u8 ((mb s j).toNat : Int) := by
  have e : mb s j = Plain.cl (s.data.toList.getD j 0) := by
    unfold mb mm
    rw [List.getD_eq_getElem?_getD, List.getD_eq_getElem?_getD, List.getElem?_map, List.getElem?_eq_getElem (by simpa using h)]
    rfl
  unfold row
  rw [if_pos h, e]

theorem conv_cut (s : ByteArray) (wr : World) (B lo h cap : Nat) (hrow : wr.rowIs B 5 s.size (fun j => .int .u8 ((mb s j).toNat : Int))) (h1 : lo ≤ h) (h2 : h ≤ s.size) :
    (convert 25 9 (.slice (some ⟨B, lo, none⟩) (h - lo) cap)).run Trym.prog wr = .ok (.string ⟨(Plain.cut (mm s) lo h).toArray⟩) wr := by
  have hl : (Plain.cut (mm s) lo h).length = h - lo := by
    have := mm_length s
    simp [Plain.cut]; omega
  have hg := run_convert_bytes_back (P := Trym.prog) wr 25 9 5 ⟨B, lo, none⟩ cap (Plain.cut (mm s) lo h) Trym.underlying25 Trym.underlying5 Trym.underlying9 (fun j hj => by
    have e : (Plain.cut (mm s) lo h)[j] = mb s (lo + j) := by
      have := Plain.getD_cut (m := mm s) (lo := lo) (hi := h) j (by omega)
      rw [List.getD_eq_getElem?_getD, List.getElem?_eq_getElem hj] at this
      exact this
    rw [e]
    have hce := hrow.cell (i := lo + j) (by omega)
    by_cases e0 : j = 0
    · subst e0; simpa [Addr.add] using hce
    · simpa [Addr.add, e0] using hce)
  rw [hl] at hg
  exact hg

theorem conv_none (wr : World) (a : Addr) (cap : Nat) :
    (convert 25 9 (.slice (some a) 0 cap)).run Trym.prog wr = .ok (.string ⟨#[]⟩) wr :=
  run_convert_bytes_back (P := Trym.prog) wr 25 9 5 a cap [] Trym.underlying25 Trym.underlying5 Trym.underlying9 (fun j hj => absurd hj (by simp))

theorem trim_of {s : ByteArray} {lo h : Nat} (h1 : lo ≤ h) (h2 : h ≤ s.size) (h3 : ∀ j, j < lo → Plain.blank (mb s j) = true) (h4 : ∀ j, h ≤ j → j < s.size → Plain.blank (mb s j) = true)
    (h5 : lo < s.size → Plain.blank (mb s lo) = false) (h6 : lo < h → Plain.blank (mb s (h - 1)) = false) : Plain.Trim (mm s) lo h :=
  ⟨h1, by rw [mm_length]; exact h2, h3, fun j a b => h4 j a (by rw [mm_length] at b; exact b), fun a => h5 (by omega), h6⟩

set_option maxHeartbeats 1000000 in
theorem clean_any (s : ByteArray) (w : World) (hs : s.size ≤ 1048576) :
    Calls Trym.prog 6 #[.string s] w fun e w' => ∃ lo hi, Plain.Trim (mm s) lo hi ∧ e = .returned (.string ⟨(Plain.cut (mm s) lo hi).toArray⟩) ∧ Grown w w' := by
  have hmk := fun w => run_make_row' (P := Trym.prog) 25 5 (.int .u8 0) 1 Trym.underlying25 info5 rfl .i64 .i64 s.size (by omega) (by omega) w
  go_enter Trym.func6, Trym.ntmps6
  go_wp2_with fail
  go_loopw [4] (fun i wr => ∃ k : Nat, k ≤ s.size ∧ i = .int .i64 k ∧ Hid (wr.rowIs w.heap.size 5 s.size (row s.data.toList k)) ∧ Hid (Grown w wr)) (fun i _ => s.size - (intOf i).toNat)
  case atStart => exact ⟨0, Nat.zero_le _, rfl, (World.rowIs_made w _ _ _).congr (fun j _ => row_zero _ j), (Grown.refl _).alloc _ _⟩
  case round =>
    obtain ⟨k, hk, rfl, hrw, hgr⟩ := hrel
    clear hmk
    have hf1 : wr.frozen? ⟨w.heap.size, k, none⟩ = false := hrw.out.frozen _
    have hc1 : k < s.size → wr.cell? ⟨w.heap.size, k, none⟩ = some (row s.data.toList k k) := fun h => hrw.out.cell (by omega)
    by_cases hlt : k < s.size
    · go_wp2_with fail
      · go_roundw
        case rel => exact ⟨k + 1, by omega, by go_num, (hrw.out.set _ _).congr (fun j _ => row_step _ _ _ (by rw [byte_getD s k hlt]; exact cl_sp _ (.inl (by assumption))) j), hgr.out.setCell (Nat.le_refl _) _⟩
        case measure => simp [intOf]; omega
      · go_roundw
        case rel => exact ⟨k + 1, by omega, by go_num, (hrw.out.set _ _).congr (fun j _ => row_step _ _ _ (by rw [byte_getD s k hlt]; exact cl_sp _ (.inr (by assumption))) j), hgr.out.setCell (Nat.le_refl _) _⟩
        case measure => simp [intOf]; omega
      · go_roundw
        case rel => exact ⟨k + 1, by omega, by go_num, (hrw.out.set _ _).congr (fun j _ => row_step _ _ _ (by rw [byte_getD s k hlt]; exact cl_no _ (by assumption)) j), hgr.out.setCell (Nat.le_refl _) _⟩
        case measure => simp [intOf]; omega
    · obtain rfl : k = s.size := by omega
      clear hf1 hc1
      have hr2 : Hid (wr.rowIs w.heap.size 5 s.size (fun j => .int .u8 ((mb s j).toNat : Int))) := hrw.out.congr (fun j hj => row_full s j hj)
      clear hrw
      go_wp2_with fail
      go_loop [6] (fun i => ∃ k : Nat, k ≤ s.size ∧ i = .int .i64 k ∧ Hid (∀ j, j < k → Plain.blank (mb s j) = true)) (fun i => s.size - (intOf i).toNat)
      case atStart => exact ⟨0, Nat.zero_le _, rfl, fun j hj => absurd hj (by omega)⟩
      case round =>
        obtain ⟨lo, hlo, rfl, hbl⟩ := hrel
        have hc2 : lo < s.size → wr.cell? ⟨w.heap.size, lo, none⟩ = some (.int .u8 ((mb s lo).toNat : Int)) := fun h => hr2.out.cell h
        by_cases hgo : lo < s.size ∧ Plain.blank (mb s lo) = true
        · obtain ⟨hlt2, hb⟩ := hgo
          go_wp2_with fail
          refine (blank_at _ _).mono ?_
          rintro e w' ⟨rfl, rfl⟩
          go_wp2_with fail
          go_round
          case rel => exact ⟨lo + 1, by omega, by go_num, fun j hj => by
            by_cases e : j = lo
            · rw [e]; exact hb
            · exact hbl.out j (by omega)⟩
          case measure => simp [intOf]; omega
        · have hfirst : Hid (lo < s.size → Plain.blank (mb s lo) = false) := fun h => by
            cases hb : Plain.blank (mb s lo)
            · rfl
            · exact absurd ⟨h, hb⟩ hgo
          clear hgo
          by_cases hlt2 : lo < s.size
          · have hb := hfirst.out hlt2
            go_wp2_with fail
            refine (blank_at _ _).mono ?_
            rintro e w' ⟨rfl, rfl⟩
            go_wp2_with fail
            clear hb
            go_loop [7] (fun i => ∃ h : Nat, lo ≤ h ∧ h ≤ s.size ∧ i = .int .i64 h ∧ Hid (∀ j, h ≤ j → j < s.size → Plain.blank (mb s j) = true)) (fun i => (intOf i).toNat)
            case atStart => exact ⟨s.size, hlo, Nat.le_refl _, rfl, fun j h1 h2 => absurd h2 (by omega)⟩
            case round =>
              obtain ⟨h, hlh, hhn, rfl, hbr⟩ := hrel
              have hc3 : lo < h → w'.cell? ⟨w.heap.size, h - 1, none⟩ = some (.int .u8 ((mb s (h - 1)).toNat : Int)) := fun _ => hr2.out.cell (by omega)
              have kc := conv_cut s w' w.heap.size lo h (s.size - lo) hr2.out hlh hhn
              by_cases hgo : lo < h ∧ Plain.blank (mb s (h - 1)) = true
              · obtain ⟨hlt3, hb⟩ := hgo
                go_wp2_with fail
                refine (blank_at _ _).mono ?_
                rintro e w2 ⟨rfl, rfl⟩
                go_wp2_with fail
                go_round
                case rel => exact ⟨h - 1, by omega, by omega, by go_num, fun j h1 h2 => by
                  by_cases e : j = h - 1
                  · rw [e]; exact hb
                  · exact hbr.out j (by omega) h2⟩
                case measure => simp [intOf]; omega
              · have hlast : Hid (lo < h → Plain.blank (mb s (h - 1)) = false) := fun hl => by
                  cases hb : Plain.blank (mb s (h - 1))
                  · rfl
                  · exact absurd ⟨hl, hb⟩ hgo
                clear hgo
                by_cases hlt3 : lo < h
                · have hb := hlast.out hlt3
                  go_wp2_with fail
                  refine (blank_at _ _).mono ?_
                  rintro e w2 ⟨rfl, rfl⟩
                  go_wp2_with fail
                  go_ret
                  exact ⟨lo, h, trim_of hlh hhn hbl.out hbr.out hfirst.out hlast.out, rfl, hgr.out⟩
                · go_wp2_with fail
                  go_ret
                  exact ⟨lo, h, trim_of hlh hhn hbl.out hbr.out hfirst.out hlast.out, rfl, hgr.out⟩
          · obtain rfl : lo = s.size := by omega
            have kc := fun a c => conv_none wr a c
            go_wp2_with fail
            go_loop [7] (fun i => i = .int .i64 s.size) (fun i => 0)
            case atStart => rfl
            case round =>
              subst hrel
              go_wp2_with fail
              go_ret
              exact ⟨s.size, s.size, trim_of (Nat.le_refl _) (Nat.le_refl _) hbl.out (fun j h1 h2 => absurd h2 (by omega)) hfirst.out (fun h => absurd h (by omega)), by simp [Plain.cut], hgr.out⟩
end Go.Proofs.Qxb6617232aMods.Clean
