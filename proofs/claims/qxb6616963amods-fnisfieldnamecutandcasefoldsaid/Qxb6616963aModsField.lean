import Derived.Test.Qxb6616963aModsRows
import Derived.Test.Qxb6616963aModsShelf
import Derived.WalkKit
import Derived.WalkSpells
import Derived.WalkLawsBesides
namespace Go.Proofs.Qxb6616963aMods.Field
open Go.RowKit

theorem idx_mem (l : List UInt8) (c : UInt8) (h : c ∈ l) : 0 ≤ Go.Lib.indexByte l c := by
  induction l with
  | nil => simp at h
  | cons b l ih =>
    unfold Go.Lib.indexByte
    by_cases hb : (b == c) = true
    · rw [if_pos hb]; exact Int.le_refl _
    · rw [if_neg hb]
      have hm : c ∈ l := by
        rcases List.mem_cons.1 h with rfl | h
        · simp at hb
        · exact h
      have h0 := ih hm
      have h1 : (Go.Lib.indexByte l c == -1) = false := by
        rw [beq_eq_false_iff_ne]; omega
      rw [h1]; simp; omega

theorem idx_not (l : List UInt8) (c : UInt8) (h : ¬ c ∈ l) : Go.Lib.indexByte l c = -1 := by
  induction l with
  | nil => rfl
  | cons b l ih =>
    unfold Go.Lib.indexByte
    have hb : (b == c) = false := by
      rw [beq_eq_false_iff_ne]; intro e; exact h (by rw [e]; exact List.mem_cons_self ..)
    rw [ih (fun hm => h (List.mem_cons_of_mem _ hm)), hb]
    rfl

theorem byte_back (b : UInt8) : ((b.toNat : Int)).toNat.toUInt8 = b := by simp

/-- strings.IndexByte, told by its sign. -/
theorem idx_at (s : ByteArray) (c : UInt8) (w : World) :
    Calls Trym.prog 12 #[.string s, .int .u8 (c.toNat : Int)] w fun e w' => ∃ k : Int, Hid (decide (k < 0) = !s.data.toList.contains c) ∧ e = .returned (.int .i64 k) ∧ w = w' :=
  (Trym.strings_IndexByte s _ w).mono fun _ _ ⟨he, hw⟩ => ⟨_, by
    show _ = _
    rw [byte_back]
    by_cases h : c ∈ s.data.toList
    · have h1 := idx_mem _ _ h
      rw [List.contains_iff_mem.2 h]
      simpa using h1
    · rw [idx_not _ _ h]
      have h2 : s.data.toList.contains c = false := by
        rw [← Bool.not_eq_true, List.contains_iff_mem]; exact h
      rw [h2]; decide, he, hw.symm⟩

/-- The loop's end and its early way out. -/
theorem all_no {s : ByteArray} {p : UInt8 → Bool} {k : Nat} (h : k < s.size) (hp : p s[k] = false) : s.data.toList.all p = false := by
  rw [List.all_eq_false]
  exact ⟨s[k], by rw [show s[k] = s.data.toList[k]'(by simpa using h) from rfl]; exact List.getElem_mem _, by rw [hp]; decide⟩

theorem all_yes {s : ByteArray} {p : UInt8 → Bool} (h : ∀ j (hj : j < s.size), p s[j] = true) : s.data.toList.all p = true := by
  rw [List.all_eq_true]
  intro c hc
  obtain ⟨j, hj, rfl⟩ := List.getElem_of_mem hc
  exact h j (by simpa using hj)

/-- A letter or a digit. -/
def al (c : UInt8) : Bool := decide (65 ≤ c.toNat ∧ c.toNat ≤ 90 ∨ 97 ≤ c.toNat ∧ c.toNat ≤ 122 ∨ 48 ≤ c.toNat ∧ c.toNat ≤ 57)

/-- A letter, a digit or one of the set. -/
def okB (t : List UInt8) (c : UInt8) : Bool := al c || t.contains c

theorem ok_al {t : List UInt8} {c : UInt8} (h : al c = true) : okB t c = true := by simp [okB, h]
theorem ok_set {t : List UInt8} {c : UInt8} (h : t.contains c = true) : okB t c = true := by unfold okB; rw [h]; simp
theorem ok_no {t : List UInt8} {c : UInt8} (h1 : al c = false) (h : t.contains c = false) : okB t c = false := by unfold okB; rw [h, h1]; rfl

theorem sgn_yes {x : Int} (h : decide (x < 0) = false) : decide (0 ≤ x) = true := by
  rw [decide_eq_false_iff_not] at h; exact decide_eq_true (by omega)
theorem sgn_no {x : Int} (h : decide (x < 0) = true) : decide (0 ≤ x) = false := by
  rw [decide_eq_true_iff] at h; exact decide_eq_false (by omega)

set_option maxRecDepth 100000 in
set_option maxHeartbeats 1000000 in
theorem alnum_any (s t : ByteArray) (w : World) (hs : s.size ≤ 1048700) (r : Bool) (hr : (s.data.toList.all (okB t.data.toList)) = r) :
    Calls Trym.prog 11 #[.string s, .string t] w fun e w' => e = .returned (.bool r) ∧ w = w' := by
  have HR : Hid ((s.data.toList.all (okB t.data.toList)) = r) := hr
  clear hr
  go_enter Trym.func11, Trym.ntmps11
  go_wp2_with fail
  go_loop [4, 5] (fun z i => ∃ k : Nat, z = .bool false ∧ k ≤ s.size ∧ i = .int .i64 k ∧ Hid (∀ j (h : j < s.size), j < k → okB t.data.toList s[j] = true)) (fun _ i => s.size - (intOf i).toNat)
  case atStart => exact ⟨0, rfl, Nat.zero_le _, rfl, fun j _ hj => absurd hj (by omega)⟩
  case round =>
    obtain ⟨k, rfl, hk, rfl, hall⟩ := hrel
    by_cases hlt : k < s.size
    rotate_left
    · go_wp2_with fail
      go_ret
      exact ⟨by rw [← HR.out, all_yes fun j hj => hall.out j hj (by omega)]; rfl, rfl⟩
    · have hbyte := s[k].toNat_lt
      rcases (by omega : s[k].toNat ≤ 47 ∨ (48 ≤ s[k].toNat ∧ s[k].toNat ≤ 57) ∨ (58 ≤ s[k].toNat ∧ s[k].toNat ≤ 64) ∨ (65 ≤ s[k].toNat ∧ s[k].toNat ≤ 90) ∨ (91 ≤ s[k].toNat ∧ s[k].toNat ≤ 96) ∨ (97 ≤ s[k].toNat ∧ s[k].toNat ≤ 122) ∨ 123 ≤ s[k].toNat) with g1 | ⟨g1, g2⟩ | ⟨g1, g2⟩ | ⟨g1, g2⟩ | ⟨g1, g2⟩ | ⟨g1, g2⟩ | g1
      · have HA : Hid (al s[k] = false) := by unfold al; exact decide_eq_false (by omega)
        go_wp2_with fail
        refine (idx_at _ _ _).mono ?_
        rintro e w' ⟨x, hx, rfl, rfl⟩
        cases hc : t.data.toList.contains s[k] with
        | true =>
          have hd : decide (0 ≤ x) = true := sgn_yes (by rw [hx.out, hc]; rfl)
          have HC : Hid (okB t.data.toList s[k] = true) := ok_set hc
          clear hc
          go_wp2_with fail
          go_round
          case rel => exact ⟨k + 1, rfl, by omega, by go_num, fun j hj hjk => by
            by_cases e : j = k
            · subst e; exact HC.out
            · exact hall.out j hj (by omega)⟩
          case measure => simp [intOf]; omega
        | false =>
          have hd : decide (0 ≤ x) = false := sgn_no (by rw [hx.out, hc]; rfl)
          have HC : Hid (okB t.data.toList s[k] = false) := ok_no HA.out hc
          clear hc
          go_wp2_with fail
          go_ret
          exact ⟨by rw [← HR.out, all_no hlt HC.out]; rfl, rfl⟩
      · have HC : Hid (okB t.data.toList s[k] = true) := ok_al (by unfold al; exact decide_eq_true (by omega))
        go_wp2_with fail
        go_round
        case rel => exact ⟨k + 1, rfl, by omega, by go_num, fun j hj hjk => by
          by_cases e : j = k
          · subst e; exact HC.out
          · exact hall.out j hj (by omega)⟩
        case measure => simp [intOf]; omega
      · have HA : Hid (al s[k] = false) := by unfold al; exact decide_eq_false (by omega)
        go_wp2_with fail
        refine (idx_at _ _ _).mono ?_
        rintro e w' ⟨x, hx, rfl, rfl⟩
        cases hc : t.data.toList.contains s[k] with
        | true =>
          have hd : decide (0 ≤ x) = true := sgn_yes (by rw [hx.out, hc]; rfl)
          have HC : Hid (okB t.data.toList s[k] = true) := ok_set hc
          clear hc
          go_wp2_with fail
          go_round
          case rel => exact ⟨k + 1, rfl, by omega, by go_num, fun j hj hjk => by
            by_cases e : j = k
            · subst e; exact HC.out
            · exact hall.out j hj (by omega)⟩
          case measure => simp [intOf]; omega
        | false =>
          have hd : decide (0 ≤ x) = false := sgn_no (by rw [hx.out, hc]; rfl)
          have HC : Hid (okB t.data.toList s[k] = false) := ok_no HA.out hc
          clear hc
          go_wp2_with fail
          go_ret
          exact ⟨by rw [← HR.out, all_no hlt HC.out]; rfl, rfl⟩
      · have HC : Hid (okB t.data.toList s[k] = true) := ok_al (by unfold al; exact decide_eq_true (by omega))
        go_wp2_with fail
        go_round
        case rel => exact ⟨k + 1, rfl, by omega, by go_num, fun j hj hjk => by
          by_cases e : j = k
          · subst e; exact HC.out
          · exact hall.out j hj (by omega)⟩
        case measure => simp [intOf]; omega
      · have HA : Hid (al s[k] = false) := by unfold al; exact decide_eq_false (by omega)
        go_wp2_with fail
        refine (idx_at _ _ _).mono ?_
        rintro e w' ⟨x, hx, rfl, rfl⟩
        cases hc : t.data.toList.contains s[k] with
        | true =>
          have hd : decide (0 ≤ x) = true := sgn_yes (by rw [hx.out, hc]; rfl)
          have HC : Hid (okB t.data.toList s[k] = true) := ok_set hc
          clear hc
          go_wp2_with fail
          go_round
          case rel => exact ⟨k + 1, rfl, by omega, by go_num, fun j hj hjk => by
            by_cases e : j = k
            · subst e; exact HC.out
            · exact hall.out j hj (by omega)⟩
          case measure => simp [intOf]; omega
        | false =>
          have hd : decide (0 ≤ x) = false := sgn_no (by rw [hx.out, hc]; rfl)
          have HC : Hid (okB t.data.toList s[k] = false) := ok_no HA.out hc
          clear hc
          go_wp2_with fail
          go_ret
          exact ⟨by rw [← HR.out, all_no hlt HC.out]; rfl, rfl⟩
      · have HC : Hid (okB t.data.toList s[k] = true) := ok_al (by unfold al; exact decide_eq_true (by omega))
        go_wp2_with fail
        go_round
        case rel => exact ⟨k + 1, rfl, by omega, by go_num, fun j hj hjk => by
          by_cases e : j = k
          · subst e; exact HC.out
          · exact hall.out j hj (by omega)⟩
        case measure => simp [intOf]; omega
      · have HA : Hid (al s[k] = false) := by unfold al; exact decide_eq_false (by omega)
        go_wp2_with fail
        refine (idx_at _ _ _).mono ?_
        rintro e w' ⟨x, hx, rfl, rfl⟩
        cases hc : t.data.toList.contains s[k] with
        | true =>
          have hd : decide (0 ≤ x) = true := sgn_yes (by rw [hx.out, hc]; rfl)
          have HC : Hid (okB t.data.toList s[k] = true) := ok_set hc
          clear hc
          go_wp2_with fail
          go_round
          case rel => exact ⟨k + 1, rfl, by omega, by go_num, fun j hj hjk => by
            by_cases e : j = k
            · subst e; exact HC.out
            · exact hall.out j hj (by omega)⟩
          case measure => simp [intOf]; omega
        | false =>
          have hd : decide (0 ≤ x) = false := sgn_no (by rw [hx.out, hc]; rfl)
          have HC : Hid (okB t.data.toList s[k] = false) := ok_no HA.out hc
          clear hc
          go_wp2_with fail
          go_ret
          exact ⟨by rw [← HR.out, all_no hlt HC.out]; rfl, rfl⟩

/-- The token characters that are no letters and no digits. -/
def punct : List UInt8 := [33, 35, 36, 37, 38, 39, 42, 43, 45, 46, 94, 95, 96, 124, 126]

/-- A token character. -/
def tc (c : UInt8) : Bool := okB punct c

/-- What isFieldName answers. -/
def fn (l : List UInt8) : Bool := !l.isEmpty && l.all tc

theorem alnum_name (s t : ByteArray) (w : World) (hs : s.size ≤ 1048700) (ht : t.data.toList = punct) (r : Bool) (hr : fn s.data.toList = r) (hv : fn s.data.toList = s.data.toList.all tc) :
    Calls Trym.prog 11 #[.string s, .string t] w fun e w' => e = .returned (.bool r) ∧ w = w' :=
  alnum_any s t w hs r (by rw [← hr, hv, ht]; rfl)

set_option maxRecDepth 100000 in
set_option maxHeartbeats 400000 in
theorem field_any (s : ByteArray) (w : World) (hs : s.size ≤ 1048700) (r : Bool) (hr : fn s.data.toList = r) :
    Calls Trym.prog 10 #[.string s] w fun e w' => e = .returned (.bool r) ∧ w = w' := by
  have HR : Hid (fn s.data.toList = r) := hr
  cases he : s.toList.isEmpty
  · have hv : Hid (fn s.data.toList = s.data.toList.all tc) := by
      show _ = _
      unfold fn; rw [← Lib.toList_data, he]; rfl
    clear hr
    go_enter Trym.func10, Trym.ntmps10
    go_wp2_with fail
    refine (alnum_name s _ _ hs rfl r HR.out hv.out).mono ?_
    rintro e w' ⟨rfl, rfl⟩
    go_wp2_with fail
    go_ret
    exact ⟨rfl, rfl⟩
  · obtain rfl : r = false := by
      rw [← hr]
      unfold fn; rw [← Lib.toList_data, he]; rfl
    clear hr
    go_enter Trym.func10, Trym.ntmps10
    go_wp2_with fail
    go_ret
    exact ⟨rfl, rfl⟩

set_option maxHeartbeats 400000 in
/-- vouch.ZZisFieldName. -/
theorem zz_any (s : ByteArray) (w : World) (hs : s.size ≤ 1048700) (r : Bool) (hr : fn s.data.toList = r) :
    Calls Trym.prog 6 #[.string s] w fun e w' => e = .returned (.bool r) ∧ w = w' := by
  have HR : Hid (fn s.data.toList = r) := hr
  clear hr
  go_enter Trym.func6, Trym.ntmps6
  go_wp2_with fail
  refine (field_any _ _ hs r HR.out).mono ?_
  rintro e w' ⟨rfl, rfl⟩
  go_wp2_with fail
  go_ret
  exact ⟨rfl, rfl⟩

/-- What zzIsTchar answers. -/
def tI (n : Int) : Bool := decide (33 ≤ n ∧ n ≤ 126 ∧ n ≠ 34 ∧ n ≠ 40 ∧ n ≠ 41 ∧ n ≠ 44 ∧ n ≠ 47 ∧ n ≠ 58 ∧ n ≠ 59 ∧ n ≠ 60 ∧ n ≠ 61 ∧ n ≠ 62 ∧ n ≠ 63 ∧ n ≠ 64 ∧ n ≠ 91 ∧ n ≠ 92 ∧ n ≠ 93 ∧ n ≠ 123 ∧ n ≠ 125)

set_option maxRecDepth 100000 in
set_option maxHeartbeats 1000000 in
theorem tchar_any (n : Int) (w : World) :
    Calls Trym.prog 7 #[.int .u8 n] w fun e w' => e = .returned (.bool (tI n)) ∧ w = w' := by
  go_enter Trym.func7, Trym.ntmps7
  go_wp2
  all_goals
    go_ret
    refine ⟨?_, rfl⟩
    simp only [beq_iff_eq, beq_eq_false_iff_ne, ne_eq] at *
    first
      | (rw [show tI n = true from decide_eq_true (by omega)]; rfl)
      | (rw [show tI n = false from decide_eq_false (by omega)]; rfl)

theorem t_table : ∀ a : Fin 256, tI ((a.val : Nat) : Int) = tc (a.val.toUInt8) := by decide +kernel

theorem t_byte (c : UInt8) : tI (c.toNat : Int) = tc c := by
  have h := t_table ⟨c.toNat, c.toNat_lt⟩
  rw [show tI (c.toNat : Int) = tI (((⟨c.toNat, c.toNat_lt⟩ : Fin 256).val : Nat) : Int) from rfl, h]
  congr 1
  simp

theorem tchar_at (c : UInt8) (w : World) (r : Bool) (h : tc c = r) :
    Calls Trym.prog 7 #[.int .u8 (c.toNat : Int)] w fun e w' => e = .returned (.bool r) ∧ w' = w :=
  (tchar_any _ w).mono fun _ _ ⟨he, hw⟩ => ⟨by rw [he, t_byte, h], hw.symm⟩

end Go.Proofs.Qxb6616963aMods.Field
