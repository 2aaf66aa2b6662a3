import Derived.Test.Qxb6615768aModsRows
import Derived.Test.Qxb6615768aModsShelf
import Derived.WalkKit
import Derived.WalkSpells
import Derived.WalkLawsBesides
namespace Go.Proofs.Qxb6615768aMods.Name
open Go.RowKit

theorem idx_mem (l : List UInt8) (c : UInt8) (h : c ∈ l) : 0 ≤ Go.Lib.indexByte l c := by
  induction l with
  | nil => simp at h
  | cons b l ih =>
    unfold Go.Lib.indexByte
    by_cases hb : (b == c) = true
    · rw [if_pos hb]; exact Int.le_refl _
    · rw [if_neg hb]
      have hm : c ∈ l := by
        rcases List.mem_cons.1 h with rfl | h
        · simp at hb
        · exact h
      have h0 := ih hm
      have h1 : (Go.Lib.indexByte l c == -1) = false := by
        rw [beq_eq_false_iff_ne]; omega
      rw [h1]; simp; omega

theorem idx_not (l : List UInt8) (c : UInt8) (h : ¬ c ∈ l) : Go.Lib.indexByte l c = -1 := by
  induction l with
  | nil => rfl
  | cons b l ih =>
    unfold Go.Lib.indexByte
    have hb : (b == c) = false := by
      rw [beq_eq_false_iff_ne]; intro e; exact h (by rw [e]; exact List.mem_cons_self ..)
    rw [ih (fun hm => h (List.mem_cons_of_mem _ hm)), hb]
    rfl

theorem byte_back (b : UInt8) : ((b.toNat : Int)).toNat.toUInt8 = b := by simp

/-- strings.IndexByte, told by its sign. -/
theorem idx_at (s : ByteArray) (c : UInt8) (w : World) :
    Calls Trym.prog 10 #[.string s, .int .u8 (c.toNat : Int)] w fun e w' => ∃ k : Int, Hid (decide (k < 0) = !s.data.toList.contains c) ∧ e = .returned (.int .i64 k) ∧ w = w' :=
  (Trym.strings_IndexByte s _ w).mono fun _ _ ⟨he, hw⟩ => ⟨_, by
    show _ = _
    rw [byte_back]
    by_cases h : c ∈ s.data.toList
    · have h1 := idx_mem _ _ h
      rw [List.contains_iff_mem.2 h]
      simpa using h1
    · rw [idx_not _ _ h]
      have h2 : s.data.toList.contains c = false := by
        rw [← Bool.not_eq_true, List.contains_iff_mem]; exact h
      rw [h2]; decide, he, hw.symm⟩

/-- The loop's end and its early way out. -/
theorem all_no {s : ByteArray} {p : UInt8 → Bool} {k : Nat} (h : k < s.size) (hp : p s[k] = false) : s.data.toList.all p = false := by
  rw [List.all_eq_false]
  exact ⟨s[k], by rw [show s[k] = s.data.toList[k]'(by simpa using h) from rfl]; exact List.getElem_mem _, by rw [hp]; decide⟩

theorem all_yes {s : ByteArray} {p : UInt8 → Bool} (h : ∀ j (hj : j < s.size), p s[j] = true) : s.data.toList.all p = true := by
  rw [List.all_eq_true]
  intro c hc
  obtain ⟨j, hj, rfl⟩ := List.getElem_of_mem hc
  exact h j (by simpa using hj)

set_option maxHeartbeats 400000 in
theorem only_any (s t : ByteArray) (w : World) (hs : s.size ≤ 1048576) :
    Calls Trym.prog 9 #[.string s, .string t] w fun e w' => e = .returned (.bool (s.data.toList.all fun c => t.data.toList.contains c)) ∧ w = w' := by
  generalize hr : (s.data.toList.all fun c => t.data.toList.contains c) = r
  have HR : Hid ((s.data.toList.all fun c => t.data.toList.contains c) = r) := hr
  clear hr
  go_enter Trym.func9, Trym.ntmps9
  go_wp2_with fail
  go_loop [4, 5] (fun z i => ∃ k : Nat, z = .bool false ∧ k ≤ s.size ∧ i = .int .i64 k ∧ Hid (∀ j (h : j < s.size), j < k → t.data.toList.contains s[j] = true)) (fun _ i => s.size - (intOf i).toNat)
  case atStart => exact ⟨0, rfl, Nat.zero_le _, rfl, fun j _ hj => absurd hj (by omega)⟩
  case round =>
    obtain ⟨k, rfl, hk, rfl, hall⟩ := hrel
    by_cases hlt : k < s.size
    · go_wp2_with fail
      refine (idx_at _ _ _).mono ?_
      rintro e w' ⟨x, hx, rfl, rfl⟩
      cases hc : t.data.toList.contains s[k] with
      | true =>
        have hd : decide (x < 0) = false := by rw [hx.out, hc]; rfl
        have HC : Hid (t.data.toList.contains s[k] = true) := hc
        clear hc
        go_wp2_with fail
        go_round
        case rel => exact ⟨k + 1, rfl, by omega, by go_num, fun j hj hjk => by
          by_cases e : j = k
          · subst e; exact HC.out
          · exact hall.out j hj (by omega)⟩
        case measure => simp [intOf]; omega
      | false =>
        have hd : decide (x < 0) = true := by rw [hx.out, hc]; rfl
        have HC : Hid (t.data.toList.contains s[k] = false) := hc
        clear hc
        go_wp2_with fail
        go_ret
        exact ⟨by rw [← HR.out, all_no hlt HC.out]; rfl, rfl⟩
    · go_wp2_with fail
      go_ret
      exact ⟨by rw [← HR.out, all_yes fun j hj => hall.out j hj (by omega)]; rfl, rfl⟩

/-- A name's byte. -/
def nb (n : Int) : Bool := decide (65 ≤ n ∧ n ≤ 90 ∨ 97 ≤ n ∧ n ≤ 122 ∨ 48 ≤ n ∧ n ≤ 57 ∨ n = 95 ∨ n = 45 ∨ n = 46 ∨ n = 58)

theorem nb_last (n : Int) (h : ¬ (65 ≤ n ∧ n ≤ 90) ∧ ¬ (97 ≤ n ∧ n ≤ 122) ∧ ¬ (48 ≤ n ∧ n ≤ 57)) : nb n = (n == 95 || n == 45 || n == 46 || n == 58) := by
  rw [Bool.eq_iff_iff]
  simp only [nb, decide_eq_true_eq, Bool.or_eq_true, beq_iff_eq]
  omega

set_option maxHeartbeats 400000 in
theorem nb_any (n : Int) (w : World) :
    Calls Trym.prog 8 #[.int .u8 n] w fun e w' => e = .returned (.bool (nb n)) ∧ w = w' := by
  go_enter Trym.func8, Trym.ntmps8
  go_wp2
  all_goals
    go_ret
    refine ⟨?_, rfl⟩
    first
      | (rw [show nb n = true from decide_eq_true (by omega)]; rfl)
      | (rw [nb_last n (by omega)]; rfl)
      | rfl

/-- The bytes that the program lists. -/
def nameSet : List UInt8 := [65, 66, 67, 68, 69, 70, 71, 72, 73, 74, 75, 76, 77, 78, 79, 80, 81, 82, 83, 84, 85, 86, 87, 88, 89, 90, 97, 98, 99, 100, 101, 102, 103, 104, 105, 106, 107, 108, 109, 110, 111, 112, 113, 114, 115, 116, 117, 118, 119, 120, 121, 122, 48, 49, 50, 51, 52, 53, 54, 55, 56, 57, 95, 45, 46, 58]

theorem nb_table : ∀ a : Fin 256, nb ((a.val : Nat) : Int) = nameSet.contains (a.val.toUInt8) := by decide +kernel

theorem nb_set (c : UInt8) : nb (c.toNat : Int) = nameSet.contains c := by
  have h := nb_table ⟨c.toNat, c.toNat_lt⟩
  rw [show nb (c.toNat : Int) = nb (((⟨c.toNat, c.toNat_lt⟩ : Fin 256).val : Nat) : Int) from rfl, h]
  congr 1
  simp

/-- What validName answers. -/
def vn (l : List UInt8) : Bool := !l.isEmpty && l.all fun c => nameSet.contains c

theorem only_name (s t : ByteArray) (w : World) (hs : s.size ≤ 1048576) (ht : t.data.toList = nameSet) (r : Bool) (hr : vn s.data.toList = r) (hv : vn s.data.toList = s.data.toList.all fun c => nameSet.contains c) :
    Calls Trym.prog 9 #[.string s, .string t] w fun e w' => e = .returned (.bool r) ∧ w = w' :=
  (only_any s t w hs).mono fun _ _ ⟨he, hw⟩ => ⟨by rw [he, ← hr, hv, ht], hw⟩

set_option maxRecDepth 100000 in
set_option maxHeartbeats 400000 in
theorem validName_any (s : ByteArray) (w : World) (hs : s.size ≤ 1048576) :
    Calls Trym.prog 7 #[.string s] w fun e w' => e = .returned (.bool (vn s.data.toList)) ∧ w = w' := by
  cases he : s.toList.isEmpty
  · have hv : Hid (vn s.data.toList = s.data.toList.all fun c => nameSet.contains c) := by
      show _ = _
      unfold vn; rw [← Lib.toList_data, he]; rfl
    generalize hr : vn s.data.toList = r
    have HR : Hid (vn s.data.toList = r) := hr
    clear hr
    go_enter Trym.func7, Trym.ntmps7
    go_wp2_with fail
    refine (only_name s _ _ hs rfl r HR.out hv.out).mono ?_
    rintro e w' ⟨rfl, rfl⟩
    go_wp2_with fail
    go_ret
    exact ⟨rfl, rfl⟩
  · have hv : Hid (vn s.data.toList = false) := by
      show _ = _
      unfold vn; rw [← Lib.toList_data, he]; rfl
    go_enter Trym.func7, Trym.ntmps7
    go_wp2_with fail
    go_ret
    exact ⟨by rw [hv.out]; rfl, rfl⟩

set_option maxHeartbeats 400000 in
theorem ZZvalidName_any (s : ByteArray) (w : World) (hs : s.size ≤ 1048576) :
    Calls Trym.prog 5 #[.string s] w fun e w' => e = .returned (.bool (vn s.data.toList)) ∧ w = w' := by
  go_enter Trym.func5, Trym.ntmps5
  go_wp2_with fail
  refine (validName_any _ _ hs).mono ?_
  rintro e w' ⟨rfl, rfl⟩
  go_wp2_with fail
  go_ret
  exact ⟨rfl, rfl⟩

theorem nb_at (c : UInt8) (w : World) :
    Calls Trym.prog 8 #[.int .u8 (c.toNat : Int)] w fun e w' => e = .returned (.bool (nameSet.contains c)) ∧ w = w' := by
  rw [← nb_set]; exact nb_any _ w

set_option maxHeartbeats 400000 in
theorem nameModel_any (s : ByteArray) (w : World) (hs : s.size ≤ 1048576) :
    Calls Trym.prog 6 #[.string s] w fun e w' => e = .returned (.bool (vn s.data.toList)) ∧ w = w' := by
  cases he : s.toList.isEmpty
  rotate_left
  · have hv : Hid (vn s.data.toList = false) := by
      show _ = _
      unfold vn; rw [← Lib.toList_data, he]; rfl
    go_enter Trym.func6, Trym.ntmps6
    go_wp2_with fail
    go_ret
    exact ⟨by rw [hv.out]; rfl, rfl⟩
  have hv : Hid (vn s.data.toList = s.data.toList.all fun c => nameSet.contains c) := by
    show _ = _
    unfold vn; rw [← Lib.toList_data, he]; rfl
  generalize hr : vn s.data.toList = r at hv
  have HR : Hid (vn s.data.toList = r) := hr
  clear hr
  go_enter Trym.func6, Trym.ntmps6
  go_wp2_with fail
  go_loop [2, 3] (fun z i => ∃ k : Nat, z = .bool false ∧ k ≤ s.size ∧ i = .int .i64 k ∧ Hid (∀ j (h : j < s.size), j < k → nameSet.contains s[j] = true)) (fun _ i => s.size - (intOf i).toNat)
  case atStart => exact ⟨0, rfl, Nat.zero_le _, rfl, fun j _ hj => absurd hj (by omega)⟩
  case round =>
    obtain ⟨k, rfl, hk, rfl, hall⟩ := hrel
    by_cases hlt : k < s.size
    · cases hc : nameSet.contains s[k] with
      | true =>
        have HC : Hid (nameSet.contains s[k] = true) := hc
        clear hc
        go_wp2_with fail
        refine (nb_at _ _).mono ?_
        rintro e w' ⟨rfl, rfl⟩
        rw [HC.out]
        go_wp2_with fail
        go_round
        case rel => exact ⟨k + 1, rfl, by omega, by go_num, fun j hj hjk => by
          by_cases e : j = k
          · subst e; exact HC.out
          · exact hall.out j hj (by omega)⟩
        case measure => simp [intOf]; omega
      | false =>
        have HC : Hid (nameSet.contains s[k] = false) := hc
        clear hc
        go_wp2_with fail
        refine (nb_at _ _).mono ?_
        rintro e w' ⟨rfl, rfl⟩
        rw [HC.out]
        go_wp2_with fail
        go_ret
        exact ⟨by rw [hv.out, all_no hlt HC.out]; rfl, rfl⟩
    · go_wp2_with fail
      go_ret
      exact ⟨by rw [hv.out, all_yes fun j hj => hall.out j hj (by omega)]; rfl, rfl⟩

/-- The law: a joint is a name just where each part that is not empty is one, and one of them is not empty. -/
theorem vn_append (a b : List UInt8) : vn (a ++ b) = (!(a ++ b).isEmpty && (a.isEmpty || vn a) && (b.isEmpty || vn b)) := by
  unfold vn
  rw [List.all_append]
  cases a <;> cases b <;> simp

end Go.Proofs.Qxb6615768aMods.Name
