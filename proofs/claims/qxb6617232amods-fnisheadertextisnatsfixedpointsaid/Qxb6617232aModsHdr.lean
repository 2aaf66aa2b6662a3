import Derived.Test.Qxb6617232aModsRows
import Derived.Test.Qxb6617232aModsShelf
import Derived.Test.Qxb6617232aModsPlain
import Derived.WalkKit
import Derived.WalkSpells
import Derived.WalkLawsBesides
namespace Go.Proofs.Qxb6617232aMods.Hdr
open Go.RowKit
open Go.Proofs.Qxb6617232aMods.Plain (idx_mem idx_not)

theorem idx_yes (s : ByteArray) (c : Int) (w : World) (h : c.toNat.toUInt8 ∈ s.data.toList) :
    Calls Trym.prog 13 #[.string s, .int .u8 c] w fun e w' => ∃ k : Int, 0 ≤ k ∧ e = .returned (.int .i64 k) ∧ w' = w :=
  (Trym.strings_IndexByte s c w).mono fun _ _ ⟨he, hw⟩ => ⟨_, idx_mem _ _ h, he, hw⟩

theorem idx_no (s : ByteArray) (c : Int) (w : World) (h : ¬ c.toNat.toUInt8 ∈ s.data.toList) :
    Calls Trym.prog 13 #[.string s, .int .u8 c] w fun e w' => e = .returned (.int .i64 (-1)) ∧ w' = w :=
  (Trym.strings_IndexByte s c w).mono fun _ _ ⟨he, hw⟩ => ⟨by rw [he, idx_not _ _ h], hw⟩

set_option maxHeartbeats 400000 in
theorem isHeaderText_cr (s : ByteArray) (w : World) (h : (13 : UInt8) ∈ s.data.toList) :
    Calls Trym.prog 11 #[.string s] w fun e w' => e = .returned (.bool false) ∧ w' = w := by
  go_enter Trym.func11, Trym.ntmps11
  go_wp2_with fail
  refine (idx_yes _ _ _ h).mono ?_
  rintro e w' ⟨k, hk, rfl, rfl⟩
  go_wp2_with fail
  go_ret
  exact ⟨rfl, rfl⟩

set_option maxHeartbeats 400000 in
theorem isHeaderText_lf (s : ByteArray) (w : World) (h1 : ¬ (13 : UInt8) ∈ s.data.toList) (h : (10 : UInt8) ∈ s.data.toList) :
    Calls Trym.prog 11 #[.string s] w fun e w' => e = .returned (.bool false) ∧ w' = w := by
  go_enter Trym.func11, Trym.ntmps11
  go_wp2_with fail
  refine (idx_no _ _ _ h1).mono ?_
  rintro e w' ⟨rfl, rfl⟩
  go_wp2_with fail
  refine (idx_yes _ _ _ h).mono ?_
  rintro e w' ⟨k, hk, rfl, rfl⟩
  go_wp2_with fail
  go_ret
  exact ⟨rfl, rfl⟩

theorem byte_back (b : UInt8) : ((b.toNat : Int)).toNat.toUInt8 = b := by simp

theorem blank_yes (b : UInt8) (w : World) (h : Plain.blank b = true) :
    Calls Trym.prog 13 #[.string ⟨#[32, 9]⟩, .int .u8 (b.toNat : Int)] w fun e w' => ∃ k : Int, 0 ≤ k ∧ e = .returned (.int .i64 k) ∧ w' = w :=
  idx_yes _ _ _ (by rw [byte_back]; exact (Plain.blank_mem b).2 h)

theorem blank_no (b : UInt8) (w : World) (h : Plain.blank b = false) :
    Calls Trym.prog 13 #[.string ⟨#[32, 9]⟩, .int .u8 (b.toNat : Int)] w fun e w' => e = .returned (.int .i64 (-1)) ∧ w' = w :=
  idx_no _ _ _ (by rw [byte_back]; intro hm; rw [(Plain.blank_mem b).1 hm] at h; cases h)

set_option maxHeartbeats 400000 in
theorem isHeaderText_nil (s : ByteArray) (w : World) (h1 : ¬ (13 : UInt8) ∈ s.data.toList) (h2 : ¬ (10 : UInt8) ∈ s.data.toList) (h0 : s.toList = []) :
    Calls Trym.prog 11 #[.string s] w fun e w' => e = .returned (.bool true) ∧ w' = w := by
  go_enter Trym.func11, Trym.ntmps11
  go_wp2_with fail
  refine (idx_no _ _ _ h1).mono ?_
  rintro e w' ⟨rfl, rfl⟩
  go_wp2_with fail
  refine (idx_no _ _ _ h2).mono ?_
  rintro e w' ⟨rfl, rfl⟩
  go_wp2_with fail
  go_ret
  exact ⟨rfl, rfl⟩

set_option maxHeartbeats 400000 in
theorem isHeaderText_head (s : ByteArray) (w : World) (h1 : ¬ (13 : UInt8) ∈ s.data.toList) (h2 : ¬ (10 : UInt8) ∈ s.data.toList) (h0 : s.toList.isEmpty = false) (hz : 0 < s.size) (hb : Plain.blank s[0] = true) :
    Calls Trym.prog 11 #[.string s] w fun e w' => e = .returned (.bool false) ∧ w' = w := by
  go_enter Trym.func11, Trym.ntmps11
  go_wp2_with fail
  refine (idx_no _ _ _ h1).mono ?_
  rintro e w' ⟨rfl, rfl⟩
  go_wp2_with fail
  refine (idx_no _ _ _ h2).mono ?_
  rintro e w' ⟨rfl, rfl⟩
  go_wp2_with fail
  refine (blank_yes _ _ hb).mono ?_
  rintro e w' ⟨k, hk, rfl, rfl⟩
  go_wp2_with fail
  go_ret
  exact ⟨rfl, rfl⟩

set_option maxHeartbeats 400000 in
theorem isHeaderText_last (s : ByteArray) (w : World) (hs : s.size ≤ maxLen) (h1 : ¬ (13 : UInt8) ∈ s.data.toList) (h2 : ¬ (10 : UInt8) ∈ s.data.toList) (h0 : s.toList.isEmpty = false) (hz : 0 < s.size) (hb : Plain.blank s[0] = false) :
    Calls Trym.prog 11 #[.string s] w fun e w' => e = .returned (.bool (!Plain.blank s[s.size - 1])) ∧ w' = w := by
  unfold maxLen at hs
  cases hl : Plain.blank s[s.size - 1]
  all_goals
    have Hl : Hid (_ = _) := hl
    clear hl
    go_enter Trym.func11, Trym.ntmps11
    go_wp2_with fail
    refine (idx_no _ _ _ h1).mono ?_
    rintro e w' ⟨rfl, rfl⟩
    go_wp2_with fail
    refine (idx_no _ _ _ h2).mono ?_
    rintro e w' ⟨rfl, rfl⟩
    go_wp2_with fail
    refine (blank_no _ _ hb).mono ?_
    rintro e w' ⟨rfl, rfl⟩
    go_wp2_with fail
  · refine (blank_no _ _ (Hl.out)).mono ?_
    rintro e w' ⟨rfl, rfl⟩
    go_wp2_with fail
    go_ret
    exact ⟨rfl, rfl⟩
  · refine (blank_yes _ _ (Hl.out)).mono ?_
    rintro e w' ⟨k, hk, rfl, rfl⟩
    have hkf : decide (k < 0) = false := by simpa using hk
    go_wp2_with fail
    go_ret
    exact ⟨rfl, rfl⟩

/-- natsjs.isHeaderText, at every string. -/
theorem isHeaderText_any (s : ByteArray) (w : World) (hs : s.size ≤ maxLen) :
    Calls Trym.prog 11 #[.string s] w fun e w' => e = .returned (.bool (Plain.hdr s.data.toList)) ∧ w' = w := by
  by_cases h1 : (13 : UInt8) ∈ s.data.toList
  · rw [Plain.hdr_cr h1]; exact isHeaderText_cr s w h1
  by_cases h2 : (10 : UInt8) ∈ s.data.toList
  · rw [Plain.hdr_lf h2]; exact isHeaderText_lf s w h1 h2
  by_cases h0 : s.size = 0
  · have hl : s.data.toList = [] := List.eq_nil_of_length_eq_zero (by simpa using h0)
    rw [hl, Plain.hdr_nil]
    exact isHeaderText_nil s w h1 h2 (by rw [Go.Lib.toList_data]; exact hl)
  · have hz : 0 < s.size := by omega
    have hlen : s.data.toList.length = s.size := by simp
    have hne : s.data.toList ≠ [] := fun e => by rw [e] at hlen; simp at hlen; omega
    have hi : s.toList.isEmpty = false := by
      rw [Go.Lib.toList_data]; simpa using hne
    have ha : s.data.toList.head? = some s[0] := by
      rw [List.head?_eq_getElem?, List.getElem?_eq_getElem (by omega)]; rfl
    have hb : s.data.toList.getLast? = some s[s.size - 1] := by
      rw [List.getLast?_eq_getElem?, hlen, List.getElem?_eq_getElem (by omega)]; rfl
    rw [Plain.hdr_rest h1 h2 ha hb]
    cases hh : Plain.blank s[0]
    · exact isHeaderText_last s w hs h1 h2 hi hz hh
    · exact isHeaderText_head s w h1 h2 hi hz hh

set_option maxHeartbeats 400000 in
theorem ZZIsHeaderText_any (s : ByteArray) (w : World) (hs : s.size ≤ maxLen) :
    Calls Trym.prog 7 #[.string s] w fun e w' => e = .returned (.bool (Plain.hdr s.data.toList)) ∧ w' = w := by
  go_enter Trym.func7, Trym.ntmps7
  go_wp2_with fail
  refine (isHeaderText_any _ _ hs).mono ?_
  rintro e w' ⟨rfl, rfl⟩
  go_wp2_with fail
  go_ret
  exact ⟨rfl, rfl⟩

end Go.Proofs.Qxb6617232aMods.Hdr
