import Derived.Test.Qxb6617232aModsRows
import Derived.WalkKit
import Derived.ProofKit
import Derived.OpenShut
import Derived.ShutString
import Derived.Test.Qxb6617232aModsClean
namespace Go.Proofs.Qxb6617232aMods.fnIsHeaderTextIsNatsFixedPoint
open Go.ChangeShapes Go.WideShapes Go.ChangeAt Go.RowKit
open Go.ChangeMaps (open_string shut_string)
set_option linter.unusedVariables false      -- a walk need not use every 'w<i>' (that an integer argument fits its kind)

theorem own : ownKnob Trym.prog.godebug = none := by kernel_rfl

/-! ### STEP 1: THE WALK -/
theorem idx_some (s : ByteArray) (c : Int) (w : World) :
    Calls Trym.prog 13 #[.string s, .int .u8 c] w fun e w' => ∃ k : Int, e = .returned (.int .i64 k) ∧ w = w' :=
  (Trym.strings_IndexByte s c w).mono fun _ _ ⟨he, hw⟩ => ⟨_, he, hw.symm⟩

/-- What isToken tells of a text to which it says yes. -/
def Tok (s : ByteArray) (w : World) (e : Ending) (w' : World) : Prop :=
  ∃ r : Bool, Hid (r = true → ∀ c ∈ s.data.toList, 32 < c.toNat) ∧ e = .returned (.bool r) ∧ w' = w

theorem tok_no (s : ByteArray) (w : World) : Tok s w (.returned (.bool false)) w := ⟨false, fun h => absurd h (by decide), rfl, rfl⟩

set_option maxHeartbeats 400000 in
theorem isToken_any (s : ByteArray) (w : World) (hs : s.size ≤ 1048576) :
    Calls Trym.prog 12 #[.string s] w (Tok s w) := by
  cases hem : s.toList.isEmpty
  rotate_left
  · go_enter Trym.func12, Trym.ntmps12
    go_wp2_with fail
    go_ret
    exact tok_no s w
  go_enter Trym.func12, Trym.ntmps12
  go_wp2_with fail
  go_loop [2, 3] (fun r i => ∃ k : Nat, r = .bool false ∧ k ≤ s.size ∧ i = .int .i64 k ∧ Hid (∀ j (h : j < s.size), j < k → 32 < s[j].toNat)) (fun _ i => s.size - (intOf i).toNat)
  case atStart => exact ⟨0, rfl, Nat.zero_le _, rfl, fun j _ hj => absurd hj (by omega)⟩
  case round =>
    obtain ⟨k, rfl, hk, rfl, hall⟩ := hrel
    by_cases hlt : k < s.size
    · go_wp2_with fail
      · refine (idx_some _ _ _).mono ?_
        rintro e w' ⟨x, rfl, rfl⟩
        by_cases hx : 0 ≤ x
        · go_wp2_with fail
          go_ret
          exact tok_no s _
        · go_wp2_with fail
          go_round
          case rel => exact ⟨k + 1, rfl, by omega, by go_num, fun j hj hjk => by
            by_cases e : j = k
            · subst e; omega
            · exact hall.out j hj (by omega)⟩
          case measure => simp [intOf]; omega
      · go_ret
        exact tok_no s _
      · go_ret
        exact tok_no s _
    · go_wp2_with fail
      go_ret
      exact ⟨true, fun _ c hc => by
        obtain ⟨j, hj, rfl⟩ := List.getElem_of_mem hc
        have hj' : j < s.size := by simpa using hj
        exact hall.out j hj' (by omega), rfl, rfl⟩

set_option maxHeartbeats 400000 in
theorem ZZIsToken_any (s : ByteArray) (w : World) (hs : s.size ≤ 1048576) :
    Calls Trym.prog 8 #[.string s] w (Tok s w) := by
  go_enter Trym.func8, Trym.ntmps8
  go_wp2_with fail
  refine (isToken_any _ _ hs).mono ?_
  rintro e w' ⟨r, hr, rfl, rfl⟩
  go_wp2_with fail
  go_ret
  exact ⟨r, hr, rfl, rfl⟩

set_option maxHeartbeats 400000 in
theorem bytes5_no (s : ByteArray) (w : World) (hs : s.size ≤ maxLen) (h : 1048576 < s.size) :
    Calls Trym.prog 5 #[.string s] w fun e w' => e = .returned (.bool false) ∧ w' = w := by
  unfold maxLen at hs
  go_enter Trym.func5, Trym.ntmps5
  go_wp2_with fail
  go_ret
  exact ⟨rfl, rfl⟩

set_option maxHeartbeats 400000 in
theorem bytes5_yes (s : ByteArray) (w : World) (h : s.size ≤ 1048576) :
    Calls Trym.prog 5 #[.string s] w fun e w' => e = .returned (.bool true) ∧ w' = w := by
  go_enter Trym.func5, Trym.ntmps5
  go_wp2_with fail
  go_ret
  exact ⟨rfl, rfl⟩

/-- zzNatsClean, told by what the law asks of its answer. -/
theorem clean_at (s : ByteArray) (w : World) (hs : s.size ≤ 1048576) :
    Calls Trym.prog 6 #[.string s] w fun e w' => ∃ r : ByteArray, r.size ≤ maxLen ∧ Hid ((r.toList == s.toList) = Plain.hdr s.data.toList) ∧ Hid (Plain.hdr r.data.toList = true) ∧ e = .returned (.string r) ∧ Hid (Grown w w') :=
  (Clean.clean_any s w hs).mono fun _ _ ⟨lo, hi, ht, he, hg⟩ => ⟨⟨(Plain.cut (Clean.mm s) lo hi).toArray⟩, by
    have h1 := Plain.cut_length ht
    have h2 := ht.top
    rw [Clean.mm_length] at h2
    show (Plain.cut (Clean.mm s) lo hi).toArray.size ≤ maxLen
    rw [List.size_toArray, h1]; unfold maxLen; omega, by
    show _ = _
    rw [Go.Lib.toList_data, Go.Lib.toList_data, Plain.fixed_iff s.data.toList lo hi ht]; rfl, Plain.clean_hdr s.data.toList lo hi ht, he, hg⟩

set_option maxHeartbeats 400000 in
theorem walk (a0 : ByteArray) (w0 : a0.size ≤ maxLen) (w : World) :
    Calls Trym.prog 3 #[.string a0] w fun e w' => e = .returned (.bool true) ∧ Grown w w' := by
  by_cases hs : a0.size ≤ 1048576
  rotate_left
  · go_enter Trym.func3, Trym.ntmps3
    go_wp2_with fail
    refine (bytes5_no _ _ w0 (by omega)).mono ?_
    rintro e w' ⟨rfl, rfl⟩
    go_wp2_with fail
    go_ret
    exact ⟨rfl, Grown.refl _⟩
  go_enter Trym.func3, Trym.ntmps3
  go_wp2_with fail
  refine (bytes5_yes _ _ hs).mono ?_
  rintro e w' ⟨rfl, rfl⟩
  go_wp2_with fail
  refine (clean_at _ _ hs).mono ?_
  rintro e w1 ⟨r, hrs, H1, H2, rfl, hg⟩
  go_wp2_with fail
  generalize hh : Plain.hdr a0.data.toList = ok
  refine (Hdr.ZZIsHeaderText_any a0 _ w0).mono ?_
  rintro e w2 ⟨rfl, rfl⟩
  rw [hh]
  have HH : Hid (Plain.hdr a0.data.toList = ok) := hh
  clear hh
  have h1 : (r.toList == a0.toList) = ok := H1.out.trans HH.out
  go_wp2_with fail
  refine (Hdr.ZZIsHeaderText_any r _ hrs).mono ?_
  rintro e w3 ⟨rfl, rfl⟩
  rw [H2.out]
  go_wp2_with fail
  refine (ZZIsToken_any _ _ hs).mono ?_
  rintro e w4 ⟨tk, hk, rfl, rfl⟩
  cases tk
  · go_wp2_with fail
    go_ret
    exact ⟨rfl, hg.out⟩
  · have hok : ok = true := by rw [← HH.out]; exact Plain.token_hdr _ (hk.out rfl)
    go_wp2_with fail
    go_ret
    exact ⟨rfl, hg.out⟩

/-! ### THE ROW's STEP: WRITTEN OUT: LEAVE IT -/
set_option maxRecDepth 100000 in
theorem lifted (os : Os) (started : os.Started) (H : Type) (enc : TypeId × Value → H) :
    ReturnsInHanded {} Trym.checked os 3 .any (Rows.fnIsHeaderTextIsNatsFixedPointSpec.pre6 enc Trym.prog Trym.f3 Rows.fnIsHeaderTextIsNatsFixedPointRow.domain false) (Rows.fnIsHeaderTextIsNatsFixedPointSpec.post enc Trym.prog Trym.f3 false true false false) := by
  refine returnsInHanded_of_change (C := Trym.checked) own started (by kernel_rfl) Trym.func3
    (ChangeSpec.witness6 (enc := enc) (C := Trym.checked) false ⟨#[], #[.string ByteArray.empty], []⟩ 8 (by kernel_rfl) (by kernel_rfl) (by kernel_rfl) (by kernel_rfl)) ?_
  intro W base args ds gs before hval0 hW hcnd _
  have hval : ∀ (j : Nat) t v, Trym.f3.params[j]? = some t → args[j]? = some v → Value.okWide Trym.prog W .any base t v := hval0
  have hW' := hW
  obtain ⟨p, q, hA0, hV, rfl, hfz, hnd⟩ := hW
  have hA : DataW.TrodAll enc Trym.prog W 0 (fun _ => true) true Trym.f3.params.toList args.toList ds p := hA0
  rw [Trym.params3] at hA hval
  obtain ⟨v0, vs0, d0, ds0, p0, q0, hargs, rfl, rfl, h0, r0⟩ := trodAll_cons hA
  obtain ⟨rfl, rfl, rfl⟩ := trodAll_nil r0
  obtain rfl : args = #[v0] := by cases args; simp_all
  obtain ⟨rfl, rfl⟩ := trodVars_none hV
  obtain ⟨a0, rfl, rfl, rfl, w0⟩ := open_string Trym.underlying9 (hval 0 9 v0 rfl rfl) h0
  clear hA0 hval0
  simp only [List.append_nil] at hW'
  refine (walk a0 w0 W).mono fun e W' ⟨he, hg⟩ => ?_
  subst he
  exact ⟨_, rfl, post_of_same (pa := []) (pv := []) hW' (fun _ _ _ => (trodAll_cons_mk (shut_bool Trym.underlying4 _) trodAll_mk0)) (fun sp _ => (trodAll_cons_mk (shut_string Trym.underlying9 w0) trodAll_mk0)) (fun _ _ => rfl) rfl
    (hg.frame _) hg.2.1 (ok_one (by kernel_rfl) rfl (okWide_bool_mk Trym.underlying4 _))⟩

theorem over : Rows.fnIsHeaderTextIsNatsFixedPointRow.holds Trym.pinned (OpenSpec.ofChange Rows.fnIsHeaderTextIsNatsFixedPointSpec) :=
  OpenClaim.holds_of_wide 3 Trym.f3 rfl rfl rfl rfl rfl rfl rfl ⟨rfl, rfl, rfl, rfl, rfl⟩ rfl rfl rfl rfl rfl (by kernel_rfl) Trym.func3 (by kernel_rfl)
    (of_decide_eq_true (by kernel_rfl)) (by unfold Func.isWrapper; first | (rw [if_pos (by decide +kernel)]; kernel_rfl) | (rw [if_neg (by decide +kernel)]; exact ⟨rfl, rfl⟩))
    (fun os started H enc _ => lifted os started H enc)

/-- ████ THE STATEMENT ████ -/
theorem proved : Rows.FnIsHeaderTextIsNatsFixedPointSaid :=
  over
end Go.Proofs.Qxb6617232aMods.fnIsHeaderTextIsNatsFixedPoint
