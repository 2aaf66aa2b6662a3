import Derived.Test.Qxb6606332aModsRows
import Derived.WalkKit
import Derived.ProofKit
import Derived.OpenShut
import Derived.ShutString
import Derived.ChangeOld
import Derived.Below
import Derived.Test.Qxb6606332aModsBack
import Derived.Test.Qxb6606332aModsQuote
namespace Go.Proofs.Qxb6606332aMods.fnHeadNameReadsBackEveryRendering
open Go.ChangeShapes Go.WideShapes Go.ChangeAt Go.RowKit
open Go.ChangeMaps (open_string shut_string)
set_option linter.unusedVariables false      -- a walk need not use every 'w<i>' (that an integer argument fits its kind)

theorem own : ownKnob Trym.prog.godebug = none := by kernel_rfl

/-! ### STEP 1: THE WALK -/
set_option maxHeartbeats 400000 in
theorem bytes_no (s : ByteArray) (b1 b2 b3 : Bool) (w : World) (hs : s.size ≤ maxLen) (h : 1048576 < s.size) :
    Calls Trym.prog 14 #[.string s, .bool b1, .bool b2, .bool b3] w fun e w' => e = .returned (.bool false) ∧ w = w' := by
  unfold maxLen at hs
  go_enter Trym.func14, Trym.ntmps14
  go_wp2_with fail
  go_ret
  exact ⟨rfl, rfl⟩

set_option maxHeartbeats 400000 in
theorem bytes_yes (s : ByteArray) (b1 b2 b3 : Bool) (w : World) (h : s.size ≤ 1048576) :
    Calls Trym.prog 14 #[.string s, .bool b1, .bool b2, .bool b3] w fun e w' => e = .returned (.bool true) ∧ w = w' := by
  go_enter Trym.func14, Trym.ntmps14
  go_wp2_with fail
  go_ret
  exact ⟨rfl, rfl⟩

theorem head_is (s p : ByteArray) (w : World) (hs : s.size ≤ 1048700) (h : Head.hn s.data.toList = p.data.toList) :
    Calls Trym.prog 12 #[.string s] w fun e w' => e = .returned (.string p) ∧ Hid (Below w.heap.size w w') :=
  (Head.headName_any s w hs).mono fun _ _ ⟨he, hb⟩ => ⟨by rw [he, h], hb⟩

theorem quote_at (s : ByteArray) (all : Bool) (w : World) (hs : s.size ≤ 65600) :
    Calls Trym.prog 9 #[.string s, .bool all] w fun e w' => ∃ q : ByteArray, Hid (q.data.toList = Plain.quote all s.data.toList) ∧ q.size ≤ 262500 ∧ e = .returned (.string q) ∧ Hid (Below w.heap.size w w') :=
  (Quote.quote_any s all w hs).mono fun _ _ ⟨he, hb⟩ => ⟨⟨(Plain.quote all s.data.toList).toArray⟩, rfl, by
    have h1 := Plain.quote_len all s.data.toList
    have h2 : s.data.toList.length = s.size := by simp
    show (Plain.quote all s.data.toList).toArray.size ≤ _
    rw [List.size_toArray]; omega, he, hb⟩

set_option maxRecDepth 100000 in
set_option maxHeartbeats 400000 in
theorem walk_long (a0 : ByteArray) (a1 : Bool) (a2 : Bool) (a3 : Bool) (w0 : a0.size ≤ maxLen) (w : World) (h : 1048576 < a0.size) :
    Calls Trym.prog 6 #[.string a0, .bool a1, .bool a2, .bool a3] w fun e w' => e = .returned (.bool true) ∧ Below w.heap.size w w' := by
  go_enter Trym.func6, Trym.ntmps6
  go_wp2_with fail
  refine (bytes_no _ _ _ _ _ w0 h).mono ?_
  rintro e w' ⟨rfl, rfl⟩
  go_wp2_with fail
  go_ret
  exact ⟨rfl, Below.refl _ _⟩

set_option maxRecDepth 100000 in
set_option maxHeartbeats 400000 in
theorem walk_mid (a0 : ByteArray) (a1 : Bool) (a2 : Bool) (a3 : Bool) (w : World) (h : a0.size ≤ 1048576) (h2 : 65536 < a0.size) :
    Calls Trym.prog 6 #[.string a0, .bool a1, .bool a2, .bool a3] w fun e w' => e = .returned (.bool true) ∧ Below w.heap.size w w' := by
  go_enter Trym.func6, Trym.ntmps6
  go_wp2_with fail
  refine (bytes_yes _ _ _ _ _ h).mono ?_
  rintro e w' ⟨rfl, rfl⟩
  go_wp2_with fail
  go_ret
  exact ⟨rfl, Below.refl _ _⟩

set_option maxRecDepth 100000 in
set_option maxHeartbeats 1000000 in
theorem walk_cc_quoted (a0 : ByteArray) (a3 : Bool) (w : World) (h : a0.size ≤ 65536) :
    Calls Trym.prog 6 #[.string a0, .bool true, .bool true, .bool a3] w fun e w' => e = .returned (.bool true) ∧ Below w.heap.size w w' := by
  go_enter Trym.func6, Trym.ntmps6
  go_wp2_with fail
  refine (bytes_yes _ _ _ _ _ (by omega)).mono ?_
  rintro e w' ⟨rfl, rfl⟩
  go_wp2_with fail
  refine (quote_at _ _ _ (by omega)).mono ?_
  rintro e w1 ⟨q, hq, hql, rfl, hb⟩
  go_wp2_with fail
  refine (head_is _ a0 _ (by rw [ByteArray.size_append]; show 10 + q.size ≤ _; omega) (by
    simp only [ByteArray.data_append, Array.toList_append]
    rw [hq.out]
    exact Head.back_cc_quoted a3 _)).mono ?_
  rintro e w2 ⟨rfl, hb2⟩
  go_wp2_with fail
  go_ret
  exact ⟨rfl, hb.out.trans (hb2.out.mono hb.out.size)⟩

set_option maxRecDepth 100000 in
set_option maxHeartbeats 1000000 in
theorem walk_cc_plain (a0 : ByteArray) (a3 : Bool) (w : World) (h : a0.size ≤ 65536) (hp : a0.data.toList.head? ≠ some 34) :
    Calls Trym.prog 6 #[.string a0, .bool true, .bool false, .bool a3] w fun e w' => e = .returned (.bool true) ∧ Below w.heap.size w w' := by
  have HP : Hid (a0.data.toList.head? ≠ some 34) := hp
  clear hp
  go_enter Trym.func6, Trym.ntmps6
  go_wp2_with fail
  refine (bytes_yes _ _ _ _ _ (by omega)).mono ?_
  rintro e w' ⟨rfl, rfl⟩
  go_wp2_with fail
  · go_ret
    exact ⟨rfl, Below.refl _ _⟩
  all_goals
    refine (head_is _ a0 _ (by rw [ByteArray.size_append]; show 10 + a0.size ≤ _; omega) (by
      simp only [ByteArray.data_append, Array.toList_append]
      exact Head.back_cc_plain _ HP.out)).mono ?_
    rintro e w2 ⟨rfl, hb2⟩
    go_wp2_with fail
    go_ret
    exact ⟨rfl, hb2.out⟩

set_option maxRecDepth 100000 in
set_option maxHeartbeats 1000000 in
theorem walk_cc_skip (a0 : ByteArray) (a3 : Bool) (w : World) (h : a0.size ≤ 65536) (hp : a0.data.toList.head? = some 34) :
    Calls Trym.prog 6 #[.string a0, .bool true, .bool false, .bool a3] w fun e w' => e = .returned (.bool true) ∧ Below w.heap.size w w' := by
  have hz : 0 < a0.size := by
    have : a0.data.toList.length = a0.size := by simp
    rw [← this]
    cases hl : a0.data.toList with
    | nil => rw [hl] at hp; cases hp
    | cons x t => simp
  have hq : a0[0] = 34 := by
    rw [List.head?_eq_getElem?, List.getElem?_eq_getElem (by simpa using hz)] at hp
    exact Option.some.inj hp
  have hb : ((a0[0].toNat : Int) == 34) = true := Unq.byte_eq _ 34 hq
  clear hq hp
  go_enter Trym.func6, Trym.ntmps6
  go_wp2_with fail
  refine (bytes_yes _ _ _ _ _ (by omega)).mono ?_
  rintro e w' ⟨rfl, rfl⟩
  go_wp2_with fail
  go_ret
  exact ⟨rfl, Below.refl _ _⟩

set_option maxRecDepth 100000 in
set_option maxHeartbeats 1000000 in
theorem walk_git_quoted (a0 : ByteArray) (a3 : Bool) (w : World) (h : a0.size ≤ 65536) :
    Calls Trym.prog 6 #[.string a0, .bool false, .bool true, .bool a3] w fun e w' => e = .returned (.bool true) ∧ Below w.heap.size w w' := by
  go_enter Trym.func6, Trym.ntmps6
  go_wp2_with fail
  refine (bytes_yes _ _ _ _ _ (by omega)).mono ?_
  rintro e w' ⟨rfl, rfl⟩
  go_wp2_with fail
  refine (quote_at _ _ _ (by rw [ByteArray.size_append]; show 2 + a0.size ≤ _; omega)).mono ?_
  rintro e w1 ⟨q, hq, hql, rfl, hb⟩
  go_wp2_with fail
  refine (quote_at _ _ _ (by rw [ByteArray.size_append]; show 2 + a0.size ≤ _; omega)).mono ?_
  rintro e w2 ⟨q2, hq2, hql2, rfl, hb2⟩
  go_wp2_with fail
  refine (head_is _ a0 _ (by rw [ByteArray.size_append, ByteArray.size_append, ByteArray.size_append]; show 11 + q.size + 1 + q2.size ≤ _; omega) (by
    simp only [ByteArray.data_append, Array.toList_append]
    rw [hq.out, hq2.out]
    simp only [ByteArray.data_append, Array.toList_append, List.append_assoc]
    exact Head.back_git_quoted a3 _)).mono ?_
  rintro e w3 ⟨rfl, hb3⟩
  go_wp2_with fail
  go_ret
  exact ⟨rfl, (hb.out.trans (hb2.out.mono hb.out.size)).trans (hb3.out.mono (Nat.le_trans hb.out.size hb2.out.size))⟩

set_option maxRecDepth 100000 in
set_option maxHeartbeats 1000000 in
theorem walk_git_plain (a0 : ByteArray) (a3 : Bool) (w : World) (h : a0.size ≤ 65536) :
    Calls Trym.prog 6 #[.string a0, .bool false, .bool false, .bool a3] w fun e w' => e = .returned (.bool true) ∧ Below w.heap.size w w' := by
  go_enter Trym.func6, Trym.ntmps6
  go_wp2_with fail
  refine (bytes_yes _ _ _ _ _ (by omega)).mono ?_
  rintro e w' ⟨rfl, rfl⟩
  go_wp2_with fail
  refine (head_is _ a0 _ (by rw [ByteArray.size_append, ByteArray.size_append, ByteArray.size_append]; show 13 + a0.size + 3 + a0.size ≤ _; omega) (by
    simp only [ByteArray.data_append, Array.toList_append, List.append_assoc]
    exact Head.back_git_plain _)).mono ?_
  rintro e w2 ⟨rfl, hb2⟩
  go_wp2_with fail
  go_ret
  exact ⟨rfl, hb2.out⟩

theorem walk (a0 : ByteArray) (a1 : Bool) (a2 : Bool) (a3 : Bool) (w0 : a0.size ≤ maxLen) (w : World) :
    Calls Trym.prog 6 #[.string a0, .bool a1, .bool a2, .bool a3] w fun e w' => e = .returned (.bool true) ∧ Below w.heap.size w w' := by
  by_cases h1 : 1048576 < a0.size
  · exact walk_long a0 a1 a2 a3 w0 w h1
  by_cases h2 : 65536 < a0.size
  · exact walk_mid a0 a1 a2 a3 w (by omega) h2
  cases a1 with
  | true =>
    cases a2 with
    | true => exact walk_cc_quoted a0 a3 w (by omega)
    | false =>
      by_cases hp : a0.data.toList.head? = some 34
      · exact walk_cc_skip a0 a3 w (by omega) hp
      · exact walk_cc_plain a0 a3 w (by omega) hp
  | false =>
    cases a2 with
    | true => exact walk_git_quoted a0 a3 w (by omega)
    | false => exact walk_git_plain a0 a3 w (by omega)

/-! ### THE ROW's STEP: WRITTEN OUT: LEAVE IT -/
set_option maxRecDepth 100000 in
theorem lifted (os : Os) (started : os.Started) (H : Type) (enc : TypeId × Value → H) :
    ReturnsInHanded {} Trym.checked os 6 .any (Rows.fnHeadNameReadsBackEveryRenderingSpec.pre6 enc Trym.prog Trym.f6 Rows.fnHeadNameReadsBackEveryRenderingRow.domain false) (Rows.fnHeadNameReadsBackEveryRenderingSpec.post enc Trym.prog Trym.f6 false true false false) := by
  refine returnsInHanded_of_change (C := Trym.checked) own started (by kernel_rfl) Trym.func6
    (ChangeSpec.witness6 (enc := enc) (C := Trym.checked) false ⟨#[], #[.string ByteArray.empty, .bool false, .bool false, .bool false], []⟩ 8 (by kernel_rfl) (by kernel_rfl) (by kernel_rfl) (by kernel_rfl)) ?_
  intro W base args ds gs before hval0 hW hcnd _
  have hval : ∀ (j : Nat) t v, Trym.f6.params[j]? = some t → args[j]? = some v → Value.okWide Trym.prog W .any base t v := hval0
  have hW' := hW
  obtain ⟨p, q, hA0, hV, rfl, hfz, hnd⟩ := hW
  have hA : DataW.TrodAll enc Trym.prog W 0 (fun _ => true) true Trym.f6.params.toList args.toList ds p := hA0
  rw [Trym.params6] at hA hval
  obtain ⟨v0, vs0, d0, ds0, p0, q0, hargs, rfl, rfl, h0, r0⟩ := trodAll_cons hA
  obtain ⟨v1, vs1, d1, ds1, p1, q1, rfl, rfl, rfl, h1, r1⟩ := trodAll_cons r0
  obtain ⟨v2, vs2, d2, ds2, p2, q2, rfl, rfl, rfl, h2, r2⟩ := trodAll_cons r1
  obtain ⟨v3, vs3, d3, ds3, p3, q3, rfl, rfl, rfl, h3, r3⟩ := trodAll_cons r2
  obtain ⟨rfl, rfl, rfl⟩ := trodAll_nil r3
  obtain rfl : args = #[v0, v1, v2, v3] := by cases args; simp_all
  obtain ⟨rfl, rfl⟩ := trodVars_none hV
  obtain ⟨a0, rfl, rfl, rfl, w0⟩ := open_string Trym.underlying9 (hval 0 9 v0 rfl rfl) h0
  obtain ⟨a1, rfl, rfl, rfl⟩ := open_bool Trym.underlying4 (hval 1 4 v1 rfl rfl) h1
  obtain ⟨a2, rfl, rfl, rfl⟩ := open_bool Trym.underlying4 (hval 2 4 v2 rfl rfl) h2
  obtain ⟨a3, rfl, rfl, rfl⟩ := open_bool Trym.underlying4 (hval 3 4 v3 rfl rfl) h3
  clear hA0 hval0
  simp only [List.append_nil] at hW'
  refine (walk a0 a1 a2 a3 w0 W).mono fun e W' ⟨he, hg⟩ => ?_
  subst he
  exact ⟨_, rfl, _, _, _, [], [], [], hW', trodAll_mk1 (shut_bool Trym.underlying4 _), (trodAll_cons_mk (shut_string Trym.underlying9 w0) (trodAll_cons_mk (shut_bool Trym.underlying4 _) (trodAll_cons_mk (shut_bool Trym.underlying4 _) (trodAll_cons_mk (shut_bool Trym.underlying4 _) trodAll_mk0)))), rfl, hg.frame _, fun h => by cases h⟩

theorem over : Rows.fnHeadNameReadsBackEveryRenderingRow.holds Trym.pinned (OpenSpec.ofChange Rows.fnHeadNameReadsBackEveryRenderingSpec) :=
  OpenClaim.holds_of_wide 6 Trym.f6 rfl rfl rfl rfl rfl rfl rfl ⟨rfl, rfl, rfl, rfl, rfl⟩ rfl rfl rfl rfl rfl (by kernel_rfl) Trym.func6 (by kernel_rfl)
    (of_decide_eq_true (by kernel_rfl)) (by unfold Func.isWrapper; first | (rw [if_pos (by decide +kernel)]; kernel_rfl) | (rw [if_neg (by decide +kernel)]; exact ⟨rfl, rfl⟩))
    (fun os started H enc _ => lifted os started H enc)

/-- ████ THE STATEMENT ████ -/
theorem proved : Rows.FnHeadNameReadsBackEveryRenderingSaid :=
  over
end Go.Proofs.Qxb6606332aMods.fnHeadNameReadsBackEveryRendering
