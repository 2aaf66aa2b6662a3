import Derived.Test.Qxb6615768aModsRows
import Derived.WalkKit
import Derived.ProofKit
import Derived.OpenShut
import Derived.ShutString
import Derived.Test.Qxb6615768aModsName
namespace Go.Proofs.Qxb6615768aMods.fnValidNameJoin
open Go.ChangeShapes Go.WideShapes Go.ChangeAt Go.RowKit
open Go.ChangeMaps (open_string shut_string)
set_option linter.unusedVariables false      -- a walk need not use every 'w<i>' (that an integer argument fits its kind)

theorem own : ownKnob Trym.prog.godebug = none := by kernel_rfl

/-! ### STEP 1: THE WALK -/
set_option maxHeartbeats 400000 in
theorem bytes_any (a b : ByteArray) (w : World) (ha : a.size ≤ maxLen) (hb : b.size ≤ maxLen) :
    Calls Trym.prog 4 #[.string a, .string b] w fun e w' => ∃ r : Bool, e = .returned (.bool r) ∧ w = w' := by
  unfold maxLen at ha hb
  go_enter Trym.func4, Trym.ntmps4
  go_wp2
  all_goals
    go_ret
    exact ⟨_, rfl, rfl⟩

theorem vn_at (s : ByteArray) (w : World) (hs : s.size ≤ 1048576) (r : Bool) (h : Name.vn s.data.toList = r) :
    Calls Trym.prog 5 #[.string s] w fun e w' => e = .returned (.bool r) ∧ w = w' :=
  (Name.ZZvalidName_any s w hs).mono fun _ _ ⟨he, hw⟩ => ⟨by rw [he, h], hw⟩

theorem model_at (s : ByteArray) (w : World) (hs : s.size ≤ 1048576) (r : Bool) (h : Name.vn s.data.toList = r) :
    Calls Trym.prog 6 #[.string s] w fun e w' => e = .returned (.bool r) ∧ w = w' :=
  (Name.nameModel_any s w hs).mono fun _ _ ⟨he, hw⟩ => ⟨by rw [he, h], hw⟩

theorem law (a b : ByteArray) (r ra rb ej ea eb : Bool) (h : Name.vn (a ++ b).data.toList = r) (ha : Name.vn a.data.toList = ra) (hb : Name.vn b.data.toList = rb)
    (hj : (a ++ b).toList.isEmpty = ej) (hea : a.toList.isEmpty = ea) (heb : b.toList.isEmpty = eb) : r = (!ej && (ea || ra) && (eb || rb)) := by
  rw [← h, ← ha, ← hb, ← hj, ← hea, ← heb]
  simp only [Lib.toList_data, ByteArray.data_append, Array.toList_append]
  exact Name.vn_append _ _

set_option maxRecDepth 100000 in
set_option maxHeartbeats 1000000 in
theorem walk (a0 : ByteArray) (a1 : ByteArray) (w0 : a0.size ≤ maxLen) (w1 : a1.size ≤ maxLen) (w : World) :
    Calls Trym.prog 3 #[.string a0, .string a1] w fun e w' => e = .returned (.bool true) ∧ Grown w w' := by
  generalize hej : (a0 ++ a1).toList.isEmpty = ej
  generalize hea : a0.toList.isEmpty = ea
  generalize heb : a1.toList.isEmpty = eb
  generalize hr : Name.vn (a0 ++ a1).data.toList = r
  generalize hra : Name.vn a0.data.toList = ra
  generalize hrb : Name.vn a1.data.toList = rb
  have HL := law a0 a1 r ra rb ej ea eb hr hra hrb hej hea heb
  have HR : Hid (Name.vn (a0 ++ a1).data.toList = r) := hr
  have HA : Hid (Name.vn a0.data.toList = ra) := hra
  have HB : Hid (Name.vn a1.data.toList = rb) := hrb
  clear hr hra hrb
  have HL' : Hid (r = (!ej && (ea || ra) && (eb || rb))) := HL
  clear HL
  go_enter Trym.func3, Trym.ntmps3
  go_wp2_with fail
  refine (bytes_any _ _ _ w0 w1).mono ?_
  rintro e w' ⟨bb, rfl, rfl⟩
  unfold maxLen at w0 w1
  go_wp2_with fail
  · go_ret; exact ⟨rfl, Grown.refl _⟩
  · go_ret; exact ⟨rfl, Grown.refl _⟩
  · go_ret; exact ⟨rfl, Grown.refl _⟩
  have hs0 : a0.size + a1.size ≤ 1048576 := by omega
  have hsj : (a0 ++ a1).size ≤ 1048576 := by rw [ByteArray.size_append]; exact hs0
  refine (vn_at _ _ hsj r HR.out).mono ?_
  rintro e w' ⟨rfl, rfl⟩
  go_wp2_with fail
  refine (model_at _ _ hsj r HR.out).mono ?_
  rintro e w' ⟨rfl, rfl⟩
  have hs1 : a0.size ≤ 1048576 := by omega
  have hs2 : a1.size ≤ 1048576 := by omega
  cases ej
  rotate_left
  · obtain rfl : r = false := by rw [HL'.out]; rfl
    go_wp2_with fail
    go_ret; exact ⟨rfl, Grown.refl _⟩
  cases ea
  · cases ra
    · obtain rfl : r = false := by rw [HL'.out]; rfl
      go_wp2_with fail
      refine (vn_at _ _ hs1 false HA.out).mono ?_
      rintro e w' ⟨rfl, rfl⟩
      go_wp2_with fail
      go_ret; exact ⟨rfl, Grown.refl _⟩
    · cases eb
      · obtain rfl : r = rb := by rw [HL'.out]; simp
        go_wp2_with fail
        refine (vn_at _ _ hs1 true HA.out).mono ?_
        rintro e w' ⟨rfl, rfl⟩
        go_wp2_with fail
        refine (vn_at _ _ hs2 r HB.out).mono ?_
        rintro e w' ⟨rfl, rfl⟩
        cases r
        · go_wp2_with fail
          go_ret; exact ⟨rfl, Grown.refl _⟩
        · go_wp2_with fail
          go_ret; exact ⟨rfl, Grown.refl _⟩
      · obtain rfl : r = true := by rw [HL'.out]; rfl
        go_wp2_with fail
        refine (vn_at _ _ hs1 true HA.out).mono ?_
        rintro e w' ⟨rfl, rfl⟩
        go_wp2_with fail
        go_ret; exact ⟨rfl, Grown.refl _⟩
  · cases eb
    · obtain rfl : r = rb := by rw [HL'.out]; simp
      go_wp2_with fail
      refine (vn_at _ _ hs2 r HB.out).mono ?_
      rintro e w' ⟨rfl, rfl⟩
      cases r
      · go_wp2_with fail
        go_ret; exact ⟨rfl, Grown.refl _⟩
      · go_wp2_with fail
        go_ret; exact ⟨rfl, Grown.refl _⟩
    · obtain rfl : r = true := by rw [HL'.out]; rfl
      go_wp2_with fail
      go_ret; exact ⟨rfl, Grown.refl _⟩

/-! ### THE ROW's STEP: WRITTEN OUT: LEAVE IT -/
set_option maxRecDepth 100000 in
theorem lifted (os : Os) (started : os.Started) (H : Type) (enc : TypeId × Value → H) :
    ReturnsInHanded {} Trym.checked os 3 .any (Rows.fnValidNameJoinSpec.pre6 enc Trym.prog Trym.f3 Rows.fnValidNameJoinRow.domain false) (Rows.fnValidNameJoinSpec.post enc Trym.prog Trym.f3 false true false false) := by
  refine returnsInHanded_of_change (C := Trym.checked) own started (by kernel_rfl) Trym.func3
    (ChangeSpec.witness6 (enc := enc) (C := Trym.checked) false ⟨#[], #[.string ByteArray.empty, .string ByteArray.empty], []⟩ 8 (by kernel_rfl) (by kernel_rfl) (by kernel_rfl) (by kernel_rfl)) ?_
  intro W base args ds gs before hval0 hW hcnd _
  have hval : ∀ (j : Nat) t v, Trym.f3.params[j]? = some t → args[j]? = some v → Value.okWide Trym.prog W .any base t v := hval0
  have hW' := hW
  obtain ⟨p, q, hA0, hV, rfl, hfz, hnd⟩ := hW
  have hA : DataW.TrodAll enc Trym.prog W 0 (fun _ => true) true Trym.f3.params.toList args.toList ds p := hA0
  rw [Trym.params3] at hA hval
  obtain ⟨v0, vs0, d0, ds0, p0, q0, hargs, rfl, rfl, h0, r0⟩ := trodAll_cons hA
  obtain ⟨v1, vs1, d1, ds1, p1, q1, rfl, rfl, rfl, h1, r1⟩ := trodAll_cons r0
  obtain ⟨rfl, rfl, rfl⟩ := trodAll_nil r1
  obtain rfl : args = #[v0, v1] := by cases args; simp_all
  obtain ⟨rfl, rfl⟩ := trodVars_none hV
  obtain ⟨a0, rfl, rfl, rfl, w0⟩ := open_string Trym.underlying9 (hval 0 9 v0 rfl rfl) h0
  obtain ⟨a1, rfl, rfl, rfl, w1⟩ := open_string Trym.underlying9 (hval 1 9 v1 rfl rfl) h1
  clear hA0 hval0
  simp only [List.append_nil] at hW'
  refine (walk a0 a1 w0 w1 W).mono fun e W' ⟨he, hg⟩ => ?_
  subst he
  exact ⟨_, rfl, post_of_same (pa := []) (pv := []) hW' (fun _ _ _ => (trodAll_cons_mk (shut_bool Trym.underlying4 _) trodAll_mk0)) (fun sp _ => (trodAll_cons_mk (shut_string Trym.underlying9 w0) (trodAll_cons_mk (shut_string Trym.underlying9 w1) trodAll_mk0))) (fun _ _ => rfl) rfl
    (hg.frame _) hg.2.1 (ok_one (by kernel_rfl) rfl (okWide_bool_mk Trym.underlying4 _))⟩

theorem over : Rows.fnValidNameJoinRow.holds Trym.pinned (OpenSpec.ofChange Rows.fnValidNameJoinSpec) :=
  OpenClaim.holds_of_wide 3 Trym.f3 rfl rfl rfl rfl rfl rfl rfl ⟨rfl, rfl, rfl, rfl, rfl⟩ rfl rfl rfl rfl rfl (by kernel_rfl) Trym.func3 (by kernel_rfl)
    (of_decide_eq_true (by kernel_rfl)) (by unfold Func.isWrapper; first | (rw [if_pos (by decide +kernel)]; kernel_rfl) | (rw [if_neg (by decide +kernel)]; exact ⟨rfl, rfl⟩))
    (fun os started H enc _ => lifted os started H enc)

/-- ████ THE STATEMENT ████ -/
theorem proved : Rows.FnValidNameJoinSaid :=
  over
end Go.Proofs.Qxb6615768aMods.fnValidNameJoin
