import Derived.Test.Qxb6616963aModsRows
import Derived.WalkKit
import Derived.ProofKit
import Derived.OpenShut
import Derived.ShutString
import Derived.Test.Qxb6616963aModsField
namespace Go.Proofs.Qxb6616963aMods.fnIsFieldNameOneByteAtAnyPlace
open Go.ChangeShapes Go.WideShapes Go.ChangeAt Go.RowKit
open Go.ChangeMaps (open_string shut_string)
set_option linter.unusedVariables false      -- a walk need not use every 'w<i>' (that an integer argument fits its kind)

theorem own : ownKnob Trym.prog.godebug = none := by kernel_rfl

/-! ### STEP 1: THE WALK -/
theorem byteArg {a : Int} (h : (Lit.int .u8 a).wf = true) : ∃ c : UInt8, a = (c.toNat : Int) := by
  have hb := bounds_u8 h
  exact ⟨a.toNat.toUInt8, by simp [Nat.mod_eq_of_lt (show a.toNat < 256 by omega)]; omega⟩

set_option maxHeartbeats 400000 in
theorem bytes_any (a : ByteArray) (c : Int) (b : ByteArray) (w : World) (ha : a.size ≤ maxLen) (hb : b.size ≤ maxLen) :
    Calls Trym.prog 5 #[.string a, .int .u8 c, .string b] w fun e w' => ∃ r : Bool, e = .returned (.bool r) ∧ w = w' := by
  unfold maxLen at ha hb
  go_enter Trym.func5, Trym.ntmps5
  go_wp2
  all_goals
    go_ret
    exact ⟨_, rfl, rfl⟩

theorem conv_one (c : UInt8) (wx : World) :
    (convert 23 9 (.slice (some ⟨wx.heap.size, 0, none⟩) 1 1)).run Trym.prog (wx.alloc (.cells #[.int .u8 (c.toNat : Int)] 5)) = .ok (.string ⟨#[c]⟩) (wx.alloc (.cells #[.int .u8 (c.toNat : Int)] 5)) :=
  run_convert_bytes_back (P := Trym.prog) _ 23 9 5 ⟨wx.heap.size, 0, none⟩ 1 [c] Trym.underlying23 Trym.underlying5 Trym.underlying9 (fun j hj => by
    obtain rfl : j = 0 := by simp at hj; omega
    simp [Addr.add, go_sem])

theorem fn_join (a b : List UInt8) (c : UInt8) : Field.fn ((a ++ [c]) ++ b) = ((a.isEmpty || Field.fn a) && Field.tc c && (b.isEmpty || Field.fn b)) := by
  unfold Field.fn
  simp only [List.all_append, List.all_cons, List.all_nil, Bool.and_true]
  cases a <;> cases b <;> simp

theorem fn_one (c : UInt8) : Field.fn [c] = Field.tc c := by simp [Field.fn]

theorem law (a b : ByteArray) (c : UInt8) (rj ra rb rs ea eb : Bool) (hj : Field.fn ((a ++ ⟨#[c]⟩) ++ b : ByteArray).data.toList = rj) (ha : Field.fn a.data.toList = ra) (hb : Field.fn b.data.toList = rb)
    (hs : Field.tc c = rs) (hea : a.toList.isEmpty = ea) (heb : b.toList.isEmpty = eb) : rj = ((ea || ra) && rs && (eb || rb)) := by
  rw [← hj, ← ha, ← hb, ← hs, ← hea, ← heb]
  simp only [Lib.toList_data, ByteArray.data_append, Array.toList_append]
  exact fn_join _ _ _

set_option maxRecDepth 100000 in
set_option maxHeartbeats 2000000 in
theorem walk (a0 : ByteArray) (a1 : Int) (a2 : ByteArray) (w0 : a0.size ≤ maxLen) (w1 : (Lit.int .u8 a1).wf = true) (w2 : a2.size ≤ maxLen) (w : World) :
    Calls Trym.prog 3 #[.string a0, .int .u8 a1, .string a2] w fun e w' => e = .returned (.bool true) ∧ Grown w w' := by
  obtain ⟨c, rfl⟩ := byteArg w1
  clear w1
  have kc := conv_one c
  generalize hea : a0.toList.isEmpty = ea
  generalize heb : a2.toList.isEmpty = eb
  generalize hj : Field.fn ((a0 ++ ⟨#[c]⟩) ++ a2 : ByteArray).data.toList = rj
  generalize hra : Field.fn a0.data.toList = ra
  generalize hrb : Field.fn a2.data.toList = rb
  generalize hrs : Field.tc c = rs
  have HL : Hid (rj = ((ea || ra) && rs && (eb || rb))) := law a0 a2 c rj ra rb rs ea eb hj hra hrb hrs hea heb
  have HJ : Hid (Field.fn ((a0 ++ ⟨#[c]⟩) ++ a2 : ByteArray).data.toList = rj) := hj
  have HA : Hid (Field.fn a0.data.toList = ra) := hra
  have HB : Hid (Field.fn a2.data.toList = rb) := hrb
  have HS : Hid (Field.tc c = rs) := hrs
  clear hj hra hrb hrs
  go_enter Trym.func3, Trym.ntmps3
  go_wp2_with fail
  refine (bytes_any _ _ _ _ w0 w2).mono ?_
  rintro e w' ⟨bb, rfl, rfl⟩
  unfold maxLen at w0 w2
  cases ea
  · cases eb
    · go_wp2_with fail
      · go_ret; exact ⟨rfl, Grown.refl _⟩
      · go_ret; exact ⟨rfl, Grown.refl _⟩
      · go_ret; exact ⟨rfl, Grown.refl _⟩
      have hs0 : a0.size ≤ 1048700 := by omega
      have hs2 : a2.size ≤ 1048700 := by omega
      have hsj : (a0 ++ ⟨#[c]⟩ ++ a2 : ByteArray).size ≤ 1048700 := by
        rw [ByteArray.size_append, ByteArray.size_append]; show a0.size + 1 + a2.size ≤ _; omega
      refine (Field.zz_any _ _ hs0 ra HA.out).mono ?_
      rintro e w' ⟨rfl, rfl⟩
      go_wp2_with fail
      refine (Field.zz_any _ _ hs2 rb HB.out).mono ?_
      rintro e w' ⟨rfl, rfl⟩
      go_wp2_with fail
      refine (Field.zz_any ⟨#[c]⟩ _ (show 1 ≤ 1048700 by omega) rs (by rw [← HS.out]; exact fn_one c)).mono ?_
      rintro e w' ⟨rfl, rfl⟩
      go_wp2_with fail
      refine (Field.tchar_at c _ rs HS.out).mono ?_
      rintro e w' ⟨rfl, rfl⟩
      go_wp2_with fail
      refine (Field.zz_any _ _ hsj rj HJ.out).mono ?_
      rintro e w' ⟨rfl, rfl⟩
      have hl := HL.out
      clear HL HJ HA HB HS
      cases ra <;> cases rs <;> cases rb <;> (obtain rfl := hl; go_wp2_with fail; go_ret; exact ⟨rfl, by repeat (first | exact Grown.refl _ | apply Grown.drew | apply Grown.alloc)⟩)
    · go_wp2_with fail
      · go_ret; exact ⟨rfl, Grown.refl _⟩
      · go_ret; exact ⟨rfl, Grown.refl _⟩
      · go_ret; exact ⟨rfl, Grown.refl _⟩
      have hs0 : a0.size ≤ 1048700 := by omega
      have hs2 : a2.size ≤ 1048700 := by omega
      have hsj : (a0 ++ ⟨#[c]⟩ ++ a2 : ByteArray).size ≤ 1048700 := by
        rw [ByteArray.size_append, ByteArray.size_append]; show a0.size + 1 + a2.size ≤ _; omega
      refine (Field.zz_any _ _ hs0 ra HA.out).mono ?_
      rintro e w' ⟨rfl, rfl⟩
      go_wp2_with fail
      refine (Field.zz_any ⟨#[c]⟩ _ (show 1 ≤ 1048700 by omega) rs (by rw [← HS.out]; exact fn_one c)).mono ?_
      rintro e w' ⟨rfl, rfl⟩
      go_wp2_with fail
      refine (Field.tchar_at c _ rs HS.out).mono ?_
      rintro e w' ⟨rfl, rfl⟩
      go_wp2_with fail
      refine (Field.zz_any _ _ hsj rj HJ.out).mono ?_
      rintro e w' ⟨rfl, rfl⟩
      have hl := HL.out
      clear HL HJ HA HB HS
      cases ra <;> cases rs <;> (obtain rfl := hl; go_wp2_with fail; go_ret; exact ⟨rfl, by repeat (first | exact Grown.refl _ | apply Grown.drew | apply Grown.alloc)⟩)
  · cases eb
    · go_wp2_with fail
      · go_ret; exact ⟨rfl, Grown.refl _⟩
      · go_ret; exact ⟨rfl, Grown.refl _⟩
      · go_ret; exact ⟨rfl, Grown.refl _⟩
      have hs0 : a0.size ≤ 1048700 := by omega
      have hs2 : a2.size ≤ 1048700 := by omega
      have hsj : (a0 ++ ⟨#[c]⟩ ++ a2 : ByteArray).size ≤ 1048700 := by
        rw [ByteArray.size_append, ByteArray.size_append]; show a0.size + 1 + a2.size ≤ _; omega
      refine (Field.zz_any _ _ hs2 rb HB.out).mono ?_
      rintro e w' ⟨rfl, rfl⟩
      go_wp2_with fail
      refine (Field.zz_any ⟨#[c]⟩ _ (show 1 ≤ 1048700 by omega) rs (by rw [← HS.out]; exact fn_one c)).mono ?_
      rintro e w' ⟨rfl, rfl⟩
      go_wp2_with fail
      refine (Field.tchar_at c _ rs HS.out).mono ?_
      rintro e w' ⟨rfl, rfl⟩
      go_wp2_with fail
      refine (Field.zz_any _ _ hsj rj HJ.out).mono ?_
      rintro e w' ⟨rfl, rfl⟩
      have hl := HL.out
      clear HL HJ HA HB HS
      cases rs <;> cases rb <;> (obtain rfl := hl; go_wp2_with fail; go_ret; exact ⟨rfl, by repeat (first | exact Grown.refl _ | apply Grown.drew | apply Grown.alloc)⟩)
    · go_wp2_with fail
      · go_ret; exact ⟨rfl, Grown.refl _⟩
      · go_ret; exact ⟨rfl, Grown.refl _⟩
      · go_ret; exact ⟨rfl, Grown.refl _⟩
      have hs0 : a0.size ≤ 1048700 := by omega
      have hs2 : a2.size ≤ 1048700 := by omega
      have hsj : (a0 ++ ⟨#[c]⟩ ++ a2 : ByteArray).size ≤ 1048700 := by
        rw [ByteArray.size_append, ByteArray.size_append]; show a0.size + 1 + a2.size ≤ _; omega
      refine (Field.zz_any ⟨#[c]⟩ _ (show 1 ≤ 1048700 by omega) rs (by rw [← HS.out]; exact fn_one c)).mono ?_
      rintro e w' ⟨rfl, rfl⟩
      go_wp2_with fail
      refine (Field.tchar_at c _ rs HS.out).mono ?_
      rintro e w' ⟨rfl, rfl⟩
      go_wp2_with fail
      refine (Field.zz_any _ _ hsj rj HJ.out).mono ?_
      rintro e w' ⟨rfl, rfl⟩
      have hl := HL.out
      clear HL HJ HA HB HS
      cases rs <;> (obtain rfl := hl; go_wp2_with fail; go_ret; exact ⟨rfl, by repeat (first | exact Grown.refl _ | apply Grown.drew | apply Grown.alloc)⟩)

/-! ### THE ROW's STEP: WRITTEN OUT: LEAVE IT -/
set_option maxRecDepth 100000 in
theorem lifted (os : Os) (started : os.Started) (H : Type) (enc : TypeId × Value → H) :
    ReturnsInHanded {} Trym.checked os 3 .any (Rows.fnIsFieldNameOneByteAtAnyPlaceSpec.pre6 enc Trym.prog Trym.f3 Rows.fnIsFieldNameOneByteAtAnyPlaceRow.domain false) (Rows.fnIsFieldNameOneByteAtAnyPlaceSpec.post enc Trym.prog Trym.f3 false true false false) := by
  refine returnsInHanded_of_change (C := Trym.checked) own started (by kernel_rfl) Trym.func3
    (ChangeSpec.witness6 (enc := enc) (C := Trym.checked) false ⟨#[], #[.string ByteArray.empty, .int .u8 0, .string ByteArray.empty], []⟩ 8 (by kernel_rfl) (by kernel_rfl) (by kernel_rfl) (by kernel_rfl)) ?_
  intro W base args ds gs before hval0 hW hcnd _
  have hval : ∀ (j : Nat) t v, Trym.f3.params[j]? = some t → args[j]? = some v → Value.okWide Trym.prog W .any base t v := hval0
  have hW' := hW
  obtain ⟨p, q, hA0, hV, rfl, hfz, hnd⟩ := hW
  have hA : DataW.TrodAll enc Trym.prog W 0 (fun _ => true) true Trym.f3.params.toList args.toList ds p := hA0
  rw [Trym.params3] at hA hval
  obtain ⟨v0, vs0, d0, ds0, p0, q0, hargs, rfl, rfl, h0, r0⟩ := trodAll_cons hA
  obtain ⟨v1, vs1, d1, ds1, p1, q1, rfl, rfl, rfl, h1, r1⟩ := trodAll_cons r0
  obtain ⟨v2, vs2, d2, ds2, p2, q2, rfl, rfl, rfl, h2, r2⟩ := trodAll_cons r1
  obtain ⟨rfl, rfl, rfl⟩ := trodAll_nil r2
  obtain rfl : args = #[v0, v1, v2] := by cases args; simp_all
  obtain ⟨rfl, rfl⟩ := trodVars_none hV
  obtain ⟨a0, rfl, rfl, rfl, w0⟩ := open_string Trym.underlying9 (hval 0 9 v0 rfl rfl) h0
  obtain ⟨a1, rfl, rfl, rfl, w1⟩ := open_int Trym.underlying5 (hval 1 5 v1 rfl rfl) h1
  obtain ⟨a2, rfl, rfl, rfl, w2⟩ := open_string Trym.underlying9 (hval 2 9 v2 rfl rfl) h2
  clear hA0 hval0
  simp only [List.append_nil] at hW'
  refine (walk a0 a1 a2 w0 w1 w2 W).mono fun e W' ⟨he, hg⟩ => ?_
  subst he
  exact ⟨_, rfl, post_of_same (pa := []) (pv := []) hW' (fun _ _ _ => (trodAll_cons_mk (shut_bool Trym.underlying4 _) trodAll_mk0)) (fun sp _ => (trodAll_cons_mk (shut_string Trym.underlying9 w0) (trodAll_cons_mk (shut_int Trym.underlying5 w1) (trodAll_cons_mk (shut_string Trym.underlying9 w2) trodAll_mk0)))) (fun _ _ => rfl) rfl
    (hg.frame _) hg.2.1 (ok_one (by kernel_rfl) rfl (okWide_bool_mk Trym.underlying4 _))⟩

theorem over : Rows.fnIsFieldNameOneByteAtAnyPlaceRow.holds Trym.pinned (OpenSpec.ofChange Rows.fnIsFieldNameOneByteAtAnyPlaceSpec) :=
  OpenClaim.holds_of_wide 3 Trym.f3 rfl rfl rfl rfl rfl rfl rfl ⟨rfl, rfl, rfl, rfl, rfl⟩ rfl rfl rfl rfl rfl (by kernel_rfl) Trym.func3 (by kernel_rfl)
    (of_decide_eq_true (by kernel_rfl)) (by unfold Func.isWrapper; first | (rw [if_pos (by decide +kernel)]; kernel_rfl) | (rw [if_neg (by decide +kernel)]; exact ⟨rfl, rfl⟩))
    (fun os started H enc _ => lifted os started H enc)

/-- ████ THE STATEMENT ████ -/
theorem proved : Rows.FnIsFieldNameOneByteAtAnyPlaceSaid :=
  over
end Go.Proofs.Qxb6616963aMods.fnIsFieldNameOneByteAtAnyPlace
