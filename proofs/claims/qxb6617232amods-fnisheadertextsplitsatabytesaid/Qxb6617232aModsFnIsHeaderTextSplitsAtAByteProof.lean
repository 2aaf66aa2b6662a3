import Derived.Test.Qxb6617232aModsRows
import Derived.WalkKit
import Derived.ProofKit
import Derived.OpenShut
import Derived.ShutString
import Derived.Test.Qxb6617232aModsHdr
import Derived.WalkSpells
import Derived.WalkLawsBesides
namespace Go.Proofs.Qxb6617232aMods.fnIsHeaderTextSplitsAtAByte
open Go.ChangeShapes Go.WideShapes Go.ChangeAt Go.RowKit
open Go.ChangeMaps (open_string shut_string)
set_option linter.unusedVariables false      -- a walk need not use every 'w<i>' (that an integer argument fits its kind)

theorem own : ownKnob Trym.prog.godebug = none := by kernel_rfl

/-! ### STEP 1: THE WALK -/
theorem byteArg {a : Int} (h : (Lit.int .u8 a).wf = true) : ∃ c : UInt8, a = (c.toNat : Int) := by
  have hb := bounds_u8 h
  exact ⟨a.toNat.toUInt8, by simp [Nat.mod_eq_of_lt (show a.toNat < 256 by omega)]; omega⟩

set_option maxHeartbeats 400000 in
theorem bytes9 (a : ByteArray) (c : Int) (b : ByteArray) (w : World) (ha : a.size ≤ maxLen) (hb : b.size ≤ maxLen) :
    Calls Trym.prog 9 #[.string a, .int .u8 c, .string b] w fun e w' => ∃ r : Bool, e = .returned (.bool r) ∧ w' = w := by
  unfold maxLen at ha hb
  go_enter Trym.func9, Trym.ntmps9
  go_wp2
  all_goals
    go_ret
    exact ⟨_, rfl, rfl⟩

theorem hdr_at (s : ByteArray) (w : World) (hs : s.size ≤ maxLen) :
    Calls Trym.prog 7 #[.string s] w fun e w' => ∃ r : Bool, Hid (r = Plain.hdr s.data.toList) ∧ e = .returned (.bool r) ∧ w' = w :=
  (Hdr.ZZIsHeaderText_any s w hs).mono fun _ _ ⟨he, hw⟩ => ⟨_, rfl, he, hw⟩

theorem hdr_one_at (c : UInt8) (w : World) (hb : Plain.blank c = false) (r : Bool) (hr : (c != 13 && c != 10) = r) :
    Calls Trym.prog 7 #[.string ⟨#[c]⟩] w fun e w' => e = .returned (.bool r) ∧ w' = w :=
  (Hdr.ZZIsHeaderText_any ⟨#[c]⟩ w (show 1 ≤ maxLen by decide)).mono fun _ _ ⟨he, hw⟩ => ⟨by rw [he, ← hr, ← Plain.hdr_one c hb], hw⟩

theorem conv_one (c : UInt8) (wx : World) :
    (convert 25 9 (.slice (some ⟨wx.heap.size, 0, none⟩) 1 1)).run Trym.prog (wx.alloc (.cells #[.int .u8 (c.toNat : Int)] 5)) = .ok (.string ⟨#[c]⟩) (wx.alloc (.cells #[.int .u8 (c.toNat : Int)] 5)) :=
  run_convert_bytes_back (P := Trym.prog) _ 25 9 5 ⟨wx.heap.size, 0, none⟩ 1 [c] Trym.underlying25 Trym.underlying5 Trym.underlying9 (fun j hj => by
    obtain rfl : j = 0 := by simp at hj; omega
    simp [Addr.add, go_sem])

theorem law (a b : ByteArray) (c : UInt8) (hc : Plain.blank c = false) {r1 r2 r3 : Bool}
    (h1 : r1 = Plain.hdr ((a ++ ⟨#[c]⟩) ++ b : ByteArray).data.toList) (h2 : r2 = Plain.hdr (a ++ ⟨#[c]⟩ : ByteArray).data.toList) (h3 : r3 = Plain.hdr ((⟨#[c]⟩ : ByteArray) ++ b).data.toList) :
    (r1 == (r2 && r3)) = true := by
  rw [h1, h2, h3]
  simp only [ByteArray.data_append, Array.toList_append]
  rw [Plain.hdr_split _ _ _ hc]
  simp

theorem not_blank (c : UInt8) (h : ((c.toNat : Int) == 32) = false ∧ ((c.toNat : Int) == 9) = false) : Plain.blank c = false := by
  obtain ⟨h1, h2⟩ := h
  have e1 : (c == 32) = false := by
    rw [beq_eq_false_iff_ne] at h1 ⊢
    intro e; subst e; exact h1 rfl
  have e2 : (c == 9) = false := by
    rw [beq_eq_false_iff_ne] at h2 ⊢
    intro e; subst e; exact h2 rfl
  simp [Plain.blank, e1, e2]

theorem byte_ne (c d : UInt8) : ((c.toNat : Int) != (d.toNat : Int)) = (c != d) := by
  rw [Bool.eq_iff_iff, bne_iff_ne, bne_iff_ne]
  constructor
  · intro h e; subst e; exact h rfl
  · intro h e; exact h (UInt8.toNat_inj.1 (by omega))

theorem bytes_ne (c : UInt8) : (((c.toNat : Int) != 13) && ((c.toNat : Int) != 10)) = (c != 13 && c != 10) := by
  rw [← byte_ne c 13, ← byte_ne c 10]; rfl

theorem cr_no (c : UInt8) (r : Bool) (h : (c.toNat : Int) = 13) (hr : r = true) : ¬ ((c != 13 && c != 10) = r) := by
  rw [hr, ← bytes_ne, h]; decide

set_option maxHeartbeats 400000 in
theorem walk (a0 : ByteArray) (a1 : Int) (a2 : ByteArray) (w0 : a0.size ≤ maxLen) (w1 : (Lit.int .u8 a1).wf = true) (w2 : a2.size ≤ maxLen) (w : World) :
    Calls Trym.prog 4 #[.string a0, .int .u8 a1, .string a2] w fun e w' => e = .returned (.bool true) ∧ Grown w w' := by
  obtain ⟨c, rfl⟩ := byteArg w1
  clear w1
  have kc := conv_one c
  go_enter Trym.func4, Trym.ntmps4
  go_wp2_with fail
  refine (bytes9 _ _ _ _ w0 w2).mono ?_
  rintro e w' ⟨r, rfl, rfl⟩
  unfold maxLen at w0 w2
  go_wp2_with fail
  · go_ret; exact ⟨rfl, Grown.refl _⟩
  · go_ret; exact ⟨rfl, Grown.refl _⟩
  · go_ret; exact ⟨rfl, Grown.refl _⟩
  · go_ret; exact ⟨rfl, Grown.refl _⟩
  · go_ret; exact ⟨rfl, Grown.refl _⟩
  have hb : Plain.blank c = false := not_blank c ‹_›
  have HB : Hid (Plain.blank c = false) := hb
  clear hb
  generalize hr : (c != 13 && c != 10) = r1
  have HR : Hid ((c != 13 && c != 10) = r1) := hr
  refine (hdr_one_at c _ HB.out r1 hr).mono ?_
  rintro e w'' ⟨rfl, rfl⟩
  have hrr : (((c.toNat : Int) != 13) && ((c.toNat : Int) != 10)) = r1 := by rw [← hr]; exact bytes_ne c
  clear hr
  go_wp2_with fail
  · exact absurd HR.out (cr_no c r1 ‹_› ‹_›)
  all_goals
    have hx0 : a0.size ≤ 524288 := by omega
    have hx2 : a2.size ≤ 524288 := by omega
    refine (hdr_at _ _ (by simp only [ByteArray.size_append]; unfold maxLen; show a0.size + 1 + a2.size ≤ _; omega)).mono ?_
    rintro e w1 ⟨ra, Ha, rfl, rfl⟩
    go_wp2_with fail
    refine (hdr_at _ _ (by simp only [ByteArray.size_append]; unfold maxLen; show a0.size + 1 ≤ _; omega)).mono ?_
    rintro e w1 ⟨rb, Hb, rfl, rfl⟩
    go_wp2_with fail
    refine (hdr_at _ _ (by simp only [ByteArray.size_append]; unfold maxLen; show 1 + a2.size ≤ _; omega)).mono ?_
    rintro e w1 ⟨rc, Hc, rfl, rfl⟩
    have hl := law a0 a2 c HB.out Ha.out Hb.out Hc.out
    clear Ha Hb Hc
    cases ra <;> cases rb <;> cases rc <;> first
      | exact absurd hl (by decide)
      | (clear hl; go_wp2_with fail; go_ret; exact ⟨rfl, by repeat (first | exact Grown.refl _ | apply Grown.drew | apply Grown.alloc)⟩)

/-! ### THE ROW's STEP: WRITTEN OUT: LEAVE IT -/
set_option maxRecDepth 100000 in
theorem lifted (os : Os) (started : os.Started) (H : Type) (enc : TypeId × Value → H) :
    ReturnsInHanded {} Trym.checked os 4 .any (Rows.fnIsHeaderTextSplitsAtAByteSpec.pre6 enc Trym.prog Trym.f4 Rows.fnIsHeaderTextSplitsAtAByteRow.domain false) (Rows.fnIsHeaderTextSplitsAtAByteSpec.post enc Trym.prog Trym.f4 false true false false) := by
  refine returnsInHanded_of_change (C := Trym.checked) own started (by kernel_rfl) Trym.func4
    (ChangeSpec.witness6 (enc := enc) (C := Trym.checked) false ⟨#[], #[.string ByteArray.empty, .int .u8 0, .string ByteArray.empty], []⟩ 8 (by kernel_rfl) (by kernel_rfl) (by kernel_rfl) (by kernel_rfl)) ?_
  intro W base args ds gs before hval0 hW hcnd _
  have hval : ∀ (j : Nat) t v, Trym.f4.params[j]? = some t → args[j]? = some v → Value.okWide Trym.prog W .any base t v := hval0
  have hW' := hW
  obtain ⟨p, q, hA0, hV, rfl, hfz, hnd⟩ := hW
  have hA : DataW.TrodAll enc Trym.prog W 0 (fun _ => true) true Trym.f4.params.toList args.toList ds p := hA0
  rw [Trym.params4] at hA hval
  obtain ⟨v0, vs0, d0, ds0, p0, q0, hargs, rfl, rfl, h0, r0⟩ := trodAll_cons hA
  obtain ⟨v1, vs1, d1, ds1, p1, q1, rfl, rfl, rfl, h1, r1⟩ := trodAll_cons r0
  obtain ⟨v2, vs2, d2, ds2, p2, q2, rfl, rfl, rfl, h2, r2⟩ := trodAll_cons r1
  obtain ⟨rfl, rfl, rfl⟩ := trodAll_nil r2
  obtain rfl : args = #[v0, v1, v2] := by cases args; simp_all
  obtain ⟨rfl, rfl⟩ := trodVars_none hV
  obtain ⟨a0, rfl, rfl, rfl, w0⟩ := open_string Trym.underlying9 (hval 0 9 v0 rfl rfl) h0
  obtain ⟨a1, rfl, rfl, rfl, w1⟩ := open_int Trym.underlying5 (hval 1 5 v1 rfl rfl) h1
  obtain ⟨a2, rfl, rfl, rfl, w2⟩ := open_string Trym.underlying9 (hval 2 9 v2 rfl rfl) h2
  clear hA0 hval0
  simp only [List.append_nil] at hW'
  refine (walk a0 a1 a2 w0 w1 w2 W).mono fun e W' ⟨he, hg⟩ => ?_
  subst he
  exact ⟨_, rfl, post_of_same (pa := []) (pv := []) hW' (fun _ _ _ => (trodAll_cons_mk (shut_bool Trym.underlying4 _) trodAll_mk0)) (fun sp _ => (trodAll_cons_mk (shut_string Trym.underlying9 w0) (trodAll_cons_mk (shut_int Trym.underlying5 w1) (trodAll_cons_mk (shut_string Trym.underlying9 w2) trodAll_mk0)))) (fun _ _ => rfl) rfl
    (hg.frame _) hg.2.1 (ok_one (by kernel_rfl) rfl (okWide_bool_mk Trym.underlying4 _))⟩

theorem over : Rows.fnIsHeaderTextSplitsAtAByteRow.holds Trym.pinned (OpenSpec.ofChange Rows.fnIsHeaderTextSplitsAtAByteSpec) :=
  OpenClaim.holds_of_wide 4 Trym.f4 rfl rfl rfl rfl rfl rfl rfl ⟨rfl, rfl, rfl, rfl, rfl⟩ rfl rfl rfl rfl rfl (by kernel_rfl) Trym.func4 (by kernel_rfl)
    (of_decide_eq_true (by kernel_rfl)) (by unfold Func.isWrapper; first | (rw [if_pos (by decide +kernel)]; kernel_rfl) | (rw [if_neg (by decide +kernel)]; exact ⟨rfl, rfl⟩))
    (fun os started H enc _ => lifted os started H enc)

/-- ████ THE STATEMENT ████ -/
theorem proved : Rows.FnIsHeaderTextSplitsAtAByteSaid :=
  over
end Go.Proofs.Qxb6617232aMods.fnIsHeaderTextSplitsAtAByte
