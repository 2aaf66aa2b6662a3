import Derived.Test.Qxb6616963aModsRows
import Derived.WalkKit
import Derived.ProofKit
import Derived.OpenShut
import Derived.ShutString
import Derived.Test.Qxb6616963aModsSwap
import Derived.Deep.QuietTactic
import Derived.BigQuiet
namespace Go.Proofs.Qxb6616963aMods.fnIsFieldNameCutAndCaseFold
open Go.ChangeShapes Go.WideShapes Go.ChangeAt Go.RowKit
open Go.ChangeMaps (open_string shut_string)
set_option linter.unusedVariables false      -- a walk need not use every 'w<i>' (that an integer argument fits its kind)

theorem own : ownKnob Trym.prog.godebug = none := by kernel_rfl

/-! ### STEP 1: THE WALK -/
set_option maxHeartbeats 400000 in
theorem bytes_no (s : ByteArray) (k : Int) (w : World) (hs : s.size ≤ maxLen) (h : 1048576 < s.size) :
    Calls Trym.prog 8 #[.string s, .int .i64 k] w fun e w' => e = .returned (.bool false) ∧ w = w' := by
  unfold maxLen at hs
  go_enter Trym.func8, Trym.ntmps8
  go_wp2_with fail
  go_ret
  exact ⟨rfl, rfl⟩

set_option maxHeartbeats 400000 in
theorem bytes_yes (s : ByteArray) (k : Int) (w : World) (h : s.size ≤ 1048576) :
    Calls Trym.prog 8 #[.string s, .int .i64 k] w fun e w' => e = .returned (.bool true) ∧ w = w' := by
  go_enter Trym.func8, Trym.ntmps8
  go_wp2_with fail
  go_ret
  exact ⟨rfl, rfl⟩

theorem swap_at (s : ByteArray) (w : World) (hs : s.size ≤ 1048576) :
    Calls Trym.prog 9 #[.string s] w fun e w' => ∃ f : ByteArray, Hid (Field.fn f.data.toList = Field.fn s.data.toList) ∧ f.size ≤ 1048700 ∧ e = .returned (.string f) ∧ Hid (Grown w w') :=
  (Swap.swap_any s w hs).mono fun _ _ ⟨he, hg⟩ => ⟨⟨(s.data.toList.map Swap.sw).toArray⟩, Swap.sw_fn _, by
    show (s.data.toList.map Swap.sw).toArray.size ≤ _
    simp; omega, he, hg⟩

theorem zz_q (s : ByteArray) (w : World) (hs : s.size ≤ 1048700) (r : Bool) (hr : Field.fn s.data.toList = r) :
    Calls Trym.prog 6 #[.string s] w fun e w' => e = .returned (.bool r) ∧ w' = w :=
  (Field.zz_any s w hs r hr).mono fun _ _ ⟨he, hw⟩ => ⟨he, hw.symm⟩

theorem fn_cut (l : List UInt8) (k : Nat) (hk : k ≤ l.length) : Field.fn l = (!l.isEmpty && (decide (k = 0) || Field.fn (l.take k)) && (decide (k = l.length) || Field.fn (l.drop k))) := by
  have hall : l.all Field.tc = ((l.take k).all Field.tc && (l.drop k).all Field.tc) := by
    rw [← List.all_append, List.take_append_drop]
  have h1 : (decide (k = 0) || Field.fn (l.take k)) = (l.take k).all Field.tc := by
    by_cases h : k = 0
    · subst h; simp
    · rw [decide_eq_false h, Bool.false_or]
      unfold Field.fn
      cases hl : l.isEmpty with
      | true => rw [List.isEmpty_iff.1 hl] at hk; simp at hk; omega
      | false =>
        have : (l.take k).isEmpty = false := by
          cases l with
          | nil => cases hl
          | cons a t => cases k with
            | zero => exact absurd rfl h
            | succ k => rfl
        rw [this]; rfl
  have h2 : (decide (k = l.length) || Field.fn (l.drop k)) = (l.drop k).all Field.tc := by
    by_cases h : k = l.length
    · subst h; simp
    · rw [decide_eq_false h, Bool.false_or]
      unfold Field.fn
      have : (l.drop k).isEmpty = false := by
        cases hd : l.drop k with
        | nil =>
          have := congrArg List.length hd
          simp at this; omega
        | cons a t => rfl
      rw [this]; rfl
  rw [h1, h2, Bool.and_assoc, ← hall]
  rfl

theorem law (s : ByteArray) (k : Nat) (hk : k ≤ s.size) (rw_ rl rr es z0 z1 : Bool) (h : Field.fn s.data.toList = rw_) (hl : Field.fn (s.extract 0 k).data.toList = rl) (hr : Field.fn (s.extract k s.size).data.toList = rr)
    (he : s.toList.isEmpty = es) (h0 : decide (k = 0) = z0) (h1 : decide (k = s.size) = z1) : rw_ = (!es && (z0 || rl) && (z1 || rr)) := by
  have e1 : (s.extract 0 k).data.toList = s.data.toList.take k := by rw [Lib.extract_data]; simp
  have e2 : (s.extract k s.size).data.toList = s.data.toList.drop k := by
    rw [Lib.extract_data]; exact List.take_of_length_le (by simp)
  have e3 : s.data.toList.length = s.size := by simp
  rw [e1] at hl
  rw [e2] at hr
  rw [Lib.toList_data] at he
  rw [← h, ← hl, ← hr, ← he, ← h0, ← h1]
  have := fn_cut s.data.toList k (by omega)
  rw [e3] at this
  exact this

theorem ex_size (s : ByteArray) (a b : Nat) : (s.extract a b).size ≤ s.size := by
  have h2 : (s.extract a b).data.toList.length = (s.extract a b).size := (Lib.size_eq _).symm
  rw [← h2, Lib.extract_data]
  have h3 : s.data.toList.length = s.size := by simp
  have h4 := List.length_take_le (b - a) (s.data.toList.drop a)
  have h5 : ((s.data.toList.drop a).take (b - a)).length ≤ (s.data.toList.drop a).length := by rw [List.length_take]; exact Nat.min_le_right _ _
  have h6 : (s.data.toList.drop a).length ≤ s.data.toList.length := by rw [List.length_drop]; omega
  omega

theorem one_cut (s : ByteArray) (k : Nat) (hk : k < s.size) : Field.fn (s.extract k (k + 1)).data.toList = Field.tc s[k] := by
  have e : (s.extract k (k + 1)).data.toList = [s[k]] := by
    rw [Lib.extract_data, List.drop_eq_getElem_cons (by simpa using hk), show k + 1 - k = 1 by omega]
    rfl
  rw [e]; simp [Field.fn]

set_option maxRecDepth 100000 in
set_option maxHeartbeats 400000 in
theorem walk_long (a0 : ByteArray) (a1 : Int) (w0 : a0.size ≤ maxLen) (w : World) (h : 1048576 < a0.size) :
    Calls Trym.prog 4 #[.string a0, .int .i64 a1] w fun e w' => e = .returned (.bool true) ∧ Grown w w' := by
  go_enter Trym.func4, Trym.ntmps4
  go_wp2_with fail
  refine (bytes_no _ _ _ w0 h).mono ?_
  rintro e w' ⟨rfl, rfl⟩
  go_wp2_with fail
  go_ret
  exact ⟨rfl, Grown.refl _⟩

set_option maxRecDepth 100000 in
set_option maxHeartbeats 400000 in
theorem walk_neg (a0 : ByteArray) (a1 : Int) (w : World) (h : a0.size ≤ 1048576) (hk : a1 < 0) :
    Calls Trym.prog 4 #[.string a0, .int .i64 a1] w fun e w' => e = .returned (.bool true) ∧ Grown w w' := by
  go_enter Trym.func4, Trym.ntmps4
  go_wp2_with fail
  refine (bytes_yes _ _ _ h).mono ?_
  rintro e w' ⟨rfl, rfl⟩
  go_wp2_with fail
  go_ret
  exact ⟨rfl, Grown.refl _⟩

set_option maxRecDepth 100000 in
set_option maxHeartbeats 400000 in
theorem walk_far (a0 : ByteArray) (a1 : Int) (w : World) (h : a0.size ≤ 1048576) (hk : 0 ≤ a1) (hk2 : (a0.size : Int) < a1) :
    Calls Trym.prog 4 #[.string a0, .int .i64 a1] w fun e w' => e = .returned (.bool true) ∧ Grown w w' := by
  go_enter Trym.func4, Trym.ntmps4
  go_wp2_with fail
  refine (bytes_yes _ _ _ h).mono ?_
  rintro e w' ⟨rfl, rfl⟩
  go_wp2_with fail
  go_ret
  exact ⟨rfl, Grown.refl _⟩

set_option maxRecDepth 100000 in
set_option maxHeartbeats 1000000 in
theorem walk_mid (a0 : ByteArray) (k : Nat) (w : World) (h : a0.size ≤ 1048576) (hk0 : 0 < k) (hk : k < a0.size) :
    Calls Trym.prog 4 #[.string a0, .int .i64 (k : Int)] w fun e w' => e = .returned (.bool true) ∧ Grown w w' := by
  generalize hes : a0.toList.isEmpty = es
  generalize hw : Field.fn a0.data.toList = rw_
  generalize hl : Field.fn (a0.extract 0 k).data.toList = rl
  generalize hr : Field.fn (a0.extract k a0.size).data.toList = rr
  have HL : Hid (rw_ = (!es && (false || rl) && (false || rr))) := law a0 k (by omega) rw_ rl rr es false false hw hl hr hes (decide_eq_false (by omega)) (decide_eq_false (by omega))
  have HW : Hid (Field.fn a0.data.toList = rw_) := hw
  have HLf : Hid (Field.fn (a0.extract 0 k).data.toList = rl) := hl
  have HRt : Hid (Field.fn (a0.extract k a0.size).data.toList = rr) := hr
  clear hw hl hr
  generalize ht : Field.tc a0[k] = tk
  have HT : Hid (Field.tc a0[k] = tk) := ht
  clear ht
  have z0 : ((k : Int) == 0) = false := by rw [beq_eq_false_iff_ne]; omega
  have z1 : ((k : Int) == (a0.size : Int)) = false := by rw [beq_eq_false_iff_ne]; omega
  have b0 : (0 : Int) ≤ (k : Int) := by omega
  have b2 : (k : Int) ≤ (a0.size : Int) := by omega
  have b1 : (k : Int) < (a0.size : Int) := by omega
  have b3 : (k : Int) + 1 ≤ (a0.size : Int) := by omega
  have b4 : (k : Int) ≤ (k : Int) + 1 := by omega
  go_enter Trym.func4, Trym.ntmps4
  go_wp2_with fail
  refine (bytes_yes _ _ _ h).mono ?_
  rintro e w' ⟨rfl, rfl⟩
  go_wp2_with fail
  refine (Field.zz_any _ _ (by omega) rw_ HW.out).mono ?_
  rintro e w' ⟨rfl, rfl⟩
  go_wp2_with fail
  refine (swap_at _ _ h).mono ?_
  rintro e w1 ⟨f, hf, hfs, rfl, hg⟩
  go_wp2_with fail
  refine (Field.zz_any f _ hfs rw_ (by rw [hf.out]; exact HW.out)).mono ?_
  rintro e w' ⟨rfl, rfl⟩
  go_wp2_with fail
  refine (Field.zz_any _ _ (by have := ex_size a0 0 k; omega) rl HLf.out).mono ?_
  rintro e w' ⟨rfl, rfl⟩
  go_wp2_with fail
  refine (Field.zz_any _ _ (by have := ex_size a0 k a0.size; omega) rr HRt.out).mono ?_
  rintro e w' ⟨rfl, rfl⟩
  go_wp2_with fail
  have hcs : (a0.extract k (k + 1)).size ≤ 1048700 := by have := ex_size a0 k (k + 1); omega
  have HC : Hid (Field.fn (a0.extract k (k + 1)).data.toList = tk) := (one_cut a0 k hk).trans HT.out
  go_quiet ((first | (go_at_call 6; exact Calls.quiet_of_same (zz_q _ _ hcs tk HC.out)) | (go_at_call 7; exact Calls.quiet_of_same (Field.tchar_at _ _ tk HT.out))))
  have hl := HL.out
  clear HL
  cases es <;> cases rl <;> cases rr <;> (obtain rfl := hl; go_wp2_with fail; go_ret; exact ⟨rfl, hg.out⟩)

set_option maxRecDepth 100000 in
set_option maxHeartbeats 1000000 in
theorem walk_zero (a0 : ByteArray) (k : Nat) (w : World) (h : a0.size ≤ 1048576) (hk0 : k ≤ 0) (hk : k < a0.size) :
    Calls Trym.prog 4 #[.string a0, .int .i64 (k : Int)] w fun e w' => e = .returned (.bool true) ∧ Grown w w' := by
  generalize hes : a0.toList.isEmpty = es
  generalize hw : Field.fn a0.data.toList = rw_
  generalize hl : Field.fn (a0.extract 0 k).data.toList = rl
  generalize hr : Field.fn (a0.extract k a0.size).data.toList = rr
  have HL : Hid (rw_ = (!es && (true || rl) && (false || rr))) := law a0 k (by omega) rw_ rl rr es true false hw hl hr hes (decide_eq_true (by omega)) (decide_eq_false (by omega))
  have HW : Hid (Field.fn a0.data.toList = rw_) := hw
  have HRt : Hid (Field.fn (a0.extract k a0.size).data.toList = rr) := hr
  clear hw hl hr
  generalize ht : Field.tc a0[k] = tk
  have HT : Hid (Field.tc a0[k] = tk) := ht
  clear ht
  have z0 : ((k : Int) == 0) = true := by rw [beq_iff_eq]; omega
  have z1 : ((k : Int) == (a0.size : Int)) = false := by rw [beq_eq_false_iff_ne]; omega
  have b0 : (0 : Int) ≤ (k : Int) := by omega
  have b2 : (k : Int) ≤ (a0.size : Int) := by omega
  have b1 : (k : Int) < (a0.size : Int) := by omega
  have b3 : (k : Int) + 1 ≤ (a0.size : Int) := by omega
  have b4 : (k : Int) ≤ (k : Int) + 1 := by omega
  go_enter Trym.func4, Trym.ntmps4
  go_wp2_with fail
  refine (bytes_yes _ _ _ h).mono ?_
  rintro e w' ⟨rfl, rfl⟩
  go_wp2_with fail
  refine (Field.zz_any _ _ (by omega) rw_ HW.out).mono ?_
  rintro e w' ⟨rfl, rfl⟩
  go_wp2_with fail
  refine (swap_at _ _ h).mono ?_
  rintro e w1 ⟨f, hf, hfs, rfl, hg⟩
  go_wp2_with fail
  refine (Field.zz_any f _ hfs rw_ (by rw [hf.out]; exact HW.out)).mono ?_
  rintro e w' ⟨rfl, rfl⟩
  go_wp2_with fail
  refine (Field.zz_any _ _ (by have := ex_size a0 k a0.size; omega) rr HRt.out).mono ?_
  rintro e w' ⟨rfl, rfl⟩
  go_wp2_with fail
  have hcs : (a0.extract k (k + 1)).size ≤ 1048700 := by have := ex_size a0 k (k + 1); omega
  have HC : Hid (Field.fn (a0.extract k (k + 1)).data.toList = tk) := (one_cut a0 k hk).trans HT.out
  go_quiet ((first | (go_at_call 6; exact Calls.quiet_of_same (zz_q _ _ hcs tk HC.out)) | (go_at_call 7; exact Calls.quiet_of_same (Field.tchar_at _ _ tk HT.out))))
  have hl := HL.out
  clear HL
  cases es <;> cases rr <;> (obtain rfl := hl; go_wp2_with fail; go_ret; exact ⟨rfl, hg.out⟩)

set_option maxRecDepth 100000 in
set_option maxHeartbeats 1000000 in
theorem walk_end (a0 : ByteArray) (k : Nat) (w : World) (h : a0.size ≤ 1048576) (hk0 : 0 < k) (hk : k ≤ a0.size) (hk2 : a0.size ≤ k) :
    Calls Trym.prog 4 #[.string a0, .int .i64 (k : Int)] w fun e w' => e = .returned (.bool true) ∧ Grown w w' := by
  generalize hes : a0.toList.isEmpty = es
  generalize hw : Field.fn a0.data.toList = rw_
  generalize hl : Field.fn (a0.extract 0 k).data.toList = rl
  generalize hr : Field.fn (a0.extract k a0.size).data.toList = rr
  have HL : Hid (rw_ = (!es && (false || rl) && (true || rr))) := law a0 k (by omega) rw_ rl rr es false true hw hl hr hes (decide_eq_false (by omega)) (decide_eq_true (by omega))
  have HW : Hid (Field.fn a0.data.toList = rw_) := hw
  have HLf : Hid (Field.fn (a0.extract 0 k).data.toList = rl) := hl
  clear hw hl hr
  have z0 : ((k : Int) == 0) = false := by rw [beq_eq_false_iff_ne]; omega
  have z1 : ((k : Int) == (a0.size : Int)) = true := by rw [beq_iff_eq]; omega
  have b0 : (0 : Int) ≤ (k : Int) := by omega
  have b2 : (k : Int) ≤ (a0.size : Int) := by omega
  go_enter Trym.func4, Trym.ntmps4
  go_wp2_with fail
  refine (bytes_yes _ _ _ h).mono ?_
  rintro e w' ⟨rfl, rfl⟩
  go_wp2_with fail
  refine (Field.zz_any _ _ (by omega) rw_ HW.out).mono ?_
  rintro e w' ⟨rfl, rfl⟩
  go_wp2_with fail
  refine (swap_at _ _ h).mono ?_
  rintro e w1 ⟨f, hf, hfs, rfl, hg⟩
  go_wp2_with fail
  refine (Field.zz_any f _ hfs rw_ (by rw [hf.out]; exact HW.out)).mono ?_
  rintro e w' ⟨rfl, rfl⟩
  go_wp2_with fail
  refine (Field.zz_any _ _ (by have := ex_size a0 0 k; omega) rl HLf.out).mono ?_
  rintro e w' ⟨rfl, rfl⟩
  go_wp2_with fail
  go_quiet (fail)
  have hl := HL.out
  clear HL
  cases es <;> cases rl <;> (obtain rfl := hl; go_wp2_with fail; go_ret; exact ⟨rfl, hg.out⟩)

set_option maxRecDepth 100000 in
set_option maxHeartbeats 1000000 in
theorem walk_empty (a0 : ByteArray) (k : Nat) (w : World) (h : a0.size ≤ 1048576) (hk0 : k ≤ 0) (hk2 : a0.size ≤ k) :
    Calls Trym.prog 4 #[.string a0, .int .i64 (k : Int)] w fun e w' => e = .returned (.bool true) ∧ Grown w w' := by
  generalize hes : a0.toList.isEmpty = es
  generalize hw : Field.fn a0.data.toList = rw_
  generalize hl : Field.fn (a0.extract 0 k).data.toList = rl
  generalize hr : Field.fn (a0.extract k a0.size).data.toList = rr
  have HL : Hid (rw_ = (!es && (true || rl) && (true || rr))) := law a0 k (by omega) rw_ rl rr es true true hw hl hr hes (decide_eq_true (by omega)) (decide_eq_true (by omega))
  have HW : Hid (Field.fn a0.data.toList = rw_) := hw
  clear hw hl hr
  have z0 : ((k : Int) == 0) = true := by rw [beq_iff_eq]; omega
  have z1 : ((k : Int) == (a0.size : Int)) = true := by rw [beq_iff_eq]; omega
  have b0 : (0 : Int) ≤ (k : Int) := by omega
  have b2 : (k : Int) ≤ (a0.size : Int) := by omega
  go_enter Trym.func4, Trym.ntmps4
  go_wp2_with fail
  refine (bytes_yes _ _ _ h).mono ?_
  rintro e w' ⟨rfl, rfl⟩
  go_wp2_with fail
  refine (Field.zz_any _ _ (by omega) rw_ HW.out).mono ?_
  rintro e w' ⟨rfl, rfl⟩
  go_wp2_with fail
  refine (swap_at _ _ h).mono ?_
  rintro e w1 ⟨f, hf, hfs, rfl, hg⟩
  go_wp2_with fail
  refine (Field.zz_any f _ hfs rw_ (by rw [hf.out]; exact HW.out)).mono ?_
  rintro e w' ⟨rfl, rfl⟩
  go_wp2_with fail
  go_quiet (fail)
  have hl := HL.out
  clear HL
  cases es <;> (obtain rfl := hl; go_wp2_with fail; go_ret; exact ⟨rfl, hg.out⟩)

theorem walk (a0 : ByteArray) (a1 : Int) (w0 : a0.size ≤ maxLen) (w1 : (Lit.int .i64 a1).wf = true) (w : World) :
    Calls Trym.prog 4 #[.string a0, .int .i64 a1] w fun e w' => e = .returned (.bool true) ∧ Grown w w' := by
  by_cases h : 1048576 < a0.size
  · exact walk_long a0 a1 w0 w h
  by_cases hn : a1 < 0
  · exact walk_neg a0 a1 w (by omega) hn
  by_cases hf : (a0.size : Int) < a1
  · exact walk_far a0 a1 w (by omega) (by omega) hf
  obtain ⟨k, rfl⟩ := Int.eq_ofNat_of_zero_le (show 0 ≤ a1 by omega)
  by_cases h0 : 0 < k
  · by_cases h1 : k < a0.size
    · exact walk_mid a0 k w (by omega) h0 h1
    · exact walk_end a0 k w (by omega) h0 (by omega) (by omega)
  · by_cases h1 : k < a0.size
    · exact walk_zero a0 k w (by omega) (by omega) h1
    · exact walk_empty a0 k w (by omega) (by omega) (by omega)

/-! ### THE ROW's STEP: WRITTEN OUT: LEAVE IT -/
set_option maxRecDepth 100000 in
theorem lifted (os : Os) (started : os.Started) (H : Type) (enc : TypeId × Value → H) :
    ReturnsInHanded {} Trym.checked os 4 .any (Rows.fnIsFieldNameCutAndCaseFoldSpec.pre6 enc Trym.prog Trym.f4 Rows.fnIsFieldNameCutAndCaseFoldRow.domain false) (Rows.fnIsFieldNameCutAndCaseFoldSpec.post enc Trym.prog Trym.f4 false true false false) := by
  refine returnsInHanded_of_change (C := Trym.checked) own started (by kernel_rfl) Trym.func4
    (ChangeSpec.witness6 (enc := enc) (C := Trym.checked) false ⟨#[], #[.string ByteArray.empty, .int .i64 0], []⟩ 8 (by kernel_rfl) (by kernel_rfl) (by kernel_rfl) (by kernel_rfl)) ?_
  intro W base args ds gs before hval0 hW hcnd _
  have hval : ∀ (j : Nat) t v, Trym.f4.params[j]? = some t → args[j]? = some v → Value.okWide Trym.prog W .any base t v := hval0
  have hW' := hW
  obtain ⟨p, q, hA0, hV, rfl, hfz, hnd⟩ := hW
  have hA : DataW.TrodAll enc Trym.prog W 0 (fun _ => true) true Trym.f4.params.toList args.toList ds p := hA0
  rw [Trym.params4] at hA hval
  obtain ⟨v0, vs0, d0, ds0, p0, q0, hargs, rfl, rfl, h0, r0⟩ := trodAll_cons hA
  obtain ⟨v1, vs1, d1, ds1, p1, q1, rfl, rfl, rfl, h1, r1⟩ := trodAll_cons r0
  obtain ⟨rfl, rfl, rfl⟩ := trodAll_nil r1
  obtain rfl : args = #[v0, v1] := by cases args; simp_all
  obtain ⟨rfl, rfl⟩ := trodVars_none hV
  obtain ⟨a0, rfl, rfl, rfl, w0⟩ := open_string Trym.underlying9 (hval 0 9 v0 rfl rfl) h0
  obtain ⟨a1, rfl, rfl, rfl, w1⟩ := open_int Trym.underlying3 (hval 1 3 v1 rfl rfl) h1
  clear hA0 hval0
  simp only [List.append_nil] at hW'
  refine (walk a0 a1 w0 w1 W).mono fun e W' ⟨he, hg⟩ => ?_
  subst he
  exact ⟨_, rfl, post_of_same (pa := []) (pv := []) hW' (fun _ _ _ => (trodAll_cons_mk (shut_bool Trym.underlying4 _) trodAll_mk0)) (fun sp _ => (trodAll_cons_mk (shut_string Trym.underlying9 w0) (trodAll_cons_mk (shut_int Trym.underlying3 w1) trodAll_mk0))) (fun _ _ => rfl) rfl
    (hg.frame _) hg.2.1 (ok_one (by kernel_rfl) rfl (okWide_bool_mk Trym.underlying4 _))⟩

theorem over : Rows.fnIsFieldNameCutAndCaseFoldRow.holds Trym.pinned (OpenSpec.ofChange Rows.fnIsFieldNameCutAndCaseFoldSpec) :=
  OpenClaim.holds_of_wide 4 Trym.f4 rfl rfl rfl rfl rfl rfl rfl ⟨rfl, rfl, rfl, rfl, rfl⟩ rfl rfl rfl rfl rfl (by kernel_rfl) Trym.func4 (by kernel_rfl)
    (of_decide_eq_true (by kernel_rfl)) (by unfold Func.isWrapper; first | (rw [if_pos (by decide +kernel)]; kernel_rfl) | (rw [if_neg (by decide +kernel)]; exact ⟨rfl, rfl⟩))
    (fun os started H enc _ => lifted os started H enc)

/-- ████ THE STATEMENT ████ -/
theorem proved : Rows.FnIsFieldNameCutAndCaseFoldSaid :=
  over
end Go.Proofs.Qxb6616963aMods.fnIsFieldNameCutAndCaseFold
