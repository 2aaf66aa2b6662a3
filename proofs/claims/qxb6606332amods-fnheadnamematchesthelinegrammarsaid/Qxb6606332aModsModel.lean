import Derived.Test.Qxb6606332aModsHead
import Derived.Test.Qxb6606332aModsDec
namespace Go.Proofs.Qxb6606332aMods.Model
open Go.RowKit
open Go.Proofs.Qxb6606332aMods
open Go.Proofs.Qxb6606332aMods.Head (preCC preGit fin plain hn)
open Go.Proofs.Qxb6606332aMods.Unq (byte_eq byte_ne byte_nne byte_neq extract_tail)
open Go.Proofs.Qxb6606332aMods.Dec (dec_some dec_none)

set_option maxHeartbeats 400000 in
theorem hp_any (s p : ByteArray) (w : World) (_hs : s.size ≤ 1048700) (_hp : p.size ≤ 100) (b : Bool) (h : p.data.toList.isPrefixOf s.data.toList = b) :
    Calls Trym.prog 18 #[.string s, .string p] w fun e w' => e = .returned (.bool b) ∧ w' = w := by
  have hr := Lib.hasPrefix_raw s p
  by_cases hl : p.size ≤ s.size
  · have hb : ((s.extract 0 p.size).toList == p.toList) = b := by
      rw [← h]
      rw [decide_eq_true hl, Bool.true_and] at hr
      exact hr
    clear h hr
    go_enter Trym.func18, Trym.ntmps18
    go_wp2
    go_ret
    exact ⟨rfl, rfl⟩
  · have hb : b = false := by
      rw [← h]
      rw [decide_eq_false hl, Bool.false_and] at hr
      exact hr.symm
    subst hb
    clear h hr
    go_enter Trym.func18, Trym.ntmps18
    go_wp2
    go_ret
    exact ⟨rfl, rfl⟩

theorem hp_l (s : ByteArray) (p : List UInt8) (w : World) (hs : s.size ≤ 1048700) (hp : p.length ≤ 100) (b : Bool) (h : p.isPrefixOf s.data.toList = b) :
    Calls Trym.prog 18 #[.string s, .string ⟨p.toArray⟩] w fun e w' => e = .returned (.bool b) ∧ w' = w :=
  hp_any s ⟨p.toArray⟩ w hs hp b h

theorem ex_drop (s : ByteArray) (k : Nat) : (s.extract k s.size).data.toList = s.data.toList.drop k := by
  rw [extract_tail]

theorem ex_size (s : ByteArray) (k : Nat) : (s.extract k s.size).size ≤ s.size := by
  have h := ex_drop s k
  have h2 : (s.extract k s.size).data.toList.length = (s.extract k s.size).size := by simp
  rw [← h2, h]; simp

theorem pre_len : ∀ (p l : List UInt8), p.isPrefixOf l = true → p.length ≤ l.length
  | [], _, _ => by simp
  | _ :: _, [], h => by cases h
  | a :: p, b :: l, h => by
    have h' : ((a == b) && p.isPrefixOf l) = true := h
    rw [Bool.and_eq_true] at h'
    have := pre_len p l h'.2
    simp; omega

theorem cc_len {s : ByteArray} (h : preCC.isPrefixOf s.data.toList = true) : (10 : Int) ≤ (s.size : Int) := by
  have := pre_len _ _ h
  have h2 : s.data.toList.length = s.size := by simp
  rw [h2] at this
  have h3 : preCC.length = 10 := rfl
  omega

theorem git_len {s : ByteArray} (h : preGit.isPrefixOf s.data.toList = true) : (11 : Int) ≤ (s.size : Int) := by
  have := pre_len _ _ h
  have h2 : s.data.toList.length = s.size := by simp
  rw [h2] at this
  have h3 : preGit.length = 11 := rfl
  omega

set_option maxRecDepth 100000 in
set_option maxHeartbeats 400000 in
theorem cc_none (s : ByteArray) (w : World) (hs : s.size ≤ 1048576) (h : preCC.isPrefixOf s.data.toList = true) (hd : Plain.dec (s.data.toList.drop 10) = none) :
    Calls Trym.prog 13 #[.string s] w fun e w' => e = .returned (.string ⟨(s.data.toList.drop 10).toArray⟩) ∧ Below w.heap.size w w' := by
  have H : Hid (preCC.isPrefixOf s.data.toList = true) := h
  have HD : Hid (Plain.dec (s.data.toList.drop 10) = none) := hd
  have h10 := cc_len h
  clear h hd
  go_enter Trym.func13, Trym.ntmps13
  go_wp2_with fail
  refine (hp_l s preCC _ (by omega) (by decide) true H.out).mono ?_
  rintro e w' ⟨rfl, rfl⟩
  go_wp2_with fail
  refine (dec_none _ _ (by have := ex_size s 10; omega) (by rw [ex_drop]; exact HD.out)).mono ?_
  rintro e w1 ⟨rfl, hb⟩
  go_wp2_with fail
  go_ret
  exact ⟨by rw [← extract_tail]; rfl, hb.out⟩

set_option maxRecDepth 100000 in
set_option maxHeartbeats 400000 in
theorem cc_some (s : ByteArray) (w : World) (hs : s.size ≤ 1048576) (h : preCC.isPrefixOf s.data.toList = true) (p t : List UInt8) (hd : Plain.dec (s.data.toList.drop 10) = some (p, t)) :
    Calls Trym.prog 13 #[.string s] w fun e w' => e = .returned (.string ⟨(if t.isEmpty then p else []).toArray⟩) ∧ Below w.heap.size w w' := by
  have H : Hid (preCC.isPrefixOf s.data.toList = true) := h
  have HD : Hid (Plain.dec (s.data.toList.drop 10) = some (p, t)) := hd
  have h10 := cc_len h
  clear h hd
  cases ht : t.isEmpty
  all_goals
    go_enter Trym.func13, Trym.ntmps13
    go_wp2_with fail
    refine (hp_l s preCC _ (by omega) (by decide) true H.out).mono ?_
    rintro e w' ⟨rfl, rfl⟩
    go_wp2_with fail
    refine (dec_some _ _ (by have := ex_size s 10; omega) (by rw [ex_drop]; exact HD.out)).mono ?_
    rintro e w1 ⟨rfl, hb⟩
    go_wp2_with fail
    go_ret
    exact ⟨rfl, hb.out⟩

set_option maxRecDepth 100000 in
set_option maxHeartbeats 400000 in
theorem other (s : ByteArray) (w : World) (hs : s.size ≤ 1048576) (h : preCC.isPrefixOf s.data.toList = false) (hg : preGit.isPrefixOf s.data.toList = false) :
    Calls Trym.prog 13 #[.string s] w fun e w' => e = .returned (.string ⟨#[]⟩) ∧ Below w.heap.size w w' := by
  have H : Hid (preCC.isPrefixOf s.data.toList = false) := h
  have HG : Hid (preGit.isPrefixOf s.data.toList = false) := hg
  clear h hg
  go_enter Trym.func13, Trym.ntmps13
  go_wp2_with fail
  refine (hp_l s preCC _ (by omega) (by decide) false H.out).mono ?_
  rintro e w' ⟨rfl, rfl⟩
  go_wp2_with fail
  refine (hp_l s preGit _ (by omega) (by decide) false HG.out).mono ?_
  rintro e w' ⟨rfl, rfl⟩
  go_wp2_with fail
  go_ret
  exact ⟨rfl, Below.refl _ _⟩

/-- What follows 'diff --git ' begins with a quote. -/
theorem head_quote {r : ByteArray} (hz : 0 < r.size) (h : r[0] = 34) : (0 : Int) < (r.size : Int) ∧ ((r[0].toNat : Int) == 34) = true := ⟨by omega, byte_eq _ 34 h⟩

set_option maxRecDepth 100000 in
set_option maxHeartbeats 1000000 in
theorem git_q_none (s : ByteArray) (w : World) (hs : s.size ≤ 1048576) (h : preCC.isPrefixOf s.data.toList = false) (hg : preGit.isPrefixOf s.data.toList = true)
    (r : ByteArray) (hr : s.extract 11 s.size = r) (hz : 0 < r.size) (hq : r[0] = 34) (hd : Plain.dec r.data.toList = none) :
    Calls Trym.prog 13 #[.string s] w fun e w' => e = .returned (.string ⟨#[]⟩) ∧ Below w.heap.size w w' := by
  have H : Hid (preCC.isPrefixOf s.data.toList = false) := h
  have HG : Hid (preGit.isPrefixOf s.data.toList = true) := hg
  have HD : Hid (Plain.dec r.data.toList = none) := hd
  have h11 := git_len hg
  have hrs : r.size ≤ 1048576 := by have := ex_size s 11; rw [hr] at this; omega
  have HR : Hid (s.extract 11 s.size = r) := hr
  obtain ⟨hz2, hq2⟩ := head_quote hz hq
  clear h hg hd hq hr
  go_enter Trym.func13, Trym.ntmps13
  go_wp2_with fail
  refine (hp_l s preCC _ (by omega) (by decide) false H.out).mono ?_
  rintro e w' ⟨rfl, rfl⟩
  go_wp2_with fail
  refine (hp_l s preGit _ (by omega) (by decide) true HG.out).mono ?_
  rintro e w' ⟨rfl, rfl⟩
  have hr := HR.out
  go_wp2_with fail
  refine (dec_none r _ (by omega) HD.out).mono ?_
  rintro e w1 ⟨rfl, hb⟩
  go_wp2_with fail
  go_ret
  exact ⟨rfl, hb.out⟩

theorem two_le {p : List UInt8} {s : ByteArray} (h : p.isPrefixOf s.data.toList = true) (hp : p.length = 2) : (2 : Int) ≤ (s.size : Int) := by
  have := pre_len _ _ h
  have h2 : s.data.toList.length = s.size := by simp
  omega

theorem dec_some_b (s pb tb : ByteArray) (w : World) (hs : s.size ≤ 1048700) (h : Plain.dec s.data.toList = some (pb.data.toList, tb.data.toList)) :
    Calls Trym.prog 19 #[.string s] w fun e w' => e = .returned (.tuple #[.string pb, .string tb, .bool true]) ∧ Hid (Below w.heap.size w w') :=
  dec_some s w hs h

set_option maxRecDepth 100000 in
set_option maxHeartbeats 1000000 in
theorem git_q_t1 (s : ByteArray) (w : World) (hs : s.size ≤ 1048576) (h : preCC.isPrefixOf s.data.toList = false) (hg : preGit.isPrefixOf s.data.toList = true)
    (r pb tb : ByteArray) (hr : s.extract 11 s.size = r) (hz : 0 < r.size) (hq : r[0] = 34) (hd : Plain.dec r.data.toList = some (pb.data.toList, tb.data.toList)) (ht : tb.size = 0) :
    Calls Trym.prog 13 #[.string s] w fun e w' => e = .returned (.string ⟨#[]⟩) ∧ Below w.heap.size w w' := by
  have H : Hid (preCC.isPrefixOf s.data.toList = false) := h
  have HG : Hid (preGit.isPrefixOf s.data.toList = true) := hg
  have HD : Hid (Plain.dec r.data.toList = some (pb.data.toList, tb.data.toList)) := hd
  have h11 := git_len hg
  have hrs : r.size ≤ 1048576 := by have := ex_size s 11; rw [hr] at this; omega
  have HR : Hid (s.extract 11 s.size = r) := hr
  obtain ⟨hz2, hq2⟩ := head_quote hz hq
  have ht2 : ((tb.size : Int) == 0) = true := by rw [ht]; rfl
  clear h hg hd hq hr ht
  go_enter Trym.func13, Trym.ntmps13
  go_wp2_with fail
  refine (hp_l s preCC _ (by omega) (by decide) false H.out).mono ?_
  rintro e w' ⟨rfl, rfl⟩
  go_wp2_with fail
  refine (hp_l s preGit _ (by omega) (by decide) true HG.out).mono ?_
  rintro e w' ⟨rfl, rfl⟩
  have hr := HR.out
  go_wp2_with fail
  refine (dec_some_b r pb tb _ (by omega) HD.out).mono ?_
  rintro e w1 ⟨rfl, hb⟩
  go_wp2_with fail
  go_ret
  exact ⟨rfl, hb.out⟩

set_option maxRecDepth 100000 in
set_option maxHeartbeats 1000000 in
theorem git_q_t2 (s : ByteArray) (w : World) (hs : s.size ≤ 1048576) (h : preCC.isPrefixOf s.data.toList = false) (hg : preGit.isPrefixOf s.data.toList = true)
    (r pb tb : ByteArray) (hr : s.extract 11 s.size = r) (hz : 0 < r.size) (hq : r[0] = 34) (hd : Plain.dec r.data.toList = some (pb.data.toList, tb.data.toList)) (ht : 0 < tb.size) (htc : tb[0] ≠ 32) :
    Calls Trym.prog 13 #[.string s] w fun e w' => e = .returned (.string ⟨#[]⟩) ∧ Below w.heap.size w w' := by
  have H : Hid (preCC.isPrefixOf s.data.toList = false) := h
  have HG : Hid (preGit.isPrefixOf s.data.toList = true) := hg
  have HD : Hid (Plain.dec r.data.toList = some (pb.data.toList, tb.data.toList)) := hd
  have h11 := git_len hg
  have hrs : r.size ≤ 1048576 := by have := ex_size s 11; rw [hr] at this; omega
  have HR : Hid (s.extract 11 s.size = r) := hr
  obtain ⟨hz2, hq2⟩ := head_quote hz hq
  have ht2 : ((tb.size : Int) == 0) = false := by rw [beq_eq_false_iff_ne]; omega
  have ht3 : ((tb[0].toNat : Int) != 32) = true := byte_nne _ 32 htc
  clear h hg hd hq hr htc
  go_enter Trym.func13, Trym.ntmps13
  go_wp2_with fail
  refine (hp_l s preCC _ (by omega) (by decide) false H.out).mono ?_
  rintro e w' ⟨rfl, rfl⟩
  go_wp2_with fail
  refine (hp_l s preGit _ (by omega) (by decide) true HG.out).mono ?_
  rintro e w' ⟨rfl, rfl⟩
  have hr := HR.out
  go_wp2_with fail
  refine (dec_some_b r pb tb _ (by omega) HD.out).mono ?_
  rintro e w1 ⟨rfl, hb⟩
  go_wp2_with fail
  go_ret
  exact ⟨rfl, hb.out⟩

set_option maxRecDepth 100000 in
set_option maxHeartbeats 1000000 in
theorem git_q_a (s : ByteArray) (w : World) (hs : s.size ≤ 1048576) (h : preCC.isPrefixOf s.data.toList = false) (hg : preGit.isPrefixOf s.data.toList = true)
    (r pb tb ub : ByteArray) (hr : s.extract 11 s.size = r) (hz : 0 < r.size) (hq : r[0] = 34) (hd : Plain.dec r.data.toList = some (pb.data.toList, tb.data.toList)) (ht : 0 < tb.size) (htc : tb[0] = 32)
    (hu : tb.extract 1 tb.size = ub) (hus : ub.size ≤ 1048576) (hd2 : Plain.dec ub.data.toList = none) :
    Calls Trym.prog 13 #[.string s] w fun e w' => e = .returned (.string ⟨#[]⟩) ∧ Below w.heap.size w w' := by
  have H : Hid (preCC.isPrefixOf s.data.toList = false) := h
  have HG : Hid (preGit.isPrefixOf s.data.toList = true) := hg
  have HD : Hid (Plain.dec r.data.toList = some (pb.data.toList, tb.data.toList)) := hd
  have HD2 : Hid (Plain.dec ub.data.toList = none) := hd2
  have h11 := git_len hg
  have hrs : r.size ≤ 1048576 := by have := ex_size s 11; rw [hr] at this; omega
  have HR : Hid (s.extract 11 s.size = r) := hr
  have HU : Hid (tb.extract 1 tb.size = ub) := hu
  obtain ⟨hz2, hq2⟩ := head_quote hz hq
  have ht2 : ((tb.size : Int) == 0) = false := by rw [beq_eq_false_iff_ne]; omega
  have ht3 : ((tb[0].toNat : Int) != 32) = false := byte_neq _ 32 htc
  have ht1 : (1 : Int) ≤ (tb.size : Int) := by omega
  clear h hg hd hq hr htc hu hd2
  go_enter Trym.func13, Trym.ntmps13
  go_wp2_with fail
  refine (hp_l s preCC _ (by omega) (by decide) false H.out).mono ?_
  rintro e w' ⟨rfl, rfl⟩
  go_wp2_with fail
  refine (hp_l s preGit _ (by omega) (by decide) true HG.out).mono ?_
  rintro e w' ⟨rfl, rfl⟩
  have hr := HR.out
  go_wp2_with fail
  refine (dec_some_b r pb tb _ (by omega) HD.out).mono ?_
  rintro e w1 ⟨rfl, hb⟩
  have hu := HU.out
  go_wp2_with fail
  refine (dec_none ub _ (by omega) HD2.out).mono ?_
  rintro e w2 ⟨rfl, hb2⟩
  go_wp2_with fail
  go_quiet (fail)
  go_wp2
  go_ret
  exact ⟨rfl, below_drewN (hb.out.trans (hb2.out.mono hb.out.size)) nq⟩
set_option maxRecDepth 100000 in
set_option maxHeartbeats 1000000 in
theorem git_q_b (s : ByteArray) (w : World) (hs : s.size ≤ 1048576) (h : preCC.isPrefixOf s.data.toList = false) (hg : preGit.isPrefixOf s.data.toList = true)
    (r pb tb ub yb eb : ByteArray) (hr : s.extract 11 s.size = r) (hz : 0 < r.size) (hq : r[0] = 34) (hd : Plain.dec r.data.toList = some (pb.data.toList, tb.data.toList)) (ht : 0 < tb.size) (htc : tb[0] = 32)
    (hu : tb.extract 1 tb.size = ub) (hus : ub.size ≤ 1048576) (hd2 : Plain.dec ub.data.toList = some (yb.data.toList, eb.data.toList)) (he : eb.toList.isEmpty = false) :
    Calls Trym.prog 13 #[.string s] w fun e w' => e = .returned (.string ⟨#[]⟩) ∧ Below w.heap.size w w' := by
  have H : Hid (preCC.isPrefixOf s.data.toList = false) := h
  have HG : Hid (preGit.isPrefixOf s.data.toList = true) := hg
  have HD : Hid (Plain.dec r.data.toList = some (pb.data.toList, tb.data.toList)) := hd
  have HD2 : Hid (Plain.dec ub.data.toList = some (yb.data.toList, eb.data.toList)) := hd2
  have h11 := git_len hg
  have hrs : r.size ≤ 1048576 := by have := ex_size s 11; rw [hr] at this; omega
  have HR : Hid (s.extract 11 s.size = r) := hr
  have HU : Hid (tb.extract 1 tb.size = ub) := hu
  obtain ⟨hz2, hq2⟩ := head_quote hz hq
  have ht2 : ((tb.size : Int) == 0) = false := by rw [beq_eq_false_iff_ne]; omega
  have ht3 : ((tb[0].toNat : Int) != 32) = false := byte_neq _ 32 htc
  have ht1 : (1 : Int) ≤ (tb.size : Int) := by omega
  clear h hg hd hq hr htc hu hd2 
  go_enter Trym.func13, Trym.ntmps13
  go_wp2_with fail
  refine (hp_l s preCC _ (by omega) (by decide) false H.out).mono ?_
  rintro e w' ⟨rfl, rfl⟩
  go_wp2_with fail
  refine (hp_l s preGit _ (by omega) (by decide) true HG.out).mono ?_
  rintro e w' ⟨rfl, rfl⟩
  have hr := HR.out
  go_wp2_with fail
  refine (dec_some_b r pb tb _ (by omega) HD.out).mono ?_
  rintro e w1 ⟨rfl, hb⟩
  have hu := HU.out
  go_wp2_with fail
  refine (dec_some_b ub yb eb _ (by omega) HD2.out).mono ?_
  rintro e w2 ⟨rfl, hb2⟩
  go_wp2_with fail
  go_quiet (fail)
  go_wp2
  go_ret
  exact ⟨rfl, below_drewN (hb.out.trans (hb2.out.mono hb.out.size)) nq⟩

set_option maxRecDepth 100000 in
set_option maxHeartbeats 1000000 in
theorem git_q_c (s : ByteArray) (w : World) (hs : s.size ≤ 1048576) (h : preCC.isPrefixOf s.data.toList = false) (hg : preGit.isPrefixOf s.data.toList = true)
    (r pb tb ub yb eb : ByteArray) (hr : s.extract 11 s.size = r) (hz : 0 < r.size) (hq : r[0] = 34) (hd : Plain.dec r.data.toList = some (pb.data.toList, tb.data.toList)) (ht : 0 < tb.size) (htc : tb[0] = 32)
    (hu : tb.extract 1 tb.size = ub) (hus : ub.size ≤ 1048576) (hd2 : Plain.dec ub.data.toList = some (yb.data.toList, eb.data.toList)) (hps : pb.size ≤ 1048700) (_hys : yb.size ≤ 1048700) (he : eb.toList.isEmpty = true) (hx : ([97, 47] : List UInt8).isPrefixOf pb.data.toList = false) :
    Calls Trym.prog 13 #[.string s] w fun e w' => e = .returned (.string ⟨#[]⟩) ∧ Below w.heap.size w w' := by
  have H : Hid (preCC.isPrefixOf s.data.toList = false) := h
  have HG : Hid (preGit.isPrefixOf s.data.toList = true) := hg
  have HD : Hid (Plain.dec r.data.toList = some (pb.data.toList, tb.data.toList)) := hd
  have HD2 : Hid (Plain.dec ub.data.toList = some (yb.data.toList, eb.data.toList)) := hd2
  have h11 := git_len hg
  have hrs : r.size ≤ 1048576 := by have := ex_size s 11; rw [hr] at this; omega
  have HR : Hid (s.extract 11 s.size = r) := hr
  have HU : Hid (tb.extract 1 tb.size = ub) := hu
  obtain ⟨hz2, hq2⟩ := head_quote hz hq
  have ht2 : ((tb.size : Int) == 0) = false := by rw [beq_eq_false_iff_ne]; omega
  have ht3 : ((tb[0].toNat : Int) != 32) = false := byte_neq _ 32 htc
  have ht1 : (1 : Int) ≤ (tb.size : Int) := by omega
  have HX : Hid (([97, 47] : List UInt8).isPrefixOf pb.data.toList = false) := hx
  clear h hg hd hq hr htc hu hd2 hx
  go_enter Trym.func13, Trym.ntmps13
  go_wp2_with fail
  refine (hp_l s preCC _ (by omega) (by decide) false H.out).mono ?_
  rintro e w' ⟨rfl, rfl⟩
  go_wp2_with fail
  refine (hp_l s preGit _ (by omega) (by decide) true HG.out).mono ?_
  rintro e w' ⟨rfl, rfl⟩
  have hr := HR.out
  go_wp2_with fail
  refine (dec_some_b r pb tb _ (by omega) HD.out).mono ?_
  rintro e w1 ⟨rfl, hb⟩
  have hu := HU.out
  go_wp2_with fail
  refine (dec_some_b ub yb eb _ (by omega) HD2.out).mono ?_
  rintro e w2 ⟨rfl, hb2⟩
  go_wp2_with fail
  go_quiet ((go_at_call_of 18 (Value.string pb); exact Calls.quiet_of_same (hp_l pb [97, 47] _ hps (by decide) false HX.out)))
  go_wp2
  go_ret
  exact ⟨rfl, below_drewN (hb.out.trans (hb2.out.mono hb.out.size)) nq⟩

set_option maxRecDepth 100000 in
set_option maxHeartbeats 1000000 in
theorem git_q_d (s : ByteArray) (w : World) (hs : s.size ≤ 1048576) (h : preCC.isPrefixOf s.data.toList = false) (hg : preGit.isPrefixOf s.data.toList = true)
    (r pb tb ub yb eb : ByteArray) (hr : s.extract 11 s.size = r) (hz : 0 < r.size) (hq : r[0] = 34) (hd : Plain.dec r.data.toList = some (pb.data.toList, tb.data.toList)) (ht : 0 < tb.size) (htc : tb[0] = 32)
    (hu : tb.extract 1 tb.size = ub) (hus : ub.size ≤ 1048576) (hd2 : Plain.dec ub.data.toList = some (yb.data.toList, eb.data.toList)) (hps : pb.size ≤ 1048700) (hys : yb.size ≤ 1048700) (he : eb.toList.isEmpty = true) (hx : ([97, 47] : List UInt8).isPrefixOf pb.data.toList = true) (hy : ([98, 47] : List UInt8).isPrefixOf yb.data.toList = false) :
    Calls Trym.prog 13 #[.string s] w fun e w' => e = .returned (.string ⟨#[]⟩) ∧ Below w.heap.size w w' := by
  have H : Hid (preCC.isPrefixOf s.data.toList = false) := h
  have HG : Hid (preGit.isPrefixOf s.data.toList = true) := hg
  have HD : Hid (Plain.dec r.data.toList = some (pb.data.toList, tb.data.toList)) := hd
  have HD2 : Hid (Plain.dec ub.data.toList = some (yb.data.toList, eb.data.toList)) := hd2
  have h11 := git_len hg
  have hrs : r.size ≤ 1048576 := by have := ex_size s 11; rw [hr] at this; omega
  have HR : Hid (s.extract 11 s.size = r) := hr
  have HU : Hid (tb.extract 1 tb.size = ub) := hu
  obtain ⟨hz2, hq2⟩ := head_quote hz hq
  have ht2 : ((tb.size : Int) == 0) = false := by rw [beq_eq_false_iff_ne]; omega
  have ht3 : ((tb[0].toNat : Int) != 32) = false := byte_neq _ 32 htc
  have ht1 : (1 : Int) ≤ (tb.size : Int) := by omega
  have HX : Hid (([97, 47] : List UInt8).isPrefixOf pb.data.toList = true) := hx
  have HY : Hid (([98, 47] : List UInt8).isPrefixOf yb.data.toList = false) := hy
  clear h hg hd hq hr htc hu hd2 hx hy
  go_enter Trym.func13, Trym.ntmps13
  go_wp2_with fail
  refine (hp_l s preCC _ (by omega) (by decide) false H.out).mono ?_
  rintro e w' ⟨rfl, rfl⟩
  go_wp2_with fail
  refine (hp_l s preGit _ (by omega) (by decide) true HG.out).mono ?_
  rintro e w' ⟨rfl, rfl⟩
  have hr := HR.out
  go_wp2_with fail
  refine (dec_some_b r pb tb _ (by omega) HD.out).mono ?_
  rintro e w1 ⟨rfl, hb⟩
  have hu := HU.out
  go_wp2_with fail
  refine (dec_some_b ub yb eb _ (by omega) HD2.out).mono ?_
  rintro e w2 ⟨rfl, hb2⟩
  go_wp2_with fail
  go_quiet (first | (go_at_call_of 18 (Value.string pb); exact Calls.quiet_of_same (hp_l pb [97, 47] _ hps (by decide) true HX.out)) | (go_at_call_of 18 (Value.string yb); exact Calls.quiet_of_same (hp_l yb [98, 47] _ hys (by decide) false HY.out)))
  go_wp2
  go_ret
  exact ⟨rfl, below_drewN (hb.out.trans (hb2.out.mono hb.out.size)) nq⟩

set_option maxRecDepth 100000 in
set_option maxHeartbeats 1000000 in
theorem git_q_e (s : ByteArray) (w : World) (hs : s.size ≤ 1048576) (h : preCC.isPrefixOf s.data.toList = false) (hg : preGit.isPrefixOf s.data.toList = true)
    (r pb tb ub yb eb : ByteArray) (hr : s.extract 11 s.size = r) (hz : 0 < r.size) (hq : r[0] = 34) (hd : Plain.dec r.data.toList = some (pb.data.toList, tb.data.toList)) (ht : 0 < tb.size) (htc : tb[0] = 32)
    (hu : tb.extract 1 tb.size = ub) (hus : ub.size ≤ 1048576) (hd2 : Plain.dec ub.data.toList = some (yb.data.toList, eb.data.toList)) (hps : pb.size ≤ 1048700) (hys : yb.size ≤ 1048700) (he : eb.toList.isEmpty = true) (hx : ([97, 47] : List UInt8).isPrefixOf pb.data.toList = true) (hy : ([98, 47] : List UInt8).isPrefixOf yb.data.toList = true) (heq : ((pb.extract 2 pb.size).toList == (yb.extract 2 yb.size).toList) = false) :
    Calls Trym.prog 13 #[.string s] w fun e w' => e = .returned (.string ⟨#[]⟩) ∧ Below w.heap.size w w' := by
  have H : Hid (preCC.isPrefixOf s.data.toList = false) := h
  have HG : Hid (preGit.isPrefixOf s.data.toList = true) := hg
  have HD : Hid (Plain.dec r.data.toList = some (pb.data.toList, tb.data.toList)) := hd
  have HD2 : Hid (Plain.dec ub.data.toList = some (yb.data.toList, eb.data.toList)) := hd2
  have h11 := git_len hg
  have hrs : r.size ≤ 1048576 := by have := ex_size s 11; rw [hr] at this; omega
  have HR : Hid (s.extract 11 s.size = r) := hr
  have HU : Hid (tb.extract 1 tb.size = ub) := hu
  obtain ⟨hz2, hq2⟩ := head_quote hz hq
  have ht2 : ((tb.size : Int) == 0) = false := by rw [beq_eq_false_iff_ne]; omega
  have ht3 : ((tb[0].toNat : Int) != 32) = false := byte_neq _ 32 htc
  have ht1 : (1 : Int) ≤ (tb.size : Int) := by omega
  have HX : Hid (([97, 47] : List UInt8).isPrefixOf pb.data.toList = true) := hx
  have HY : Hid (([98, 47] : List UInt8).isPrefixOf yb.data.toList = true) := hy
  have hp2 : (2 : Int) ≤ (pb.size : Int) := two_le HX.out rfl
  have hy2 : (2 : Int) ≤ (yb.size : Int) := two_le HY.out rfl
  clear h hg hd hq hr htc hu hd2 hx hy
  go_enter Trym.func13, Trym.ntmps13
  go_wp2_with fail
  refine (hp_l s preCC _ (by omega) (by decide) false H.out).mono ?_
  rintro e w' ⟨rfl, rfl⟩
  go_wp2_with fail
  refine (hp_l s preGit _ (by omega) (by decide) true HG.out).mono ?_
  rintro e w' ⟨rfl, rfl⟩
  have hr := HR.out
  go_wp2_with fail
  refine (dec_some_b r pb tb _ (by omega) HD.out).mono ?_
  rintro e w1 ⟨rfl, hb⟩
  have hu := HU.out
  go_wp2_with fail
  refine (dec_some_b ub yb eb _ (by omega) HD2.out).mono ?_
  rintro e w2 ⟨rfl, hb2⟩
  go_wp2_with fail
  go_quiet (first | (go_at_call_of 18 (Value.string pb); exact Calls.quiet_of_same (hp_l pb [97, 47] _ hps (by decide) true HX.out)) | (go_at_call_of 18 (Value.string yb); exact Calls.quiet_of_same (hp_l yb [98, 47] _ hys (by decide) true HY.out)))
  go_wp2
  go_ret
  exact ⟨rfl, below_drewN (hb.out.trans (hb2.out.mono hb.out.size)) nq⟩

set_option maxRecDepth 100000 in
set_option maxHeartbeats 1000000 in
theorem git_q_f (s : ByteArray) (w : World) (hs : s.size ≤ 1048576) (h : preCC.isPrefixOf s.data.toList = false) (hg : preGit.isPrefixOf s.data.toList = true)
    (r pb tb ub yb eb : ByteArray) (hr : s.extract 11 s.size = r) (hz : 0 < r.size) (hq : r[0] = 34) (hd : Plain.dec r.data.toList = some (pb.data.toList, tb.data.toList)) (ht : 0 < tb.size) (htc : tb[0] = 32)
    (hu : tb.extract 1 tb.size = ub) (hus : ub.size ≤ 1048576) (hd2 : Plain.dec ub.data.toList = some (yb.data.toList, eb.data.toList)) (hps : pb.size ≤ 1048700) (hys : yb.size ≤ 1048700) (he : eb.toList.isEmpty = true) (hx : ([97, 47] : List UInt8).isPrefixOf pb.data.toList = true) (hy : ([98, 47] : List UInt8).isPrefixOf yb.data.toList = true) (heq : ((pb.extract 2 pb.size).toList == (yb.extract 2 yb.size).toList) = true) :
    Calls Trym.prog 13 #[.string s] w fun e w' => e = .returned (.string ⟨(pb.data.toList.drop 2).toArray⟩) ∧ Below w.heap.size w w' := by
  have H : Hid (preCC.isPrefixOf s.data.toList = false) := h
  have HG : Hid (preGit.isPrefixOf s.data.toList = true) := hg
  have HD : Hid (Plain.dec r.data.toList = some (pb.data.toList, tb.data.toList)) := hd
  have HD2 : Hid (Plain.dec ub.data.toList = some (yb.data.toList, eb.data.toList)) := hd2
  have h11 := git_len hg
  have hrs : r.size ≤ 1048576 := by have := ex_size s 11; rw [hr] at this; omega
  have HR : Hid (s.extract 11 s.size = r) := hr
  have HU : Hid (tb.extract 1 tb.size = ub) := hu
  obtain ⟨hz2, hq2⟩ := head_quote hz hq
  have ht2 : ((tb.size : Int) == 0) = false := by rw [beq_eq_false_iff_ne]; omega
  have ht3 : ((tb[0].toNat : Int) != 32) = false := byte_neq _ 32 htc
  have ht1 : (1 : Int) ≤ (tb.size : Int) := by omega
  have HX : Hid (([97, 47] : List UInt8).isPrefixOf pb.data.toList = true) := hx
  have HY : Hid (([98, 47] : List UInt8).isPrefixOf yb.data.toList = true) := hy
  have hp2 : (2 : Int) ≤ (pb.size : Int) := two_le HX.out rfl
  have hy2 : (2 : Int) ≤ (yb.size : Int) := two_le HY.out rfl
  clear h hg hd hq hr htc hu hd2 hx hy
  go_enter Trym.func13, Trym.ntmps13
  go_wp2_with fail
  refine (hp_l s preCC _ (by omega) (by decide) false H.out).mono ?_
  rintro e w' ⟨rfl, rfl⟩
  go_wp2_with fail
  refine (hp_l s preGit _ (by omega) (by decide) true HG.out).mono ?_
  rintro e w' ⟨rfl, rfl⟩
  have hr := HR.out
  go_wp2_with fail
  refine (dec_some_b r pb tb _ (by omega) HD.out).mono ?_
  rintro e w1 ⟨rfl, hb⟩
  have hu := HU.out
  go_wp2_with fail
  refine (dec_some_b ub yb eb _ (by omega) HD2.out).mono ?_
  rintro e w2 ⟨rfl, hb2⟩
  go_wp2_with fail
  go_quiet (first | (go_at_call_of 18 (Value.string pb); exact Calls.quiet_of_same (hp_l pb [97, 47] _ hps (by decide) true HX.out)) | (go_at_call_of 18 (Value.string yb); exact Calls.quiet_of_same (hp_l yb [98, 47] _ hys (by decide) true HY.out)))
  go_wp2
  go_ret
  exact ⟨by rw [← extract_tail]; rfl, below_drewN (hb.out.trans (hb2.out.mono hb.out.size)) nq⟩

set_option maxRecDepth 100000 in
set_option maxHeartbeats 1000000 in
theorem git_u0 (s : ByteArray) (w : World) (hs : s.size ≤ 1048576) (h : preCC.isPrefixOf s.data.toList = false) (hg : preGit.isPrefixOf s.data.toList = true)
    (r : ByteArray) (hr : s.extract 11 s.size = r) (hz : r.size = 0) :
    Calls Trym.prog 13 #[.string s] w fun e w' => e = .returned (.string ⟨#[]⟩) ∧ Below w.heap.size w w' := by
  have H : Hid (preCC.isPrefixOf s.data.toList = false) := h
  have HG : Hid (preGit.isPrefixOf s.data.toList = true) := hg
  have h11 := git_len hg
  have hrs : r.size ≤ 1048576 := by have := ex_size s 11; rw [hr] at this; omega
  have HR : Hid (s.extract 11 s.size = r) := hr
  have hz2 : decide ((0 : Int) < (r.size : Int)) = false := by rw [hz]; rfl
  clear h hg hr 
  go_enter Trym.func13, Trym.ntmps13
  go_wp2_with fail
  refine (hp_l s preCC _ (by omega) (by decide) false H.out).mono ?_
  rintro e w' ⟨rfl, rfl⟩
  go_wp2_with fail
  refine (hp_l s preGit _ (by omega) (by decide) true HG.out).mono ?_
  rintro e w' ⟨rfl, rfl⟩
  have hr := HR.out
  go_wp2_with fail
  go_ret
  exact ⟨rfl, Below.refl _ _⟩

set_option maxRecDepth 100000 in
set_option maxHeartbeats 1000000 in
theorem git_u1 (s : ByteArray) (w : World) (hs : s.size ≤ 1048576) (h : preCC.isPrefixOf s.data.toList = false) (hg : preGit.isPrefixOf s.data.toList = true)
    (r : ByteArray) (hr : s.extract 11 s.size = r) (hz : 0 < r.size) (hq : r[0] ≠ 34) (h5 : r.size < 5) :
    Calls Trym.prog 13 #[.string s] w fun e w' => e = .returned (.string ⟨#[]⟩) ∧ Below w.heap.size w w' := by
  have H : Hid (preCC.isPrefixOf s.data.toList = false) := h
  have HG : Hid (preGit.isPrefixOf s.data.toList = true) := hg
  have h11 := git_len hg
  have hrs : r.size ≤ 1048576 := by have := ex_size s 11; rw [hr] at this; omega
  have HR : Hid (s.extract 11 s.size = r) := hr
  have hq2 : ((r[0].toNat : Int) == 34) = false := byte_ne _ 34 hq
  have hz2 : (0 : Int) < (r.size : Int) := by omega
  clear h hg hr hq
  go_enter Trym.func13, Trym.ntmps13
  go_wp2_with fail
  refine (hp_l s preCC _ (by omega) (by decide) false H.out).mono ?_
  rintro e w' ⟨rfl, rfl⟩
  go_wp2_with fail
  refine (hp_l s preGit _ (by omega) (by decide) true HG.out).mono ?_
  rintro e w' ⟨rfl, rfl⟩
  have hr := HR.out
  go_wp2_with fail
  go_ret
  exact ⟨rfl, Below.refl _ _⟩

set_option maxRecDepth 100000 in
set_option maxHeartbeats 1000000 in
theorem git_u2 (s : ByteArray) (w : World) (hs : s.size ≤ 1048576) (h : preCC.isPrefixOf s.data.toList = false) (hg : preGit.isPrefixOf s.data.toList = true)
    (r : ByteArray) (hr : s.extract 11 s.size = r) (hz : 0 < r.size) (hq : r[0] ≠ 34) (h5 : 5 ≤ r.size) (hev : r.size % 2 = 0) :
    Calls Trym.prog 13 #[.string s] w fun e w' => e = .returned (.string ⟨#[]⟩) ∧ Below w.heap.size w w' := by
  have H : Hid (preCC.isPrefixOf s.data.toList = false) := h
  have HG : Hid (preGit.isPrefixOf s.data.toList = true) := hg
  have h11 := git_len hg
  have hrs : r.size ≤ 1048576 := by have := ex_size s 11; rw [hr] at this; omega
  have HR : Hid (s.extract 11 s.size = r) := hr
  have hq2 : ((r[0].toNat : Int) == 34) = false := byte_ne _ 34 hq
  have hz2 : (0 : Int) < (r.size : Int) := by omega
  have he : (((r.size : Int) % 2) == 0) = true := by rw [beq_iff_eq]; omega
  have h55 : decide ((r.size : Int) < 5) = false := by simp; omega
  clear h hg hr hq
  go_enter Trym.func13, Trym.ntmps13
  go_wp2_with fail
  refine (hp_l s preCC _ (by omega) (by decide) false H.out).mono ?_
  rintro e w' ⟨rfl, rfl⟩
  go_wp2_with fail
  refine (hp_l s preGit _ (by omega) (by decide) true HG.out).mono ?_
  rintro e w' ⟨rfl, rfl⟩
  have hr := HR.out
  go_wp2_with fail
  go_ret
  exact ⟨rfl, Below.refl _ _⟩

theorem pre_form (x y : UInt8) : ∀ a : List UInt8, [x, y].isPrefixOf a = true → a = x :: y :: a.drop 2
  | [], h => by cases h
  | [c], h => by
    have h' : ((x == c) && false) = true := h
    rw [Bool.and_false] at h'; cases h'
  | c :: d :: t, h => by
    have h' : ((x == c) && ((y == d) && true)) = true := h
    rw [Bool.and_true, Bool.and_eq_true, beq_iff_eq, beq_iff_eq] at h'
    rw [h'.1, h'.2]; rfl

theorem fin_same (p : List UInt8) : fin (97 :: 47 :: p) (98 :: 47 :: p) = p := by
  simp [fin]

theorem plain_self (p : List UInt8) : plain ((97 :: 47 :: p) ++ (32 :: 98 :: 47 :: p)) = p := by
  have hl : ((97 :: 47 :: p) ++ (32 :: 98 :: 47 :: p) : List UInt8).length = 2 * (97 :: 47 :: p : List UInt8).length + 1 := by
    simp only [List.length_append, List.length_cons]; omega
  have hh : ((97 :: 47 :: p) ++ (32 :: 98 :: 47 :: p) : List UInt8).length / 2 = (97 :: 47 :: p : List UInt8).length := by omega
  unfold plain
  rw [if_neg (by omega), hh]
  have hg : ((97 :: 47 :: p) ++ (32 :: 98 :: 47 :: p) : List UInt8).getD (97 :: 47 :: p : List UInt8).length 0 = 32 := by
    rw [List.getD_eq_getElem?_getD, List.getElem?_append_right (Nat.le_refl _), Nat.sub_self]; rfl
  have hd : List.drop ((97 :: 47 :: p : List UInt8).length + 1) ((97 :: 47 :: p) ++ (32 :: 98 :: 47 :: p)) = 98 :: 47 :: p := by
    rw [List.drop_append, List.drop_of_length_le (by omega), Nat.add_sub_cancel_left]; rfl
  rw [if_pos hg, List.take_left' rfl, hd]
  exact fin_same p

/-- A line that names anything is the line that its name makes. -/
theorem plain_form (l : List UInt8) (m : Nat) (hm : l.length = 2 * m + 5) : plain l = [] ∨ l = (97 :: 47 :: ((l.drop 2).take m)) ++ (32 :: 98 :: 47 :: ((l.drop 2).take m)) := by
  have hh : l.length / 2 = m + 2 := by omega
  unfold plain
  rw [if_neg (by omega), hh]
  by_cases hc : l.getD (m + 2) 0 = 32
  · rw [if_pos hc]
    unfold fin
    by_cases hf : (([97, 47] : List UInt8).isPrefixOf (l.take (m + 2)) && ([98, 47] : List UInt8).isPrefixOf (l.drop (m + 2 + 1)) && ((l.take (m + 2)).drop 2 == (l.drop (m + 2 + 1)).drop 2)) = true
    · right
      rw [Bool.and_eq_true, Bool.and_eq_true, beq_iff_eq] at hf
      obtain ⟨⟨h1, h2⟩, h3⟩ := hf
      have e1 := pre_form _ _ _ h1
      have e2 := pre_form _ _ _ h2
      have e3 : (l.take (m + 2)).drop 2 = (l.drop 2).take m := by
        rw [List.drop_take]; rfl
      have e4 : l.drop (m + 2) = 32 :: l.drop (m + 2 + 1) := by
        rw [List.drop_eq_getElem_cons (by omega)]
        congr 1
        rw [List.getD_eq_getElem?_getD, List.getElem?_eq_getElem (by omega)] at hc
        exact hc
      have e5 : l = l.take (m + 2) ++ l.drop (m + 2) := (List.take_append_drop _ _).symm
      rw [← h3, e3] at e2
      rw [e3] at e1
      rw [e4, e2, e1] at e5
      exact e5
    · left
      rw [if_neg hf]
  · left
    rw [if_neg hc]

theorem ex_mid (r : ByteArray) (m : Nat) : (r.extract 2 (2 + m)).data.toList = (r.data.toList.drop 2).take m := by
  rw [Lib.extract_data, show 2 + m - 2 = m by omega]

theorem built (n : ByteArray) : (({ data := #[97, 47] } : ByteArray) ++ n ++ { data := #[32, 98, 47] } ++ n).data.toList = (97 :: 47 :: n.data.toList) ++ (32 :: 98 :: 47 :: n.data.toList) := by
  simp [ByteArray.data_append, Array.toList_append]

theorem u3_no {r : ByteArray} {m : Nat} (hm : r.size = 2 * m + 5) (h : (!r.toList == (({ data := #[97, 47] } : ByteArray) ++ r.extract 2 (2 + m) ++ { data := #[32, 98, 47] } ++ r.extract 2 (2 + m)).toList) = true) : plain r.data.toList = [] := by
  rw [Lib.toList_data, Lib.toList_data, built, ex_mid] at h
  rcases plain_form r.data.toList m (by simpa using hm) with h1 | h1
  · exact h1
  · exfalso
    have h2 : (r.data.toList == (97 :: 47 :: ((r.data.toList.drop 2).take m)) ++ (32 :: 98 :: 47 :: ((r.data.toList.drop 2).take m))) = true := by rw [beq_iff_eq]; exact h1
    rw [h2] at h; cases h

theorem u3_yes {r : ByteArray} {m : Nat} (h : (!r.toList == (({ data := #[97, 47] } : ByteArray) ++ r.extract 2 (2 + m) ++ { data := #[32, 98, 47] } ++ r.extract 2 (2 + m)).toList) = false) : r.extract 2 (2 + m) = ⟨(plain r.data.toList).toArray⟩ := by
  rw [Lib.toList_data, Lib.toList_data, built] at h
  have h2 : (r.data.toList == (97 :: 47 :: (r.extract 2 (2 + m)).data.toList) ++ (32 :: 98 :: 47 :: (r.extract 2 (2 + m)).data.toList)) = true := by simpa using h
  rw [beq_iff_eq] at h2
  have h3 : plain r.data.toList = (r.extract 2 (2 + m)).data.toList := by
    have := plain_self (r.extract 2 (2 + m)).data.toList
    rw [← h2] at this
    exact this
  rw [h3]

set_option maxRecDepth 100000 in
set_option maxHeartbeats 1000000 in
theorem git_u3 (s : ByteArray) (w : World) (hs : s.size ≤ 1048576) (h : preCC.isPrefixOf s.data.toList = false) (hg : preGit.isPrefixOf s.data.toList = true)
    (r : ByteArray) (hr : s.extract 11 s.size = r) (hz : 0 < r.size) (hq : r[0] ≠ 34) (m : Nat) (hm : r.size = 2 * m + 5) :
    Calls Trym.prog 13 #[.string s] w fun e w' => e = .returned (.string ⟨(plain r.data.toList).toArray⟩) ∧ Below w.heap.size w w' := by
  have H : Hid (preCC.isPrefixOf s.data.toList = false) := h
  have HG : Hid (preGit.isPrefixOf s.data.toList = true) := hg
  have h11 := git_len hg
  have hrs : r.size ≤ 1048576 := by have := ex_size s 11; rw [hr] at this; omega
  have HR : Hid (s.extract 11 s.size = r) := hr
  have hq2 : ((r[0].toNat : Int) == 34) = false := byte_ne _ 34 hq
  have hz2 : (0 : Int) < (r.size : Int) := by omega
  have he : (((r.size : Int) % 2) == 0) = false := by rw [beq_eq_false_iff_ne]; omega
  have h55 : decide ((r.size : Int) < 5) = false := by simp; omega
  have hdiv : ((r.size : Int) - 5) / 2 = (m : Int) := by omega
  have hm5 : 2 * m + 5 = r.size := hm.symm
  have HM : Hid (r.size = 2 * m + 5) := hm
  clear h hg hr hq hm
  go_enter Trym.func13, Trym.ntmps13
  go_wp2_with fail
  refine (hp_l s preCC _ (by omega) (by decide) false H.out).mono ?_
  rintro e w' ⟨rfl, rfl⟩
  go_wp2_with fail
  refine (hp_l s preGit _ (by omega) (by decide) true HG.out).mono ?_
  rintro e w' ⟨rfl, rfl⟩
  have hr := HR.out
  go_wp2_with fail
  · go_ret
    exact ⟨by rw [u3_no HM.out ‹_›]; rfl, Below.refl _ _⟩
  · go_ret
    exact ⟨by rw [← u3_yes ‹_›]; rfl, Below.refl _ _⟩

theorem plain_quote (l : List UInt8) (h : l.head? = some 34) : plain l = [] := by
  unfold plain
  by_cases hev : l.length % 2 = 0
  · rw [if_pos hev]
  · rw [if_neg hev]
    by_cases hc : l.getD (l.length / 2) 0 = 32
    · rw [if_pos hc]
      unfold fin
      have hp : ([97, 47] : List UInt8).isPrefixOf (l.take (l.length / 2)) = false := by
        match l, h with
        | c :: t, h =>
          obtain rfl : c = 34 := Option.some.inj h
          cases hk : (34 :: t : List UInt8).length / 2 with
          | zero => rfl
          | succ k => rfl
      rw [hp]; rfl
    · rw [if_neg hc]

theorem plain_short (l : List UInt8) (h : l.length < 5) : plain l = [] := by
  unfold plain
  by_cases hev : l.length % 2 = 0
  · rw [if_pos hev]
  · rw [if_neg hev]
    by_cases hc : l.getD (l.length / 2) 0 = 32
    · rw [if_pos hc]
      unfold fin
      have hp : ([97, 47] : List UInt8).isPrefixOf (l.take (l.length / 2)) = false := by
        cases hx : ([97, 47] : List UInt8).isPrefixOf (l.take (l.length / 2)) with
        | false => rfl
        | true =>
          have := pre_len _ _ hx
          simp at this
          omega
      rw [hp]; rfl
    · rw [if_neg hc]

theorem auto_len2 : ∀ (l : List UInt8) (st v : Nat) (acc p t : List UInt8), Plain.auto l st v acc = some (p, t) → p.length ≤ acc.length + l.length
  | [], _, _, _, _, _, h => by cases h
  | c :: l, st, v, acc, p, t, h => by
    have ih := auto_len2 l
    unfold Plain.auto at h
    by_cases h0 : st = 0
    · rw [if_pos h0] at h
      by_cases h1 : (c == 34) = true
      · rw [if_pos h1] at h; cases h; simp
      · rw [if_neg h1] at h
        by_cases h2 : (c == 92) = true
        · rw [if_pos h2] at h; have := ih _ _ _ _ _ h; simp; omega
        · rw [if_neg h2] at h; have := ih _ _ _ _ _ h; simp at this ⊢; omega
    · rw [if_neg h0] at h
      by_cases h1 : st = 1
      · rw [if_pos h1] at h
        cases hl : Plain.letter c with
        | some e => rw [hl] at h; have := ih _ _ _ _ _ h; simp at this ⊢; omega
        | none =>
          rw [hl] at h
          by_cases h2 : 48 ≤ c.toNat ∧ c.toNat ≤ 51
          · have h' : Plain.auto l 2 (c.toNat - 48) acc = some (p, t) := by rw [← h]; exact (if_pos h2).symm
            have := ih _ _ _ _ _ h'; simp; omega
          · have h' : none = some (p, t) := by rw [← h]; exact (if_neg h2).symm
            cases h'
      · rw [if_neg h1] at h
        by_cases h2 : c.toNat < 48 ∨ 55 < c.toNat
        · rw [if_pos h2] at h; cases h
        · rw [if_neg h2] at h
          by_cases h3 : st = 2
          · rw [if_pos h3] at h; have := ih _ _ _ _ _ h; simp; omega
          · rw [if_neg h3] at h; have := ih _ _ _ _ _ h; simp at this ⊢; omega

theorem dec_len2 {l p t : List UInt8} (h : Plain.dec l = some (p, t)) : p.length ≤ l.length := by
  match l, h with
  | [], h => cases h
  | c :: l, h =>
    unfold Plain.dec at h
    by_cases h1 : (c == 34) = true
    · have h' : Plain.auto l 0 0 [] = some (p, t) := by rw [← h]; exact (if_pos h1).symm
      have := auto_len2 _ _ _ _ _ _ h'; simp at this ⊢; omega
    · have h' : none = some (p, t) := by rw [← h]; exact (if_neg h1).symm
      cases h'

theorem dec_sz {a b c : ByteArray} (h : Plain.dec a.data.toList = some (b.data.toList, c.data.toList)) (ha : a.size ≤ 1048576) : b.size ≤ 1048700 := by
  have h1 := dec_len2 h
  have h2 : b.data.toList.length = b.size := by simp
  have h3 : a.data.toList.length = a.size := by simp
  omega

theorem toB (l : List UInt8) : ∃ b : ByteArray, b.data.toList = l := ⟨⟨l.toArray⟩, rfl⟩

theorem at0 (b : ByteArray) (hz : 0 < b.size) : b.data.toList = b[0] :: b.data.toList.drop 1 := by
  have := Unq.drop_at b 0 hz
  rw [List.drop_zero] at this
  exact this

/-- zzHeadModel answers what headName answers, at every string within the law's bounds. -/
theorem model_any (s : ByteArray) (w : World) (hs : s.size ≤ 1048576) :
    Calls Trym.prog 13 #[.string s] w fun e w' => e = .returned (.string ⟨(hn s.data.toList).toArray⟩) ∧ Below w.heap.size w w' := by
  cases h : preCC.isPrefixOf s.data.toList with
  | true =>
    cases hd : Plain.dec (s.data.toList.drop 10) with
    | none =>
      have e : hn s.data.toList = s.data.toList.drop 10 := by simp [hn, h, hd]
      rw [e]; exact cc_none s w hs h hd
    | some x =>
      obtain ⟨p, t⟩ := x
      have e : hn s.data.toList = if t.isEmpty then p else [] := by simp [hn, h, hd]
      rw [e]; exact cc_some s w hs h p t hd
  | false =>
    cases hg : preGit.isPrefixOf s.data.toList with
    | false =>
      have e : hn s.data.toList = [] := by simp [hn, h, hg]
      rw [e]; exact other s w hs h hg
    | true =>
      obtain ⟨r, hr⟩ : ∃ r, s.extract 11 s.size = r := ⟨_, rfl⟩
      have hrl : r.data.toList = s.data.toList.drop 11 := by rw [← hr, ex_drop]
      have hrs : r.size ≤ 1048576 := by have := ex_size s 11; rw [hr] at this; omega
      have hrn : r.data.toList.length = r.size := by simp
      cases hd : Plain.dec (s.data.toList.drop 11) with
      | none =>
        have e : hn s.data.toList = plain r.data.toList := by rw [hrl]; simp [hn, h, hg, hd]
        rw [e]
        by_cases hz : r.size = 0
        · rw [plain_short _ (by omega)]; exact git_u0 s w hs h hg r hr hz
        · have hz' : 0 < r.size := by omega
          by_cases hq : r[0] = 34
          · rw [plain_quote _ (by rw [at0 r hz', hq]; rfl)]
            exact git_q_none s w hs h hg r hr hz' hq (by rw [hrl]; exact hd)
          · by_cases h5 : r.size < 5
            · rw [plain_short _ (by omega)]; exact git_u1 s w hs h hg r hr hz' hq h5
            · by_cases hev : r.size % 2 = 0
              · have e2 : plain r.data.toList = [] := by unfold plain; rw [if_pos (by omega)]
                rw [e2]; exact git_u2 s w hs h hg r hr hz' hq (by omega) hev
              · exact git_u3 s w hs h hg r hr hz' hq ((r.size - 5) / 2) (by omega)
      | some x =>
        obtain ⟨p, t⟩ := x
        obtain ⟨pb, rfl⟩ := toB p
        obtain ⟨tb, rfl⟩ := toB t
        have hd' : Plain.dec r.data.toList = some (pb.data.toList, tb.data.toList) := by rw [hrl]; exact hd
        have e : hn s.data.toList = Head.quoted pb.data.toList tb.data.toList := by simp [hn, h, hg, hd]
        have hzq : 0 < r.size ∧ ∀ hz : 0 < r.size, r[0] = 34 := by
          by_cases hz : r.size = 0
          · rw [Dec.dec_of_nil r hz] at hd'; cases hd'
          · refine ⟨by omega, fun hz' => ?_⟩
            by_cases hq : r[0] = 34
            · exact hq
            · rw [Dec.dec_of_no r hz' hq] at hd'; cases hd'
        have hz := hzq.1
        have hq := hzq.2 hz
        have htl : tb.size ≤ 1048576 := by
          have h1 := Head.dec_len hd'
          have h2 : tb.data.toList.length = tb.size := by simp
          omega
        rw [e]
        by_cases ht : tb.size = 0
        · have htn : tb.data.toList = [] := List.eq_nil_of_length_eq_zero (by simpa using ht)
          have e2 : Head.quoted pb.data.toList tb.data.toList = [] := by rw [htn]; rfl
          rw [e2]; exact git_q_t1 s w hs h hg r pb tb hr hz hq hd' ht
        · have ht' : 0 < tb.size := by omega
          have ht0 := at0 tb ht'
          by_cases htc : tb[0] = 32
          · obtain ⟨ub, hu⟩ : ∃ ub, tb.extract 1 tb.size = ub := ⟨_, rfl⟩
            have hul : ub.data.toList = tb.data.toList.drop 1 := by rw [← hu, ex_drop]
            have hus : ub.size ≤ 1048576 := by have := ex_size tb 1; rw [hu] at this; omega
            have hp32 : ([32] : List UInt8).isPrefixOf tb.data.toList = true := by rw [ht0, htc]; rfl
            cases hd2 : Plain.dec (tb.data.toList.drop 1) with
            | none =>
              have e2 : Head.quoted pb.data.toList tb.data.toList = [] := by unfold Head.quoted; rw [if_pos hp32, hd2]
              rw [e2]; exact git_q_a s w hs h hg r pb tb ub hr hz hq hd' ht' htc hu hus (by rw [hul]; exact hd2)
            | some y =>
              obtain ⟨q, z⟩ := y
              obtain ⟨yb, rfl⟩ := toB q
              obtain ⟨eb, rfl⟩ := toB z
              have hd2' : Plain.dec ub.data.toList = some (yb.data.toList, eb.data.toList) := by rw [hul]; exact hd2
              have hps := dec_sz hd' hrs
              have hys := dec_sz hd2' hus
              have e2 : Head.quoted pb.data.toList tb.data.toList = if eb.data.toList.isEmpty then fin pb.data.toList yb.data.toList else [] := by
                unfold Head.quoted; rw [if_pos hp32, hd2]
              rw [e2]
              cases he : eb.toList.isEmpty with
              | false =>
                rw [← Lib.toList_data eb, he]
                exact git_q_b s w hs h hg r pb tb ub yb eb hr hz hq hd' ht' htc hu hus hd2' he
              | true =>
                rw [← Lib.toList_data eb, he]
                show Calls Trym.prog 13 #[.string s] w fun e w' => e = .returned (.string ⟨(fin pb.data.toList yb.data.toList).toArray⟩) ∧ Below w.heap.size w w'
                cases hx : ([97, 47] : List UInt8).isPrefixOf pb.data.toList with
                | false =>
                  rw [Head.fin_no (by rw [hx]; rfl)]
                  exact git_q_c s w hs h hg r pb tb ub yb eb hr hz hq hd' ht' htc hu hus hd2' hps hys he hx
                | true =>
                  cases hy : ([98, 47] : List UInt8).isPrefixOf yb.data.toList with
                  | false =>
                    rw [Head.fin_no (by rw [hy, Bool.and_false])]
                    exact git_q_d s w hs h hg r pb tb ub yb eb hr hz hq hd' ht' htc hu hus hd2' hps hys he hx hy
                  | true =>
                    have hcut : ((pb.extract 2 pb.size).toList == (yb.extract 2 yb.size).toList) = (pb.data.toList.drop 2 == yb.data.toList.drop 2) := by
                      rw [Lib.toList_data, Lib.toList_data, ex_drop, ex_drop]
                    cases heq : (pb.data.toList.drop 2 == yb.data.toList.drop 2) with
                    | false =>
                      have e3 : fin pb.data.toList yb.data.toList = [] := by unfold fin; rw [hx, hy, heq]; rfl
                      rw [e3]
                      exact git_q_e s w hs h hg r pb tb ub yb eb hr hz hq hd' ht' htc hu hus hd2' hps hys he hx hy (hcut.trans heq)
                    | true =>
                      have e3 : fin pb.data.toList yb.data.toList = pb.data.toList.drop 2 := by unfold fin; rw [hx, hy, heq]; rfl
                      rw [e3]
                      exact git_q_f s w hs h hg r pb tb ub yb eb hr hz hq hd' ht' htc hu hus hd2' hps hys he hx hy (hcut.trans heq)
          · have e2 : Head.quoted pb.data.toList tb.data.toList = [] := by
              unfold Head.quoted
              rw [if_neg]
              rw [ht0, Bool.not_eq_true]
              show (((32 : UInt8) == tb[0]) && true) = false
              rw [Bool.and_true]; exact beq_eq_false_iff_ne.2 (Ne.symm htc)
            rw [e2]; exact git_q_t2 s w hs h hg r pb tb hr hz hq hd' ht' htc

end Go.Proofs.Qxb6606332aMods.Model
