import Derived.Test.Qxb6606332aModsUnq
namespace Go.Proofs.Qxb6606332aMods.Head
open Go.RowKit
open Go.Proofs.Qxb6606332aMods

def preCC : List UInt8 := [100, 105, 102, 102, 32, 45, 45, 99, 99, 32]
def preGit : List UInt8 := [100, 105, 102, 102, 32, 45, 45, 103, 105, 116, 32]

theorem cut_yes (l p : List UInt8) (n : Nat) (hn : p.length = n) (w : World) (h : p.isPrefixOf l = true) :
    Calls Trym.prog 23 #[.string ⟨l.toArray⟩, .string ⟨p.toArray⟩] w fun e w' => e = .returned (.tuple #[.string ⟨(l.drop n).toArray⟩, .bool true]) ∧ w = w' :=
  (Trym.strings_CutPrefix ⟨l.toArray⟩ ⟨p.toArray⟩ w).mono fun e w' ⟨he, hw⟩ => by
    refine ⟨?_, hw.symm⟩
    rw [he]
    simp [Lib.trimPrefix, Lib.hasPrefix, h, hn]

theorem cut_no (l p : List UInt8) (w : World) (h : p.isPrefixOf l = false) :
    Calls Trym.prog 23 #[.string ⟨l.toArray⟩, .string ⟨p.toArray⟩] w fun e w' => e = .returned (.tuple #[.string ⟨l.toArray⟩, .bool false]) ∧ w = w' :=
  (Trym.strings_CutPrefix ⟨l.toArray⟩ ⟨p.toArray⟩ w).mono fun e w' ⟨he, hw⟩ => by
    refine ⟨?_, hw.symm⟩
    rw [he]
    simp [Lib.trimPrefix, Lib.hasPrefix, h]

/-- What is left of a text whose opening was struck, if it stood there. -/
def cutL (l : List UInt8) (n : Nat) (b : Bool) : List UInt8 := if b then l.drop n else l

theorem cut_b (l p : List UInt8) (n : Nat) (hn : p.length = n) (b : Bool) (w : World) (h : p.isPrefixOf l = b) :
    Calls Trym.prog 23 #[.string ⟨l.toArray⟩, .string ⟨p.toArray⟩] w fun e w' => e = .returned (.tuple #[.string ⟨(cutL l n b).toArray⟩, .bool b]) ∧ w = w' := by
  cases b with
  | true => exact cut_yes l p n hn w h
  | false => exact cut_no l p w h

theorem unq_some (l : List UInt8) (w : World) (hs : l.length ≤ 2097152) {p r : List UInt8} (h : Plain.dec l = some (p, r)) :
    Calls Trym.prog 15 #[.string ⟨l.toArray⟩] w fun e w' => e = .returned (.tuple #[.string ⟨p.toArray⟩, .string ⟨r.toArray⟩, .bool true]) ∧ Hid (Below w.heap.size w w') :=
  Unq.unq_some ⟨l.toArray⟩ w hs h

theorem unq_none (l : List UInt8) (w : World) (hs : l.length ≤ 2097152) (h : Plain.dec l = none) :
    Calls Trym.prog 15 #[.string ⟨l.toArray⟩] w fun e w' => e = .returned (.tuple #[.string ⟨#[]⟩, .string ⟨#[]⟩, .bool false]) ∧ Hid (Below w.heap.size w w') :=
  Unq.unq_none ⟨l.toArray⟩ w hs h

theorem unq_some_any (l : List UInt8) (w : World) (hs : l.length ≤ 2097152) :
    Calls Trym.prog 15 #[.string ⟨l.toArray⟩] w fun e w' => ∃ (p r : ByteArray) (b : Bool), e = .returned (.tuple #[.string p, .string r, .bool b]) ∧ Hid (Below w.heap.size w w') := by
  cases h : Plain.dec l with
  | none => exact (unq_none l w hs h).mono fun _ _ ⟨he, hb⟩ => ⟨_, _, _, he, hb⟩
  | some x => obtain ⟨p, r⟩ := x; exact (unq_some l w hs h).mono fun _ _ ⟨he, hb⟩ => ⟨_, _, _, he, hb⟩

theorem trim_at (l : List UInt8) (w : World) (b : Bool) (h : ([32] : List UInt8).isPrefixOf l = b) :
    Calls Trym.prog 24 #[.string ⟨l.toArray⟩, .string ⟨#[32]⟩] w fun e w' => e = .returned (.string ⟨(cutL l 1 b).toArray⟩) ∧ w = w' :=
  (Trym.strings_TrimPrefix ⟨l.toArray⟩ ⟨#[32]⟩ w).mono fun e w' ⟨he, hw⟩ => by
    refine ⟨?_, hw.symm⟩
    rw [he]
    cases b <;> simp [Lib.trimPrefix, Lib.hasPrefix, h, cutL]

theorem has_at (l : List UInt8) (w : World) (b : Bool) (h : ([32] : List UInt8).isPrefixOf l = b) :
    Calls Trym.prog 20 #[.string ⟨l.toArray⟩, .string ⟨#[32]⟩] w fun e w' => e = .returned (.bool b) ∧ w = w' :=
  (Trym.strings_HasPrefix ⟨l.toArray⟩ ⟨#[32]⟩ w).mono fun e w' ⟨he, hw⟩ => by
    refine ⟨?_, hw.symm⟩
    rw [he]
    simp [Lib.hasPrefix, h]

set_option maxRecDepth 100000 in
set_option maxHeartbeats 400000 in
theorem hn_cc_plain (l : List UInt8) (w : World) (hs : l.length ≤ 1048700) (h : preCC.isPrefixOf l = true) (hd : Plain.dec (l.drop 10) = none) :
    Calls Trym.prog 17 #[.string ⟨l.toArray⟩] w fun e w' => e = .returned (.string ⟨(l.drop 10).toArray⟩) ∧ Below w.heap.size w w' := by
  have H : Hid (preCC.isPrefixOf l = true) := h
  have HD : Hid (Plain.dec (l.drop 10) = none) := hd
  clear h hd
  go_enter Trym.func17, Trym.ntmps17
  go_wp2_with fail
  refine (cut_yes l preCC 10 rfl _ H.out).mono ?_
  rintro e w' ⟨rfl, rfl⟩
  go_wp2_with fail
  refine (unq_none (l.drop 10) _ (by simp; omega) HD.out).mono ?_
  rintro e w' ⟨rfl, hb⟩
  go_wp2_with fail
  go_ret
  exact ⟨rfl, hb.out⟩

set_option maxRecDepth 100000 in
set_option maxHeartbeats 400000 in
theorem hn_cc_some (l : List UInt8) (w : World) (hs : l.length ≤ 1048700) (h : preCC.isPrefixOf l = true) (p t : List UInt8) (hd : Plain.dec (l.drop 10) = some (p, t)) :
    Calls Trym.prog 17 #[.string ⟨l.toArray⟩] w fun e w' => e = .returned (.string ⟨(if t.isEmpty then p else []).toArray⟩) ∧ Below w.heap.size w w' := by
  have H : Hid (preCC.isPrefixOf l = true) := h
  have HD : Hid (Plain.dec (l.drop 10) = some (p, t)) := hd
  clear h hd
  cases ht : t.isEmpty
  all_goals
    go_enter Trym.func17, Trym.ntmps17
    go_wp2_with fail
    refine (cut_yes l preCC 10 rfl _ H.out).mono ?_
    rintro e w' ⟨rfl, rfl⟩
    go_wp2_with fail
    refine (unq_some (l.drop 10) _ (by simp; omega) HD.out).mono ?_
    rintro e w' ⟨rfl, hb⟩
    go_wp2_with fail
    go_ret
    exact ⟨rfl, hb.out⟩

set_option maxRecDepth 100000 in
set_option maxHeartbeats 400000 in
theorem hn_other (l : List UInt8) (w : World) (h : preCC.isPrefixOf l = false) (hg : preGit.isPrefixOf l = false) :
    Calls Trym.prog 17 #[.string ⟨l.toArray⟩] w fun e w' => e = .returned (.string ⟨#[]⟩) ∧ Below w.heap.size w w' := by
  have H : Hid (preCC.isPrefixOf l = false) := h
  have HG : Hid (preGit.isPrefixOf l = false) := hg
  clear h hg
  go_enter Trym.func17, Trym.ntmps17
  go_wp2_with fail
  refine (cut_no l preCC _ H.out).mono ?_
  rintro e w' ⟨rfl, rfl⟩
  go_wp2_with fail
  refine (cut_no l preGit _ HG.out).mono ?_
  rintro e w' ⟨rfl, rfl⟩
  go_wp2_with fail
  go_ret
  exact ⟨rfl, Below.refl _ _⟩

/-- The name that both sides bear, or nothing. -/
def fin (a b : List UInt8) : List UInt8 :=
  if ([97, 47] : List UInt8).isPrefixOf a && ([98, 47] : List UInt8).isPrefixOf b && (a.drop 2 == b.drop 2) then a.drop 2 else []

theorem fin_no {a b : List UInt8} (h : (([97, 47] : List UInt8).isPrefixOf a && ([98, 47] : List UInt8).isPrefixOf b) = false) : fin a b = [] := by
  simp [fin, h]

theorem fin_ne {a b : List UInt8} (h : (!cutL a 2 true == cutL b 2 true) = true) : fin a b = [] := by
  have e : (a.drop 2 == b.drop 2) = false := by simpa [cutL] using h
  simp only [fin, e]
  simp

theorem fin_eq {a b : List UInt8} (h1 : ([97, 47] : List UInt8).isPrefixOf a = true) (h2 : ([98, 47] : List UInt8).isPrefixOf b = true) (h : (!cutL a 2 true == cutL b 2 true) = false) : fin a b = cutL a 2 true := by
  have e : (a.drop 2 == b.drop 2) = true := by simpa [cutL] using h
  simp only [fin, e, h1, h2]
  simp [cutL]

set_option maxRecDepth 100000 in
set_option maxHeartbeats 1000000 in
theorem hn_git_quoted (l : List UInt8) (w : World) (hs : l.length ≤ 1048700) (h : preCC.isPrefixOf l = false) (hg : preGit.isPrefixOf l = true) (p t q : List UInt8) (htl : t.length ≤ 1048700)
    (hd : Plain.dec (l.drop 11) = some (p, t)) (hp : ([32] : List UInt8).isPrefixOf t = true) (hd2 : Plain.dec (t.drop 1) = some (q, [])) :
    Calls Trym.prog 17 #[.string ⟨l.toArray⟩] w fun e w' => e = .returned (.string ⟨(fin p q).toArray⟩) ∧ Below w.heap.size w w' := by
  have H : Hid (preCC.isPrefixOf l = false) := h
  have HG : Hid (preGit.isPrefixOf l = true) := hg
  have HD : Hid (Plain.dec (l.drop 11) = some (p, t)) := hd
  have HP : Hid (([32] : List UInt8).isPrefixOf t = true) := hp
  have HD2 : Hid (Plain.dec (cutL t 1 true) = some (q, [])) := hd2
  clear h hg hd hp hd2
  go_enter Trym.func17, Trym.ntmps17
  go_wp2_with fail
  refine (cut_no l preCC _ H.out).mono ?_
  rintro e w' ⟨rfl, rfl⟩
  go_wp2_with fail
  refine (cut_yes l preGit 11 rfl _ HG.out).mono ?_
  rintro e w' ⟨rfl, rfl⟩
  go_wp2_with fail
  refine (unq_some (l.drop 11) _ (by simp; omega) HD.out).mono ?_
  rintro e w1 ⟨rfl, hb1⟩
  go_wp2_with fail
  refine (trim_at t _ true HP.out).mono ?_
  rintro e w' ⟨rfl, rfl⟩
  go_wp2_with fail
  refine (unq_some (cutL t 1 true) _ (by simp [cutL]; omega) HD2.out).mono ?_
  rintro e w2 ⟨rfl, hb2⟩
  go_wp2_with fail
  refine (has_at t _ true HP.out).mono ?_
  rintro e w' ⟨rfl, rfl⟩
  go_wp2_with fail
  generalize ha : ([97, 47] : List UInt8).isPrefixOf p = ba
  have HA : Hid (([97, 47] : List UInt8).isPrefixOf p = ba) := ha
  clear ha
  refine (cut_b p [97, 47] 2 rfl ba _ HA.out).mono ?_
  rintro e w' ⟨rfl, rfl⟩
  go_wp2_with fail
  generalize hbq : ([98, 47] : List UInt8).isPrefixOf q = bb
  have HB : Hid (([98, 47] : List UInt8).isPrefixOf q = bb) := hbq
  clear hbq
  refine (cut_b q [98, 47] 2 rfl bb _ HB.out).mono ?_
  rintro e w' ⟨rfl, rfl⟩
  cases ba
  · go_wp2_with fail
    go_ret
    exact ⟨by rw [fin_no (by rw [HA.out]; rfl)]; rfl, hb1.out.trans (hb2.out.mono hb1.out.size)⟩
  cases bb
  · go_wp2_with fail
    go_ret
    exact ⟨by rw [fin_no (by rw [HB.out]; simp)]; rfl, hb1.out.trans (hb2.out.mono hb1.out.size)⟩
  go_wp2_with fail
  · go_ret
    exact ⟨by rw [fin_ne ‹_›]; rfl, hb1.out.trans (hb2.out.mono hb1.out.size)⟩
  · go_ret
    exact ⟨by rw [fin_eq HA.out HB.out ‹_›]; rfl, hb1.out.trans (hb2.out.mono hb1.out.size)⟩

set_option maxRecDepth 100000 in
set_option maxHeartbeats 1000000 in
theorem hn_git_q_bad1 (l : List UInt8) (w : World) (hs : l.length ≤ 1048700) (h : preCC.isPrefixOf l = false) (hg : preGit.isPrefixOf l = true) (p t : List UInt8) (htl : t.length ≤ 1048700)
    (hd : Plain.dec (l.drop 11) = some (p, t)) (hp : ([32] : List UInt8).isPrefixOf t = false) :
    Calls Trym.prog 17 #[.string ⟨l.toArray⟩] w fun e w' => e = .returned (.string ⟨#[]⟩) ∧ Below w.heap.size w w' := by
  have H : Hid (preCC.isPrefixOf l = false) := h
  have HG : Hid (preGit.isPrefixOf l = true) := hg
  have HD : Hid (Plain.dec (l.drop 11) = some (p, t)) := hd
  have HP : Hid (([32] : List UInt8).isPrefixOf t = false) := hp
  clear h hg hd hp
  go_enter Trym.func17, Trym.ntmps17
  go_wp2_with fail
  refine (cut_no l preCC _ H.out).mono ?_
  rintro e w' ⟨rfl, rfl⟩
  go_wp2_with fail
  refine (cut_yes l preGit 11 rfl _ HG.out).mono ?_
  rintro e w' ⟨rfl, rfl⟩
  go_wp2_with fail
  refine (unq_some (l.drop 11) _ (by simp; omega) HD.out).mono ?_
  rintro e w1 ⟨rfl, hb1⟩
  go_wp2_with fail
  refine (trim_at t _ false HP.out).mono ?_
  rintro e w' ⟨rfl, rfl⟩
  go_wp2_with fail
  refine (unq_some_any (cutL t 1 false) _ (by simp [cutL]; omega)).mono ?_
  rintro e w2 ⟨pp, rr, bb, rfl, hb2⟩
  go_wp2_with fail
  refine (has_at t _ false HP.out).mono ?_
  rintro e w' ⟨rfl, rfl⟩
  go_wp2_with fail
  go_ret
  exact ⟨rfl, hb1.out.trans (hb2.out.mono hb1.out.size)⟩

set_option maxRecDepth 100000 in
set_option maxHeartbeats 1000000 in
theorem hn_git_q_bad2 (l : List UInt8) (w : World) (hs : l.length ≤ 1048700) (h : preCC.isPrefixOf l = false) (hg : preGit.isPrefixOf l = true) (p t : List UInt8) (htl : t.length ≤ 1048700)
    (hd : Plain.dec (l.drop 11) = some (p, t)) (hp : ([32] : List UInt8).isPrefixOf t = true) (hd2 : Plain.dec (t.drop 1) = none) :
    Calls Trym.prog 17 #[.string ⟨l.toArray⟩] w fun e w' => e = .returned (.string ⟨#[]⟩) ∧ Below w.heap.size w w' := by
  have H : Hid (preCC.isPrefixOf l = false) := h
  have HG : Hid (preGit.isPrefixOf l = true) := hg
  have HD : Hid (Plain.dec (l.drop 11) = some (p, t)) := hd
  have HP : Hid (([32] : List UInt8).isPrefixOf t = true) := hp
  have HD2 : Hid (Plain.dec (cutL t 1 true) = none) := hd2
  clear h hg hd hp hd2
  go_enter Trym.func17, Trym.ntmps17
  go_wp2_with fail
  refine (cut_no l preCC _ H.out).mono ?_
  rintro e w' ⟨rfl, rfl⟩
  go_wp2_with fail
  refine (cut_yes l preGit 11 rfl _ HG.out).mono ?_
  rintro e w' ⟨rfl, rfl⟩
  go_wp2_with fail
  refine (unq_some (l.drop 11) _ (by simp; omega) HD.out).mono ?_
  rintro e w1 ⟨rfl, hb1⟩
  go_wp2_with fail
  refine (trim_at t _ true HP.out).mono ?_
  rintro e w' ⟨rfl, rfl⟩
  go_wp2_with fail
  refine (unq_none (cutL t 1 true) _ (by simp [cutL]; omega) HD2.out).mono ?_
  rintro e w2 ⟨rfl, hb2⟩
  go_wp2_with fail
  refine (has_at t _ true HP.out).mono ?_
  rintro e w' ⟨rfl, rfl⟩
  go_wp2_with fail
  go_ret
  exact ⟨rfl, hb1.out.trans (hb2.out.mono hb1.out.size)⟩

set_option maxRecDepth 100000 in
set_option maxHeartbeats 1000000 in
theorem hn_git_q_bad3 (l : List UInt8) (w : World) (hs : l.length ≤ 1048700) (h : preCC.isPrefixOf l = false) (hg : preGit.isPrefixOf l = true) (p t q r : List UInt8) (htl : t.length ≤ 1048700)
    (hd : Plain.dec (l.drop 11) = some (p, t)) (hp : ([32] : List UInt8).isPrefixOf t = true) (hd2 : Plain.dec (t.drop 1) = some (q, r)) (hr : r.isEmpty = false) :
    Calls Trym.prog 17 #[.string ⟨l.toArray⟩] w fun e w' => e = .returned (.string ⟨#[]⟩) ∧ Below w.heap.size w w' := by
  have H : Hid (preCC.isPrefixOf l = false) := h
  have HG : Hid (preGit.isPrefixOf l = true) := hg
  have HD : Hid (Plain.dec (l.drop 11) = some (p, t)) := hd
  have HP : Hid (([32] : List UInt8).isPrefixOf t = true) := hp
  have HD2 : Hid (Plain.dec (cutL t 1 true) = some (q, r)) := hd2
  clear h hg hd hp hd2
  go_enter Trym.func17, Trym.ntmps17
  go_wp2_with fail
  refine (cut_no l preCC _ H.out).mono ?_
  rintro e w' ⟨rfl, rfl⟩
  go_wp2_with fail
  refine (cut_yes l preGit 11 rfl _ HG.out).mono ?_
  rintro e w' ⟨rfl, rfl⟩
  go_wp2_with fail
  refine (unq_some (l.drop 11) _ (by simp; omega) HD.out).mono ?_
  rintro e w1 ⟨rfl, hb1⟩
  go_wp2_with fail
  refine (trim_at t _ true HP.out).mono ?_
  rintro e w' ⟨rfl, rfl⟩
  go_wp2_with fail
  refine (unq_some (cutL t 1 true) _ (by simp [cutL]; omega) HD2.out).mono ?_
  rintro e w2 ⟨rfl, hb2⟩
  go_wp2_with fail
  refine (has_at t _ true HP.out).mono ?_
  rintro e w' ⟨rfl, rfl⟩
  go_wp2_with fail
  go_ret
  exact ⟨rfl, hb1.out.trans (hb2.out.mono hb1.out.size)⟩

theorem git_even_or (rb : ByteArray) (k : Nat) (hk : rb.size = 2 * k + 1) : (rb.size : Int) / 2 = (k : Int) ∧ (((rb.size : Int) % 2) == 0) = false := by
  refine ⟨by omega, ?_⟩
  rw [beq_eq_false_iff_ne]; omega

set_option maxRecDepth 100000 in
set_option maxHeartbeats 1000000 in
theorem hn_git_even (l : List UInt8) (w : World) (hs : l.length ≤ 1048700) (h : preCC.isPrefixOf l = false) (hg : preGit.isPrefixOf l = true) (rb : ByteArray) (hr : (⟨(l.drop 11).toArray⟩ : ByteArray) = rb) (hd : Plain.dec rb.data.toList = none) (hk : rb.size % 2 = 0) :
    Calls Trym.prog 17 #[.string ⟨l.toArray⟩] w fun e w' => e = .returned (.string ⟨#[]⟩) ∧ Below w.heap.size w w' := by
  have H : Hid (preCC.isPrefixOf l = false) := h
  have HG : Hid (preGit.isPrefixOf l = true) := hg
  have HD : Hid (Plain.dec rb.data.toList = none) := hd
  have HR : Hid ((⟨(l.drop 11).toArray⟩ : ByteArray) = rb) := hr
  have hrl : rb.size ≤ 1048700 := by rw [← hr]; show (l.drop 11).toArray.size ≤ _; simp; omega
  have hm : (((rb.size : Int) % 2) == 0) = true := by rw [beq_iff_eq]; omega
  clear h hg hd hr
  go_enter Trym.func17, Trym.ntmps17
  go_wp2_with fail
  refine (cut_no l preCC _ H.out).mono ?_
  rintro e w' ⟨rfl, rfl⟩
  go_wp2_with fail
  refine (cut_yes l preGit 11 rfl _ HG.out).mono ?_
  rintro e w' ⟨rfl, rfl⟩
  rw [HR.out]
  go_wp2_with fail
  refine (Unq.unq_none rb _ (by omega) HD.out).mono ?_
  rintro e w1 ⟨rfl, hb1⟩
  have hb : Hid (Below w.heap.size w w1) := hb1
  clear hb1
  go_wp2_with fail
  go_ret
  exact ⟨rfl, hb.out⟩

set_option maxRecDepth 100000 in
set_option maxHeartbeats 1000000 in
theorem hn_git_odd_no (l : List UInt8) (w : World) (hs : l.length ≤ 1048700) (h : preCC.isPrefixOf l = false) (hg : preGit.isPrefixOf l = true) (rb : ByteArray) (hr : (⟨(l.drop 11).toArray⟩ : ByteArray) = rb) (hd : Plain.dec rb.data.toList = none) (k : Nat) (hk : rb.size = 2 * k + 1) (hkk : k < rb.size) (hc : rb[k] ≠ 32) :
    Calls Trym.prog 17 #[.string ⟨l.toArray⟩] w fun e w' => e = .returned (.string ⟨#[]⟩) ∧ Below w.heap.size w w' := by
  have H : Hid (preCC.isPrefixOf l = false) := h
  have HG : Hid (preGit.isPrefixOf l = true) := hg
  have HD : Hid (Plain.dec rb.data.toList = none) := hd
  have HR : Hid ((⟨(l.drop 11).toArray⟩ : ByteArray) = rb) := hr
  have hrl : rb.size ≤ 1048700 := by rw [← hr]; show (l.drop 11).toArray.size ≤ _; simp; omega
  obtain ⟨hq, hm⟩ := git_even_or rb k hk
  have hb9 : ((rb[k].toNat : Int) != 32) = true := Unq.byte_nne _ 32 hc
  have hk0 : (0 : Int) ≤ (k : Int) := by omega
  have hk1 : (k : Int) < (rb.size : Int) := by omega
  clear h hg hd hr hk hc
  go_enter Trym.func17, Trym.ntmps17
  go_wp2_with fail
  refine (cut_no l preCC _ H.out).mono ?_
  rintro e w' ⟨rfl, rfl⟩
  go_wp2_with fail
  refine (cut_yes l preGit 11 rfl _ HG.out).mono ?_
  rintro e w' ⟨rfl, rfl⟩
  rw [HR.out]
  go_wp2_with fail
  refine (Unq.unq_none rb _ (by omega) HD.out).mono ?_
  rintro e w1 ⟨rfl, hb1⟩
  have hb : Hid (Below w.heap.size w w1) := hb1
  clear hb1
  go_wp2_with fail
  go_ret
  exact ⟨rfl, hb.out⟩

theorem cut_bb (s : ByteArray) (l p : List UInt8) (hl : s.data.toList = l) (n : Nat) (hn : p.length = n) (b : Bool) (w : World) (h : p.isPrefixOf l = b) :
    Calls Trym.prog 23 #[.string s, .string ⟨p.toArray⟩] w fun e w' => e = .returned (.tuple #[.string ⟨(cutL l n b).toArray⟩, .bool b]) ∧ w = w' := by
  obtain rfl : s = ⟨l.toArray⟩ := by rw [← hl]
  exact cut_b l p n hn b w h

set_option maxRecDepth 100000 in
set_option maxHeartbeats 1000000 in
theorem hn_git_odd_sp (l : List UInt8) (w : World) (hs : l.length ≤ 1048700) (h : preCC.isPrefixOf l = false) (hg : preGit.isPrefixOf l = true) (rb : ByteArray) (hr : (⟨(l.drop 11).toArray⟩ : ByteArray) = rb) (hd : Plain.dec rb.data.toList = none) (k : Nat) (hk : rb.size = 2 * k + 1) (hkk : k < rb.size) (hc : rb[k] = 32) :
    Calls Trym.prog 17 #[.string ⟨l.toArray⟩] w fun e w' => e = .returned (.string ⟨(fin (rb.data.toList.take k) (rb.data.toList.drop (k + 1))).toArray⟩) ∧ Below w.heap.size w w' := by
  have H : Hid (preCC.isPrefixOf l = false) := h
  have HG : Hid (preGit.isPrefixOf l = true) := hg
  have HD : Hid (Plain.dec rb.data.toList = none) := hd
  have HR : Hid ((⟨(l.drop 11).toArray⟩ : ByteArray) = rb) := hr
  have hrl : rb.size ≤ 1048700 := by rw [← hr]; show (l.drop 11).toArray.size ≤ _; simp; omega
  obtain ⟨hq, hm⟩ := git_even_or rb k hk
  have hb9 : ((rb[k].toNat : Int) != 32) = false := Unq.byte_neq _ 32 hc
  have hk0 : (0 : Int) ≤ (k : Int) := by omega
  have hk1 : (k : Int) < (rb.size : Int) := by omega
  have hk2 : (k : Int) + 1 ≤ (rb.size : Int) := by omega
  clear h hg hd hr hk hc
  generalize hA : rb.data.toList.take k = A
  generalize hB : rb.data.toList.drop (k + 1) = B
  have HA : Hid (rb.data.toList.take k = A) := hA
  have HB : Hid (rb.data.toList.drop (k + 1) = B) := hB
  clear hA hB
  go_enter Trym.func17, Trym.ntmps17
  go_wp2_with fail
  refine (cut_no l preCC _ H.out).mono ?_
  rintro e w' ⟨rfl, rfl⟩
  go_wp2_with fail
  refine (cut_yes l preGit 11 rfl _ HG.out).mono ?_
  rintro e w' ⟨rfl, rfl⟩
  rw [HR.out]
  go_wp2_with fail
  refine (Unq.unq_none rb _ (by omega) HD.out).mono ?_
  rintro e w1 ⟨rfl, hb1⟩
  have hb : Hid (Below w.heap.size w w1) := hb1
  clear hb1
  go_wp2_with fail
  go_quiet (fail)
  go_wp2_with fail
  generalize ha : ([97, 47] : List UInt8).isPrefixOf A = ba
  have HFA : Hid (([97, 47] : List UInt8).isPrefixOf A = ba) := ha
  clear ha
  refine (cut_bb _ A [97, 47] (by rw [Lib.extract_data, ← HA.out]; simp) 2 rfl ba _ HFA.out).mono ?_
  rintro e w' ⟨rfl, rfl⟩
  go_wp2_with fail
  generalize hbq : ([98, 47] : List UInt8).isPrefixOf B = bb
  have HFB : Hid (([98, 47] : List UInt8).isPrefixOf B = bb) := hbq
  clear hbq
  refine (cut_bb _ B [98, 47] (by rw [Unq.extract_tail, ← HB.out]) 2 rfl bb _ HFB.out).mono ?_
  rintro e w' ⟨rfl, rfl⟩
  cases ba
  · go_wp2_with fail
    go_ret
    exact ⟨by rw [fin_no (by rw [HFA.out]; rfl)]; rfl, below_drewN hb.out nq⟩
  cases bb
  · go_wp2_with fail
    go_ret
    exact ⟨by rw [fin_no (by rw [HFB.out]; simp)]; rfl, below_drewN hb.out nq⟩
  go_wp2_with fail
  · go_ret
    exact ⟨by rw [fin_ne ‹_›]; rfl, below_drewN hb.out nq⟩
  · go_ret
    exact ⟨by rw [fin_eq HFA.out HFB.out ‹_›]; rfl, below_drewN hb.out nq⟩

/-- What stands between the two sides of a line that bears no quote. -/
def plain (r : List UInt8) : List UInt8 :=
  if r.length % 2 = 0 then [] else if r.getD (r.length / 2) 0 = 32 then fin (r.take (r.length / 2)) (r.drop (r.length / 2 + 1)) else []

/-- What follows the first quoted side. -/
def quoted (p t : List UInt8) : List UInt8 :=
  if ([32] : List UInt8).isPrefixOf t then
    match Plain.dec (t.drop 1) with
    | none => []
    | some (q, e) => if e.isEmpty then fin p q else []
  else []

/-- What headName answers. -/
def hn (l : List UInt8) : List UInt8 :=
  if preCC.isPrefixOf l then
    match Plain.dec (l.drop 10) with
    | none => l.drop 10
    | some (p, t) => if t.isEmpty then p else []
  else if preGit.isPrefixOf l then
    match Plain.dec (l.drop 11) with
    | none => plain (l.drop 11)
    | some (p, t) => quoted p t
  else []

theorem auto_len : ∀ (l : List UInt8) (st v : Nat) (acc p t : List UInt8), Plain.auto l st v acc = some (p, t) → t.length ≤ l.length
  | [], _, _, _, _, _, h => by cases h
  | c :: l, st, v, acc, p, t, h => by
    have ih := auto_len l
    unfold Plain.auto at h
    by_cases h0 : st = 0
    · rw [if_pos h0] at h
      by_cases h1 : (c == 34) = true
      · rw [if_pos h1] at h; cases h; simp
      · rw [if_neg h1] at h
        by_cases h2 : (c == 92) = true
        · rw [if_pos h2] at h; have := ih _ _ _ _ _ h; simp; omega
        · rw [if_neg h2] at h; have := ih _ _ _ _ _ h; simp; omega
    · rw [if_neg h0] at h
      by_cases h1 : st = 1
      · rw [if_pos h1] at h
        cases hl : Plain.letter c with
        | some e => rw [hl] at h; have := ih _ _ _ _ _ h; simp; omega
        | none =>
          rw [hl] at h
          by_cases h2 : 48 ≤ c.toNat ∧ c.toNat ≤ 51
          · have h' : Plain.auto l 2 (c.toNat - 48) acc = some (p, t) := by rw [← h]; exact (if_pos h2).symm
            have := ih _ _ _ _ _ h'; simp; omega
          · have h' : none = some (p, t) := by rw [← h]; exact (if_neg h2).symm
            cases h'
      · rw [if_neg h1] at h
        by_cases h2 : c.toNat < 48 ∨ 55 < c.toNat
        · rw [if_pos h2] at h; cases h
        · rw [if_neg h2] at h
          by_cases h3 : st = 2
          · rw [if_pos h3] at h; have := ih _ _ _ _ _ h; simp; omega
          · rw [if_neg h3] at h; have := ih _ _ _ _ _ h; simp; omega

theorem dec_len {l p t : List UInt8} (h : Plain.dec l = some (p, t)) : t.length ≤ l.length := by
  match l, h with
  | [], h => cases h
  | c :: l, h =>
    unfold Plain.dec at h
    by_cases h1 : (c == 34) = true
    · have h' : Plain.auto l 0 0 [] = some (p, t) := by rw [← h]; exact (if_pos h1).symm
      have := auto_len _ _ _ _ _ _ h'; simp; omega
    · have h' : none = some (p, t) := by rw [← h]; exact (if_neg h1).symm
      cases h'

theorem headName_list (l : List UInt8) (w : World) (hs : l.length ≤ 1048700) :
    Calls Trym.prog 17 #[.string ⟨l.toArray⟩] w fun e w' => e = .returned (.string ⟨(hn l).toArray⟩) ∧ Below w.heap.size w w' := by
  cases h : preCC.isPrefixOf l with
  | true =>
    cases hd : Plain.dec (l.drop 10) with
    | none =>
      have e : hn l = l.drop 10 := by simp [hn, h, hd]
      rw [e]; exact hn_cc_plain l w hs h hd
    | some x =>
      obtain ⟨p, t⟩ := x
      have e : hn l = if t.isEmpty then p else [] := by simp [hn, h, hd]
      rw [e]; exact hn_cc_some l w hs h p t hd
  | false =>
    cases hg : preGit.isPrefixOf l with
    | false =>
      have e : hn l = [] := by simp [hn, h, hg]
      rw [e]; exact hn_other l w h hg
    | true =>
      cases hd : Plain.dec (l.drop 11) with
      | some x =>
        obtain ⟨p, t⟩ := x
        have e : hn l = quoted p t := by simp [hn, h, hg, hd]
        have htl : t.length ≤ 1048700 := by have := dec_len hd; simp at this; omega
        rw [e]
        cases hp : ([32] : List UInt8).isPrefixOf t with
        | false =>
          have e2 : quoted p t = [] := by simp [quoted, hp]
          rw [e2]; exact hn_git_q_bad1 l w hs h hg p t htl hd hp
        | true =>
          cases hd2 : Plain.dec (t.drop 1) with
          | none =>
            have e2 : quoted p t = [] := by unfold quoted; rw [if_pos hp, hd2]
            rw [e2]; exact hn_git_q_bad2 l w hs h hg p t htl hd hp hd2
          | some y =>
            obtain ⟨q, r⟩ := y
            cases hr : r.isEmpty with
            | false =>
              have e2 : quoted p t = [] := by unfold quoted; rw [if_pos hp, hd2]; show (if r.isEmpty = true then fin p q else []) = []; rw [hr]; rfl
              rw [e2]; exact hn_git_q_bad3 l w hs h hg p t q r htl hd hp hd2 hr
            | true =>
              have e2 : quoted p t = fin p q := by unfold quoted; rw [if_pos hp, hd2]; show (if r.isEmpty = true then fin p q else []) = fin p q; rw [hr]; rfl
              have hr0 : r = [] := List.isEmpty_iff.1 hr
              subst hr0
              rw [e2]; exact hn_git_quoted l w hs h hg p t q htl hd hp hd2
      | none =>
        have e : hn l = plain (l.drop 11) := by simp [hn, h, hg, hd]
        rw [e]
        have hsz : (⟨(l.drop 11).toArray⟩ : ByteArray).size = (l.drop 11).length := rfl
        by_cases hev : (l.drop 11).length % 2 = 0
        · have e2 : plain (l.drop 11) = [] := if_pos hev
          rw [e2]; exact hn_git_even l w hs h hg _ rfl hd (by rw [hsz]; exact hev)
        · have hk : (⟨(l.drop 11).toArray⟩ : ByteArray).size = 2 * ((l.drop 11).length / 2) + 1 := by rw [hsz]; omega
          have hkk : (l.drop 11).length / 2 < (⟨(l.drop 11).toArray⟩ : ByteArray).size := by rw [hsz]; omega
          have hgd : (l.drop 11).getD ((l.drop 11).length / 2) 0 = (⟨(l.drop 11).toArray⟩ : ByteArray)[(l.drop 11).length / 2] := by
            rw [List.getD_eq_getElem?_getD, List.getElem?_eq_getElem (by omega)]; rfl
          by_cases hc : (l.drop 11).getD ((l.drop 11).length / 2) 0 = 32
          · have e2 : plain (l.drop 11) = fin ((l.drop 11).take ((l.drop 11).length / 2)) ((l.drop 11).drop ((l.drop 11).length / 2 + 1)) := by
              unfold plain; rw [if_neg hev, if_pos hc]
            rw [e2]; exact hn_git_odd_sp l w hs h hg _ rfl hd _ hk hkk (by rw [← hgd]; exact hc)
          · have e2 : plain (l.drop 11) = [] := by unfold plain; rw [if_neg hev, if_neg hc]
            rw [e2]; exact hn_git_odd_no l w hs h hg _ rfl hd _ hk hkk (by rw [← hgd]; exact hc)

set_option maxHeartbeats 400000 in
/-- agent.ZZheadName, at every string within the law's bounds. -/
theorem headName_any (s : ByteArray) (w : World) (hs : s.size ≤ 1048700) :
    Calls Trym.prog 12 #[.string s] w fun e w' => e = .returned (.string ⟨(hn s.data.toList).toArray⟩) ∧ Below w.heap.size w w' := by
  have hc : Calls Trym.prog 17 #[.string s] w fun e w' => e = .returned (.string ⟨(hn s.data.toList).toArray⟩) ∧ Hid (Below w.heap.size w w') :=
    headName_list s.data.toList w (by simpa using hs)
  have HC : Hid (Calls Trym.prog 17 #[.string s] w fun e w' => e = .returned (.string ⟨(hn s.data.toList).toArray⟩) ∧ Hid (Below w.heap.size w w')) := hc
  clear hc
  go_enter Trym.func12, Trym.ntmps12
  go_wp2_with fail
  refine HC.out.mono ?_
  rintro e w' ⟨rfl, hb⟩
  go_wp2_with fail
  go_ret
  exact ⟨rfl, hb.out⟩

end Go.Proofs.Qxb6606332aMods.Head
