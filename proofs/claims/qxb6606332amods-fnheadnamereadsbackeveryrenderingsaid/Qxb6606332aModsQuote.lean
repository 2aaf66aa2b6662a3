import Derived.Test.Qxb6606332aModsUnq
import Derived.Test.Qxb6606332aModsPlain2
namespace Go.Proofs.Qxb6606332aMods.Quote
open Go.RowKit
open Go.Proofs.Qxb6606332aMods
open Go.Proofs.Qxb6606332aMods.Unq (bv info5)

/-- The escape letter of a byte, or 0. -/
def lf (n : Int) : Int :=
  if n == 34 then 34 else if n == 92 then 92 else if n == 7 then 97 else if n == 8 then 98 else if n == 12 then 102 else if n == 10 then 110
  else if n == 13 then 114 else if n == 9 then 116 else if n == 11 then 118 else 0

set_option maxHeartbeats 400000 in
theorem letterFor_any (n : Int) (w : World) :
    Calls Trym.prog 16 #[.int .u8 n] w fun e w' => e = .returned (.int .u8 (lf n)) ∧ w = w' := by
  go_enter Trym.func16, Trym.ntmps16
  go_wp2
  all_goals
    go_ret
    refine ⟨?_, rfl⟩
    unfold lf
    simp only [*, if_true, Bool.false_eq_true, if_false]
    rfl

theorem make_at (n : Nat) (hn : n ≤ 1048700) (w : World) :
    (Instr.makeSlice 30 (.int .i64 0) (.int .i64 (4 * (n : Int) + 2))).run Trym.prog w = .ok (.slice (some ⟨w.heap.size, 0, none⟩) 0 (4 * n + 2)) (w.alloc (.cells (madeCells #[.int .u8 0] (4 * n + 2)) 5)) := by
  obtain ⟨i0, hi, hz0, hz1, hz2⟩ := info_parts info5
  have h := run_make (P := Trym.prog) w 30 5 i0 (.int .u8 0) Trym.underlying30 hi hz0 .i64 .i64 0 (4 * (n : Int) + 2) (by omega) (by omega) (by rw [hz2]; omega) (by omega)
  rw [h, hz1, show (4 * (n : Int) + 2).toNat = 4 * n + 2 by omega]
  simp [Value.cells]

theorem lf_byte (c : UInt8) : lf (c.toNat : Int) = ((Plain.letterFor c).toNat : Int) := by
  have e : ∀ d : UInt8, (((c.toNat : Int)) == (d.toNat : Int)) = (c == d) := fun d => by
    rw [Bool.eq_iff_iff, beq_iff_eq, beq_iff_eq]
    exact ⟨fun h => UInt8.toNat_inj.1 (by omega), fun h => by rw [h]⟩
  have e34 := e 34; have e92 := e 92; have e7 := e 7; have e8 := e 8; have e12 := e 12; have e10 := e 10; have e13 := e 13; have e9 := e 9; have e11 := e 11
  unfold lf Plain.letterFor
  change ((c.toNat : Int) == 34) = _ at e34
  change ((c.toNat : Int) == 92) = _ at e92
  change ((c.toNat : Int) == 7) = _ at e7
  change ((c.toNat : Int) == 8) = _ at e8
  change ((c.toNat : Int) == 12) = _ at e12
  change ((c.toNat : Int) == 10) = _ at e10
  change ((c.toNat : Int) == 13) = _ at e13
  change ((c.toNat : Int) == 9) = _ at e9
  change ((c.toNat : Int) == 11) = _ at e11
  rw [e34, e92, e7, e8, e12, e10, e13, e9, e11]
  repeat' split
  all_goals rfl

/-- The call's own row holds acc; nothing old has turned. -/
def QRel (w : World) (v : Value) (acc : List UInt8) (wr : World) : Prop :=
  wr.ownsRow w.heap.size 5 1 v acc.length (acc.map bv) ∧ Below w.heap.size w wr

theorem q_start (w : World) (n : Nat) (hn : n ≤ 1048700) : QRel w (.slice (some ⟨w.heap.size, 0, none⟩) 0 (4 * n + 2)) [] (w.alloc (.cells (madeCells #[.int .u8 0] (4 * n + 2)) 5)) :=
  ⟨World.ownsRow_made w _ _ (Nat.le_refl _) (by unfold maxLen; omega) (by rw [size_madeCells]; omega), (Below.refl _ _).alloc (Nat.le_refl _) _⟩

theorem q_push {w : World} {v : Value} {acc : List UInt8} {wr : World} (h : QRel w v acc wr) (news : List UInt8) (m : Nat) (hm : news.length = m) {o : Obj} {v' : Value} {w1 : World}
    (hown : w1.ownsRow w.heap.size 5 1 v' (acc.length + m) (acc.map bv ++ news.map bv)) (hg : (wr.alloc o).grownBy w1 v.ownBlock) : QRel w v' (acc ++ news) w1 := by
  subst hm
  refine ⟨by simpa using hown, ?_⟩
  exact (h.2.alloc h.2.size _).grown hg (by have := h.2.size; simp; omega) (fun g hgb => (h.1.lt g hgb).1)

theorem one_cells (l : List UInt8) : ∀ u ∈ l.map bv, u.oneCell' = true := by
  intro u hu
  obtain ⟨c, _, rfl⟩ := List.mem_map.1 hu
  rfl

/-- Cells of a new block. -/
theorem news_at (w : World) (cs : List Value) (vs : List Value) (h : cs = vs) : ∀ j u, vs[j]? = some u → (w.alloc (.cells cs.toArray 5)).cell? ((⟨w.heap.size, 0, none⟩ : Addr).add j) = some u := by
  subst h
  intro j u hu
  have hb := heap_alloc_new w (.cells cs.toArray 5)
  have hadd : (⟨w.heap.size, 0, none⟩ : Addr).add j = ⟨w.heap.size, j, none⟩ := by unfold Addr.add; split <;> simp_all
  rw [hadd, World.cell?, hb]
  simpa using hu

theorem news_g (w : World) (g : Nat) (hg : g = w.heap.size) (cs : List Value) (vs : List Value) (h : cs = vs) : ∀ j u, vs[j]? = some u → (w.alloc (.cells cs.toArray 5)).cell? ((⟨g, 0, none⟩ : Addr).add j) = some u := by
  subst hg; exact news_at w cs vs h

theorem letterFor_byte (c : UInt8) (w : World) :
    Calls Trym.prog 16 #[.int .u8 (c.toNat : Int)] w fun e w' => e = .returned (.int .u8 ((Plain.letterFor c).toNat : Int)) ∧ w = w' := by
  rw [← lf_byte]; exact letterFor_any _ w

theorem take_step (s : ByteArray) (all : Bool) (k : Nat) (h : k < s.size) : (34 :: ((s.data.toList.take k).flatMap (Plain.qb all))) ++ Plain.qb all s[k] = 34 :: ((s.data.toList.take (k + 1)).flatMap (Plain.qb all)) := by
  rw [List.take_succ_eq_append_getElem (by simpa using h), List.flatMap_append]
  simp
  rfl

theorem and7 : ∀ a : Fin 256, bits BinOp.and IntKind.u8 (a.val : Int) 7 = ((a.val % 8 : Nat) : Int) := by decide +kernel

theorem oct_cells (c : UInt8) : [Value.int .u8 92, Value.int .u8 ((48 + (c.toNat : Int) / 64) % 256), Value.int .u8 ((48 + bits BinOp.and IntKind.u8 ((c.toNat : Int) / 8) 7) % 256), Value.int .u8 ((48 + bits BinOp.and IntKind.u8 (c.toNat : Int) 7) % 256)] = (Plain.oct3 c).map bv := by
  have hc := c.toNat_lt
  have a1 := and7 ⟨c.toNat, by omega⟩
  have a2 := and7 ⟨c.toNat / 8, by omega⟩
  have b1 : bits BinOp.and IntKind.u8 (c.toNat : Int) 7 = ((c.toNat % 8 : Nat) : Int) := a1
  have b2 : bits BinOp.and IntKind.u8 ((c.toNat : Int) / 8) 7 = ((c.toNat / 8 % 8 : Nat) : Int) := a2
  have e1 := Plain.toNat_small (48 + c.toNat / 64) (by omega)
  have e2 := Plain.toNat_small (48 + c.toNat / 8 % 8) (by omega)
  have e3 := Plain.toNat_small (48 + c.toNat % 8) (by omega)
  simp only [Plain.oct3, List.map_cons, List.map_nil, bv, e1, e2, e3, b1, b2]
  congr 1
  congr 1
  · congr 1; omega
  congr 1
  · congr 1; omega
  congr 1
  · congr 1; omega

theorem way_of (all : Bool) (c : UInt8) (h : Plain.inOct all c = true) : all = true ∨ (all = false ∧ Plain.letterFor c = 0 ∧ c.toNat < 32) ∨ (all = false ∧ Plain.letterFor c = 0 ∧ ¬ c.toNat < 32 ∧ 127 ≤ c.toNat) := by
  cases all with
  | true => exact .inl rfl
  | false =>
    simp only [Plain.inOct, Bool.false_or, Bool.and_eq_true, Bool.or_eq_true, beq_iff_eq, decide_eq_true_eq] at h
    by_cases h1 : c.toNat < 32
    · exact .inr (.inl ⟨rfl, h.1, h1⟩)
    · exact .inr (.inr ⟨rfl, h.1, h1, by omega⟩)

theorem way_no (all : Bool) (c : UInt8) (h : ¬ Plain.inOct all c = true) : all = false ∧ ((Plain.letterFor c ≠ 0) ∨ (Plain.letterFor c = 0 ∧ ¬ c.toNat < 32 ∧ ¬ 127 ≤ c.toNat)) := by
  cases all with
  | true => exact absurd rfl h
  | false =>
    simp only [Plain.inOct, Bool.false_or, Bool.and_eq_true, Bool.or_eq_true, beq_iff_eq, decide_eq_true_eq] at h
    refine ⟨rfl, ?_⟩
    by_cases h1 : Plain.letterFor c = 0
    · exact .inr ⟨h1, fun a => h ⟨h1, .inl a⟩, fun a => h ⟨h1, .inr a⟩⟩
    · exact .inl h1

theorem qb_oct {all : Bool} {c : UInt8} (h : Plain.inOct all c = true) : Plain.qb all c = Plain.oct3 c := by unfold Plain.qb; rw [if_pos h]
theorem qb_plain {all : Bool} {c : UInt8} (h : ¬ Plain.inOct all c = true) (hl : Plain.letterFor c = 0) : Plain.qb all c = [c] := by unfold Plain.qb; rw [if_neg h, hl]; rfl
theorem qb_letter {all : Bool} {c : UInt8} (h : ¬ Plain.inOct all c = true) (hl : Plain.letterFor c ≠ 0) : Plain.qb all c = [92, Plain.letterFor c] := by
  unfold Plain.qb; rw [if_neg h, if_neg (by simpa using hl)]

theorem q_next {s : ByteArray} {all : Bool} {k : Nat} {w : World} {v' : Value} {acc news : List UInt8} {w1 : World} (h : k < s.size) (hg : 34 :: ((s.data.toList.take k).flatMap (Plain.qb all)) = acc) (hq : Plain.qb all s[k] = news)
    (hR : QRel w v' (acc ++ news) w1) : QRel w v' (34 :: ((s.data.toList.take (k + 1)).flatMap (Plain.qb all))) w1 := by
  rw [← take_step s all k h, hg, hq]; exact hR

theorem q_done {s : ByteArray} {all : Bool} {k : Nat} {acc : List UInt8} (h : ¬ k < s.size) (hg : 34 :: ((s.data.toList.take k).flatMap (Plain.qb all)) = acc) : acc ++ [34] = Plain.quote all s.data.toList := by
  rw [← hg, List.take_of_length_le (by simp; omega)]
  simp [Plain.quote]

set_option maxRecDepth 100000 in
set_option maxHeartbeats 2000000 in
theorem quote_any (s : ByteArray) (all : Bool) (w : World) (hs : s.size ≤ 65600) :
    Calls Trym.prog 9 #[.string s, .bool all] w fun e w' => e = .returned (.string ⟨(Plain.quote all s.data.toList).toArray⟩) ∧ Below w.heap.size w w' := by
  obtain ⟨i0, hi, hz0, hz1, hz2⟩ := info_parts info5
  have hmk := make_at s.size (by omega)
  have HQ : Hid (QRel w (.slice (some ⟨w.heap.size, 0, none⟩) 0 (4 * s.size + 2)) [] (w.alloc (.cells (madeCells #[.int .u8 0] (4 * s.size + 2)) 5))) := q_start w s.size (by omega)
  go_enter Trym.func9, Trym.ntmps9
  go_wp2_with (at_builtin; refine wpList_append_own _ rfl (.tmp 14) (.tmp 15) 30 rfl w.heap.size 5 i0 (.int .u8 0) 1 1 Trym.underlying30 hi hz0 hz1 hz2 rfl (by decide) _ _ _ rfl (HQ.out.1.alloc _) ⟨w.heap.size + 1, 0, none⟩ 1 1 (([34] : List UInt8).map bv) rfl rfl ?c1 ?c2 ?c3 ?c4 ?c5 ?_)
  case c1 => exact news_g _ _ (by simp) [bv 34] _ rfl
  case c2 => exact one_cells _
  case c3 => unfold maxLen; simp
  case c4 => simp
  case c5 => simp; omega
  intro v' w1 hown' hgrow _
  have R : Hid (QRel w v' ([] ++ [34]) w1) := q_push HQ.out [34] 1 rfl hown' hgrow
  clear hown' hgrow HQ hmk
  go_wp2
  go_loopw [5, 6] (fun v i wr => ∃ (k : Nat), k ≤ s.size ∧ i = .int .i64 k ∧ Hid (QRel w v (34 :: ((s.data.toList.take k).flatMap (Plain.qb all))) wr)) (fun _ i _ => s.size - (intOf i).toNat)
  case atStart => exact ⟨0, Nat.zero_le _, rfl, R⟩
  case round =>
    obtain ⟨k, hk, rfl, hQ⟩ := hrel
    have hacc : (34 :: ((s.data.toList.take k).flatMap (Plain.qb all))).length ≤ 4 * k + 1 := by
      have h1 := Plain.flat_len all (s.data.toList.take k)
      have h2 := List.length_take_le k s.data.toList
      simp only [List.length_cons]; omega
    generalize hgen : 34 :: ((s.data.toList.take k).flatMap (Plain.qb all)) = acc at hQ hacc
    have HG : Hid (34 :: ((s.data.toList.take k).flatMap (Plain.qb all)) = acc) := hgen
    clear hgen R
    by_cases hlt : k < s.size
    · go_wp2_with fail
      refine (letterFor_byte _ _).mono ?_
      rintro e w' ⟨rfl, rfl⟩
      by_cases hin : Plain.inOct all s[k] = true
      · have HI : Hid (Plain.inOct all s[k] = true) := hin
        rcases way_of all s[k] hin with rfl | ⟨rfl, h1, h2⟩ | ⟨rfl, h1, h2, h3⟩
        · clear hin
          go_wp2_with (at_builtin; refine wpList_append_own _ rfl (.tmp 41) (.tmp 52) 30 rfl w.heap.size 5 i0 (.int .u8 0) 1 1 Trym.underlying30 hi hz0 hz1 hz2 rfl (by decide) _ _ _ rfl (hQ.out.1.alloc _) ⟨wr.heap.size, 0, none⟩ 4 4 ((Plain.oct3 s[k]).map bv) rfl rfl ?a1 ?a2 ?a3 ?a4 ?a5 ?_)
          case a1 => exact news_g _ _ rfl _ _ (oct_cells s[k])
          case a2 => exact one_cells _
          case a3 => unfold maxLen; omega
          case a4 => omega
          case a5 => have := hQ.out.2.size; simp; omega
          intro v2 w2 hown' hgrow _
          have R2 : Hid (QRel w v2 (acc ++ Plain.oct3 s[k]) w2) := q_push hQ.out (Plain.oct3 s[k]) 4 rfl hown' hgrow
          clear hown' hgrow hQ
          go_wp2
          go_roundw
          case rel => exact ⟨k + 1, by omega, by go_num, q_next hlt HG.out (qb_oct HI.out) R2.out⟩
          case measure => simp [intOf]; omega
        · clear hin
          have hL : (((Plain.letterFor s[k]).toNat : Int) == 0) = true := by rw [h1]; rfl
          clear h1
          have g2 : decide ((s[k].toNat : Int) < 32) = true := by simp; omega
          clear h2
          go_wp2_with (at_builtin; refine wpList_append_own _ rfl (.tmp 41) (.tmp 52) 30 rfl w.heap.size 5 i0 (.int .u8 0) 1 1 Trym.underlying30 hi hz0 hz1 hz2 rfl (by decide) _ _ _ rfl (hQ.out.1.alloc _) ⟨wr.heap.size, 0, none⟩ 4 4 ((Plain.oct3 s[k]).map bv) rfl rfl ?b1 ?b2 ?b3 ?b4 ?b5 ?_)
          case b1 => exact news_g _ _ rfl _ _ (oct_cells s[k])
          case b2 => exact one_cells _
          case b3 => unfold maxLen; omega
          case b4 => omega
          case b5 => have := hQ.out.2.size; simp; omega
          intro v2 w2 hown' hgrow _
          have R2 : Hid (QRel w v2 (acc ++ Plain.oct3 s[k]) w2) := q_push hQ.out (Plain.oct3 s[k]) 4 rfl hown' hgrow
          clear hown' hgrow hQ
          go_wp2
          go_roundw
          case rel => exact ⟨k + 1, by omega, by go_num, q_next hlt HG.out (qb_oct HI.out) R2.out⟩
          case measure => simp [intOf]; omega
        · clear hin
          have hL : (((Plain.letterFor s[k]).toNat : Int) == 0) = true := by rw [h1]; rfl
          clear h1
          have g2 : decide ((s[k].toNat : Int) < 32) = false := by simp; omega
          have g3 : decide ((127 : Int) ≤ (s[k].toNat : Int)) = true := by simp; omega
          clear h2 h3
          go_wp2_with (at_builtin; refine wpList_append_own _ rfl (.tmp 41) (.tmp 52) 30 rfl w.heap.size 5 i0 (.int .u8 0) 1 1 Trym.underlying30 hi hz0 hz1 hz2 rfl (by decide) _ _ _ rfl (hQ.out.1.alloc _) ⟨wr.heap.size, 0, none⟩ 4 4 ((Plain.oct3 s[k]).map bv) rfl rfl ?c1 ?c2 ?c3 ?c4 ?c5 ?_)
          case c1 => exact news_g _ _ rfl _ _ (oct_cells s[k])
          case c2 => exact one_cells _
          case c3 => unfold maxLen; omega
          case c4 => omega
          case c5 => have := hQ.out.2.size; simp; omega
          intro v2 w2 hown' hgrow _
          have R2 : Hid (QRel w v2 (acc ++ Plain.oct3 s[k]) w2) := q_push hQ.out (Plain.oct3 s[k]) 4 rfl hown' hgrow
          clear hown' hgrow hQ
          go_wp2
          go_roundw
          case rel => exact ⟨k + 1, by omega, by go_num, q_next hlt HG.out (qb_oct HI.out) R2.out⟩
          case measure => simp [intOf]; omega
      · have HI : Hid (¬ Plain.inOct all s[k] = true) := hin
        obtain ⟨rfl, hw⟩ := way_no all s[k] hin
        clear hin
        rcases hw with h1 | ⟨h1, h2, h3⟩
        · have H1 : Hid (Plain.letterFor s[k] ≠ 0) := h1
          have hL : (((Plain.letterFor s[k]).toNat : Int) == 0) = false := Unq.byte_ne _ 0 h1
          have hL2 : (((Plain.letterFor s[k]).toNat : Int) != 0) = true := Unq.byte_nne _ 0 h1
          clear h1
          go_wp2_with (at_builtin; refine wpList_append_own _ rfl (.tmp 56) (.tmp 58) 30 rfl w.heap.size 5 i0 (.int .u8 0) 1 1 Trym.underlying30 hi hz0 hz1 hz2 rfl (by decide) _ _ _ rfl (hQ.out.1.alloc _) ⟨wr.heap.size, 0, none⟩ 2 2 (([92, Plain.letterFor s[k]]).map bv) rfl rfl ?d1 ?d2 ?d3 ?d4 ?d5 ?_)
          case d1 => exact news_g _ _ rfl _ _ (rfl)
          case d2 => exact one_cells _
          case d3 => unfold maxLen; omega
          case d4 => omega
          case d5 => have := hQ.out.2.size; simp; omega
          intro v2 w2 hown' hgrow _
          have R2 : Hid (QRel w v2 (acc ++ [92, Plain.letterFor s[k]]) w2) := q_push hQ.out ([92, Plain.letterFor s[k]]) 2 rfl hown' hgrow
          clear hown' hgrow hQ
          go_wp2
          go_roundw
          case rel => exact ⟨k + 1, by omega, by go_num, q_next hlt HG.out (qb_letter HI.out H1.out) R2.out⟩
          case measure => simp [intOf]; omega
        · have H1 : Hid (Plain.letterFor s[k] = 0) := h1
          have hL : (((Plain.letterFor s[k]).toNat : Int) == 0) = true := Unq.byte_eq _ 0 h1
          have hL2 : (((Plain.letterFor s[k]).toNat : Int) != 0) = false := Unq.byte_neq _ 0 h1
          clear h1
          go_wp2_with (at_builtin; refine wpList_append_own _ rfl (.tmp 60) (.tmp 62) 30 rfl w.heap.size 5 i0 (.int .u8 0) 1 1 Trym.underlying30 hi hz0 hz1 hz2 rfl (by decide) _ _ _ rfl (hQ.out.1.alloc _) ⟨wr.heap.size, 0, none⟩ 1 1 (([s[k]]).map bv) rfl rfl ?e1 ?e2 ?e3 ?e4 ?e5 ?_)
          case e1 => exact news_g _ _ rfl _ _ (rfl)
          case e2 => exact one_cells _
          case e3 => unfold maxLen; omega
          case e4 => omega
          case e5 => have := hQ.out.2.size; simp; omega
          intro v2 w2 hown' hgrow _
          have R2 : Hid (QRel w v2 (acc ++ [s[k]]) w2) := q_push hQ.out ([s[k]]) 1 rfl hown' hgrow
          clear hown' hgrow hQ
          go_wp2
          go_roundw
          case rel => exact ⟨k + 1, by omega, by go_num, q_next hlt HG.out (qb_plain HI.out H1.out) R2.out⟩
          case measure => simp [intOf]; omega
    · go_wp2_with (at_builtin; refine wpList_append_own _ rfl (.tmp 64) (.tmp 65) 30 rfl w.heap.size 5 i0 (.int .u8 0) 1 1 Trym.underlying30 hi hz0 hz1 hz2 rfl (by decide) _ _ _ rfl (hQ.out.1.alloc _) ⟨wr.heap.size, 0, none⟩ 1 1 (([34]).map bv) rfl rfl ?f1 ?f2 ?f3 ?f4 ?f5 ?_)
      case f1 => exact news_g _ _ rfl _ _ (rfl)
      case f2 => exact one_cells _
      case f3 => unfold maxLen; omega
      case f4 => omega
      case f5 => have := hQ.out.2.size; simp; omega
      intro v2 w2 hown' hgrow _
      have R2 : Hid (QRel w v2 (acc ++ [34]) w2) := q_push hQ.out [34] 1 rfl hown' hgrow
      have kc := Unq.conv_own R2.out.1
      clear hown' hgrow hQ
      go_wp2
      go_ret
      exact ⟨by rw [← q_done hlt HG.out]; rfl, R2.out.2⟩
end Go.Proofs.Qxb6606332aMods.Quote
