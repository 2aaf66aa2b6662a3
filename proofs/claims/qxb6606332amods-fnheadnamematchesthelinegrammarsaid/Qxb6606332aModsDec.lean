import Derived.Test.Qxb6606332aModsUnq
namespace Go.Proofs.Qxb6606332aMods.Dec
open Go.RowKit
open Go.Proofs.Qxb6606332aMods
open Go.Proofs.Qxb6606332aMods.Unq (bv info5 conv_own own_drewN Ans drop_at extract_tail byte_eq byte_ne byte_nne byte_neq one_new)

def lt1 (n : Int) : Int :=
  if n == 34 then 34 else if n == 92 then 92 else if n == 97 then 7 else if n == 98 then 8 else if n == 102 then 12 else if n == 110 then 10
  else if n == 114 then 13 else if n == 116 then 9 else if n == 118 then 11 else 0

def lt2 (n : Int) : Bool :=
  if n == 34 then true else if n == 92 then true else if n == 97 then true else if n == 98 then true else if n == 102 then true else if n == 110 then true
  else if n == 114 then true else if n == 116 then true else if n == 118 then true else false

set_option maxHeartbeats 400000 in
theorem letter_any (n : Int) (w : World) :
    Calls Trym.prog 25 #[.int .u8 n] w fun e w' => e = .returned (.tuple #[.int .u8 (lt1 n), .bool (lt2 n)]) ∧ w = w' := by
  go_enter Trym.func25, Trym.ntmps25
  go_wp2
  all_goals
    go_ret2
    refine ⟨?_, rfl⟩
    unfold lt1 lt2
    simp only [*, if_true, Bool.false_eq_true, if_false]
    rfl

theorem lt_byte (c : UInt8) : (∃ e, Plain.letter c = some e ∧ lt1 (c.toNat : Int) = (e.toNat : Int) ∧ lt2 (c.toNat : Int) = true) ∨ (Plain.letter c = none ∧ lt2 (c.toNat : Int) = false) := by
  by_cases h0 : c = 34
  · subst h0; exact .inl ⟨_, rfl, rfl, rfl⟩
  by_cases h1 : c = 92
  · subst h1; exact .inl ⟨_, rfl, rfl, rfl⟩
  by_cases h2 : c = 97
  · subst h2; exact .inl ⟨_, rfl, rfl, rfl⟩
  by_cases h3 : c = 98
  · subst h3; exact .inl ⟨_, rfl, rfl, rfl⟩
  by_cases h4 : c = 102
  · subst h4; exact .inl ⟨_, rfl, rfl, rfl⟩
  by_cases h5 : c = 110
  · subst h5; exact .inl ⟨_, rfl, rfl, rfl⟩
  by_cases h6 : c = 114
  · subst h6; exact .inl ⟨_, rfl, rfl, rfl⟩
  by_cases h7 : c = 116
  · subst h7; exact .inl ⟨_, rfl, rfl, rfl⟩
  by_cases h8 : c = 118
  · subst h8; exact .inl ⟨_, rfl, rfl, rfl⟩
  have e : ∀ d : UInt8, c ≠ d → (c == d) = false := fun d hd => beq_eq_false_iff_ne.2 hd
  refine .inr ⟨?_, ?_⟩
  · simp only [Plain.letter, e _ h0, e _ h1, e _ h2, e _ h3, e _ h4, e _ h5, e _ h6, e _ h7, e _ h8]
    rfl
  · have e0 : ((c.toNat : Int) == 34) = false := byte_ne c 34 h0
    have e1 : ((c.toNat : Int) == 92) = false := byte_ne c 92 h1
    have e2 : ((c.toNat : Int) == 97) = false := byte_ne c 97 h2
    have e3 : ((c.toNat : Int) == 98) = false := byte_ne c 98 h3
    have e4 : ((c.toNat : Int) == 102) = false := byte_ne c 102 h4
    have e5 : ((c.toNat : Int) == 110) = false := byte_ne c 110 h5
    have e6 : ((c.toNat : Int) == 114) = false := byte_ne c 114 h6
    have e7 : ((c.toNat : Int) == 116) = false := byte_ne c 116 h7
    have e8 : ((c.toNat : Int) == 118) = false := byte_ne c 118 h8
    unfold lt2
    rw [e0, e1, e2, e3, e4, e5, e6, e7, e8]
    rfl

theorem letter_yes (c e : UInt8) (w : World) (h : Plain.letter c = some e) :
    Calls Trym.prog 25 #[.int .u8 (c.toNat : Int)] w fun r w' => r = .returned (.tuple #[.int .u8 (e.toNat : Int), .bool true]) ∧ w = w' :=
  (letter_any _ w).mono fun _ _ ⟨he, hw⟩ => by
    rcases lt_byte c with ⟨e', h1, h2, h3⟩ | ⟨h1, _⟩
    · rw [h] at h1; obtain rfl := Option.some.inj h1
      exact ⟨by rw [he, h2, h3], hw⟩
    · rw [h] at h1; cases h1

theorem letter_no (c : UInt8) (w : World) (h : Plain.letter c = none) :
    Calls Trym.prog 25 #[.int .u8 (c.toNat : Int)] w fun r w' => ∃ x, r = .returned (.tuple #[.int .u8 x, .bool false]) ∧ w = w' :=
  (letter_any _ w).mono fun _ _ ⟨he, hw⟩ => by
    rcases lt_byte c with ⟨e', h1, _⟩ | ⟨_, h2⟩
    · rw [h] at h1; cases h1
    · exact ⟨_, by rw [he, h2], hw⟩

theorem make_at (n : Nat) (hn : n ≤ 1048700) (w : World) :
    (Instr.makeSlice 30 (.int .i64 0) (.int .i64 (n : Int))).run Trym.prog w = .ok (.slice (some ⟨w.heap.size, 0, none⟩) 0 n) (w.alloc (.cells (madeCells #[.int .u8 0] n) 5)) := by
  obtain ⟨i0, hi, hz0, hz1, hz2⟩ := info_parts info5
  have h := run_make (P := Trym.prog) w 30 5 i0 (.int .u8 0) Trym.underlying30 hi hz0 .i64 .i64 0 (n : Int) (by omega) (by omega) (by rw [hz2]; omega) (by omega)
  rw [h, hz1, Int.toNat_natCast]
  simp [Value.cells]

/-- The byte that the third digit closes. -/
def octB (vv : Nat) (c : UInt8) : UInt8 := (vv * 8 + (c.toNat - 48)).toUInt8

theorem octB_val (vv : Nat) (c : UInt8) (h1 : 48 ≤ c.toNat) (h2 : c.toNat ≤ 55) (h3 : vv ≤ 31) : Value.int .u8 ((vv : Int) * 8 + ((c.toNat : Int) - 48)) = bv (octB vv c) := by
  have hm : (vv * 8 + (c.toNat - 48)) % 256 = vv * 8 + (c.toNat - 48) := Nat.mod_eq_of_lt (by omega)
  have e : (octB vv c).toNat = vv * 8 + (c.toNat - 48) := by
    unfold octB; rw [Nat.toUInt8_eq, UInt8.toNat_ofNat']; exact hm
  unfold bv
  rw [e]
  congr 1
  omega

/-- The loop's relation. -/
def Rel (s : ByteArray) (w : World) (v : Value) (k st vv : Nat) (acc : List UInt8) (wr : World) : Prop :=
  acc.length ≤ k ∧ wr.ownsRow w.heap.size 5 1 v acc.length (acc.map bv) ∧ Below w.heap.size w wr ∧ Plain.dec s.data.toList = Plain.auto (s.data.toList.drop k) st vv acc

theorem rel_start (s : ByteArray) (w : World) (hs : s.size ≤ 1048700) (hz : 0 < s.size) (h : s[0] = 34) :
    Rel s w (.slice (some ⟨w.heap.size, 0, none⟩) 0 s.size) 1 0 0 [] (w.alloc (.cells (madeCells #[.int .u8 0] s.size) 5)) := by
  refine ⟨by simp, World.ownsRow_made w _ _ (Nat.le_refl _) (by unfold maxLen; omega) (by rw [size_madeCells]; omega), (Below.refl _ _).alloc (Nat.le_refl _) _, ?_⟩
  have e := drop_at s 0 hz
  rw [List.drop_zero, h] at e
  rw [e]; rfl

theorem rel_push {s : ByteArray} {w : World} {v : Value} {k k' st st' vv vv' : Nat} {acc : List UInt8} {wr : World} (h : Rel s w v k st vv acc wr) (c : UInt8) (hk : k < k')
    (hd : Plain.auto (s.data.toList.drop k) st vv acc = Plain.auto (s.data.toList.drop k') st' vv' (acc ++ [c])) {o : Obj} {v' : Value} {w1 : World}
    (hown : w1.ownsRow w.heap.size 5 1 v' (acc.length + 1) (acc.map bv ++ [bv c])) (hg : (wr.alloc o).grownBy w1 v.ownBlock) : Rel s w v' k' st' vv' (acc ++ [c]) w1 := by
  refine ⟨?_, ?_, ?_, ?_⟩
  · have := h.1; simp; omega
  · simpa using hown
  · exact (h.2.2.1.alloc h.2.2.1.size _).grown hg (by have := h.2.2.1.size; simp; omega) (fun g hgb => (h.2.1.lt g hgb).1)
  · rw [h.2.2.2, hd]

theorem rel_step {s : ByteArray} {w : World} {v : Value} {k k' st st' vv vv' : Nat} {acc : List UInt8} {wr : World} (h : Rel s w v k st vv acc wr) (hk : k < k')
    (hd : Plain.auto (s.data.toList.drop k) st vv acc = Plain.auto (s.data.toList.drop k') st' vv' acc) : Rel s w v k' st' vv' acc wr :=
  ⟨by have := h.1; omega, h.2.1, h.2.2.1, by rw [h.2.2.2, hd]⟩

theorem rel_end {s : ByteArray} {w : World} {v : Value} {k st vv : Nat} {acc : List UInt8} {wr : World} (h : Rel s w v k st vv acc wr) (hd : Plain.auto (s.data.toList.drop k) st vv acc = none) :
    Ans (Plain.dec s.data.toList) w (.returned (.tuple #[.string ⟨#[]⟩, .string ⟨#[]⟩, .bool false])) wr := by
  rw [h.2.2.2, hd]
  exact ⟨rfl, h.2.2.1⟩

theorem ans_quote {s : ByteArray} {w : World} {v : Value} {k vv : Nat} {acc : List UInt8} {wr : World} (h : Rel s w v k 0 vv acc wr) (hlt : k < s.size) (hc : s[k] = 34) (q : Nat) :
    Ans (Plain.dec s.data.toList) w (.returned (.tuple #[.string ⟨acc.toArray⟩, .string (s.extract (k + 1) s.size), .bool true])) (wr.drewN q) := by
  rw [h.2.2.2, drop_at s k hlt, hc, Plain.auto_quote, extract_tail]
  exact ⟨rfl, below_drewN h.2.2.1 q⟩

theorem end_all {s : ByteArray} {k st vv : Nat} {acc : List UInt8} (h : ¬ k < s.size) : Plain.auto (s.data.toList.drop k) st vv acc = none := by
  rw [List.drop_of_length_le (by simp; omega)]; rfl

set_option maxRecDepth 100000 in
set_option maxHeartbeats 400000 in
theorem dec_nil (s : ByteArray) (w : World) (hz : s.size = 0) :
    Calls Trym.prog 19 #[.string s] w (Ans none w) := by
  have hb : ((s.size : Int) == 0) = true := by rw [hz]; rfl
  go_enter Trym.func19, Trym.ntmps19
  go_wp2_with fail
  go_ret3
  exact ⟨rfl, Below.refl _ _⟩

set_option maxRecDepth 100000 in
set_option maxHeartbeats 400000 in
theorem dec_no (s : ByteArray) (w : World) (hz : 0 < s.size) (h : s[0] ≠ 34) :
    Calls Trym.prog 19 #[.string s] w (Ans none w) := by
  have hb : ((s.size : Int) == 0) = false := by rw [beq_eq_false_iff_ne]; omega
  have hb2 : ((s[0].toNat : Int) != 34) = true := byte_nne _ 34 h
  clear h
  go_enter Trym.func19, Trym.ntmps19
  go_wp2_with fail
  go_ret3
  exact ⟨rfl, Below.refl _ _⟩

set_option maxRecDepth 100000 in
set_option maxHeartbeats 2000000 in
theorem dec_yes (s : ByteArray) (w : World) (hs : s.size ≤ 1048700) (hz : 0 < s.size) (h : s[0] = 34) :
    Calls Trym.prog 19 #[.string s] w (Ans (Plain.dec s.data.toList) w) := by
  obtain ⟨i0, hi, hz0, hz1, hz2⟩ := info_parts info5
  have hb : ((s.size : Int) == 0) = false := by rw [beq_eq_false_iff_ne]; omega
  have hb2 : ((s[0].toNat : Int) != 34) = false := byte_neq _ 34 h
  have HR : Hid (Rel s w (.slice (some ⟨w.heap.size, 0, none⟩) 0 s.size) 1 0 0 [] (w.alloc (.cells (madeCells #[.int .u8 0] s.size) 5))) := rel_start s w hs hz h
  have hmk := make_at s.size hs
  clear h
  go_enter Trym.func19, Trym.ntmps19
  go_wp2_with fail
  go_loopw [2, 3, 4, 5, 6, 7, 8] (fun r0 r1 r2 v sv nv i wr => ∃ (k st vv : Nat) (acc : List UInt8), 1 ≤ k ∧ k ≤ s.size ∧ i = .int .i64 k ∧ r0 = .string ⟨#[]⟩ ∧ r1 = .string ⟨#[]⟩ ∧ r2 = .bool false ∧ sv = .int .i64 st ∧ nv = .int .i64 vv ∧ vv ≤ 255 ∧ st ≤ 3 ∧ (st = 2 → vv ≤ 3) ∧ (st = 3 → vv ≤ 31) ∧ Hid (Rel s w v k st vv acc wr)) (fun _ _ _ _ _ _ i _ => s.size - (intOf i).toNat)
  case atStart => exact ⟨1, 0, 0, [], Nat.le_refl _, by omega, rfl, rfl, rfl, rfl, rfl, rfl, by omega, by omega, by omega, by omega, HR.out⟩
  case round =>
    obtain ⟨k, st, vv, acc, hk1, hk, rfl, rfl, rfl, rfl, rfl, rfl, hv, hst, hv2, hv3, hR⟩ := hrel
    clear HR hmk
    by_cases hlt : k < s.size
    · obtain rfl | rfl | rfl | rfl : st = 0 ∨ st = 1 ∨ st = 2 ∨ st = 3 := by omega
      · by_cases h34 : s[k] = 34
        · have hc1 : ((s[k].toNat : Int) == 34) = true := byte_eq _ 34 h34
          have H34 : Hid (s[k] = 34) := h34
          clear h34
          have kc := fun q => conv_own (own_drewN hR.out.2.1 q)
          go_wp2_with fail
          go_quiet (fail)
          go_wp2
          go_ret3
          exact ans_quote hR.out hlt H34.out _
        · have hc1 : ((s[k].toNat : Int) == 34) = false := byte_ne _ 34 h34
          have H34 : Hid (s[k] ≠ 34) := h34
          clear h34
          by_cases h92 : s[k] = 92
          · have hc2 : ((s[k].toNat : Int) == 92) = true := byte_eq _ 92 h92
            have H92 : Hid (s[k] = 92) := h92
            clear h92
            have R2 : Hid (Rel s w _ (k + 1) 1 (vv) acc wr) := rel_step hR.out (by omega) (by rw [drop_at s k hlt, H92.out, Plain.auto_back])
            clear hR
            go_wp2_with fail
            go_roundw
            case rel => exact ⟨k + 1, 1, vv, _, by omega, by omega, by go_num, rfl, rfl, rfl, by go_num, by go_num, by omega, by omega, by omega, by omega, R2⟩
            case measure => simp [intOf]; omega
          · have hc2 : ((s[k].toNat : Int) == 92) = false := byte_ne _ 92 h92
            have H92 : Hid (s[k] ≠ 92) := h92
            clear h92
            go_wp2_with (at_builtin; refine wpList_append_own _ rfl (.tmp 44) (.tmp 46) 30 rfl w.heap.size 5 i0 (.int .u8 0) 1 1 Trym.underlying30 hi hz0 hz1 hz2 rfl (by decide) _ _ _ rfl (hR.out.2.1.alloc _) ⟨wr.heap.size, 0, none⟩ 1 1 [bv (s[k])] rfl rfl ?a1 ?a2 ?a3 ?a4 ?a5 ?_)
            case a1 => exact one_new wr _ _ (rfl)
            case a2 => intro u hu; simp at hu; subst hu; rfl
            case a3 => have := hR.out.1; unfold maxLen; omega
            case a4 => have := hR.out.1; omega
            case a5 => have := hR.out.2.2.1.size; simp; omega
            intro v2 w2 hown' hgrow _
            have R2 : Hid (Rel s w v2 (k + 1) 0 (vv) (acc ++ [s[k]]) w2) := rel_push hR.out (s[k]) (by omega) (by rw [drop_at s k hlt, Plain.auto_plain _ _ _ _ H34.out H92.out]) hown' hgrow
            clear hown' hgrow hR
            go_wp2
            go_roundw
            case rel => exact ⟨k + 1, 0, vv, _, by omega, by omega, by go_num, rfl, rfl, rfl, by go_num, by go_num, by omega, by omega, by omega, by omega, R2⟩
            case measure => simp [intOf]; omega
      · cases hlet : Plain.letter s[k] with
        | some e =>
          have Hlet : Hid (Plain.letter s[k] = some e) := hlet
          clear hlet
          go_wp2_with fail
          refine (letter_yes _ e _ Hlet.out).mono ?_
          rintro r w1 ⟨rfl, rfl⟩
          go_wp2_with (at_builtin; refine wpList_append_own _ rfl (.tmp 56) (.tmp 58) 30 rfl w.heap.size 5 i0 (.int .u8 0) 1 1 Trym.underlying30 hi hz0 hz1 hz2 rfl (by decide) _ _ _ rfl (hR.out.2.1.alloc _) ⟨wr.heap.size, 0, none⟩ 1 1 [bv (e)] rfl rfl ?b1 ?b2 ?b3 ?b4 ?b5 ?_)
          case b1 => exact one_new wr _ _ (rfl)
          case b2 => intro u hu; simp at hu; subst hu; rfl
          case b3 => have := hR.out.1; unfold maxLen; omega
          case b4 => have := hR.out.1; omega
          case b5 => have := hR.out.2.2.1.size; simp; omega
          intro v2 w2 hown' hgrow _
          have R2 : Hid (Rel s w v2 (k + 1) 0 (vv) (acc ++ [e]) w2) := rel_push hR.out (e) (by omega) (by rw [drop_at s k hlt, Plain.auto_letter _ _ _ _ _ Hlet.out]) hown' hgrow
          clear hown' hgrow hR
          go_wp2
          go_roundw
          case rel => exact ⟨k + 1, 0, vv, _, by omega, by omega, by go_num, rfl, rfl, rfl, by go_num, by go_num, by omega, by omega, by omega, by omega, R2⟩
          case measure => simp [intOf]; omega
        | none =>
          have Hlet : Hid (Plain.letter s[k] = none) := hlet
          clear hlet
          go_wp2_with fail
          refine (letter_no _ _ Hlet.out).mono ?_
          rintro r w1 ⟨x, rfl, rfl⟩
          by_cases ho1 : 48 ≤ s[k].toNat
          · by_cases ho2 : s[k].toNat ≤ 51
            · have g1 : decide ((48 : Int) ≤ (s[k].toNat : Int)) = true := by simp; omega
              have g2 : decide ((s[k].toNat : Int) ≤ 51) = true := by simp; omega
              have R2 : Hid (Rel s w _ (k + 1) 2 (s[k].toNat - 48) acc wr) := rel_step hR.out (by omega) (by rw [drop_at s k hlt, Plain.auto_oct1 _ _ _ _ Hlet.out ⟨ho1, ho2⟩])
              clear hR
              go_wp2_with fail
              go_roundw
              case rel => exact ⟨k + 1, 2, s[k].toNat - 48, _, by omega, by omega, by go_num, rfl, rfl, rfl, by go_num, by go_num, by omega, by omega, by omega, by omega, R2⟩
              case measure => simp [intOf]; omega
            · have g1 : decide ((48 : Int) ≤ (s[k].toNat : Int)) = true := by simp; omega
              have g2 : decide ((s[k].toNat : Int) ≤ 51) = false := by simp; omega
              go_wp2_with fail
              go_ret3
              exact rel_end hR.out (by rw [drop_at s k hlt, Plain.auto_bad1 _ _ _ _ Hlet.out (by omega)])
          · have g1 : decide ((48 : Int) ≤ (s[k].toNat : Int)) = false := by simp; omega
            go_wp2_with fail
            go_ret3
            exact rel_end hR.out (by rw [drop_at s k hlt, Plain.auto_bad1 _ _ _ _ Hlet.out (by omega)])
      · by_cases ho : s[k].toNat < 48 ∨ 55 < s[k].toNat
        · by_cases ho1 : s[k].toNat < 48
          · have g1 : decide ((s[k].toNat : Int) < 48) = true := by simp; omega
            go_wp2_with fail
            go_ret3
            exact rel_end hR.out (by rw [drop_at s k hlt, Plain.auto_bad2 _ _ _ _ _ (by omega) ho])
          · have g1 : decide ((s[k].toNat : Int) < 48) = false := by simp; omega
            have g2 : decide ((55 : Int) < (s[k].toNat : Int)) = true := by simp; omega
            go_wp2_with fail
            go_ret3
            exact rel_end hR.out (by rw [drop_at s k hlt, Plain.auto_bad2 _ _ _ _ _ (by omega) ho])
        · have g1 : decide ((s[k].toNat : Int) < 48) = false := by simp; omega
          have g2 : decide ((55 : Int) < (s[k].toNat : Int)) = false := by simp; omega
          have hlo : 48 ≤ s[k].toNat := by omega
          have hhi : s[k].toNat ≤ 55 := by omega
          have HO : Hid (¬ (s[k].toNat < 48 ∨ 55 < s[k].toNat)) := ho
          clear ho
          have hv22 : vv ≤ 3 := hv2 rfl
          clear hv2 hv3
          have R2 : Hid (Rel s w _ (k + 1) 3 (vv * 8 + (s[k].toNat - 48)) acc wr) := rel_step hR.out (by omega) (by rw [drop_at s k hlt, Plain.auto_oct2 _ _ _ _ HO.out])
          clear hR
          go_wp2_with fail
          go_roundw
          case rel => exact ⟨k + 1, 3, vv * 8 + (s[k].toNat - 48), _, by omega, by omega, by go_num, rfl, rfl, rfl, by go_num, by go_num, by omega, by omega, by omega, by omega, R2⟩
          case measure => simp [intOf]; omega
      · by_cases ho : s[k].toNat < 48 ∨ 55 < s[k].toNat
        · by_cases ho1 : s[k].toNat < 48
          · have g1 : decide ((s[k].toNat : Int) < 48) = true := by simp; omega
            go_wp2_with fail
            go_ret3
            exact rel_end hR.out (by rw [drop_at s k hlt, Plain.auto_bad2 _ _ _ _ _ (by omega) ho])
          · have g1 : decide ((s[k].toNat : Int) < 48) = false := by simp; omega
            have g2 : decide ((55 : Int) < (s[k].toNat : Int)) = true := by simp; omega
            go_wp2_with fail
            go_ret3
            exact rel_end hR.out (by rw [drop_at s k hlt, Plain.auto_bad2 _ _ _ _ _ (by omega) ho])
        · have g1 : decide ((s[k].toNat : Int) < 48) = false := by simp; omega
          have g2 : decide ((55 : Int) < (s[k].toNat : Int)) = false := by simp; omega
          have hlo : 48 ≤ s[k].toNat := by omega
          have hhi : s[k].toNat ≤ 55 := by omega
          have HO : Hid (¬ (s[k].toNat < 48 ∨ 55 < s[k].toNat)) := ho
          clear ho
          have hv33 : vv ≤ 31 := hv3 rfl
          clear hv2 hv3
          go_wp2_with (at_builtin; refine wpList_append_own _ rfl (.tmp 83) (.tmp 86) 30 rfl w.heap.size 5 i0 (.int .u8 0) 1 1 Trym.underlying30 hi hz0 hz1 hz2 rfl (by decide) _ _ _ rfl (hR.out.2.1.alloc _) ⟨wr.heap.size, 0, none⟩ 1 1 [bv (octB vv s[k])] rfl rfl ?c1 ?c2 ?c3 ?c4 ?c5 ?_)
          case c1 => exact one_new wr _ _ (octB_val vv s[k] hlo hhi hv33)
          case c2 => intro u hu; simp at hu; subst hu; rfl
          case c3 => have := hR.out.1; unfold maxLen; omega
          case c4 => have := hR.out.1; omega
          case c5 => have := hR.out.2.2.1.size; simp; omega
          intro v2 w2 hown' hgrow _
          have R2 : Hid (Rel s w v2 (k + 1) 0 (vv * 8 + (s[k].toNat - 48)) (acc ++ [octB vv s[k]]) w2) := rel_push hR.out (octB vv s[k]) (by omega) (by rw [drop_at s k hlt, Plain.auto_oct3 _ _ _ _ HO.out]; rfl) hown' hgrow
          clear hown' hgrow hR
          go_wp2
          go_roundw
          case rel => exact ⟨k + 1, 0, vv * 8 + (s[k].toNat - 48), _, by omega, by omega, by go_num, rfl, rfl, rfl, by go_num, by go_num, by omega, by omega, by omega, by omega, R2⟩
          case measure => simp [intOf]; omega
    · go_wp2_with fail
      go_ret3
      exact rel_end hR.out (end_all hlt)
theorem dec_of_nil (s : ByteArray) (h : s.size = 0) : Plain.dec s.data.toList = none := by
  have : s.data.toList = [] := List.eq_nil_of_length_eq_zero (by simpa using h)
  rw [this]; rfl

theorem dec_of_no (s : ByteArray) (hz : 0 < s.size) (h : s[0] ≠ 34) : Plain.dec s.data.toList = none := by
  have e := drop_at s 0 hz
  rw [List.drop_zero] at e
  rw [e]
  have hc : (s[0] == 34) = false := beq_eq_false_iff_ne.2 h
  unfold Plain.dec
  simp only [hc]
  rfl

/-- zzDecode, at every string within the law's bounds. -/
theorem dec_any (s : ByteArray) (w : World) (hs : s.size ≤ 1048700) : Calls Trym.prog 19 #[.string s] w (Ans (Plain.dec s.data.toList) w) := by
  by_cases hz : s.size = 0
  · rw [dec_of_nil s hz]; exact dec_nil s w hz
  · have hz' : 0 < s.size := by omega
    by_cases h : s[0] = 34
    · exact dec_yes s w hs hz' h
    · rw [dec_of_no s hz' h]; exact dec_no s w hz' h

theorem dec_some (s : ByteArray) (w : World) (hs : s.size ≤ 1048700) {p r : List UInt8} (h : Plain.dec s.data.toList = some (p, r)) :
    Calls Trym.prog 19 #[.string s] w fun e w' => e = .returned (.tuple #[.string ⟨p.toArray⟩, .string ⟨r.toArray⟩, .bool true]) ∧ Hid (Below w.heap.size w w') :=
  (dec_any s w hs).mono fun _ _ ha => by rw [h] at ha; exact ha

theorem dec_none (s : ByteArray) (w : World) (hs : s.size ≤ 1048700) (h : Plain.dec s.data.toList = none) :
    Calls Trym.prog 19 #[.string s] w fun e w' => e = .returned (.tuple #[.string ⟨#[]⟩, .string ⟨#[]⟩, .bool false]) ∧ Hid (Below w.heap.size w w') :=
  (dec_any s w hs).mono fun _ _ ha => by rw [h] at ha; exact ha

end Go.Proofs.Qxb6606332aMods.Dec
