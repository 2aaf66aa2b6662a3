import Derived.Test.Qxb6606332aModsRows
import Derived.Test.Qxb6606332aModsShelf
import Derived.Test.Qxb6606332aModsPlain
import Derived.WalkKit
import Derived.WalkSpells
import Derived.WalkLawsBesides
import Derived.Deep.QuietTactic
import Derived.BigQuiet
import Derived.Deep.RegionHeld3
import Derived.Deep.AppendLies
namespace Go.Proofs.Qxb6606332aMods.Unq
open Go.RowKit
open Go.Proofs.Qxb6606332aMods

theorem info5 : (Trym.prog.info? 5).map (fun i => (i.zero, i.size, i.bytes)) = some (some (Value.int IntKind.u8 0), 1, 1) := by kernel_rfl

/-- A byte as a cell. -/
def bv (c : UInt8) : Value := .int .u8 (c.toNat : Int)

/-- 'string(b)' of a slice of the call's own. -/
theorem conv_own {w : World} {B : Nat} {v : Value} {acc : List UInt8} (h : w.ownsRow B 5 1 v acc.length (acc.map bv)) :
    (convert 30 9 v).run Trym.prog w = .ok (.string ⟨acc.toArray⟩) w := by
  rcases h.2 with ⟨rfl, hn⟩ | ⟨g, cap, cur, rfl, _⟩
  · have : acc = [] := List.eq_nil_of_length_eq_zero hn
    subst this
    exact run_convert_bytes_nil (P := Trym.prog) w 30 5 Trym.underlying30 Trym.underlying5 0 0 9 Trym.underlying9
  · exact run_convert_bytes_back (P := Trym.prog) w 30 9 5 ⟨g, 0, none⟩ cap acc Trym.underlying30 Trym.underlying5 Trym.underlying9 (fun j hj => by
      have := h.cells (g := g) rfl j (bv acc[j]) (by simp [hj])
      exact this)

/-- What unquote hands back. -/
def Ans (d : Option (List UInt8 × List UInt8)) (w : World) (e : Ending) (w' : World) : Prop :=
  e = .returned (match d with
    | some (p, r) => .tuple #[.string ⟨p.toArray⟩, .string ⟨r.toArray⟩, .bool true]
    | none => .tuple #[.string ⟨#[]⟩, .string ⟨#[]⟩, .bool false]) ∧ Below w.heap.size w w'

set_option maxHeartbeats 400000 in
theorem unq_no (s : ByteArray) (w : World) (h : Lib.hasPrefix s.data.toList [34] = false) :
    Calls Trym.prog 15 #[.string s] w (Ans none w) := by
  go_enter Trym.func15, Trym.ntmps15
  go_wp2_with fail
  refine (Trym.strings_HasPrefix _ _ _).mono ?_
  rintro e w' ⟨rfl, rfl⟩
  go_wp2_with fail
  go_ret3
  exact ⟨rfl, Below.refl _ _⟩

/-- The loop's relation: k bytes are read, acc is what they gave. -/
def Rel (s : ByteArray) (w : World) (v : Value) (k : Nat) (acc : List UInt8) (wr : World) : Prop :=
  acc.length ≤ k ∧ wr.ownsRow w.heap.size 5 1 v acc.length (acc.map bv) ∧ Below w.heap.size w wr ∧ Plain.dec s.data.toList = Plain.auto (s.data.toList.drop k) 0 0 acc

theorem own_drewN {w : World} {B : Nat} {v : Value} {n : Nat} {xs : List Value} (h : w.ownsRow B 5 1 v n xs) (q : Nat) : (w.drewN q).ownsRow B 5 1 v n xs :=
  ⟨h.1, by simpa using h.2⟩

theorem drop_at (s : ByteArray) (k : Nat) (h : k < s.size) : s.data.toList.drop k = s[k] :: s.data.toList.drop (k + 1) := by
  rw [List.drop_eq_getElem_cons (by simpa using h)]; rfl

theorem rel_quote {s : ByteArray} {w : World} {v : Value} {k : Nat} {acc : List UInt8} {wr : World} (h : Rel s w v k acc wr) (hlt : k < s.size) (hc : s[k] = 34) :
    Plain.dec s.data.toList = some (acc, s.data.toList.drop (k + 1)) := by
  rw [h.2.2.2, drop_at s k hlt, hc, Plain.auto_quote]

theorem extract_tail (s : ByteArray) (k : Nat) : s.extract k s.size = ⟨(s.data.toList.drop k).toArray⟩ := by
  apply ByteArray.ext
  apply Array.toList_inj.1
  rw [Lib.extract_data]
  show _ = s.data.toList.drop k
  exact List.take_of_length_le (by simp)

theorem ans_quote {s : ByteArray} {w : World} {v : Value} {k : Nat} {acc : List UInt8} {wr : World} (h : Rel s w v k acc wr) (hlt : k < s.size) (hc : s[k] = 34) (q : Nat) :
    Ans (Plain.dec s.data.toList) w (.returned (.tuple #[.string ⟨acc.toArray⟩, .string (s.extract (k + 1) s.size), .bool true])) (wr.drewN q) := by
  rw [rel_quote h hlt hc, extract_tail]
  exact ⟨rfl, below_drewN h.2.2.1 q⟩

theorem grown_drew {a b : World} {row : Option Nat} (h : a.drew.grownBy b row) : a.grownBy b row := ⟨h.os, h.tape, h.output, h.size, h.block⟩

/-- One byte more is read into acc, the place being k' now. -/
theorem rel_push {s : ByteArray} {w : World} {v : Value} {k k' : Nat} {acc : List UInt8} {wr : World} (h : Rel s w v k acc wr) (c : UInt8) (hk : k < k')
    (hd : Plain.auto (s.data.toList.drop k) 0 0 acc = Plain.auto (s.data.toList.drop k') 0 0 (acc ++ [c])) {o : Obj} {v' : Value} {w1 : World}
    (hown : w1.ownsRow w.heap.size 5 1 v' (acc.length + 1) (acc.map bv ++ [bv c])) (hg : (wr.alloc o).grownBy w1 v.ownBlock) : Rel s w v' k' (acc ++ [c]) w1 := by
  refine ⟨?_, ?_, ?_, ?_⟩
  · have := h.1; simp; omega
  · simpa using hown
  · exact (h.2.2.1.alloc h.2.2.1.size _).grown hg (by have := h.2.2.1.size; simp; omega) (fun g hgb => (h.2.1.lt g hgb).1)
  · rw [h.2.2.2, hd]

theorem step_plain {s : ByteArray} {k : Nat} {acc : List UInt8} (hlt : k < s.size) (h1 : s[k] ≠ 34) (h2 : s[k] ≠ 92) :
    Plain.auto (s.data.toList.drop k) 0 0 acc = Plain.auto (s.data.toList.drop (k + 1)) 0 0 (acc ++ [s[k]]) := by
  rw [drop_at s k hlt, Plain.auto_plain _ _ _ _ h1 h2]

theorem byte_eq (c d : UInt8) (h : c = d) : ((c.toNat : Int) == (d.toNat : Int)) = true := by rw [h]; simp

theorem byte_ne (c d : UInt8) (h : c ≠ d) : ((c.toNat : Int) == (d.toNat : Int)) = false := by
  rw [beq_eq_false_iff_ne]; intro e; exact h (UInt8.toNat_inj.1 (by omega))

theorem byte_nne (c d : UInt8) (h : c ≠ d) : ((c.toNat : Int) != (d.toNat : Int)) = true := by
  rw [bne_iff_ne]; intro e; exact h (UInt8.toNat_inj.1 (by omega))

theorem byte_neq (c d : UInt8) (h : c = d) : ((c.toNat : Int) != (d.toNat : Int)) = false := by rw [h]; simp

theorem byte_back (b : UInt8) : ((b.toNat : Int)).toNat.toUInt8 = b := by simp

theorem letter_yes (c e : UInt8) (w : World) (h : Plain.letter c = some e) :
    Calls Trym.prog 21 #[.string ⟨#[34, 92, 97, 98, 102, 110, 114, 116, 118]⟩, .int .u8 (c.toNat : Int)] w fun r w' => ∃ k : Nat, k < 9 ∧ Hid (Plain.escaped.getD k 0 = e) ∧ r = .returned (.int .i64 k) ∧ w = w' :=
  (Trym.strings_IndexByte _ _ w).mono fun _ _ ⟨he, hw⟩ => by
    rcases Plain.letter_at c with ⟨k, hk, h1, h2⟩ | ⟨_, h2⟩
    · refine ⟨k, hk, ?_, ?_, hw.symm⟩
      · rw [h] at h2; exact (Option.some.inj h2).symm
      · rw [he, byte_back, ← h1]; rfl
    · rw [h] at h2; cases h2

theorem letter_no (c : UInt8) (w : World) (h : Plain.letter c = none) :
    Calls Trym.prog 21 #[.string ⟨#[34, 92, 97, 98, 102, 110, 114, 116, 118]⟩, .int .u8 (c.toNat : Int)] w fun r w' => r = .returned (.int .i64 (-1)) ∧ w = w' :=
  (Trym.strings_IndexByte _ _ w).mono fun _ _ ⟨he, hw⟩ => by
    rcases Plain.letter_at c with ⟨k, hk, h1, h2⟩ | ⟨h1, h2⟩
    · rw [h] at h2; cases h2
    · refine ⟨?_, hw.symm⟩
      rw [he, byte_back, ← h1]; rfl

theorem rel_end {s : ByteArray} {w : World} {v : Value} {k : Nat} {acc : List UInt8} {wr : World} (h : Rel s w v k acc wr) (hd : Plain.auto (s.data.toList.drop k) 0 0 acc = none) :
    Ans (Plain.dec s.data.toList) w (.returned (.tuple #[.string ⟨#[]⟩, .string ⟨#[]⟩, .bool false])) wr := by
  rw [h.2.2.2, hd]
  exact ⟨rfl, h.2.2.1⟩

theorem end_all {s : ByteArray} {k : Nat} {acc : List UInt8} (h : ¬ k < s.size) : Plain.auto (s.data.toList.drop k) 0 0 acc = none := by
  rw [List.drop_of_length_le (by simp; omega)]; rfl

theorem end_back {s : ByteArray} {k : Nat} {acc : List UInt8} (hlt : k < s.size) (h1 : s[k] = 92) (h : ¬ k + 1 < s.size) : Plain.auto (s.data.toList.drop k) 0 0 acc = none := by
  rw [drop_at s k hlt, h1, Plain.auto_back, List.drop_of_length_le (by simp; omega)]; rfl

theorem step_letter {s : ByteArray} {k : Nat} {acc : List UInt8} (hlt : k + 1 < s.size) (h1 : s[k] = 92) (e : UInt8) (h2 : Plain.letter s[k + 1] = some e) :
    Plain.auto (s.data.toList.drop k) 0 0 acc = Plain.auto (s.data.toList.drop (k + 2)) 0 0 (acc ++ [e]) := by
  rw [drop_at s k (by omega), h1, Plain.auto_back, drop_at s (k + 1) hlt, Plain.auto_letter _ _ _ _ _ h2]

theorem one_new (w : World) (v v' : Value) (h : v = v') : ∀ j u, [v'][j]? = some u → (w.alloc (.cells #[v] 5)).cell? ((⟨w.heap.size, 0, none⟩ : Addr).add j) = some u := by
  subst h; exact cell_one_new _ _ _

theorem esc_at (j : Nat) (hj : j < 9) (e : UInt8) (h : Plain.escaped.getD j 0 = e) : Value.int .u8 (((⟨#[34, 92, 7, 8, 12, 10, 13, 9, 11]⟩ : ByteArray)[j]'hj).toNat : Int) = bv e := by
  subst h
  match j, hj with
  | 0, _ => rfl | 1, _ => rfl | 2, _ => rfl | 3, _ => rfl | 4, _ => rfl | 5, _ => rfl | 6, _ => rfl | 7, _ => rfl | 8, _ => rfl

set_option maxHeartbeats 400000 in
theorem oct_at (c : UInt8) (w : World) :
    Calls Trym.prog 22 #[.int .u8 (c.toNat : Int)] w fun e w' => e = .returned (.bool (Plain.oct c)) ∧ w = w' := by
  by_cases h : 48 ≤ c.toNat ∧ c.toNat ≤ 55
  · have he : Hid (Plain.oct c = true) := by unfold Plain.oct; exact decide_eq_true h
    obtain ⟨h1, h2⟩ := h
    have h3 : decide ((c.toNat : Int) ≤ 55) = true := by simp; omega
    go_enter Trym.func22, Trym.ntmps22
    go_wp2
    go_ret
    exact ⟨by rw [he.out]; rfl, rfl⟩
  · have he : Hid (Plain.oct c = false) := by unfold Plain.oct; exact decide_eq_false h
    by_cases h1 : 48 ≤ c.toNat
    · have h2 : ¬ c.toNat ≤ 55 := fun a => h ⟨h1, a⟩
      have h3 : decide ((c.toNat : Int) ≤ 55) = false := by simp; omega
      clear h
      go_enter Trym.func22, Trym.ntmps22
      go_wp2
      go_ret
      exact ⟨by rw [he.out]; rfl, rfl⟩
    · clear h
      go_enter Trym.func22, Trym.ntmps22
      go_wp2
      go_ret
      exact ⟨by rw [he.out]; rfl, rfl⟩

theorem one_new_drew (w : World) (v v' : Value) (h : v = v') : ∀ j u, [v'][j]? = some u → ((w.alloc (.cells #[v] 5)).drew).cell? ((⟨w.heap.size, 0, none⟩ : Addr).add j) = some u := one_new w v v' h

theorem oct_table : ∀ a : Fin 4, ∀ b c : Fin 8, bits BinOp.or IntKind.u8 (bits BinOp.or IntKind.u8 (IntKind.u8.wrap (IntKind.u8.wrap ((48 + a.val : Nat) - 48 : Int) * 64)) (IntKind.u8.wrap (IntKind.u8.wrap ((48 + b.val : Nat) - 48 : Int) * 8))) (IntKind.u8.wrap ((48 + c.val : Nat) - 48 : Int)) = ((((48 + a.val - 48) * 8 + (48 + b.val - 48)) * 8 + (48 + c.val - 48) : Nat) : Int) := by decide +kernel

/-- The byte that three octal digits in a text stand for. -/
def octByte (d x y : UInt8) : UInt8 := (((d.toNat - 48) * 8 + (x.toNat - 48)) * 8 + (y.toNat - 48)).toUInt8

theorem oct_val (d x y : UInt8) (h1 : 48 ≤ d.toNat) (h2 : d.toNat ≤ 51) (h3 : Plain.oct x = true) (h4 : Plain.oct y = true) :
    Value.int .u8 (bits BinOp.or IntKind.u8 (bits BinOp.or IntKind.u8 (IntKind.u8.wrap (IntKind.u8.wrap ((d.toNat : Int) - 48) * 64)) (IntKind.u8.wrap (IntKind.u8.wrap ((x.toNat : Int) - 48) * 8))) (IntKind.u8.wrap ((y.toNat : Int) - 48))) = bv (octByte d x y) := by
  have hx := Plain.oct_iff.1 h3
  have hy := Plain.oct_iff.1 h4
  have ht := oct_table ⟨d.toNat - 48, by omega⟩ ⟨x.toNat - 48, by omega⟩ ⟨y.toNat - 48, by omega⟩
  simp only [show 48 + (d.toNat - 48) = d.toNat by omega, show 48 + (x.toNat - 48) = x.toNat by omega, show 48 + (y.toNat - 48) = y.toNat by omega] at ht
  rw [ht]
  unfold bv octByte
  have hm : (((d.toNat - 48) * 8 + (x.toNat - 48)) * 8 + (y.toNat - 48)) % 256 = ((d.toNat - 48) * 8 + (x.toNat - 48)) * 8 + (y.toNat - 48) := Nat.mod_eq_of_lt (by omega)
  have hv : ((((d.toNat - 48) * 8 + (x.toNat - 48)) * 8 + (y.toNat - 48)).toUInt8).toNat = ((d.toNat - 48) * 8 + (x.toNat - 48)) * 8 + (y.toNat - 48) := by
    rw [Nat.toUInt8_eq, UInt8.toNat_ofNat']; exact hm
  rw [hv]

theorem oct_val_at (s : ByteArray) (k i j : Nat) (hi : i = k + 2) (hj : j = k + 3) (b1 : k + 1 < s.size) (b2 : k + 2 < s.size) (b3 : k + 3 < s.size) (bi : i < s.size) (bj : j < s.size)
    (h1 : 48 ≤ s[k + 1].toNat) (h2 : s[k + 1].toNat ≤ 51) (h3 : Plain.oct s[k + 2] = true) (h4 : Plain.oct s[k + 3] = true) :
    Value.int .u8 (bits BinOp.or IntKind.u8 (bits BinOp.or IntKind.u8 (IntKind.u8.wrap (IntKind.u8.wrap ((s[k + 1].toNat : Int) - 48) * 64)) (IntKind.u8.wrap (IntKind.u8.wrap ((s[i].toNat : Int) - 48) * 8))) (IntKind.u8.wrap ((s[j].toNat : Int) - 48))) = bv (octByte s[k + 1] s[k + 2] s[k + 3]) := by
  subst hi; subst hj
  exact oct_val _ _ _ h1 h2 h3 h4

theorem bad_first {s : ByteArray} {k : Nat} {acc : List UInt8} (hlt : k + 1 < s.size) (h1 : s[k] = 92) (hl : Plain.letter s[k + 1] = none) (h : ¬ (48 ≤ s[k + 1].toNat ∧ s[k + 1].toNat ≤ 51)) :
    Plain.auto (s.data.toList.drop k) 0 0 acc = none := by
  rw [drop_at s k (by omega), h1, Plain.auto_back, drop_at s (k + 1) hlt, Plain.auto_oct_no1 _ _ _ _ hl h]

theorem bad_short {s : ByteArray} {k : Nat} {acc : List UInt8} (hlt : k + 1 < s.size) (h1 : s[k] = 92) (hl : Plain.letter s[k + 1] = none) (h : ¬ k + 3 < s.size) :
    Plain.auto (s.data.toList.drop k) 0 0 acc = none := by
  rw [drop_at s k (by omega), h1, Plain.auto_back, drop_at s (k + 1) hlt, Plain.auto_oct_short _ _ _ _ hl (by simp; omega)]

theorem bad_x {s : ByteArray} {k : Nat} {acc : List UInt8} (hlt : k + 2 < s.size) (h1 : s[k] = 92) (hl : Plain.letter s[k + 1] = none) (h : Plain.oct s[k + 2] = false) :
    Plain.auto (s.data.toList.drop k) 0 0 acc = none := by
  rw [drop_at s k (by omega), h1, Plain.auto_back, drop_at s (k + 1) (by omega), drop_at s (k + 1 + 1) hlt, Plain.auto_oct_no2 _ _ _ _ _ hl h]

theorem bad_y {s : ByteArray} {k : Nat} {acc : List UInt8} (hlt : k + 3 < s.size) (h1 : s[k] = 92) (hl : Plain.letter s[k + 1] = none) (h : Plain.oct s[k + 3] = false) :
    Plain.auto (s.data.toList.drop k) 0 0 acc = none := by
  rw [drop_at s k (by omega), h1, Plain.auto_back, drop_at s (k + 1) (by omega), drop_at s (k + 1 + 1) (by omega), drop_at s (k + 1 + 1 + 1) hlt, Plain.auto_oct_no3 _ _ _ _ _ _ hl h]

theorem step_oct {s : ByteArray} {k : Nat} {acc : List UInt8} (hlt : k + 3 < s.size) (h1 : s[k] = 92) (hl : Plain.letter s[k + 1] = none) (h2 : 48 ≤ s[k + 1].toNat ∧ s[k + 1].toNat ≤ 51) (h3 : Plain.oct s[k + 2] = true) (h4 : Plain.oct s[k + 3] = true) :
    Plain.auto (s.data.toList.drop k) 0 0 acc = Plain.auto (s.data.toList.drop (k + 4)) 0 0 (acc ++ [(((s[k + 1].toNat - 48) * 8 + (s[k + 2].toNat - 48)) * 8 + (s[k + 3].toNat - 48)).toUInt8]) := by
  rw [drop_at s k (by omega), h1, Plain.auto_back, drop_at s (k + 1) (by omega), drop_at s (k + 1 + 1) (by omega), drop_at s (k + 1 + 1 + 1) hlt, Plain.auto_oct_yes _ _ _ _ _ hl h2 h3 h4]

theorem prefix_quote {l : List UInt8} (h : Lib.hasPrefix l [34] = true) : 1 ≤ l.length ∧ Plain.dec l = Plain.auto (l.drop 1) 0 0 [] := by
  match l, h with
  | [], h => exact absurd h (by decide)
  | c :: t, h =>
    have hc : c = 34 := by
      have : (34 == c) = true := by simpa [Lib.hasPrefix, List.isPrefixOf] using h
      exact (beq_iff_eq.1 this).symm
    subst hc
    exact ⟨by simp, rfl⟩

theorem rel_start (s : ByteArray) (w : World) (h : Lib.hasPrefix s.data.toList [34] = true) : Rel s w (.slice none 0 0) 1 [] w :=
  ⟨by simp, World.ownsRow_nil _ _ _ _, Below.refl _ _, (prefix_quote h).2⟩

set_option maxRecDepth 100000 in
set_option maxHeartbeats 2000000 in
theorem unq_yes (s : ByteArray) (w : World) (hs : s.size ≤ 2097152) (h : Lib.hasPrefix s.data.toList [34] = true) :
    Calls Trym.prog 15 #[.string s] w (Ans (Plain.dec s.data.toList) w) := by
  obtain ⟨i0, hi, hz0, hz1, hz2⟩ := info_parts info5
  have hone : 1 ≤ s.size := by have := (prefix_quote h).1; simpa using this
  have Hpre : Hid (Lib.hasPrefix s.data.toList [34] = true) := h
  go_enter Trym.func15, Trym.ntmps15
  go_wp2_with fail
  refine (Trym.strings_HasPrefix _ _ _).mono ?_
  rintro e w' ⟨rfl, rfl⟩
  go_wp2_with fail
  go_loopw [2, 3, 4, 5, 6] (fun r0 r1 r2 v i wr => ∃ (k : Nat) (acc : List UInt8), 1 ≤ k ∧ k ≤ s.size ∧ i = .int .i64 k ∧ r0 = .string ⟨#[]⟩ ∧ r1 = .string ⟨#[]⟩ ∧ r2 = .bool false ∧ Hid (Rel s w' v k acc wr)) (fun _ _ _ _ i _ => s.size - (intOf i).toNat)
  case atStart => exact ⟨1, [], Nat.le_refl _, hone, rfl, rfl, rfl, rfl, rel_start s w' Hpre.out⟩
  case round =>
    obtain ⟨k, acc, hk1, hk, rfl, rfl, rfl, rfl, hR⟩ := hrel
    by_cases hlt : k < s.size
    · by_cases h34 : s[k] = 34
      · have hb : ((s[k].toNat : Int) == 34) = true := by rw [h34]; rfl
        have kc := fun q => conv_own (own_drewN hR.out.2.1 q)
        go_wp2_with fail
        go_quiet (fail)
        go_wp2
        go_ret3
        exact ans_quote hR.out hlt h34 _
      · have hb : ((s[k].toNat : Int) == 34) = false := byte_ne _ 34 h34
        by_cases h92 : s[k] = 92
        · have hb2 : ((s[k].toNat : Int) != 92) = false := byte_neq _ 92 h92
          have H92 : Hid (s[k] = 92) := h92
          clear h92 h34
          by_cases hl1 : k + 1 < s.size
          · have hn1 : (((k : Int) + 1) == (s.size : Int)) = false := by rw [beq_eq_false_iff_ne]; omega
            cases hlet : Plain.letter s[k + 1] with
            | some e =>
              have Hlet : Hid (Plain.letter s[k + 1] = some e) := hlet
              clear hlet
              go_wp2_with fail
              refine (letter_yes _ e _ Hlet.out).mono ?_
              rintro r w1 ⟨j, hj, He, rfl, rfl⟩
              have hj0 : (0 : Int) ≤ (j : Int) := by omega
              have hj9 : (j : Int) < 9 := by omega
              go_wp2_with (at_builtin; refine wpList_append_own _ rfl _ _ 30 rfl w'.heap.size 5 i0 (.int .u8 0) 1 1 Trym.underlying30 hi hz0 hz1 hz2 rfl (by decide) _ _ _ rfl (hR.out.2.1.alloc _) ⟨wr.heap.size, 0, none⟩ 1 1 [bv e] rfl rfl ?d1 ?d2 ?d3 ?d4 ?d5 ?_)
              case d1 => exact one_new wr _ _ (esc_at j hj e He.out)
              case d2 => intro u hu; simp at hu; subst hu; rfl
              case d3 => have := hR.out.1; unfold maxLen; omega
              case d4 => have := hR.out.1; omega
              case d5 => have := hR.out.2.2.1.size; simp; omega
              intro v' w1 hown' hgrow _
              have R : Hid (Rel s w' v' (k + 2) (acc ++ [e]) w1) := rel_push hR.out e (by omega) (step_letter hl1 H92.out e Hlet.out) hown' hgrow
              clear hown' hgrow hR
              go_wp2
              go_roundw
              case rel => exact ⟨k + 2, acc ++ [e], by omega, by omega, by go_num, rfl, rfl, rfl, R⟩
              case measure => simp [intOf]; omega
            | none =>
              have Hlet : Hid (Plain.letter s[k + 1] = none) := hlet
              clear hlet
              go_wp2_with fail
              refine (letter_no _ _ Hlet.out).mono ?_
              rintro r w1 ⟨rfl, rfl⟩
              by_cases hl3 : k + 3 < s.size
              · have b1 : ((k : Int) + 1) + 2 < (s.size : Int) := by omega
                have b2 : (0 : Int) ≤ (k : Int) + 1 := by omega
                have b3 : (k : Int) + 1 < (s.size : Int) := by omega
                have b4 : (0 : Int) ≤ (k : Int) + 1 + 1 := by omega
                have b5 : (k : Int) + 1 + 1 < (s.size : Int) := by omega
                have b6 : (0 : Int) ≤ (k : Int) + 1 + 2 := by omega
                have b7 : IntKind.i64.wrap ((k : Int) + 1 + 1) = (k : Int) + 1 + 1 := by rw [IntKind.wrap_i64]; omega
                have b8 : IntKind.i64.wrap ((k : Int) + 1 + 2) = (k : Int) + 1 + 2 := by rw [IntKind.wrap_i64]; omega
                by_cases ho1 : 48 ≤ s[k + 1].toNat
                · by_cases ho2 : s[k + 1].toNat ≤ 51
                  · cases ho3 : Plain.oct s[k + 2] with
                    | false =>
                      have H3 : Hid (Plain.oct s[k + 2] = false) := ho3
                      go_wp2_with fail
                      refine (oct_at _ _).mono ?_
                      rintro r w1 ⟨rfl, rfl⟩
                      go_wp2_with fail
                      go_ret3
                      exact rel_end hR.out (bad_x (by omega) H92.out Hlet.out H3.out)
                    | true =>
                      cases ho4 : Plain.oct s[k + 3] with
                      | false =>
                        have H4 : Hid (Plain.oct s[k + 3] = false) := ho4
                        go_wp2_with fail
                        refine (oct_at _ _).mono ?_
                        rintro r w1 ⟨rfl, rfl⟩
                        go_wp2_with fail
                        refine (oct_at _ _).mono ?_
                        rintro r w1 ⟨rfl, rfl⟩
                        go_wp2_with fail
                        go_ret3
                        exact rel_end hR.out (bad_y hl3 H92.out Hlet.out H4.out)
                      | true =>
                        have H3 : Hid (Plain.oct s[k + 2] = true) := ho3
                        have H4 : Hid (Plain.oct s[k + 3] = true) := ho4
                        go_wp2_with fail
                        refine (oct_at _ _).mono ?_
                        rintro r w1 ⟨rfl, rfl⟩
                        go_wp2_with fail
                        refine (oct_at _ _).mono ?_
                        rintro r w1 ⟨rfl, rfl⟩
                        go_wp2_with fail
                        clear ho3 ho4
                        have hmax : acc.length + 1 ≤ maxLen := by have := hR.out.1; unfold maxLen; omega
                        have hbyt : (acc.length + 1) * 1 ≤ 140737488355328 := by have := hR.out.1; omega
                        have hsz : w'.heap.size ≤ wr.heap.size := hR.out.2.2.1.size
                        go_region_held3 (fun _ => True) (trivial)
                          ((refine step_append_lies _ (by rfl) _ _ _ (by rfl) w'.heap.size 5 i0 _ 1 1 Trym.underlying30 hi hz0 hz1 hz2 rfl (by omega) _ acc.length (acc.map bv) (by rfl) ((hR.out.2.1.alloc _).drew) ⟨wr.heap.size, 0, none⟩ 1 1 [bv (octByte s[k + 1] s[k + 2] s[k + 3])] (by rfl) (by rfl) (by exact one_new_drew wr _ _ (oct_val_at s k _ _ (by omega) (by omega) hl1 (by omega) hl3 (by omega) (by omega) ho1 ho2 H3.out H4.out)) (by simp [Value.oneCell', bv]) (by omega) hmax hbyt (by simp; omega) (wr.heap.size + 1) (by simp) ?_; intro gg cap w1 hown1 hgrow hat hlt9))
                        all_goals
                          have R : Hid (Rel s w' (.slice (some ⟨gg, 0, none⟩) (acc.length + 1) cap) (k + 4) (acc ++ [octByte s[k + 1] s[k + 2] s[k + 3]]) w1) := rel_push hR.out _ (by omega) (step_oct hl3 H92.out Hlet.out ⟨ho1, ho2⟩ H3.out H4.out) hown1 (grown_drew hgrow)
                          clear hown1 hgrow hR hat
                          go_wp2
                          go_roundw
                          case rel => exact ⟨k + 4, _, by omega, by omega, by go_num, rfl, rfl, rfl, R⟩
                          case measure => simp [intOf]; omega
                  · go_wp2_with fail
                    go_ret3
                    exact rel_end hR.out (bad_first hl1 H92.out Hlet.out (by omega))
                · go_wp2_with fail
                  go_ret3
                  exact rel_end hR.out (bad_first hl1 H92.out Hlet.out (by omega))
              · go_wp2_with fail
                go_ret3
                exact rel_end hR.out (bad_short hl1 H92.out Hlet.out hl3)
          · have hn1 : (((k : Int) + 1) == (s.size : Int)) = true := by rw [beq_iff_eq]; omega
            go_wp2_with fail
            go_ret3
            exact rel_end hR.out (end_back hlt H92.out hl1)
        · have hb2 : ((s[k].toNat : Int) != 92) = true := byte_nne _ 92 h92
          have H92 : Hid (s[k] ≠ 92) := h92
          have H34 : Hid (s[k] ≠ 34) := h34
          clear h92 h34
          go_wp2_with (at_builtin; refine wpList_append_own _ rfl _ _ 30 rfl w'.heap.size 5 i0 (.int .u8 0) 1 1 Trym.underlying30 hi hz0 hz1 hz2 rfl (by decide) _ _ _ rfl (hR.out.2.1.alloc _) ⟨wr.heap.size, 0, none⟩ 1 1 [.int .u8 (s[k].toNat : Int)] rfl rfl ?c1 ?c2 ?c3 ?c4 ?c5 ?_)
          case c1 => intro j u hj; exact cell_one_new _ _ _ j u hj
          case c2 => intro u hu; simp at hu; subst hu; rfl
          case c3 => have := hR.out.1; unfold maxLen; omega
          case c4 => have := hR.out.1; omega
          case c5 => have := hR.out.2.2.1.size; simp; omega
          intro v' w1 hown' hgrow _
          have R : Hid (Rel s w' v' (k + 1) (acc ++ [s[k]]) w1) := rel_push hR.out s[k] (by omega) (step_plain hlt H34.out H92.out) hown' hgrow
          clear hown' hgrow hR
          go_wp2
          go_roundw
          case rel => exact ⟨k + 1, acc ++ [s[k]], by omega, by omega, by go_num, rfl, rfl, rfl, R⟩
          case measure => simp [intOf]; omega
    · go_wp2_with fail
      go_ret3
      exact rel_end hR.out (end_all hlt)
theorem dec_no {l : List UInt8} (h : Lib.hasPrefix l [34] = false) : Plain.dec l = none := by
  match l, h with
  | [], _ => rfl
  | c :: t, h =>
    have hc : (c == 34) = false := by
      rw [beq_eq_false_iff_ne]; intro e; subst e
      exact absurd h (by simp [Lib.hasPrefix, List.isPrefixOf])
    unfold Plain.dec
    simp only [hc]
    rfl

/-- agent.unquote, at every string of at most two MiB. -/
theorem unq_any (s : ByteArray) (w : World) (hs : s.size ≤ 2097152) :
    Calls Trym.prog 15 #[.string s] w (Ans (Plain.dec s.data.toList) w) := by
  cases h : Lib.hasPrefix s.data.toList [34] with
  | true => exact unq_yes s w hs h
  | false => rw [dec_no h]; exact unq_no s w h

theorem unq_some (s : ByteArray) (w : World) (hs : s.size ≤ 2097152) {p r : List UInt8} (h : Plain.dec s.data.toList = some (p, r)) :
    Calls Trym.prog 15 #[.string s] w fun e w' => e = .returned (.tuple #[.string ⟨p.toArray⟩, .string ⟨r.toArray⟩, .bool true]) ∧ Below w.heap.size w w' :=
  (unq_any s w hs).mono fun _ _ ha => by rw [h] at ha; exact ha

theorem unq_none (s : ByteArray) (w : World) (hs : s.size ≤ 2097152) (h : Plain.dec s.data.toList = none) :
    Calls Trym.prog 15 #[.string s] w fun e w' => e = .returned (.tuple #[.string ⟨#[]⟩, .string ⟨#[]⟩, .bool false]) ∧ Below w.heap.size w w' :=
  (unq_any s w hs).mono fun _ _ ha => by rw [h] at ha; exact ha

end Go.Proofs.Qxb6606332aMods.Unq
