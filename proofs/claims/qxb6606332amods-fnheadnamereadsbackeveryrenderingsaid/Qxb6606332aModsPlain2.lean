-- Plain laws, no program: quoting, and that the automaton reads back what is quoted.
import Derived.Test.Qxb6606332aModsPlain
namespace Go.Proofs.Qxb6606332aMods.Plain

/-- The escape letter of a byte, or 0. -/
def letterFor (c : UInt8) : UInt8 :=
  if c == 34 then 34 else if c == 92 then 92 else if c == 7 then 97 else if c == 8 then 98 else if c == 12 then 102 else if c == 10 then 110
  else if c == 13 then 114 else if c == 9 then 116 else if c == 11 then 118 else 0

/-- A byte as three octal digits behind a backslash. -/
def oct3 (c : UInt8) : List UInt8 := [92, (48 + c.toNat / 64).toUInt8, (48 + c.toNat / 8 % 8).toUInt8, (48 + c.toNat % 8).toUInt8]

/-- Is the byte written in octal? -/
def inOct (all : Bool) (c : UInt8) : Bool := all || (letterFor c == 0 && (decide (c.toNat < 32) || decide (127 ≤ c.toNat)))

/-- How one byte is quoted. -/
def qb (all : Bool) (c : UInt8) : List UInt8 :=
  if inOct all c then oct3 c else if letterFor c == 0 then [c] else [92, letterFor c]

def quote (all : Bool) (p : List UInt8) : List UInt8 := 34 :: (p.flatMap (qb all) ++ [34])

theorem letter_back (c : UInt8) (h : letterFor c ≠ 0) : letter (letterFor c) = some c := by
  by_cases h0 : c = 34
  · subst h0; rfl
  by_cases h1 : c = 92
  · subst h1; rfl
  by_cases h2 : c = 7
  · subst h2; rfl
  by_cases h3 : c = 8
  · subst h3; rfl
  by_cases h4 : c = 12
  · subst h4; rfl
  by_cases h5 : c = 10
  · subst h5; rfl
  by_cases h6 : c = 13
  · subst h6; rfl
  by_cases h7 : c = 9
  · subst h7; rfl
  by_cases h8 : c = 11
  · subst h8; rfl
  have e : ∀ d : UInt8, c ≠ d → (c == d) = false := fun d hd => beq_eq_false_iff_ne.2 hd
  exfalso; apply h
  simp only [letterFor, e _ h0, e _ h1, e _ h2, e _ h3, e _ h4, e _ h5, e _ h6, e _ h7, e _ h8]
  rfl

theorem toNat_small (n : Nat) (h : n < 256) : (n.toUInt8).toNat = n := by
  rw [Nat.toUInt8_eq, UInt8.toNat_ofNat']; exact Nat.mod_eq_of_lt h

theorem letter_digit (d : UInt8) (h : 48 ≤ d.toNat ∧ d.toNat ≤ 55) : letter d = none := by
  have e : ∀ x : UInt8, (x.toNat < 48 ∨ 55 < x.toNat) → (d == x) = false := fun x hx => beq_eq_false_iff_ne.2 (fun e => by rw [e] at h; omega)
  simp only [letter, e 34 (by decide), e 92 (by decide), e 97 (by decide), e 98 (by decide), e 102 (by decide), e 110 (by decide), e 114 (by decide), e 116 (by decide), e 118 (by decide)]
  rfl

/-- One quoted byte is read as that byte. -/
theorem auto_qb (all : Bool) (c : UInt8) (t acc : List UInt8) : auto (qb all c ++ t) 0 0 acc = auto t 0 0 (acc ++ [c]) := by
  have hc := c.toNat_lt
  unfold qb
  by_cases hi : inOct all c = true
  · rw [if_pos hi]
    have d1 := toNat_small (48 + c.toNat / 64) (by omega)
    have d2 := toNat_small (48 + c.toNat / 8 % 8) (by omega)
    have d3 := toNat_small (48 + c.toNat % 8) (by omega)
    show auto (92 :: (48 + c.toNat / 64).toUInt8 :: (48 + c.toNat / 8 % 8).toUInt8 :: (48 + c.toNat % 8).toUInt8 :: t) 0 0 acc = _
    rw [auto_back, auto_oct_yes _ _ _ _ _ (letter_digit _ (by rw [d1]; omega)) (by rw [d1]; omega) (by unfold oct; rw [d2]; exact decide_eq_true (by omega)) (by unfold oct; rw [d3]; exact decide_eq_true (by omega)), d1, d2, d3]
    have e : ((48 + c.toNat / 64 - 48) * 8 + (48 + c.toNat / 8 % 8 - 48)) * 8 + (48 + c.toNat % 8 - 48) = c.toNat := by omega
    rw [e]
    simp
  · rw [if_neg hi]
    by_cases hl : (letterFor c == 0) = true
    · rw [if_pos hl]
      have hl' : letterFor c = 0 := beq_iff_eq.1 hl
      show auto (c :: t) 0 0 acc = _
      rw [auto_plain _ _ _ _ (fun e => by rw [e] at hl'; exact absurd hl' (by decide)) (fun e => by rw [e] at hl'; exact absurd hl' (by decide))]
    · rw [if_neg hl]
      show auto (92 :: letterFor c :: t) 0 0 acc = _
      rw [auto_back, auto_letter _ _ _ _ _ (letter_back c (fun e => hl (by rw [e]; rfl)))]

theorem auto_flat (all : Bool) : ∀ (p t acc : List UInt8), auto (p.flatMap (qb all) ++ (34 :: t)) 0 0 acc = some (acc ++ p, t)
  | [], t, acc => by
    show auto (34 :: t) 0 0 acc = _
    rw [auto_quote]; simp
  | c :: p, t, acc => by
    rw [List.flatMap_cons, List.append_assoc, auto_qb, auto_flat all p t (acc ++ [c])]
    simp

/-- What is quoted is read back, with whatever follows the quote. -/
theorem dec_quote (all : Bool) (p t : List UInt8) : dec (quote all p ++ t) = some (p, t) := by
  have e : quote all p ++ t = 34 :: (p.flatMap (qb all) ++ (34 :: t)) := by simp [quote]
  rw [e]
  show auto (p.flatMap (qb all) ++ (34 :: t)) 0 0 [] = _
  rw [auto_flat]; rfl

theorem qb_len (all : Bool) (c : UInt8) : (qb all c).length ≤ 4 := by
  unfold qb oct3; split
  · simp
  · split <;> simp

theorem flat_len (all : Bool) : ∀ p : List UInt8, (p.flatMap (qb all)).length ≤ 4 * p.length
  | [] => by simp
  | c :: p => by
    have := qb_len all c
    have := flat_len all p
    rw [List.flatMap_cons, List.length_append, List.length_cons]; omega

theorem quote_len (all : Bool) (p : List UInt8) : (quote all p).length ≤ 4 * p.length + 2 := by
  have := flat_len all p
  simp only [quote, List.length_cons, List.length_append, List.length_nil]; omega

end Go.Proofs.Qxb6606332aMods.Plain
