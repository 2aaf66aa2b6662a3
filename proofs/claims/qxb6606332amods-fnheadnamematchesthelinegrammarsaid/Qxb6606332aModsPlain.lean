-- Plain laws, no program: the automaton that reads a quoted path.
import Derived.Lib.Bytealg
namespace Go.Proofs.Qxb6606332aMods.Plain

/-- The byte that an escape letter stands for. -/
def letter (c : UInt8) : Option UInt8 :=
  if c == 34 then some 34 else if c == 92 then some 92 else if c == 97 then some 7 else if c == 98 then some 8 else if c == 102 then some 12
  else if c == 110 then some 10 else if c == 114 then some 13 else if c == 116 then some 9 else if c == 118 then some 11 else none

/-- The automaton: states 0 plain, 1 behind a backslash, 2 behind one octal digit, 3 behind two; 'v' the digits' value so far; 'acc' what is read so far. -/
def auto : List UInt8 → Nat → Nat → List UInt8 → Option (List UInt8 × List UInt8)
  | [], _, _, _ => none
  | c :: t, st, v, acc =>
    if st = 0 then
      if c == 34 then some (acc, t) else if c == 92 then auto t 1 v acc else auto t 0 v (acc ++ [c])
    else if st = 1 then
      match letter c with
      | some e => auto t 0 v (acc ++ [e])
      | none => if 48 ≤ c.toNat ∧ c.toNat ≤ 51 then auto t 2 (c.toNat - 48) acc else none
    else if c.toNat < 48 ∨ 55 < c.toNat then none
    else if st = 2 then auto t 3 (v * 8 + (c.toNat - 48)) acc
    else auto t 0 (v * 8 + (c.toNat - 48)) (acc ++ [(v * 8 + (c.toNat - 48)).toUInt8])

/-- What the text, its opening quote struck, is read as. -/
def dec (l : List UInt8) : Option (List UInt8 × List UInt8) :=
  match l with
  | [] => none
  | c :: t => if c == 34 then auto t 0 0 [] else none

/-- In the states 0 and 1 the value so far does not count. -/
theorem auto_v : ∀ (l : List UInt8) (v v' : Nat) (acc : List UInt8), auto l 0 v acc = auto l 0 v' acc ∧ auto l 1 v acc = auto l 1 v' acc
  | [], _, _, _ => ⟨rfl, rfl⟩
  | c :: t, v, v', acc => by
    refine ⟨?_, ?_⟩
    · unfold auto
      rw [if_pos rfl, if_pos rfl, (auto_v t v v' acc).2, (auto_v t v v' (acc ++ [c])).1]
    · have e1 : ∀ u, auto (c :: t) 1 u acc = (match letter c with | some e => auto t 0 u (acc ++ [e]) | none => if 48 ≤ c.toNat ∧ c.toNat ≤ 51 then auto t 2 (c.toNat - 48) acc else none) := fun u => by
        rw [auto, if_neg (by decide), if_pos rfl]
      rw [e1, e1]
      cases letter c with
      | none => rfl
      | some e => exact (auto_v t v v' (acc ++ [e])).1

theorem auto_quote (t acc : List UInt8) (v : Nat) : auto (34 :: t) 0 v acc = some (acc, t) := by
  unfold auto; rfl

theorem auto_plain (c : UInt8) (t acc : List UInt8) (v : Nat) (h1 : c ≠ 34) (h2 : c ≠ 92) : auto (c :: t) 0 v acc = auto t 0 v (acc ++ [c]) := by
  rw [auto, if_pos rfl, if_neg (by simpa using h1), if_neg (by simpa using h2)]

theorem auto_back (t acc : List UInt8) (v : Nat) : auto (92 :: t) 0 v acc = auto t 1 v acc := by
  rw [auto, if_pos rfl, if_neg (by decide), if_pos (by decide)]

theorem auto_letter (c e : UInt8) (t acc : List UInt8) (v : Nat) (h : letter c = some e) : auto (c :: t) 1 v acc = auto t 0 v (acc ++ [e]) := by
  rw [auto, if_neg (by decide), if_pos rfl, h]

theorem auto_oct1 (c : UInt8) (t acc : List UInt8) (v : Nat) (h : letter c = none) (h1 : 48 ≤ c.toNat ∧ c.toNat ≤ 51) : auto (c :: t) 1 v acc = auto t 2 (c.toNat - 48) acc := by
  rw [auto, if_neg (by decide), if_pos rfl, h]
  exact if_pos h1

theorem auto_bad1 (c : UInt8) (t acc : List UInt8) (v : Nat) (h : letter c = none) (h1 : ¬ (48 ≤ c.toNat ∧ c.toNat ≤ 51)) : auto (c :: t) 1 v acc = none := by
  rw [auto, if_neg (by decide), if_pos rfl, h]
  exact if_neg h1

theorem auto_bad2 (c : UInt8) (t acc : List UInt8) (v st : Nat) (hs : 2 ≤ st) (h1 : c.toNat < 48 ∨ 55 < c.toNat) : auto (c :: t) st v acc = none := by
  rw [auto, if_neg (by omega), if_neg (by omega), if_pos h1]

theorem auto_oct2 (c : UInt8) (t acc : List UInt8) (v : Nat) (h1 : ¬ (c.toNat < 48 ∨ 55 < c.toNat)) : auto (c :: t) 2 v acc = auto t 3 (v * 8 + (c.toNat - 48)) acc := by
  rw [auto, if_neg (by omega), if_neg (by omega), if_neg h1, if_pos rfl]

theorem auto_oct3 (c : UInt8) (t acc : List UInt8) (v : Nat) (h1 : ¬ (c.toNat < 48 ∨ 55 < c.toNat)) : auto (c :: t) 3 v acc = auto t 0 (v * 8 + (c.toNat - 48)) (acc ++ [(v * 8 + (c.toNat - 48)).toUInt8]) := by
  rw [auto, if_neg (by omega), if_neg (by omega), if_neg h1, if_neg (by omega)]

/-! ### The escape letters by their places -/

def letters : List UInt8 := [34, 92, 97, 98, 102, 110, 114, 116, 118]
def escaped : List UInt8 := [34, 92, 7, 8, 12, 10, 13, 9, 11]

theorem idx_not (l : List UInt8) (c : UInt8) (h : ¬ c ∈ l) : Go.Lib.indexByte l c = -1 := by
  induction l with
  | nil => rfl
  | cons b l ih =>
    unfold Go.Lib.indexByte
    have hb : (b == c) = false := by
      rw [beq_eq_false_iff_ne]; intro e; exact h (by rw [e]; exact List.mem_cons_self ..)
    rw [ih (fun hm => h (List.mem_cons_of_mem _ hm)), hb]
    rfl

theorem letter_at (c : UInt8) : (∃ k : Nat, k < 9 ∧ Go.Lib.indexByte letters c = (k : Int) ∧ letter c = some (escaped.getD k 0)) ∨ (Go.Lib.indexByte letters c = -1 ∧ letter c = none) := by
  by_cases h0 : c = 34
  · subst h0; exact .inl ⟨0, by decide⟩
  by_cases h1 : c = 92
  · subst h1; exact .inl ⟨1, by decide⟩
  by_cases h2 : c = 97
  · subst h2; exact .inl ⟨2, by decide⟩
  by_cases h3 : c = 98
  · subst h3; exact .inl ⟨3, by decide⟩
  by_cases h4 : c = 102
  · subst h4; exact .inl ⟨4, by decide⟩
  by_cases h5 : c = 110
  · subst h5; exact .inl ⟨5, by decide⟩
  by_cases h6 : c = 114
  · subst h6; exact .inl ⟨6, by decide⟩
  by_cases h7 : c = 116
  · subst h7; exact .inl ⟨7, by decide⟩
  by_cases h8 : c = 118
  · subst h8; exact .inl ⟨8, by decide⟩
  have e : ∀ d : UInt8, c ≠ d → (c == d) = false := fun d hd => beq_eq_false_iff_ne.2 hd
  refine .inr ⟨?_, ?_⟩
  · exact idx_not _ _ (by simp [letters, h0, h1, h2, h3, h4, h5, h6, h7, h8])
  · simp only [letter, e _ h0, e _ h1, e _ h2, e _ h3, e _ h4, e _ h5, e _ h6, e _ h7, e _ h8]
    rfl

/-- An octal digit. -/
def oct (c : UInt8) : Bool := decide (48 ≤ c.toNat ∧ c.toNat ≤ 55)

theorem oct_iff {c : UInt8} : oct c = true ↔ ¬ (c.toNat < 48 ∨ 55 < c.toNat) := by
  unfold oct; rw [decide_eq_true_iff]; omega

/-- Behind a backslash, no letter: three octal digits, the first at most 3, or nothing. -/
def octs (l : List UInt8) : Option (UInt8 × List UInt8) :=
  match l with
  | d :: x :: y :: t => if (48 ≤ d.toNat ∧ d.toNat ≤ 51) ∧ oct x = true ∧ oct y = true then some ((((d.toNat - 48) * 8 + (x.toNat - 48)) * 8 + (y.toNat - 48)).toUInt8, t) else none
  | _ => none

theorem auto_oct_yes (d x y : UInt8) (t acc : List UInt8) (hl : letter d = none) (h1 : 48 ≤ d.toNat ∧ d.toNat ≤ 51) (h2 : oct x = true) (h3 : oct y = true) :
    auto (d :: x :: y :: t) 1 0 acc = auto t 0 0 (acc ++ [(((d.toNat - 48) * 8 + (x.toNat - 48)) * 8 + (y.toNat - 48)).toUInt8]) := by
  rw [auto_oct1 _ _ _ _ hl h1, auto_oct2 _ _ _ _ (oct_iff.1 h2), auto_oct3 _ _ _ _ (oct_iff.1 h3)]
  exact (auto_v _ _ _ _).1

theorem auto_oct_no1 (d : UInt8) (t acc : List UInt8) (v : Nat) (hl : letter d = none) (h1 : ¬ (48 ≤ d.toNat ∧ d.toNat ≤ 51)) : auto (d :: t) 1 v acc = none := auto_bad1 _ _ _ _ hl h1

theorem not_oct {c : UInt8} (h : oct c = false) : c.toNat < 48 ∨ 55 < c.toNat := by
  unfold oct at h; rw [decide_eq_false_iff_not] at h; omega

theorem auto_oct_no2 (d x : UInt8) (t acc : List UInt8) (v : Nat) (hl : letter d = none) (h : oct x = false) : auto (d :: x :: t) 1 v acc = none := by
  by_cases h1 : 48 ≤ d.toNat ∧ d.toNat ≤ 51
  · rw [auto_oct1 _ _ _ _ hl h1, auto_bad2 _ _ _ _ _ (Nat.le_refl _) (not_oct h)]
  · exact auto_bad1 _ _ _ _ hl h1

theorem auto_oct_no3 (d x y : UInt8) (t acc : List UInt8) (v : Nat) (hl : letter d = none) (h : oct y = false) : auto (d :: x :: y :: t) 1 v acc = none := by
  cases hx : oct x with
  | false => exact auto_oct_no2 _ _ _ _ _ hl hx
  | true =>
    by_cases h1 : 48 ≤ d.toNat ∧ d.toNat ≤ 51
    · rw [auto_oct1 _ _ _ _ hl h1, auto_oct2 _ _ _ _ (oct_iff.1 hx), auto_bad2 _ _ _ _ _ (by omega) (not_oct h)]
    · exact auto_bad1 _ _ _ _ hl h1

theorem auto_oct_short (d : UInt8) (t acc : List UInt8) (v : Nat) (hl : letter d = none) (h : t.length ≤ 1) : auto (d :: t) 1 v acc = none := by
  by_cases h1 : 48 ≤ d.toNat ∧ d.toNat ≤ 51
  · rw [auto_oct1 _ _ _ _ hl h1]
    match t, h with
    | [], _ => rfl
    | [x], _ =>
      cases hx : oct x with
      | false => exact auto_bad2 _ _ _ _ _ (Nat.le_refl _) (not_oct hx)
      | true => rw [auto_oct2 _ _ _ _ (oct_iff.1 hx)]; rfl
  · exact auto_bad1 _ _ _ _ hl h1

end Go.Proofs.Qxb6606332aMods.Plain
