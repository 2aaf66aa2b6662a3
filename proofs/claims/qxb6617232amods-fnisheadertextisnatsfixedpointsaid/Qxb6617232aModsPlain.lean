/-
  Plain laws, no program: what 'Lib.indexByte' tells of membership; header texts as lists of bytes.
-/
import Derived.Lib.Bytealg
namespace Go.Proofs.Qxb6617232aMods.Plain

theorem idx_mem (l : List UInt8) (c : UInt8) (h : c ∈ l) : 0 ≤ Go.Lib.indexByte l c := by
  induction l with
  | nil => simp at h
  | cons b l ih =>
    unfold Go.Lib.indexByte
    by_cases hb : (b == c) = true
    · rw [if_pos hb]; exact Int.le_refl _
    · rw [if_neg hb]
      have hm : c ∈ l := by
        rcases List.mem_cons.1 h with rfl | h
        · simp at hb
        · exact h
      have h0 := ih hm
      have h1 : (Go.Lib.indexByte l c == -1) = false := by
        rw [beq_eq_false_iff_ne]; omega
      rw [h1]; simp; omega

theorem idx_not (l : List UInt8) (c : UInt8) (h : ¬ c ∈ l) : Go.Lib.indexByte l c = -1 := by
  induction l with
  | nil => rfl
  | cons b l ih =>
    unfold Go.Lib.indexByte
    have hb : (b == c) = false := by
      rw [beq_eq_false_iff_ne]; intro e; exact h (by rw [e]; exact List.mem_cons_self ..)
    rw [ih (fun hm => h (List.mem_cons_of_mem _ hm)), hb]
    rfl

/-- A byte that NATS clients trim. -/
def blank (c : UInt8) : Bool := c == 32 || c == 9

/-- What isHeaderText answers. -/
def hdr (l : List UInt8) : Bool :=
  !l.contains 13 && !l.contains 10 && !(l.head?.any blank) && !(l.getLast?.any blank)

theorem hdr_cr {l : List UInt8} (h : (13 : UInt8) ∈ l) : hdr l = false := by
  simp [hdr, h]

theorem hdr_lf {l : List UInt8} (h : (10 : UInt8) ∈ l) : hdr l = false := by
  simp [hdr, h]

theorem hdr_nil : hdr [] = true := by decide

theorem hdr_rest {l : List UInt8} (h1 : ¬ (13 : UInt8) ∈ l) (h2 : ¬ (10 : UInt8) ∈ l) {a b : UInt8} (ha : l.head? = some a) (hb : l.getLast? = some b) :
    hdr l = (!blank a && !blank b) := by
  simp [hdr, h1, h2, ha, hb]

theorem blank_mem (c : UInt8) : (c ∈ ([32, 9] : List UInt8)) ↔ blank c = true := by
  simp [blank]

theorem any_append_mid {α : Type} (p : α → Bool) (a b : List α) (c : α) (hc : p c = false) :
    (((a ++ [c]) ++ b).head?.any p) = ((a ++ [c]).head?.any p) ∧ (((a ++ [c]) ++ b).getLast?.any p) = (([c] ++ b).getLast?.any p) ∧
    ((a ++ [c]).getLast?.any p) = false ∧ (([c] ++ b).head?.any p) = false := by
  refine ⟨?_, ?_, ?_, ?_⟩
  · cases a <;> simp
  · rw [List.append_assoc]
    cases a with
    | nil => rfl
    | cons x a => simp [List.getLast?_append, List.getLast?_cons]
  · simp [hc]
  · simp [hc]

/-- The law: at a byte that is no blank the whole is header text just where both sides are. -/
theorem hdr_split (a b : List UInt8) (c : UInt8) (hc : blank c = false) :
    hdr ((a ++ [c]) ++ b) = (hdr (a ++ [c]) && hdr ([c] ++ b)) := by
  obtain ⟨e1, e2, e3, e4⟩ := any_append_mid blank a b c hc
  unfold hdr
  rw [e1, e2, e3, e4]
  generalize ((a ++ [c]).head?.any blank) = u
  generalize (([c] ++ b).getLast?.any blank) = v
  rw [Bool.eq_iff_iff]
  simp
  constructor
  · rintro ⟨⟨⟨⟨h1, h2, h3⟩, h4, h5, h6⟩, hu⟩, hv⟩
    simp_all
  · rintro ⟨⟨⟨⟨h1, h2⟩, h3, h4⟩, hu⟩, ⟨⟨⟨h5, h6⟩, h7, h8⟩, hv⟩⟩
    simp_all

theorem hdr_one (c : UInt8) (hc : blank c = false) : hdr [c] = (c != 13 && c != 10) := by
  rw [Bool.eq_iff_iff]
  simp [hdr, hc]
  constructor
  · rintro ⟨h1, h2⟩; exact ⟨fun e => h1 e.symm, fun e => h2 e.symm⟩
  · rintro ⟨h1, h2⟩; exact ⟨fun e => h1 e.symm, fun e => h2 e.symm⟩

end Go.Proofs.Qxb6617232aMods.Plain
