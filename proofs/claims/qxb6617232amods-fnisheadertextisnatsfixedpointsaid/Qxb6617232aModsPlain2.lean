-- Plain laws, no program: what NATS clients make of a text.
import Derived.Test.Qxb6617232aModsPlain
namespace Go.Proofs.Qxb6617232aMods.Plain

/-! ### What NATS clients make of a text -/

/-- CR and LF become a space. -/
def cl (c : UInt8) : UInt8 := if c == 13 || c == 10 then 32 else c

theorem cl_ne13 (c : UInt8) : cl c ≠ 13 := by
  unfold cl; split
  · decide
  · rename_i h; intro e; rw [e] at h; exact h rfl

theorem cl_ne10 (c : UInt8) : cl c ≠ 10 := by
  unfold cl; split
  · decide
  · rename_i h; intro e; rw [e] at h; exact h rfl

theorem cl_id {c : UInt8} (h1 : c ≠ 13) (h2 : c ≠ 10) : cl c = c := by
  unfold cl
  have e1 : (c == 13) = false := beq_eq_false_iff_ne.2 h1
  have e2 : (c == 10) = false := beq_eq_false_iff_ne.2 h2
  rw [e1, e2]; rfl

theorem map_cl_id : ∀ (l : List UInt8), (∀ c ∈ l, c ≠ 13 ∧ c ≠ 10) → l.map cl = l
  | [], _ => rfl
  | c :: l, h => by
    have hc := h c (List.mem_cons_self ..)
    rw [List.map_cons, cl_id hc.1 hc.2, map_cl_id l fun x hx => h x (List.mem_cons_of_mem _ hx)]

/-- 'r' is 'm' with the blanks at both ends struck: from place lo to place hi. -/
structure Trim (m : List UInt8) (lo hi : Nat) : Prop where
  le : lo ≤ hi
  top : hi ≤ m.length
  left : ∀ j, j < lo → blank (m.getD j 0) = true
  right : ∀ j, hi ≤ j → j < m.length → blank (m.getD j 0) = true
  first : lo < hi → blank (m.getD lo 0) = false
  last : lo < hi → blank (m.getD (hi - 1) 0) = false

def cut (m : List UInt8) (lo hi : Nat) : List UInt8 := (m.drop lo).take (hi - lo)

theorem cut_length {m : List UInt8} {lo hi : Nat} (h : Trim m lo hi) : (cut m lo hi).length = hi - lo := by
  have := h.le; have := h.top
  simp [cut]; omega

theorem head_of (l : List UInt8) (h : 0 < l.length) : l.head? = some (l.getD 0 0) := by
  cases l with
  | nil => simp at h
  | cons a l => rfl

theorem last_of (l : List UInt8) (h : 0 < l.length) : l.getLast? = some (l.getD (l.length - 1) 0) := by
  rw [List.getLast?_eq_getElem?, List.getD_eq_getElem?_getD, List.getElem?_eq_getElem (by omega)]
  rfl

theorem getD_cut {m : List UInt8} {lo hi : Nat} (j : Nat) (hj : j < hi - lo) : (cut m lo hi).getD j 0 = m.getD (lo + j) 0 := by
  unfold cut
  rw [List.getD_eq_getElem?_getD, List.getD_eq_getElem?_getD, List.getElem?_take_of_lt hj, List.getElem?_drop]

theorem hdr_of (l : List UInt8) (h : ∀ c ∈ l, c ≠ 13 ∧ c ≠ 10) (hb : 0 < l.length → blank (l.getD 0 0) = false ∧ blank (l.getD (l.length - 1) 0) = false) : hdr l = true := by
  by_cases hl : 0 < l.length
  · rw [hdr_rest (fun hm => (h _ hm).1 rfl) (fun hm => (h _ hm).2 rfl) (head_of l hl) (last_of l hl), (hb hl).1, (hb hl).2]; rfl
  · have : l = [] := List.eq_nil_of_length_eq_zero (by omega)
    rw [this, hdr_nil]

theorem of_hdr {l : List UInt8} (h : hdr l = true) : (∀ c ∈ l, c ≠ 13 ∧ c ≠ 10) ∧ (0 < l.length → blank (l.getD 0 0) = false ∧ blank (l.getD (l.length - 1) 0) = false) := by
  have h13 : ¬ (13 : UInt8) ∈ l := fun hm => by rw [hdr_cr hm] at h; cases h
  have h10 : ¬ (10 : UInt8) ∈ l := fun hm => by rw [hdr_lf hm] at h; cases h
  refine ⟨fun c hc => ⟨fun e => h13 (e ▸ hc), fun e => h10 (e ▸ hc)⟩, fun hl => ?_⟩
  rw [hdr_rest h13 h10 (head_of l hl) (last_of l hl)] at h
  simpa using h

/-- What NATS makes of a text is header text. -/
theorem clean_hdr (l : List UInt8) (lo hi : Nat) (h : Trim (l.map cl) lo hi) : hdr (cut (l.map cl) lo hi) = true := by
  apply hdr_of
  · intro c hc
    have hm : c ∈ l.map cl := List.mem_of_mem_drop (List.mem_of_mem_take hc)
    obtain ⟨x, _, rfl⟩ := List.mem_map.1 hm
    exact ⟨cl_ne13 x, cl_ne10 x⟩
  · intro hl
    have hn := cut_length h
    rw [hn] at hl ⊢
    refine ⟨?_, ?_⟩
    · rw [getD_cut 0 hl]; exact h.first (by omega)
    · rw [getD_cut (hi - lo - 1) (by omega), show lo + (hi - lo - 1) = hi - 1 by omega]; exact h.last (by omega)

/-- A text is header text just where NATS leaves it as it is. -/
theorem fixed_iff (l : List UInt8) (lo hi : Nat) (h : Trim (l.map cl) lo hi) : hdr l = (cut (l.map cl) lo hi == l) := by
  rw [Bool.eq_iff_iff, beq_iff_eq]
  constructor
  · intro hh
    obtain ⟨h1, h2⟩ := of_hdr hh
    have hm := map_cl_id l h1
    rw [hm] at h ⊢
    by_cases hl : 0 < l.length
    · obtain ⟨h3, h4⟩ := h2 hl
      have hlo : lo = 0 := by
        apply Nat.eq_zero_of_not_pos; intro hp
        have := h.left 0 hp; rw [h3] at this; cases this
      have hhi : hi = l.length := by
        have ht := h.top
        apply Nat.le_antisymm ht; apply Nat.le_of_not_lt; intro hp
        have := h.right (l.length - 1) (by omega) (by omega); rw [h4] at this; cases this
      subst hlo; subst hhi
      simp [cut]
    · have : l = [] := List.eq_nil_of_length_eq_zero (by omega)
      subst this; simp [cut]
  · intro he
    have hn := cut_length h
    have ht := h.top
    have hle := h.le
    have hlen : (cut (l.map cl) lo hi).length = l.length := by rw [he]
    simp only [List.length_map] at ht
    have hlo : lo = 0 := by omega
    have hhi : hi = l.length := by omega
    have hid : l.map cl = l := by
      have e : cut (l.map cl) lo hi = l.map cl := by
        rw [hlo, hhi]; unfold cut; rw [List.drop_zero, Nat.sub_zero]; exact List.take_of_length_le (by simp)
      rw [← e]; exact he
    apply hdr_of
    · intro c hc
      rw [← hid] at hc
      obtain ⟨x, _, rfl⟩ := List.mem_map.1 hc
      exact ⟨cl_ne13 x, cl_ne10 x⟩
    · intro hl
      have h1 := h.first (by omega)
      have h2 := h.last (by omega)
      rw [hid, hlo] at h1
      rw [hid, hhi] at h2
      exact ⟨h1, h2⟩

/-- A text of bytes above the space is header text. -/
theorem token_hdr (l : List UInt8) (h : ∀ c ∈ l, 32 < c.toNat) : hdr l = true := by
  have hg : ∀ c : UInt8, 32 < c.toNat → c ≠ 13 ∧ c ≠ 10 ∧ blank c = false := by
    intro c hc
    have hn : ∀ d : UInt8, d.toNat ≤ 32 → c ≠ d := fun d hd e => by rw [e] at hc; omega
    refine ⟨hn 13 (by decide), hn 10 (by decide), ?_⟩
    have e1 : (c == 32) = false := beq_eq_false_iff_ne.2 (hn 32 (by decide))
    have e2 : (c == 9) = false := beq_eq_false_iff_ne.2 (hn 9 (by decide))
    simp [blank, e1, e2]
  apply hdr_of
  · intro c hc
    exact ⟨(hg c (h c hc)).1, (hg c (h c hc)).2.1⟩
  · intro hl
    have hm : ∀ j, j < l.length → l.getD j 0 ∈ l := fun j hj => by
      rw [List.getD_eq_getElem?_getD, List.getElem?_eq_getElem hj]; exact List.getElem_mem hj
    exact ⟨(hg _ (h _ (hm 0 hl))).2.2, (hg _ (h _ (hm _ (by omega)))).2.2⟩

end Go.Proofs.Qxb6617232aMods.Plain
