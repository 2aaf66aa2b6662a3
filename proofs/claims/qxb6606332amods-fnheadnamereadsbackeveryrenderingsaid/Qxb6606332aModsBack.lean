-- Plain laws over 'Head.hn': each rendering of a name is read back.
import Derived.Test.Qxb6606332aModsHead
import Derived.Test.Qxb6606332aModsPlain2
namespace Go.Proofs.Qxb6606332aMods.Head
open Go.Proofs.Qxb6606332aMods

theorem prefix_self : ∀ (p t : List UInt8), p.isPrefixOf (p ++ t) = true
  | [], _ => rfl
  | c :: p, t => by
    show ((c == c) && p.isPrefixOf (p ++ t)) = true
    rw [prefix_self p t]; simp

theorem dec_none_of {l : List UInt8} (h : l.head? ≠ some 34) : Plain.dec l = none := by
  match l, h with
  | [], _ => rfl
  | c :: t, h =>
    have hc : (c == 34) = false := beq_eq_false_iff_ne.2 (fun e => h (by rw [e]; rfl))
    show (if (c == 34) = true then _ else none) = none
    rw [hc]; rfl

theorem hn_cc (r : List UInt8) : hn (preCC ++ r) = match Plain.dec r with
    | none => r
    | some (p, t) => if t.isEmpty then p else [] := by
  have h : preCC.isPrefixOf (preCC ++ r) = true := prefix_self _ _
  unfold hn
  rw [if_pos h]
  rfl

theorem hn_git (r : List UInt8) : hn (preGit ++ r) = match Plain.dec r with
    | none => plain r
    | some (p, t) => quoted p t := by
  have h : preGit.isPrefixOf (preGit ++ r) = true := prefix_self _ _
  have h2 : ¬ preCC.isPrefixOf (preGit ++ r) = true := by
    rw [Bool.not_eq_true]; rfl
  unfold hn
  rw [if_neg h2, if_pos h]
  rfl

theorem back_cc_quoted (all : Bool) (p : List UInt8) : hn (preCC ++ Plain.quote all p) = p := by
  have hd := Plain.dec_quote all p []
  rw [List.append_nil] at hd
  rw [hn_cc, hd]; rfl

theorem back_cc_plain (p : List UInt8) (h : p.head? ≠ some 34) : hn (preCC ++ p) = p := by
  rw [hn_cc, dec_none_of h]

theorem fin_self (p : List UInt8) : fin (97 :: 47 :: p) (98 :: 47 :: p) = p := by
  simp [fin]

theorem back_git_quoted (all : Bool) (p : List UInt8) : hn (preGit ++ (Plain.quote all (97 :: 47 :: p) ++ (32 :: Plain.quote all (98 :: 47 :: p)))) = p := by
  have hd := Plain.dec_quote all (98 :: 47 :: p) []
  rw [List.append_nil] at hd
  rw [hn_git, Plain.dec_quote]
  show quoted (97 :: 47 :: p) (32 :: Plain.quote all (98 :: 47 :: p)) = p
  unfold quoted
  rw [if_pos (by rfl)]
  show (match Plain.dec (Plain.quote all (98 :: 47 :: p)) with | none => [] | some (q, e) => if e.isEmpty then fin (97 :: 47 :: p) q else []) = p
  rw [hd]
  exact fin_self p

theorem back_git_plain (p : List UInt8) : hn (preGit ++ ((97 :: 47 :: p) ++ (32 :: 98 :: 47 :: p))) = p := by
  rw [hn_git, dec_none_of (by simp)]
  show plain ((97 :: 47 :: p) ++ (32 :: 98 :: 47 :: p)) = p
  have hl : ((97 :: 47 :: p) ++ (32 :: 98 :: 47 :: p) : List UInt8).length = 2 * (97 :: 47 :: p : List UInt8).length + 1 := by
    simp only [List.length_append, List.length_cons]; omega
  have hh : ((97 :: 47 :: p) ++ (32 :: 98 :: 47 :: p) : List UInt8).length / 2 = (97 :: 47 :: p : List UInt8).length := by omega
  unfold plain
  rw [if_neg (by omega), hh]
  have hg : ((97 :: 47 :: p) ++ (32 :: 98 :: 47 :: p) : List UInt8).getD (97 :: 47 :: p : List UInt8).length 0 = 32 := by
    rw [List.getD_eq_getElem?_getD, List.getElem?_append_right (Nat.le_refl _), Nat.sub_self]; rfl
  have hd : List.drop ((97 :: 47 :: p : List UInt8).length + 1) ((97 :: 47 :: p) ++ (32 :: 98 :: 47 :: p)) = 98 :: 47 :: p := by
    rw [List.drop_append, List.drop_of_length_le (by omega), Nat.add_sub_cancel_left]; rfl
  rw [if_pos hg, List.take_left' rfl, hd]
  exact fin_self p

end Go.Proofs.Qxb6606332aMods.Head
