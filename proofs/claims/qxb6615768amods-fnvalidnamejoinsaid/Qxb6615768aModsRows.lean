/-
  No cell of these rows narrows 'for every input' (looked for: loops, veiled, ifaces, maps, wideKeys, modest, calm, conditions, laid).
  DERIVED. THE GIVEN ROWS OF THIS SEAT. 1 by the template 'for every input the law returns true; each argument reads behind the call as it read before'; 0 by the template 'total and deterministic' (their statements: Qxb6615768aModsTotals.lean).
  GIVEN WITH THE SEED: the statements are not yours to turn. If you find one false, say at which input.
  Laid BY PROGRAM, IN A SANDBOX (cutbox-rows.mjs): the forced cells as the released guide's own fill.sh prints them over the translation 7ba614799454035b… (all of the seat's roots in one cut). By AI agents, Wed Nov 11 2026. No macro, syntax, notation, axiom, sorry.
-/
import Derived.Test.Qxb6615768aModsChecked
import GoSem.Claim
import GoSem.ClaimJoined
import GoSem.ClaimMapViews
import Derived.JoinedTies
import Derived.KernelRfl
namespace Go.Proofs.Qxb6615768aMods
/- THE CELL 'sum', in the pinned program and in every row, IS THE sha256 OF THE DUMP (.gsa) THAT Qxb6615768aModsProg.lean LOADS. Nothing in Lean hashes anything: it is a label: what it is worth is what the hold of that sum in a sandbox is worth. -/
noncomputable def Trym.pinned : Pinned := { name := "qxb6615768amods", sum := "7ba614799454035b21d7a710fc143d32c8ba3912f52b0299e4f953640ec1e417", checked := Trym.checked }
namespace Rows
def none {H : Type} : Left H := { results := [], args := [] }

/-- 'zzlaws_root_b1.FnValidNameJoin': WHATEVER THE INPUT: true; the input reads as it did. -/
def fnValidNameJoinSpec : ChangeSpec := { name := "fnValidNameJoin", fn := fun _ => fun
  | [d1, d2] => { results := [.lit (.bool true)], args := [d1, d2] }
  | _ => none }
def fnValidNameJoinRow : OpenClaim := { program := "qxb6615768amods", sum := "7ba614799454035b21d7a710fc143d32c8ba3912f52b0299e4f953640ec1e417", func := "example.com/entitlement/entitlement/zzlaws_root_b1.FnValidNameJoin", spec := "fnValidNameJoin", inPlace := ["internal/bytealg.IndexByteString"], make := .lifted ["publicsums"], apart := false }
def FnValidNameJoinSaid : Prop := fnValidNameJoinRow.holds Trym.pinned (OpenSpec.ofChange fnValidNameJoinSpec)

/-- ITS FALSE NEIGHBOUR: 'it returns false'. Refute it at one input. -/
def fnValidNameJoinWrong : ChangeSpec := { name := "fnValidNameJoin", fn := fun _ => fun
  | [d1, d2] => { results := [.lit (.bool false)], args := [d1, d2] }
  | _ => none }
def FnValidNameJoinWrongFalsely : Prop := fnValidNameJoinRow.holds Trym.pinned (OpenSpec.ofChange fnValidNameJoinWrong)

end Rows
end Go.Proofs.Qxb6615768aMods
