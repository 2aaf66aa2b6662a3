/-
  No cell of these rows narrows 'for every input' (looked for: loops, veiled, ifaces, maps, wideKeys, modest, calm, conditions, laid).
  DERIVED. THE GIVEN ROWS OF THIS SEAT. 2 by the template 'for every input the law returns true; each argument reads behind the call as it read before'; 0 by the template 'total and deterministic' (their statements: Qxb6617232aModsTotals.lean).
  GIVEN WITH THE SEED: the statements are not yours to turn. If you find one false, say at which input.
  Laid BY PROGRAM, IN A SANDBOX (cutbox-rows.mjs): the forced cells as the released guide's own fill.sh prints them over the translation c06e98bcc6fcc655… (all of the seat's roots in one cut). By AI agents, Wed Nov 11 2026. No macro, syntax, notation, axiom, sorry.
-/
import Derived.Test.Qxb6617232aModsChecked
import GoSem.Claim
import GoSem.ClaimJoined
import GoSem.ClaimMapViews
import Derived.JoinedTies
import Derived.KernelRfl
namespace Go.Proofs.Qxb6617232aMods
/- THE CELL 'sum', in the pinned program and in every row, IS THE sha256 OF THE DUMP (.gsa) THAT Qxb6617232aModsProg.lean LOADS. Nothing in Lean hashes anything: it is a label: what it is worth is what the hold of that sum in a sandbox is worth. -/
noncomputable def Trym.pinned : Pinned := { name := "qxb6617232amods", sum := "c06e98bcc6fcc655b54dd5716c57137acd4b9ed6f75467cd92e8289d4a4bc1ea", checked := Trym.checked }
namespace Rows
def none {H : Type} : Left H := { results := [], args := [] }

/-- 'zzlaws_natsjs_b1.FnIsHeaderTextIsNatsFixedPoint': WHATEVER THE INPUT: true; the input reads as it did. -/
def fnIsHeaderTextIsNatsFixedPointSpec : ChangeSpec := { name := "fnIsHeaderTextIsNatsFixedPoint", fn := fun _ => fun
  | [d] => { results := [.lit (.bool true)], args := [d] }
  | _ => none }
def fnIsHeaderTextIsNatsFixedPointRow : OpenClaim := { program := "qxb6617232amods", sum := "c06e98bcc6fcc655b54dd5716c57137acd4b9ed6f75467cd92e8289d4a4bc1ea", func := "example.com/tx1/tx1/zzlaws_natsjs_b1.FnIsHeaderTextIsNatsFixedPoint", spec := "fnIsHeaderTextIsNatsFixedPoint", inPlace := ["internal/bytealg.IndexByteString"], make := .lifted ["publicsums"], apart := false }
def FnIsHeaderTextIsNatsFixedPointSaid : Prop := fnIsHeaderTextIsNatsFixedPointRow.holds Trym.pinned (OpenSpec.ofChange fnIsHeaderTextIsNatsFixedPointSpec)

/-- ITS FALSE NEIGHBOUR: 'it returns false'. Refute it at one input. -/
def fnIsHeaderTextIsNatsFixedPointWrong : ChangeSpec := { name := "fnIsHeaderTextIsNatsFixedPoint", fn := fun _ => fun
  | [d] => { results := [.lit (.bool false)], args := [d] }
  | _ => none }
def FnIsHeaderTextIsNatsFixedPointWrongFalsely : Prop := fnIsHeaderTextIsNatsFixedPointRow.holds Trym.pinned (OpenSpec.ofChange fnIsHeaderTextIsNatsFixedPointWrong)

/-- 'zzlaws_natsjs_b1.FnIsHeaderTextSplitsAtAByte': WHATEVER THE INPUT: true; the input reads as it did. -/
def fnIsHeaderTextSplitsAtAByteSpec : ChangeSpec := { name := "fnIsHeaderTextSplitsAtAByte", fn := fun _ => fun
  | [d1, d2, d3] => { results := [.lit (.bool true)], args := [d1, d2, d3] }
  | _ => none }
def fnIsHeaderTextSplitsAtAByteRow : OpenClaim := { program := "qxb6617232amods", sum := "c06e98bcc6fcc655b54dd5716c57137acd4b9ed6f75467cd92e8289d4a4bc1ea", func := "example.com/tx1/tx1/zzlaws_natsjs_b1.FnIsHeaderTextSplitsAtAByte", spec := "fnIsHeaderTextSplitsAtAByte", inPlace := ["internal/bytealg.IndexByteString"], make := .lifted ["publicsums"], apart := false }
def FnIsHeaderTextSplitsAtAByteSaid : Prop := fnIsHeaderTextSplitsAtAByteRow.holds Trym.pinned (OpenSpec.ofChange fnIsHeaderTextSplitsAtAByteSpec)

/-- ITS FALSE NEIGHBOUR: 'it returns false'. Refute it at one input. -/
def fnIsHeaderTextSplitsAtAByteWrong : ChangeSpec := { name := "fnIsHeaderTextSplitsAtAByte", fn := fun _ => fun
  | [d1, d2, d3] => { results := [.lit (.bool false)], args := [d1, d2, d3] }
  | _ => none }
def FnIsHeaderTextSplitsAtAByteWrongFalsely : Prop := fnIsHeaderTextSplitsAtAByteRow.holds Trym.pinned (OpenSpec.ofChange fnIsHeaderTextSplitsAtAByteWrong)

end Rows
end Go.Proofs.Qxb6617232aMods
