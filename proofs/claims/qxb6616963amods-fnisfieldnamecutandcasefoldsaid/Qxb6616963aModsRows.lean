/-
  No cell of these rows narrows 'for every input' (looked for: loops, veiled, ifaces, maps, wideKeys, modest, calm, conditions, laid).
  DERIVED. THE GIVEN ROWS OF THIS SEAT. 2 by the template 'for every input the law returns true; each argument reads behind the call as it read before'; 0 by the template 'total and deterministic' (their statements: Qxb6616963aModsTotals.lean).
  GIVEN WITH THE SEED: the statements are not yours to turn. If you find one false, say at which input.
  Laid BY PROGRAM, IN A SANDBOX (cutbox-rows.mjs): the forced cells as the released guide's own fill.sh prints them over the translation c358a342f447c2fb… (all of the seat's roots in one cut). By AI agents, Wed Nov 11 2026. No macro, syntax, notation, axiom, sorry.
-/
import Derived.Test.Qxb6616963aModsChecked
import GoSem.Claim
import GoSem.ClaimJoined
import GoSem.ClaimMapViews
import Derived.JoinedTies
import Derived.KernelRfl
namespace Go.Proofs.Qxb6616963aMods
/- THE CELL 'sum', in the pinned program and in every row, IS THE sha256 OF THE DUMP (.gsa) THAT Qxb6616963aModsProg.lean LOADS. Nothing in Lean hashes anything: it is a label: what it is worth is what the hold of that sum in a sandbox is worth. -/
noncomputable def Trym.pinned : Pinned := { name := "qxb6616963amods", sum := "c358a342f447c2fb61f07e420ff1689dbf6877e290f1b4a690513fe217340265", checked := Trym.checked }
namespace Rows
def none {H : Type} : Left H := { results := [], args := [] }

/-- 'zzlaws_internal_vouch_b1.FnIsFieldNameOneByteAtAnyPlace': WHATEVER THE INPUT: true; the input reads as it did. -/
def fnIsFieldNameOneByteAtAnyPlaceSpec : ChangeSpec := { name := "fnIsFieldNameOneByteAtAnyPlace", fn := fun _ => fun
  | [d1, d2, d3] => { results := [.lit (.bool true)], args := [d1, d2, d3] }
  | _ => none }
def fnIsFieldNameOneByteAtAnyPlaceRow : OpenClaim := { program := "qxb6616963amods", sum := "c358a342f447c2fb61f07e420ff1689dbf6877e290f1b4a690513fe217340265", func := "example.com/sigvouch/sigvouch/zzlaws_internal_vouch_b1.FnIsFieldNameOneByteAtAnyPlace", spec := "fnIsFieldNameOneByteAtAnyPlace", inPlace := ["internal/bytealg.IndexByteString"], make := .lifted ["publicsums"], apart := false }
def FnIsFieldNameOneByteAtAnyPlaceSaid : Prop := fnIsFieldNameOneByteAtAnyPlaceRow.holds Trym.pinned (OpenSpec.ofChange fnIsFieldNameOneByteAtAnyPlaceSpec)

/-- ITS FALSE NEIGHBOUR: 'it returns false'. Refute it at one input. -/
def fnIsFieldNameOneByteAtAnyPlaceWrong : ChangeSpec := { name := "fnIsFieldNameOneByteAtAnyPlace", fn := fun _ => fun
  | [d1, d2, d3] => { results := [.lit (.bool false)], args := [d1, d2, d3] }
  | _ => none }
def FnIsFieldNameOneByteAtAnyPlaceWrongFalsely : Prop := fnIsFieldNameOneByteAtAnyPlaceRow.holds Trym.pinned (OpenSpec.ofChange fnIsFieldNameOneByteAtAnyPlaceWrong)

/-- 'zzlaws_internal_vouch_b1.FnIsFieldNameCutAndCaseFold': WHATEVER THE INPUT: true; the input reads as it did. -/
def fnIsFieldNameCutAndCaseFoldSpec : ChangeSpec := { name := "fnIsFieldNameCutAndCaseFold", fn := fun _ => fun
  | [d1, d2] => { results := [.lit (.bool true)], args := [d1, d2] }
  | _ => none }
def fnIsFieldNameCutAndCaseFoldRow : OpenClaim := { program := "qxb6616963amods", sum := "c358a342f447c2fb61f07e420ff1689dbf6877e290f1b4a690513fe217340265", func := "example.com/sigvouch/sigvouch/zzlaws_internal_vouch_b1.FnIsFieldNameCutAndCaseFold", spec := "fnIsFieldNameCutAndCaseFold", inPlace := ["internal/bytealg.IndexByteString"], make := .lifted ["publicsums"], apart := false }
def FnIsFieldNameCutAndCaseFoldSaid : Prop := fnIsFieldNameCutAndCaseFoldRow.holds Trym.pinned (OpenSpec.ofChange fnIsFieldNameCutAndCaseFoldSpec)

/-- ITS FALSE NEIGHBOUR: 'it returns false'. Refute it at one input. -/
def fnIsFieldNameCutAndCaseFoldWrong : ChangeSpec := { name := "fnIsFieldNameCutAndCaseFold", fn := fun _ => fun
  | [d1, d2] => { results := [.lit (.bool false)], args := [d1, d2] }
  | _ => none }
def FnIsFieldNameCutAndCaseFoldWrongFalsely : Prop := fnIsFieldNameCutAndCaseFoldRow.holds Trym.pinned (OpenSpec.ofChange fnIsFieldNameCutAndCaseFoldWrong)

end Rows
end Go.Proofs.Qxb6616963aMods
