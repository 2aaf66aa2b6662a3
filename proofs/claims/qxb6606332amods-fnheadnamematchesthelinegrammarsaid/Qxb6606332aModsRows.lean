/-
  No cell of these rows narrows 'for every input' (looked for: loops, veiled, ifaces, maps, wideKeys, modest, calm, conditions, laid).
  DERIVED. THE GIVEN ROWS OF THIS SEAT. 4 by the template 'for every input the law returns true; each argument reads behind the call as it read before'; 0 by the template 'total and deterministic' (their statements: Qxb6606332aModsTotals.lean).
  GIVEN WITH THE SEED: the statements are not yours to turn. If you find one false, say at which input.
  Laid BY PROGRAM, IN A SANDBOX (cutbox-rows.mjs): the forced cells as the released guide's own fill.sh prints them over the translation 9712f64e9b3dd9a0… (all of the seat's roots in one cut). By AI agents, Wed Nov 11 2026. No macro, syntax, notation, axiom, sorry.
-/
import Derived.Test.Qxb6606332aModsChecked
import GoSem.Claim
import GoSem.ClaimJoined
import GoSem.ClaimMapViews
import Derived.JoinedTies
import Derived.KernelRfl
namespace Go.Proofs.Qxb6606332aMods
/- THE CELL 'sum', in the pinned program and in every row, IS THE sha256 OF THE DUMP (.gsa) THAT Qxb6606332aModsProg.lean LOADS. Nothing in Lean hashes anything: it is a label: what it is worth is what the hold of that sum in a sandbox is worth. -/
noncomputable def Trym.pinned : Pinned := { name := "qxb6606332amods", sum := "9712f64e9b3dd9a0c551b277ab9a5cc57efc55f181827bd20287312cd7d75d27", checked := Trym.checked }
namespace Rows
def none {H : Type} : Left H := { results := [], args := [] }

/-- 'zzlaws_internal_agent_b1.FnUnquoteInvertsGitQuoting': WHATEVER THE INPUT: true; the input reads as it did. -/
def fnUnquoteInvertsGitQuotingSpec : ChangeSpec := { name := "fnUnquoteInvertsGitQuoting", fn := fun _ => fun
  | [d1, d2, d3] => { results := [.lit (.bool true)], args := [d1, d2, d3] }
  | _ => none }
def fnUnquoteInvertsGitQuotingRow : OpenClaim := { program := "qxb6606332amods", sum := "9712f64e9b3dd9a0c551b277ab9a5cc57efc55f181827bd20287312cd7d75d27", func := "example.com/kindred-threads/kindred-threads/zzlaws_internal_agent_b1.FnUnquoteInvertsGitQuoting", spec := "fnUnquoteInvertsGitQuoting", inPlace := ["internal/bytealg.IndexByteString"], make := .lifted ["publicsums"], apart := false }
def FnUnquoteInvertsGitQuotingSaid : Prop := fnUnquoteInvertsGitQuotingRow.holds Trym.pinned (OpenSpec.ofChange fnUnquoteInvertsGitQuotingSpec)

/-- ITS FALSE NEIGHBOUR: 'it returns false'. Refute it at one input. -/
def fnUnquoteInvertsGitQuotingWrong : ChangeSpec := { name := "fnUnquoteInvertsGitQuoting", fn := fun _ => fun
  | [d1, d2, d3] => { results := [.lit (.bool false)], args := [d1, d2, d3] }
  | _ => none }
def FnUnquoteInvertsGitQuotingWrongFalsely : Prop := fnUnquoteInvertsGitQuotingRow.holds Trym.pinned (OpenSpec.ofChange fnUnquoteInvertsGitQuotingWrong)

/-- 'zzlaws_internal_agent_b1.FnUnquoteIgnoresWhatFollowsTheQuote': WHATEVER THE INPUT: true; the input reads as it did. -/
def fnUnquoteIgnoresWhatFollowsTheQuoteSpec : ChangeSpec := { name := "fnUnquoteIgnoresWhatFollowsTheQuote", fn := fun _ => fun
  | [d1, d2] => { results := [.lit (.bool true)], args := [d1, d2] }
  | _ => none }
def fnUnquoteIgnoresWhatFollowsTheQuoteRow : OpenClaim := { program := "qxb6606332amods", sum := "9712f64e9b3dd9a0c551b277ab9a5cc57efc55f181827bd20287312cd7d75d27", func := "example.com/kindred-threads/kindred-threads/zzlaws_internal_agent_b1.FnUnquoteIgnoresWhatFollowsTheQuote", spec := "fnUnquoteIgnoresWhatFollowsTheQuote", inPlace := ["internal/bytealg.IndexByteString"], make := .lifted ["publicsums"], apart := false }
def FnUnquoteIgnoresWhatFollowsTheQuoteSaid : Prop := fnUnquoteIgnoresWhatFollowsTheQuoteRow.holds Trym.pinned (OpenSpec.ofChange fnUnquoteIgnoresWhatFollowsTheQuoteSpec)

/-- ITS FALSE NEIGHBOUR: 'it returns false'. Refute it at one input. -/
def fnUnquoteIgnoresWhatFollowsTheQuoteWrong : ChangeSpec := { name := "fnUnquoteIgnoresWhatFollowsTheQuote", fn := fun _ => fun
  | [d1, d2] => { results := [.lit (.bool false)], args := [d1, d2] }
  | _ => none }
def FnUnquoteIgnoresWhatFollowsTheQuoteWrongFalsely : Prop := fnUnquoteIgnoresWhatFollowsTheQuoteRow.holds Trym.pinned (OpenSpec.ofChange fnUnquoteIgnoresWhatFollowsTheQuoteWrong)

/-- 'zzlaws_internal_agent_b1.FnHeadNameMatchesTheLineGrammar': WHATEVER THE INPUT: true; the input reads as it did. -/
def fnHeadNameMatchesTheLineGrammarSpec : ChangeSpec := { name := "fnHeadNameMatchesTheLineGrammar", fn := fun _ => fun
  | [d] => { results := [.lit (.bool true)], args := [d] }
  | _ => none }
def fnHeadNameMatchesTheLineGrammarRow : OpenClaim := { program := "qxb6606332amods", sum := "9712f64e9b3dd9a0c551b277ab9a5cc57efc55f181827bd20287312cd7d75d27", func := "example.com/kindred-threads/kindred-threads/zzlaws_internal_agent_b1.FnHeadNameMatchesTheLineGrammar", spec := "fnHeadNameMatchesTheLineGrammar", inPlace := ["internal/bytealg.IndexByteString"], make := .lifted ["publicsums"], apart := false }
def FnHeadNameMatchesTheLineGrammarSaid : Prop := fnHeadNameMatchesTheLineGrammarRow.holds Trym.pinned (OpenSpec.ofChange fnHeadNameMatchesTheLineGrammarSpec)

/-- ITS FALSE NEIGHBOUR: 'it returns false'. Refute it at one input. -/
def fnHeadNameMatchesTheLineGrammarWrong : ChangeSpec := { name := "fnHeadNameMatchesTheLineGrammar", fn := fun _ => fun
  | [d] => { results := [.lit (.bool false)], args := [d] }
  | _ => none }
def FnHeadNameMatchesTheLineGrammarWrongFalsely : Prop := fnHeadNameMatchesTheLineGrammarRow.holds Trym.pinned (OpenSpec.ofChange fnHeadNameMatchesTheLineGrammarWrong)

/-- 'zzlaws_internal_agent_b1.FnHeadNameReadsBackEveryRendering': WHATEVER THE INPUT: true; the input reads as it did. -/
def fnHeadNameReadsBackEveryRenderingSpec : ChangeSpec := { name := "fnHeadNameReadsBackEveryRendering", fn := fun _ => fun
  | [d1, d2, d3, d4] => { results := [.lit (.bool true)], args := [d1, d2, d3, d4] }
  | _ => none }
def fnHeadNameReadsBackEveryRenderingRow : OpenClaim := { program := "qxb6606332amods", sum := "9712f64e9b3dd9a0c551b277ab9a5cc57efc55f181827bd20287312cd7d75d27", func := "example.com/kindred-threads/kindred-threads/zzlaws_internal_agent_b1.FnHeadNameReadsBackEveryRendering", spec := "fnHeadNameReadsBackEveryRendering", inPlace := ["internal/bytealg.IndexByteString"], make := .lifted ["publicsums"], apart := false }
def FnHeadNameReadsBackEveryRenderingSaid : Prop := fnHeadNameReadsBackEveryRenderingRow.holds Trym.pinned (OpenSpec.ofChange fnHeadNameReadsBackEveryRenderingSpec)

/-- ITS FALSE NEIGHBOUR: 'it returns false'. Refute it at one input. -/
def fnHeadNameReadsBackEveryRenderingWrong : ChangeSpec := { name := "fnHeadNameReadsBackEveryRendering", fn := fun _ => fun
  | [d1, d2, d3, d4] => { results := [.lit (.bool false)], args := [d1, d2, d3, d4] }
  | _ => none }
def FnHeadNameReadsBackEveryRenderingWrongFalsely : Prop := fnHeadNameReadsBackEveryRenderingRow.holds Trym.pinned (OpenSpec.ofChange fnHeadNameReadsBackEveryRenderingWrong)

end Rows
end Go.Proofs.Qxb6606332aMods
