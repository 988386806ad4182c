/-
  No cell of these rows narrows 'for every input' (looked for: loops, veiled, ifaces, maps, wideKeys, modest, calm, conditions, laid).
  DERIVED. THE GIVEN ROWS OF THIS SEAT. 4 by the template 'for every input the law returns true; each argument reads behind the call as it read before'; 0 by the template 'total and deterministic' (their statements: Qxb6606113aModsTotals.lean).
  GIVEN WITH THE SEED: the statements are not yours to turn. If you find one false, say at which input.
  Laid BY PROGRAM, IN A SANDBOX (cutbox-rows.mjs): the forced cells as the released guide's own fill.sh prints them over the translation 989f547040192ccd… (all of the seat's roots in one cut). By AI agents, Wed Nov 11 2026. No macro, syntax, notation, axiom, sorry.
-/
import Derived.Test.Qxb6606113aModsChecked
import GoSem.Claim
import GoSem.ClaimJoined
import GoSem.ClaimMapViews
import Derived.JoinedTies
import Derived.KernelRfl
namespace Go.Proofs.Qxb6606113aMods
/- THE CELL 'sum', in the pinned program and in every row, IS THE sha256 OF THE DUMP (.gsa) THAT Qxb6606113aModsProg.lean LOADS. Nothing in Lean hashes anything: it is a label: what it is worth is what the hold of that sum in a sandbox is worth. -/
noncomputable def Trym.pinned : Pinned := { name := "qxb6606113amods", sum := "989f547040192ccd2fb53aa7a8ce2566c7925443147a48f5d6a2e67f978fb988", checked := Trym.checked }
namespace Rows
def none {H : Type} : Left H := { results := [], args := [] }

/-- 'zzlaws_internal_agent_b1.FnFitTakesTheLongestPrefixThatFits': WHATEVER THE INPUT: true; the input reads as it did. -/
def fnFitTakesTheLongestPrefixThatFitsSpec : ChangeSpec := { name := "fnFitTakesTheLongestPrefixThatFits", fn := fun _ => fun
  | [d1, d2] => { results := [.lit (.bool true)], args := [d1, d2] }
  | _ => none }
def fnFitTakesTheLongestPrefixThatFitsRow : OpenClaim := { program := "qxb6606113amods", sum := "989f547040192ccd2fb53aa7a8ce2566c7925443147a48f5d6a2e67f978fb988", func := "example.com/kindred-threads/kindred-threads/zzlaws_internal_agent_b1.FnFitTakesTheLongestPrefixThatFits", spec := "fnFitTakesTheLongestPrefixThatFits", make := .lifted ["publicsums"], apart := false }
def FnFitTakesTheLongestPrefixThatFitsSaid : Prop := fnFitTakesTheLongestPrefixThatFitsRow.holds Trym.pinned (OpenSpec.ofChange fnFitTakesTheLongestPrefixThatFitsSpec)

/-- ITS FALSE NEIGHBOUR: 'it returns false'. Refute it at one input. -/
def fnFitTakesTheLongestPrefixThatFitsWrong : ChangeSpec := { name := "fnFitTakesTheLongestPrefixThatFits", fn := fun _ => fun
  | [d1, d2] => { results := [.lit (.bool false)], args := [d1, d2] }
  | _ => none }
def FnFitTakesTheLongestPrefixThatFitsWrongFalsely : Prop := fnFitTakesTheLongestPrefixThatFitsRow.holds Trym.pinned (OpenSpec.ofChange fnFitTakesTheLongestPrefixThatFitsWrong)

/-- 'zzlaws_internal_agent_b1.FnFitOfAPrefixIsCappedByThePrefix': WHATEVER THE INPUT: true; the input reads as it did. -/
def fnFitOfAPrefixIsCappedByThePrefixSpec : ChangeSpec := { name := "fnFitOfAPrefixIsCappedByThePrefix", fn := fun _ => fun
  | [d1, d2, d3] => { results := [.lit (.bool true)], args := [d1, d2, d3] }
  | _ => none }
def fnFitOfAPrefixIsCappedByThePrefixRow : OpenClaim := { program := "qxb6606113amods", sum := "989f547040192ccd2fb53aa7a8ce2566c7925443147a48f5d6a2e67f978fb988", func := "example.com/kindred-threads/kindred-threads/zzlaws_internal_agent_b1.FnFitOfAPrefixIsCappedByThePrefix", spec := "fnFitOfAPrefixIsCappedByThePrefix", make := .lifted ["publicsums"], apart := false }
def FnFitOfAPrefixIsCappedByThePrefixSaid : Prop := fnFitOfAPrefixIsCappedByThePrefixRow.holds Trym.pinned (OpenSpec.ofChange fnFitOfAPrefixIsCappedByThePrefixSpec)

/-- ITS FALSE NEIGHBOUR: 'it returns false'. Refute it at one input. -/
def fnFitOfAPrefixIsCappedByThePrefixWrong : ChangeSpec := { name := "fnFitOfAPrefixIsCappedByThePrefix", fn := fun _ => fun
  | [d1, d2, d3] => { results := [.lit (.bool false)], args := [d1, d2, d3] }
  | _ => none }
def FnFitOfAPrefixIsCappedByThePrefixWrongFalsely : Prop := fnFitOfAPrefixIsCappedByThePrefixRow.holds Trym.pinned (OpenSpec.ofChange fnFitOfAPrefixIsCappedByThePrefixWrong)

/-- 'zzlaws_internal_agent_b1.FnFitBatchesCoverTheListWithinBudget': WHATEVER THE INPUT: true; the input reads as it did. -/
def fnFitBatchesCoverTheListWithinBudgetSpec : ChangeSpec := { name := "fnFitBatchesCoverTheListWithinBudget", fn := fun _ => fun
  | [d1, d2] => { results := [.lit (.bool true)], args := [d1, d2] }
  | _ => none }
def fnFitBatchesCoverTheListWithinBudgetRow : OpenClaim := { program := "qxb6606113amods", sum := "989f547040192ccd2fb53aa7a8ce2566c7925443147a48f5d6a2e67f978fb988", func := "example.com/kindred-threads/kindred-threads/zzlaws_internal_agent_b1.FnFitBatchesCoverTheListWithinBudget", spec := "fnFitBatchesCoverTheListWithinBudget", make := .lifted ["publicsums"], apart := false }
def FnFitBatchesCoverTheListWithinBudgetSaid : Prop := fnFitBatchesCoverTheListWithinBudgetRow.holds Trym.pinned (OpenSpec.ofChange fnFitBatchesCoverTheListWithinBudgetSpec)

/-- ITS FALSE NEIGHBOUR: 'it returns false'. Refute it at one input. -/
def fnFitBatchesCoverTheListWithinBudgetWrong : ChangeSpec := { name := "fnFitBatchesCoverTheListWithinBudget", fn := fun _ => fun
  | [d1, d2] => { results := [.lit (.bool false)], args := [d1, d2] }
  | _ => none }
def FnFitBatchesCoverTheListWithinBudgetWrongFalsely : Prop := fnFitBatchesCoverTheListWithinBudgetRow.holds Trym.pinned (OpenSpec.ofChange fnFitBatchesCoverTheListWithinBudgetWrong)

/-- 'zzlaws_internal_agent_b1.FnUnquoteMatchesAnEscapeAutomaton': WHATEVER THE INPUT: true; the input reads as it did. -/
def fnUnquoteMatchesAnEscapeAutomatonSpec : ChangeSpec := { name := "fnUnquoteMatchesAnEscapeAutomaton", fn := fun _ => fun
  | [d] => { results := [.lit (.bool true)], args := [d] }
  | _ => none }
def fnUnquoteMatchesAnEscapeAutomatonRow : OpenClaim := { program := "qxb6606113amods", sum := "989f547040192ccd2fb53aa7a8ce2566c7925443147a48f5d6a2e67f978fb988", func := "example.com/kindred-threads/kindred-threads/zzlaws_internal_agent_b1.FnUnquoteMatchesAnEscapeAutomaton", spec := "fnUnquoteMatchesAnEscapeAutomaton", inPlace := ["internal/bytealg.IndexByteString"], make := .lifted ["publicsums"], apart := false }
def FnUnquoteMatchesAnEscapeAutomatonSaid : Prop := fnUnquoteMatchesAnEscapeAutomatonRow.holds Trym.pinned (OpenSpec.ofChange fnUnquoteMatchesAnEscapeAutomatonSpec)

/-- ITS FALSE NEIGHBOUR: 'it returns false'. Refute it at one input. -/
def fnUnquoteMatchesAnEscapeAutomatonWrong : ChangeSpec := { name := "fnUnquoteMatchesAnEscapeAutomaton", fn := fun _ => fun
  | [d] => { results := [.lit (.bool false)], args := [d] }
  | _ => none }
def FnUnquoteMatchesAnEscapeAutomatonWrongFalsely : Prop := fnUnquoteMatchesAnEscapeAutomatonRow.holds Trym.pinned (OpenSpec.ofChange fnUnquoteMatchesAnEscapeAutomatonWrong)

end Rows
end Go.Proofs.Qxb6606113aMods
