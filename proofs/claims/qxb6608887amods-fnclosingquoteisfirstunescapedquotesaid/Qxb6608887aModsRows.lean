/-
  No cell of these rows narrows 'for every input' (looked for: loops, veiled, ifaces, maps, wideKeys, modest, calm, conditions, laid).
  DERIVED. THE GIVEN ROWS OF THIS SEAT. 2 by the template 'for every input the law returns true; each argument reads behind the call as it read before'; 0 by the template 'total and deterministic' (their statements: Qxb6608887aModsTotals.lean).
  GIVEN WITH THE SEED: the statements are not yours to turn. If you find one false, say at which input.
  Laid BY PROGRAM, IN A SANDBOX (cutbox-rows.mjs): the forced cells as the released guide's own fill.sh prints them over the translation e5e65c455180e32a… (all of the seat's roots in one cut). By AI agents, Wed Nov 11 2026. No macro, syntax, notation, axiom, sorry.
-/
import Derived.Test.Qxb6608887aModsChecked
import GoSem.Claim
import GoSem.ClaimJoined
import GoSem.ClaimMapViews
import Derived.JoinedTies
import Derived.KernelRfl
namespace Go.Proofs.Qxb6608887aMods
/- THE CELL 'sum', in the pinned program and in every row, IS THE sha256 OF THE DUMP (.gsa) THAT Qxb6608887aModsProg.lean LOADS. Nothing in Lean hashes anything: it is a label: what it is worth is what the hold of that sum in a sandbox is worth. -/
noncomputable def Trym.pinned : Pinned := { name := "qxb6608887amods", sum := "e5e65c455180e32ae29eff03a68ce402f2cae68cdf0b6eeb18b5f317ca966893", checked := Trym.checked }
namespace Rows
def none {H : Type} : Left H := { results := [], args := [] }

/-- 'zzlaws_root_b1.FnClosingQuoteIsFirstUnescapedQuote': WHATEVER THE INPUT: true; the input reads as it did. -/
def fnClosingQuoteIsFirstUnescapedQuoteSpec : ChangeSpec := { name := "fnClosingQuoteIsFirstUnescapedQuote", fn := fun _ => fun
  | [d1, d2] => { results := [.lit (.bool true)], args := [d1, d2] }
  | _ => none }
def fnClosingQuoteIsFirstUnescapedQuoteRow : OpenClaim := { program := "qxb6608887amods", sum := "e5e65c455180e32ae29eff03a68ce402f2cae68cdf0b6eeb18b5f317ca966893", func := "example.com/berth/berth/zzlaws_root_b1.FnClosingQuoteIsFirstUnescapedQuote", spec := "fnClosingQuoteIsFirstUnescapedQuote", inPlace := ["internal/bytealg.IndexByteString"], make := .lifted ["publicsums"], apart := false }
def FnClosingQuoteIsFirstUnescapedQuoteSaid : Prop := fnClosingQuoteIsFirstUnescapedQuoteRow.holds Trym.pinned (OpenSpec.ofChange fnClosingQuoteIsFirstUnescapedQuoteSpec)

/-- ITS FALSE NEIGHBOUR: 'it returns false'. Refute it at one input. -/
def fnClosingQuoteIsFirstUnescapedQuoteWrong : ChangeSpec := { name := "fnClosingQuoteIsFirstUnescapedQuote", fn := fun _ => fun
  | [d1, d2] => { results := [.lit (.bool false)], args := [d1, d2] }
  | _ => none }
def FnClosingQuoteIsFirstUnescapedQuoteWrongFalsely : Prop := fnClosingQuoteIsFirstUnescapedQuoteRow.holds Trym.pinned (OpenSpec.ofChange fnClosingQuoteIsFirstUnescapedQuoteWrong)

/-- 'zzlaws_root_b1.FnClosingQuoteKeptUnderAppending': WHATEVER THE INPUT: true; the input reads as it did. -/
def fnClosingQuoteKeptUnderAppendingSpec : ChangeSpec := { name := "fnClosingQuoteKeptUnderAppending", fn := fun _ => fun
  | [d1, d2, d3] => { results := [.lit (.bool true)], args := [d1, d2, d3] }
  | _ => none }
def fnClosingQuoteKeptUnderAppendingRow : OpenClaim := { program := "qxb6608887amods", sum := "e5e65c455180e32ae29eff03a68ce402f2cae68cdf0b6eeb18b5f317ca966893", func := "example.com/berth/berth/zzlaws_root_b1.FnClosingQuoteKeptUnderAppending", spec := "fnClosingQuoteKeptUnderAppending", inPlace := ["internal/bytealg.IndexByteString"], make := .lifted ["publicsums"], apart := false }
def FnClosingQuoteKeptUnderAppendingSaid : Prop := fnClosingQuoteKeptUnderAppendingRow.holds Trym.pinned (OpenSpec.ofChange fnClosingQuoteKeptUnderAppendingSpec)

/-- ITS FALSE NEIGHBOUR: 'it returns false'. Refute it at one input. -/
def fnClosingQuoteKeptUnderAppendingWrong : ChangeSpec := { name := "fnClosingQuoteKeptUnderAppending", fn := fun _ => fun
  | [d1, d2, d3] => { results := [.lit (.bool false)], args := [d1, d2, d3] }
  | _ => none }
def FnClosingQuoteKeptUnderAppendingWrongFalsely : Prop := fnClosingQuoteKeptUnderAppendingRow.holds Trym.pinned (OpenSpec.ofChange fnClosingQuoteKeptUnderAppendingWrong)

end Rows
end Go.Proofs.Qxb6608887aMods
