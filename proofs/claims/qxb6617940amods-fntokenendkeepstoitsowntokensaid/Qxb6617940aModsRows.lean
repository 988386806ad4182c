/-
  No cell of these rows narrows 'for every input' (looked for: loops, veiled, ifaces, maps, wideKeys, modest, calm, conditions, laid).
  DERIVED. THE GIVEN ROWS OF THIS SEAT. 4 by the template 'for every input the law returns true; each argument reads behind the call as it read before'; 0 by the template 'total and deterministic' (their statements: Qxb6617940aModsTotals.lean).
  GIVEN WITH THE SEED: the statements are not yours to turn. If you find one false, say at which input.
  Laid BY PROGRAM, IN A SANDBOX (cutbox-rows.mjs): the forced cells as the released guide's own fill.sh prints them over the translation 1e2357436a8a5865… (all of the seat's roots in one cut). By AI agents, Wed Nov 11 2026. No macro, syntax, notation, axiom, sorry.
-/
import Derived.Test.Qxb6617940aModsChecked
import GoSem.Claim
import GoSem.ClaimJoined
import GoSem.ClaimMapViews
import Derived.JoinedTies
import Derived.KernelRfl
namespace Go.Proofs.Qxb6617940aMods
/- THE CELL 'sum', in the pinned program and in every row, IS THE sha256 OF THE DUMP (.gsa) THAT Qxb6617940aModsProg.lean LOADS. Nothing in Lean hashes anything: it is a label: what it is worth is what the hold of that sum in a sandbox is worth. -/
noncomputable def Trym.pinned : Pinned := { name := "qxb6617940amods", sum := "1e2357436a8a5865abafcfb6e5d3e9c79225cb62e73a5393b434e9965726c93b", checked := Trym.checked }
namespace Rows
def none {H : Type} : Left H := { results := [], args := [] }

/-- 'zzlaws_pkg_doc_b1.FnTokenEndMatchesAForwardScanner': WHATEVER THE INPUT: true; the input reads as it did. -/
def fnTokenEndMatchesAForwardScannerSpec : ChangeSpec := { name := "fnTokenEndMatchesAForwardScanner", fn := fun _ => fun
  | [d1, d2] => { results := [.lit (.bool true)], args := [d1, d2] }
  | _ => none }
def fnTokenEndMatchesAForwardScannerRow : OpenClaim := { program := "qxb6617940amods", sum := "1e2357436a8a5865abafcfb6e5d3e9c79225cb62e73a5393b434e9965726c93b", func := "example.com/sealwright/sealwright/zzlaws_pkg_doc_b1.FnTokenEndMatchesAForwardScanner", spec := "fnTokenEndMatchesAForwardScanner", inPlace := ["internal/bytealg.IndexByte"], make := .lifted ["publicsums"], apart := false }
def FnTokenEndMatchesAForwardScannerSaid : Prop := fnTokenEndMatchesAForwardScannerRow.holds Trym.pinned (OpenSpec.ofChange fnTokenEndMatchesAForwardScannerSpec)

/-- ITS FALSE NEIGHBOUR: 'it returns false'. Refute it at one input. -/
def fnTokenEndMatchesAForwardScannerWrong : ChangeSpec := { name := "fnTokenEndMatchesAForwardScanner", fn := fun _ => fun
  | [d1, d2] => { results := [.lit (.bool false)], args := [d1, d2] }
  | _ => none }
def FnTokenEndMatchesAForwardScannerWrongFalsely : Prop := fnTokenEndMatchesAForwardScannerRow.holds Trym.pinned (OpenSpec.ofChange fnTokenEndMatchesAForwardScannerWrong)

/-- 'zzlaws_pkg_doc_b1.FnTokenEndKeepsToItsOwnToken': WHATEVER THE INPUT: true; the input reads as it did. -/
def fnTokenEndKeepsToItsOwnTokenSpec : ChangeSpec := { name := "fnTokenEndKeepsToItsOwnToken", fn := fun _ => fun
  | [d1, d2, d3] => { results := [.lit (.bool true)], args := [d1, d2, d3] }
  | _ => none }
def fnTokenEndKeepsToItsOwnTokenRow : OpenClaim := { program := "qxb6617940amods", sum := "1e2357436a8a5865abafcfb6e5d3e9c79225cb62e73a5393b434e9965726c93b", func := "example.com/sealwright/sealwright/zzlaws_pkg_doc_b1.FnTokenEndKeepsToItsOwnToken", spec := "fnTokenEndKeepsToItsOwnToken", inPlace := ["internal/bytealg.IndexByte"], make := .lifted ["publicsums"], apart := false }
def FnTokenEndKeepsToItsOwnTokenSaid : Prop := fnTokenEndKeepsToItsOwnTokenRow.holds Trym.pinned (OpenSpec.ofChange fnTokenEndKeepsToItsOwnTokenSpec)

/-- ITS FALSE NEIGHBOUR: 'it returns false'. Refute it at one input. -/
def fnTokenEndKeepsToItsOwnTokenWrong : ChangeSpec := { name := "fnTokenEndKeepsToItsOwnToken", fn := fun _ => fun
  | [d1, d2, d3] => { results := [.lit (.bool false)], args := [d1, d2, d3] }
  | _ => none }
def FnTokenEndKeepsToItsOwnTokenWrongFalsely : Prop := fnTokenEndKeepsToItsOwnTokenRow.holds Trym.pinned (OpenSpec.ofChange fnTokenEndKeepsToItsOwnTokenWrong)

/-- 'zzlaws_pkg_doc_b1.FnHexEscapeReadsTheFourDigits': WHATEVER THE INPUT: true; the input reads as it did. -/
def fnHexEscapeReadsTheFourDigitsSpec : ChangeSpec := { name := "fnHexEscapeReadsTheFourDigits", fn := fun _ => fun
  | [d] => { results := [.lit (.bool true)], args := [d] }
  | _ => none }
def fnHexEscapeReadsTheFourDigitsRow : OpenClaim := { program := "qxb6617940amods", sum := "1e2357436a8a5865abafcfb6e5d3e9c79225cb62e73a5393b434e9965726c93b", func := "example.com/sealwright/sealwright/zzlaws_pkg_doc_b1.FnHexEscapeReadsTheFourDigits", spec := "fnHexEscapeReadsTheFourDigits", make := .lifted ["publicsums"], apart := false }
def FnHexEscapeReadsTheFourDigitsSaid : Prop := fnHexEscapeReadsTheFourDigitsRow.holds Trym.pinned (OpenSpec.ofChange fnHexEscapeReadsTheFourDigitsSpec)

/-- ITS FALSE NEIGHBOUR: 'it returns false'. Refute it at one input. -/
def fnHexEscapeReadsTheFourDigitsWrong : ChangeSpec := { name := "fnHexEscapeReadsTheFourDigits", fn := fun _ => fun
  | [d] => { results := [.lit (.bool false)], args := [d] }
  | _ => none }
def FnHexEscapeReadsTheFourDigitsWrongFalsely : Prop := fnHexEscapeReadsTheFourDigitsRow.holds Trym.pinned (OpenSpec.ofChange fnHexEscapeReadsTheFourDigitsWrong)

/-- 'zzlaws_pkg_doc_b1.FnHexEscapeReadsBackEveryWrittenEscape': WHATEVER THE INPUT: true; the input reads as it did. -/
def fnHexEscapeReadsBackEveryWrittenEscapeSpec : ChangeSpec := { name := "fnHexEscapeReadsBackEveryWrittenEscape", fn := fun _ => fun
  | [d1, d2, d3] => { results := [.lit (.bool true)], args := [d1, d2, d3] }
  | _ => none }
def fnHexEscapeReadsBackEveryWrittenEscapeRow : OpenClaim := { program := "qxb6617940amods", sum := "1e2357436a8a5865abafcfb6e5d3e9c79225cb62e73a5393b434e9965726c93b", func := "example.com/sealwright/sealwright/zzlaws_pkg_doc_b1.FnHexEscapeReadsBackEveryWrittenEscape", spec := "fnHexEscapeReadsBackEveryWrittenEscape", make := .lifted ["publicsums"], apart := false }
def FnHexEscapeReadsBackEveryWrittenEscapeSaid : Prop := fnHexEscapeReadsBackEveryWrittenEscapeRow.holds Trym.pinned (OpenSpec.ofChange fnHexEscapeReadsBackEveryWrittenEscapeSpec)

/-- ITS FALSE NEIGHBOUR: 'it returns false'. Refute it at one input. -/
def fnHexEscapeReadsBackEveryWrittenEscapeWrong : ChangeSpec := { name := "fnHexEscapeReadsBackEveryWrittenEscape", fn := fun _ => fun
  | [d1, d2, d3] => { results := [.lit (.bool false)], args := [d1, d2, d3] }
  | _ => none }
def FnHexEscapeReadsBackEveryWrittenEscapeWrongFalsely : Prop := fnHexEscapeReadsBackEveryWrittenEscapeRow.holds Trym.pinned (OpenSpec.ofChange fnHexEscapeReadsBackEveryWrittenEscapeWrong)

end Rows
end Go.Proofs.Qxb6617940aMods
