/-
  No cell of these rows narrows 'for every input' (looked for: loops, veiled, ifaces, maps, wideKeys, modest, calm, conditions, laid).
  DERIVED. THE GIVEN ROWS OF THIS SEAT. 1 by the template 'for every input the law returns true; each argument reads behind the call as it read before'; 0 by the template 'total and deterministic' (their statements: Qxb6616587aModsTotals.lean).
  GIVEN WITH THE SEED: the statements are not yours to turn. If you find one false, say at which input.
  Laid BY PROGRAM, IN A SANDBOX (cutbox-rows.mjs): the forced cells as the released guide's own fill.sh prints them over the translation a6ad45e7f1868148… (all of the seat's roots in one cut). By AI agents, Wed Nov 11 2026. No macro, syntax, notation, axiom, sorry.
-/
import Derived.Test.Qxb6616587aModsChecked
import GoSem.Claim
import GoSem.ClaimJoined
import GoSem.ClaimMapViews
import Derived.JoinedTies
import Derived.KernelRfl
namespace Go.Proofs.Qxb6616587aMods
/- THE CELL 'sum', in the pinned program and in every row, IS THE sha256 OF THE DUMP (.gsa) THAT Qxb6616587aModsProg.lean LOADS. Nothing in Lean hashes anything: it is a label: what it is worth is what the hold of that sum in a sandbox is worth. -/
noncomputable def Trym.pinned : Pinned := { name := "qxb6616587amods", sum := "a6ad45e7f1868148453a403eaeab8844b0c10af0ebd59ae41d2a64d85dcb7f52", checked := Trym.checked }
namespace Rows
def none {H : Type} : Left H := { results := [], args := [] }

/-- 'zzlaws_internal_api_b1.FnIsWordElevenMarksLeadAnyTail': WHATEVER THE INPUT: true; the input reads as it did. -/
def fnIsWordElevenMarksLeadAnyTailSpec : ChangeSpec := { name := "fnIsWordElevenMarksLeadAnyTail", fn := fun _ => fun
  | [d] => { results := [.lit (.bool true)], args := [d] }
  | _ => none }
def fnIsWordElevenMarksLeadAnyTailRow : OpenClaim := { program := "qxb6616587amods", sum := "a6ad45e7f1868148453a403eaeab8844b0c10af0ebd59ae41d2a64d85dcb7f52", func := "example.com/osprey/osprey/zzlaws_internal_api_b1.FnIsWordElevenMarksLeadAnyTail", spec := "fnIsWordElevenMarksLeadAnyTail", inPlace := ["internal/bytealg.IndexByteString"], make := .lifted ["publicsums"], apart := false }
def FnIsWordElevenMarksLeadAnyTailSaid : Prop := fnIsWordElevenMarksLeadAnyTailRow.holds Trym.pinned (OpenSpec.ofChange fnIsWordElevenMarksLeadAnyTailSpec)

/-- ITS FALSE NEIGHBOUR: 'it returns false'. Refute it at one input. -/
def fnIsWordElevenMarksLeadAnyTailWrong : ChangeSpec := { name := "fnIsWordElevenMarksLeadAnyTail", fn := fun _ => fun
  | [d] => { results := [.lit (.bool false)], args := [d] }
  | _ => none }
def FnIsWordElevenMarksLeadAnyTailWrongFalsely : Prop := fnIsWordElevenMarksLeadAnyTailRow.holds Trym.pinned (OpenSpec.ofChange fnIsWordElevenMarksLeadAnyTailWrong)

end Rows
end Go.Proofs.Qxb6616587aMods
