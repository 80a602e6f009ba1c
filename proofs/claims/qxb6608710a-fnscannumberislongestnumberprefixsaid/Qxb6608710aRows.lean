/-
  No cell of these rows narrows 'for every input' (looked for: loops, veiled, ifaces, maps, wideKeys, modest, calm, conditions, laid).
  DERIVED. THE GIVEN ROWS OF THIS SEAT. 2 by the template 'for every input the law returns true; each argument reads behind the call as it read before'; 0 by the template 'total and deterministic' (their statements: Qxb6608710aTotals.lean).
  GIVEN WITH THE SEED: the statements are not yours to turn. If you find one false, say at which input.
  Laid BY PROGRAM, IN A SANDBOX (cutbox-rows.mjs): the forced cells as the released guide's own fill.sh prints them over the translation 11c267c0fb46a343… (all of the seat's roots in one cut). By AI agents, Wed Nov 11 2026. No macro, syntax, notation, axiom, sorry.
-/
import Derived.Test.Qxb6608710aChecked
import GoSem.Claim
import GoSem.ClaimJoined
import GoSem.ClaimMapViews
import Derived.JoinedTies
import Derived.KernelRfl
namespace Go.Proofs.Qxb6608710a
/- THE CELL 'sum', in the pinned program and in every row, IS THE sha256 OF THE DUMP (.gsa) THAT Qxb6608710aProg.lean LOADS. Nothing in Lean hashes anything: it is a label: what it is worth is what the hold of that sum in a sandbox is worth. -/
noncomputable def Try.pinned : Pinned := { name := "qxb6608710a", sum := "11c267c0fb46a3430d4859f9b48c99a0d9c2be056df9a3261129d621add6dc0a", checked := Try.checked }
namespace Rows
def none {H : Type} : Left H := { results := [], args := [] }

/-- 'zzlaws_internal_document_b1.FnScanNumberIsLongestNumberPrefix': WHATEVER THE INPUT: true; the input reads as it did. -/
def fnScanNumberIsLongestNumberPrefixSpec : ChangeSpec := { name := "fnScanNumberIsLongestNumberPrefix", fn := fun _ => fun
  | [d1, d2] => { results := [.lit (.bool true)], args := [d1, d2] }
  | _ => none }
def fnScanNumberIsLongestNumberPrefixRow : OpenClaim := { program := "qxb6608710a", sum := "11c267c0fb46a3430d4859f9b48c99a0d9c2be056df9a3261129d621add6dc0a", func := "example.com/stewardry/stewardry/zzlaws_internal_document_b1.FnScanNumberIsLongestNumberPrefix", spec := "fnScanNumberIsLongestNumberPrefix", apart := false }
def FnScanNumberIsLongestNumberPrefixSaid : Prop := fnScanNumberIsLongestNumberPrefixRow.holds Try.pinned (OpenSpec.ofChange fnScanNumberIsLongestNumberPrefixSpec)

/-- ITS FALSE NEIGHBOUR: 'it returns false'. Refute it at one input. -/
def fnScanNumberIsLongestNumberPrefixWrong : ChangeSpec := { name := "fnScanNumberIsLongestNumberPrefix", fn := fun _ => fun
  | [d1, d2] => { results := [.lit (.bool false)], args := [d1, d2] }
  | _ => none }
def FnScanNumberIsLongestNumberPrefixWrongFalsely : Prop := fnScanNumberIsLongestNumberPrefixRow.holds Try.pinned (OpenSpec.ofChange fnScanNumberIsLongestNumberPrefixWrong)

/-- 'zzlaws_internal_document_b1.FnScanNumberMinusShiftsByOne': WHATEVER THE INPUT: true; the input reads as it did. -/
def fnScanNumberMinusShiftsByOneSpec : ChangeSpec := { name := "fnScanNumberMinusShiftsByOne", fn := fun _ => fun
  | [d1, d2] => { results := [.lit (.bool true)], args := [d1, d2] }
  | _ => none }
def fnScanNumberMinusShiftsByOneRow : OpenClaim := { program := "qxb6608710a", sum := "11c267c0fb46a3430d4859f9b48c99a0d9c2be056df9a3261129d621add6dc0a", func := "example.com/stewardry/stewardry/zzlaws_internal_document_b1.FnScanNumberMinusShiftsByOne", spec := "fnScanNumberMinusShiftsByOne", apart := false }
def FnScanNumberMinusShiftsByOneSaid : Prop := fnScanNumberMinusShiftsByOneRow.holds Try.pinned (OpenSpec.ofChange fnScanNumberMinusShiftsByOneSpec)

/-- ITS FALSE NEIGHBOUR: 'it returns false'. Refute it at one input. -/
def fnScanNumberMinusShiftsByOneWrong : ChangeSpec := { name := "fnScanNumberMinusShiftsByOne", fn := fun _ => fun
  | [d1, d2] => { results := [.lit (.bool false)], args := [d1, d2] }
  | _ => none }
def FnScanNumberMinusShiftsByOneWrongFalsely : Prop := fnScanNumberMinusShiftsByOneRow.holds Try.pinned (OpenSpec.ofChange fnScanNumberMinusShiftsByOneWrong)

end Rows
end Go.Proofs.Qxb6608710a
