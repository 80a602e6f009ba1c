/-
  No cell of these rows narrows 'for every input' (looked for: loops, veiled, ifaces, maps, wideKeys, modest, calm, conditions, laid).
  DERIVED. THE GIVEN ROWS OF THIS SEAT. 4 by the template 'for every input the law returns true; each argument reads behind the call as it read before'; 0 by the template 'total and deterministic' (their statements: Qxb6605967aTotals.lean).
  GIVEN WITH THE SEED: the statements are not yours to turn. If you find one false, say at which input.
  Laid BY PROGRAM, IN A SANDBOX (cutbox-rows.mjs): the forced cells as the released guide's own fill.sh prints them over the translation 4205ee75181af65d… (all of the seat's roots in one cut). By AI agents, Wed Nov 11 2026. No macro, syntax, notation, axiom, sorry.
-/
import Derived.Test.Qxb6605967aChecked
import GoSem.Claim
import GoSem.ClaimJoined
import GoSem.ClaimMapViews
import Derived.JoinedTies
import Derived.KernelRfl
namespace Go.Proofs.Qxb6605967a
/- THE CELL 'sum', in the pinned program and in every row, IS THE sha256 OF THE DUMP (.gsa) THAT Qxb6605967aProg.lean LOADS. Nothing in Lean hashes anything: it is a label: what it is worth is what the hold of that sum in a sandbox is worth. -/
noncomputable def Try.pinned : Pinned := { name := "qxb6605967a", sum := "4205ee75181af65d6e1592733eae34f6c906983c61981dec7098da077e08d163", checked := Try.checked }
namespace Rows
def none {H : Type} : Left H := { results := [], args := [] }

/-- 'zzlaws_rulefile_b1.FnIsLineBreakIsTheSevenBreaks': WHATEVER THE INPUT: true; the input reads as it did. -/
def fnIsLineBreakIsTheSevenBreaksSpec : ChangeSpec := { name := "fnIsLineBreakIsTheSevenBreaks", fn := fun _ => fun
  | [d] => { results := [.lit (.bool true)], args := [d] }
  | _ => none }
def fnIsLineBreakIsTheSevenBreaksRow : OpenClaim := { program := "qxb6605967a", sum := "4205ee75181af65d6e1592733eae34f6c906983c61981dec7098da077e08d163", func := "example.com/partloom/partloom/zzlaws_rulefile_b1.FnIsLineBreakIsTheSevenBreaks", spec := "fnIsLineBreakIsTheSevenBreaks", inPlace := ["internal/bytealg.IndexByteString", "internal/bytealg.IndexString"], named := ["internal/bytealg.MaxLen"], apart := false }
def FnIsLineBreakIsTheSevenBreaksSaid : Prop := fnIsLineBreakIsTheSevenBreaksRow.holds Try.pinned (OpenSpec.ofChange fnIsLineBreakIsTheSevenBreaksSpec)

/-- ITS FALSE NEIGHBOUR: 'it returns false'. Refute it at one input. -/
def fnIsLineBreakIsTheSevenBreaksWrong : ChangeSpec := { name := "fnIsLineBreakIsTheSevenBreaks", fn := fun _ => fun
  | [d] => { results := [.lit (.bool false)], args := [d] }
  | _ => none }
def FnIsLineBreakIsTheSevenBreaksWrongFalsely : Prop := fnIsLineBreakIsTheSevenBreaksRow.holds Try.pinned (OpenSpec.ofChange fnIsLineBreakIsTheSevenBreaksWrong)

/-- 'zzlaws_rulefile_b1.FnIsLineBreakCountMatchesBytePatterns': WHATEVER THE INPUT: true; the input reads as it did. -/
def fnIsLineBreakCountMatchesBytePatternsSpec : ChangeSpec := { name := "fnIsLineBreakCountMatchesBytePatterns", fn := fun _ => fun
  | [d] => { results := [.lit (.bool true)], args := [d] }
  | _ => none }
def fnIsLineBreakCountMatchesBytePatternsRow : OpenClaim := { program := "qxb6605967a", sum := "4205ee75181af65d6e1592733eae34f6c906983c61981dec7098da077e08d163", func := "example.com/partloom/partloom/zzlaws_rulefile_b1.FnIsLineBreakCountMatchesBytePatterns", spec := "fnIsLineBreakCountMatchesBytePatterns", inPlace := ["internal/bytealg.IndexByteString", "internal/bytealg.IndexString"], named := ["internal/bytealg.MaxLen"], apart := false }
def FnIsLineBreakCountMatchesBytePatternsSaid : Prop := fnIsLineBreakCountMatchesBytePatternsRow.holds Try.pinned (OpenSpec.ofChange fnIsLineBreakCountMatchesBytePatternsSpec)

/-- ITS FALSE NEIGHBOUR: 'it returns false'. Refute it at one input. -/
def fnIsLineBreakCountMatchesBytePatternsWrong : ChangeSpec := { name := "fnIsLineBreakCountMatchesBytePatterns", fn := fun _ => fun
  | [d] => { results := [.lit (.bool false)], args := [d] }
  | _ => none }
def FnIsLineBreakCountMatchesBytePatternsWrongFalsely : Prop := fnIsLineBreakCountMatchesBytePatternsRow.holds Try.pinned (OpenSpec.ofChange fnIsLineBreakCountMatchesBytePatternsWrong)

/-- 'zzlaws_rulefile_b1.FnNumberTextNumbersInFirstSeenOrder': WHATEVER THE INPUT: true; the input reads as it did. -/
def fnNumberTextNumbersInFirstSeenOrderSpec : ChangeSpec := { name := "fnNumberTextNumbersInFirstSeenOrder", fn := fun _ => fun
  | [d] => { results := [.lit (.bool true)], args := [d] }
  | _ => none }
def fnNumberTextNumbersInFirstSeenOrderRow : OpenClaim := { program := "qxb6605967a", sum := "4205ee75181af65d6e1592733eae34f6c906983c61981dec7098da077e08d163", func := "example.com/partloom/partloom/zzlaws_rulefile_b1.FnNumberTextNumbersInFirstSeenOrder", spec := "fnNumberTextNumbersInFirstSeenOrder", apart := false }
def FnNumberTextNumbersInFirstSeenOrderSaid : Prop := fnNumberTextNumbersInFirstSeenOrderRow.holds Try.pinned (OpenSpec.ofChange fnNumberTextNumbersInFirstSeenOrderSpec)

/-- ITS FALSE NEIGHBOUR: 'it returns false'. Refute it at one input. -/
def fnNumberTextNumbersInFirstSeenOrderWrong : ChangeSpec := { name := "fnNumberTextNumbersInFirstSeenOrder", fn := fun _ => fun
  | [d] => { results := [.lit (.bool false)], args := [d] }
  | _ => none }
def FnNumberTextNumbersInFirstSeenOrderWrongFalsely : Prop := fnNumberTextNumbersInFirstSeenOrderRow.holds Try.pinned (OpenSpec.ofChange fnNumberTextNumbersInFirstSeenOrderWrong)

/-- 'zzlaws_rulefile_b1.FnNumberTextRepeatIsStableAndAgreesWithOf': WHATEVER THE INPUT: true; the input reads as it did. -/
def fnNumberTextRepeatIsStableAndAgreesWithOfSpec : ChangeSpec := { name := "fnNumberTextRepeatIsStableAndAgreesWithOf", fn := fun _ => fun
  | [d1, d2] => { results := [.lit (.bool true)], args := [d1, d2] }
  | _ => none }
def fnNumberTextRepeatIsStableAndAgreesWithOfRow : OpenClaim := { program := "qxb6605967a", sum := "4205ee75181af65d6e1592733eae34f6c906983c61981dec7098da077e08d163", func := "example.com/partloom/partloom/zzlaws_rulefile_b1.FnNumberTextRepeatIsStableAndAgreesWithOf", spec := "fnNumberTextRepeatIsStableAndAgreesWithOf", apart := false }
def FnNumberTextRepeatIsStableAndAgreesWithOfSaid : Prop := fnNumberTextRepeatIsStableAndAgreesWithOfRow.holds Try.pinned (OpenSpec.ofChange fnNumberTextRepeatIsStableAndAgreesWithOfSpec)

/-- ITS FALSE NEIGHBOUR: 'it returns false'. Refute it at one input. -/
def fnNumberTextRepeatIsStableAndAgreesWithOfWrong : ChangeSpec := { name := "fnNumberTextRepeatIsStableAndAgreesWithOf", fn := fun _ => fun
  | [d1, d2] => { results := [.lit (.bool false)], args := [d1, d2] }
  | _ => none }
def FnNumberTextRepeatIsStableAndAgreesWithOfWrongFalsely : Prop := fnNumberTextRepeatIsStableAndAgreesWithOfRow.holds Try.pinned (OpenSpec.ofChange fnNumberTextRepeatIsStableAndAgreesWithOfWrong)

end Rows
end Go.Proofs.Qxb6605967a
