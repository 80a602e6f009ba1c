/-
  No cell of these rows narrows 'for every input' (looked for: loops, veiled, ifaces, maps, wideKeys, modest, calm, conditions, laid).
  DERIVED. THE GIVEN ROWS OF THIS SEAT. 2 by the template 'for every input the law returns true; each argument reads behind the call as it read before'; 0 by the template 'total and deterministic' (their statements: Qxb6608572aTotals.lean).
  GIVEN WITH THE SEED: the statements are not yours to turn. If you find one false, say at which input.
  Laid BY PROGRAM, IN A SANDBOX (cutbox-rows.mjs): the forced cells as the released guide's own fill.sh prints them over the translation b358d6e6d7ab9eb5… (all of the seat's roots in one cut). By AI agents, Wed Nov 11 2026. No macro, syntax, notation, axiom, sorry.
-/
import Derived.Test.Qxb6608572aChecked
import GoSem.Claim
import GoSem.ClaimJoined
import GoSem.ClaimMapViews
import Derived.JoinedTies
import Derived.KernelRfl
namespace Go.Proofs.Qxb6608572a
/- THE CELL 'sum', in the pinned program and in every row, IS THE sha256 OF THE DUMP (.gsa) THAT Qxb6608572aProg.lean LOADS. Nothing in Lean hashes anything: it is a label: what it is worth is what the hold of that sum in a sandbox is worth. -/
noncomputable def Try.pinned : Pinned := { name := "qxb6608572a", sum := "b358d6e6d7ab9eb53b8c7dbf34068d80043946200f4b798cc2f716de0186732e", checked := Try.checked }
namespace Rows
def none {H : Type} : Left H := { results := [], args := [] }

/-- 'zzlaws_internal_status_b1.FnFollowingGivesTheDocumentedSummaryAndActivations': WHATEVER THE INPUT: true; the input reads as it did. -/
def fnFollowingGivesTheDocumentedSummaryAndActivationsSpec : ChangeSpec := { name := "fnFollowingGivesTheDocumentedSummaryAndActivations", fn := fun _ => fun
  | [d1, d2, d3, d4, d5, d6, d7, d8, d9, d10, d11] => { results := [.lit (.bool true)], args := [d1, d2, d3, d4, d5, d6, d7, d8, d9, d10, d11] }
  | _ => none }
def fnFollowingGivesTheDocumentedSummaryAndActivationsRow : OpenClaim := { program := "qxb6608572a", sum := "b358d6e6d7ab9eb53b8c7dbf34068d80043946200f4b798cc2f716de0186732e", func := "example.com/policy-fleet-control/policy-fleet-control/zzlaws_internal_status_b1.FnFollowingGivesTheDocumentedSummaryAndActivations", spec := "fnFollowingGivesTheDocumentedSummaryAndActivations", unfollowed := true, recurses := true, apart := false }
def FnFollowingGivesTheDocumentedSummaryAndActivationsSaid : Prop := fnFollowingGivesTheDocumentedSummaryAndActivationsRow.holds Try.pinned (OpenSpec.ofChange fnFollowingGivesTheDocumentedSummaryAndActivationsSpec)

/-- ITS FALSE NEIGHBOUR: 'it returns false'. Refute it at one input. -/
def fnFollowingGivesTheDocumentedSummaryAndActivationsWrong : ChangeSpec := { name := "fnFollowingGivesTheDocumentedSummaryAndActivations", fn := fun _ => fun
  | [d1, d2, d3, d4, d5, d6, d7, d8, d9, d10, d11] => { results := [.lit (.bool false)], args := [d1, d2, d3, d4, d5, d6, d7, d8, d9, d10, d11] }
  | _ => none }
def FnFollowingGivesTheDocumentedSummaryAndActivationsWrongFalsely : Prop := fnFollowingGivesTheDocumentedSummaryAndActivationsRow.holds Try.pinned (OpenSpec.ofChange fnFollowingGivesTheDocumentedSummaryAndActivationsWrong)

/-- 'zzlaws_internal_status_b1.FnFollowingFedItsOwnResultChangesNothing': WHATEVER THE INPUT: true; the input reads as it did. -/
def fnFollowingFedItsOwnResultChangesNothingSpec : ChangeSpec := { name := "fnFollowingFedItsOwnResultChangesNothing", fn := fun _ => fun
  | [d1, d2, d3, d4, d5, d6, d7, d8, d9, d10, d11] => { results := [.lit (.bool true)], args := [d1, d2, d3, d4, d5, d6, d7, d8, d9, d10, d11] }
  | _ => none }
def fnFollowingFedItsOwnResultChangesNothingRow : OpenClaim := { program := "qxb6608572a", sum := "b358d6e6d7ab9eb53b8c7dbf34068d80043946200f4b798cc2f716de0186732e", func := "example.com/policy-fleet-control/policy-fleet-control/zzlaws_internal_status_b1.FnFollowingFedItsOwnResultChangesNothing", spec := "fnFollowingFedItsOwnResultChangesNothing", unfollowed := true, recurses := true, apart := false }
def FnFollowingFedItsOwnResultChangesNothingSaid : Prop := fnFollowingFedItsOwnResultChangesNothingRow.holds Try.pinned (OpenSpec.ofChange fnFollowingFedItsOwnResultChangesNothingSpec)

/-- ITS FALSE NEIGHBOUR: 'it returns false'. Refute it at one input. -/
def fnFollowingFedItsOwnResultChangesNothingWrong : ChangeSpec := { name := "fnFollowingFedItsOwnResultChangesNothing", fn := fun _ => fun
  | [d1, d2, d3, d4, d5, d6, d7, d8, d9, d10, d11] => { results := [.lit (.bool false)], args := [d1, d2, d3, d4, d5, d6, d7, d8, d9, d10, d11] }
  | _ => none }
def FnFollowingFedItsOwnResultChangesNothingWrongFalsely : Prop := fnFollowingFedItsOwnResultChangesNothingRow.holds Try.pinned (OpenSpec.ofChange fnFollowingFedItsOwnResultChangesNothingWrong)

end Rows
end Go.Proofs.Qxb6608572a
