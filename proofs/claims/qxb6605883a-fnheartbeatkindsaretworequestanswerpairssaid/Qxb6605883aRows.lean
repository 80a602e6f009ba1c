/-
  No cell of these rows narrows 'for every input' (looked for: loops, veiled, ifaces, maps, wideKeys, modest, calm, conditions, laid).
  DERIVED. THE GIVEN ROWS OF THIS SEAT. 2 by the template 'for every input the law returns true; each argument reads behind the call as it read before'; 0 by the template 'total and deterministic' (their statements: Qxb6605883aTotals.lean).
  GIVEN WITH THE SEED: the statements are not yours to turn. If you find one false, say at which input.
  Laid BY PROGRAM, IN A SANDBOX (cutbox-rows.mjs): the forced cells as the released guide's own fill.sh prints them over the translation 94d9b68aa112526c… (all of the seat's roots in one cut). By AI agents, Wed Nov 11 2026. No macro, syntax, notation, axiom, sorry.
-/
import Derived.Test.Qxb6605883aChecked
import GoSem.Claim
import GoSem.ClaimJoined
import GoSem.ClaimMapViews
import Derived.JoinedTies
import Derived.KernelRfl
namespace Go.Proofs.Qxb6605883a
/- THE CELL 'sum', in the pinned program and in every row, IS THE sha256 OF THE DUMP (.gsa) THAT Qxb6605883aProg.lean LOADS. Nothing in Lean hashes anything: it is a label: what it is worth is what the hold of that sum in a sandbox is worth. -/
noncomputable def Try.pinned : Pinned := { name := "qxb6605883a", sum := "94d9b68aa112526c64a391dfd006856929150b1e10a6d7f5169a09544a60729d", checked := Try.checked }
namespace Rows
def none {H : Type} : Left H := { results := [], args := [] }

/-- 'zzlaws_internal_ring_b1.FnHeartbeatKindsAreTwoRequestAnswerPairs': WHATEVER THE INPUT: true; the input reads as it did. -/
def fnHeartbeatKindsAreTwoRequestAnswerPairsSpec : ChangeSpec := { name := "fnHeartbeatKindsAreTwoRequestAnswerPairs", fn := fun _ => fun
  | [] => { results := [.lit (.bool true)], args := [] }
  | _ => none }
def fnHeartbeatKindsAreTwoRequestAnswerPairsRow : OpenClaim := { program := "qxb6605883a", sum := "94d9b68aa112526c64a391dfd006856929150b1e10a6d7f5169a09544a60729d", func := "example.com/slackring/slackring/zzlaws_internal_ring_b1.FnHeartbeatKindsAreTwoRequestAnswerPairs", spec := "fnHeartbeatKindsAreTwoRequestAnswerPairs", apart := false }
def FnHeartbeatKindsAreTwoRequestAnswerPairsSaid : Prop := fnHeartbeatKindsAreTwoRequestAnswerPairsRow.holds Try.pinned (OpenSpec.ofChange fnHeartbeatKindsAreTwoRequestAnswerPairsSpec)

/-- ITS FALSE NEIGHBOUR: 'it returns false'. Refute it at one input. -/
def fnHeartbeatKindsAreTwoRequestAnswerPairsWrong : ChangeSpec := { name := "fnHeartbeatKindsAreTwoRequestAnswerPairs", fn := fun _ => fun
  | [] => { results := [.lit (.bool false)], args := [] }
  | _ => none }
def FnHeartbeatKindsAreTwoRequestAnswerPairsWrongFalsely : Prop := fnHeartbeatKindsAreTwoRequestAnswerPairsRow.holds Try.pinned (OpenSpec.ofChange fnHeartbeatKindsAreTwoRequestAnswerPairsWrong)

/-- 'zzlaws_internal_ring_b1.FnLookupReplyKindIsAValidNonHeartbeatReply': WHATEVER THE INPUT: true; the input reads as it did. -/
def fnLookupReplyKindIsAValidNonHeartbeatReplySpec : ChangeSpec := { name := "fnLookupReplyKindIsAValidNonHeartbeatReply", fn := fun _ => fun
  | [d1, d2, d3, d4, d5, d6, d7, d8, d9] => { results := [.lit (.bool true)], args := [d1, d2, d3, d4, d5, d6, d7, d8, d9] }
  | _ => none }
def fnLookupReplyKindIsAValidNonHeartbeatReplyRow : OpenClaim := { program := "qxb6605883a", sum := "94d9b68aa112526c64a391dfd006856929150b1e10a6d7f5169a09544a60729d", func := "example.com/slackring/slackring/zzlaws_internal_ring_b1.FnLookupReplyKindIsAValidNonHeartbeatReply", spec := "fnLookupReplyKindIsAValidNonHeartbeatReply", apart := false }
def FnLookupReplyKindIsAValidNonHeartbeatReplySaid : Prop := fnLookupReplyKindIsAValidNonHeartbeatReplyRow.holds Try.pinned (OpenSpec.ofChange fnLookupReplyKindIsAValidNonHeartbeatReplySpec)

/-- ITS FALSE NEIGHBOUR: 'it returns false'. Refute it at one input. -/
def fnLookupReplyKindIsAValidNonHeartbeatReplyWrong : ChangeSpec := { name := "fnLookupReplyKindIsAValidNonHeartbeatReply", fn := fun _ => fun
  | [d1, d2, d3, d4, d5, d6, d7, d8, d9] => { results := [.lit (.bool false)], args := [d1, d2, d3, d4, d5, d6, d7, d8, d9] }
  | _ => none }
def FnLookupReplyKindIsAValidNonHeartbeatReplyWrongFalsely : Prop := fnLookupReplyKindIsAValidNonHeartbeatReplyRow.holds Try.pinned (OpenSpec.ofChange fnLookupReplyKindIsAValidNonHeartbeatReplyWrong)

end Rows
end Go.Proofs.Qxb6605883a
