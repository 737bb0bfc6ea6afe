/-
  No cell of these rows narrows 'for every input' (looked for: loops, veiled, ifaces, maps, wideKeys, modest, calm, conditions, laid).
  DERIVED. THE GIVEN ROWS OF THIS SEAT. 6 by the template 'for every input the law returns true; each argument reads behind the call as it read before'; 0 by the template 'total and deterministic' (their statements: Qxb6600422aTotals.lean).
  GIVEN WITH THE SEED: the statements are not yours to turn. If you find one false, say at which input.
  Laid BY PROGRAM, IN A SANDBOX (cutbox-rows.mjs): the forced cells as the released guide's own fill.sh prints them over the translation 4ab058c527422f5f… (all of the seat's roots in one cut). By AI agents, Wed Nov 11 2026. No macro, syntax, notation, axiom, sorry.
-/
import Derived.Test.Qxb6600422aChecked
import GoSem.Claim
import GoSem.ClaimJoined
import GoSem.ClaimMapViews
import Derived.JoinedTies
import Derived.KernelRfl
namespace Go.Proofs.Qxb6600422a
/- THE CELL 'sum', in the pinned program and in every row, IS THE sha256 OF THE DUMP (.gsa) THAT Qxb6600422aProg.lean LOADS. Nothing in Lean hashes anything: it is a label: what it is worth is what the hold of that sum in a sandbox is worth. -/
noncomputable def Try.pinned : Pinned := { name := "qxb6600422a", sum := "4ab058c527422f5f673ab8413d83d02383e15b30c5b5e95189e60bebbb1ca720", checked := Try.checked }
namespace Rows
def none {H : Type} : Left H := { results := [], args := [] }

/-- 'zzlaws_internal_kvhistory_b1.FnMayHoldCaseTable': WHATEVER THE INPUT: true; the input reads as it did. -/
def fnMayHoldCaseTableSpec : ChangeSpec := { name := "fnMayHoldCaseTable", fn := fun _ => fun
  | [d1, d2] => { results := [.lit (.bool true)], args := [d1, d2] }
  | _ => none }
def fnMayHoldCaseTableRow : OpenClaim := { program := "qxb6600422a", sum := "4ab058c527422f5f673ab8413d83d02383e15b30c5b5e95189e60bebbb1ca720", func := "example.com/quorumhall/quorumhall/zzlaws_internal_kvhistory_b1.FnMayHoldCaseTable", spec := "fnMayHoldCaseTable", unfollowed := true, recurses := true, apart := false }
def FnMayHoldCaseTableSaid : Prop := fnMayHoldCaseTableRow.holds Try.pinned (OpenSpec.ofChange fnMayHoldCaseTableSpec)

/-- ITS FALSE NEIGHBOUR: 'it returns false'. Refute it at one input. -/
def fnMayHoldCaseTableWrong : ChangeSpec := { name := "fnMayHoldCaseTable", fn := fun _ => fun
  | [d1, d2] => { results := [.lit (.bool false)], args := [d1, d2] }
  | _ => none }
def FnMayHoldCaseTableWrongFalsely : Prop := fnMayHoldCaseTableRow.holds Try.pinned (OpenSpec.ofChange fnMayHoldCaseTableWrong)

/-- 'zzlaws_internal_kvhistory_b1.FnMayHoldUnknownVersionAdmitsEveryWitness': WHATEVER THE INPUT: true; the input reads as it did. -/
def fnMayHoldUnknownVersionAdmitsEveryWitnessSpec : ChangeSpec := { name := "fnMayHoldUnknownVersionAdmitsEveryWitness", fn := fun _ => fun
  | [d1, d2, d3] => { results := [.lit (.bool true)], args := [d1, d2, d3] }
  | _ => none }
def fnMayHoldUnknownVersionAdmitsEveryWitnessRow : OpenClaim := { program := "qxb6600422a", sum := "4ab058c527422f5f673ab8413d83d02383e15b30c5b5e95189e60bebbb1ca720", func := "example.com/quorumhall/quorumhall/zzlaws_internal_kvhistory_b1.FnMayHoldUnknownVersionAdmitsEveryWitness", spec := "fnMayHoldUnknownVersionAdmitsEveryWitness", unfollowed := true, recurses := true, apart := false }
def FnMayHoldUnknownVersionAdmitsEveryWitnessSaid : Prop := fnMayHoldUnknownVersionAdmitsEveryWitnessRow.holds Try.pinned (OpenSpec.ofChange fnMayHoldUnknownVersionAdmitsEveryWitnessSpec)

/-- ITS FALSE NEIGHBOUR: 'it returns false'. Refute it at one input. -/
def fnMayHoldUnknownVersionAdmitsEveryWitnessWrong : ChangeSpec := { name := "fnMayHoldUnknownVersionAdmitsEveryWitness", fn := fun _ => fun
  | [d1, d2, d3] => { results := [.lit (.bool false)], args := [d1, d2, d3] }
  | _ => none }
def FnMayHoldUnknownVersionAdmitsEveryWitnessWrongFalsely : Prop := fnMayHoldUnknownVersionAdmitsEveryWitnessRow.holds Try.pinned (OpenSpec.ofChange fnMayHoldUnknownVersionAdmitsEveryWitnessWrong)

/-- 'zzlaws_internal_kvhistory_b1.FnStepWriteThenRead': WHATEVER THE INPUT: true; the input reads as it did. -/
def fnStepWriteThenReadSpec : ChangeSpec := { name := "fnStepWriteThenRead", fn := fun _ => fun
  | [d1, d2, d3, d4, d5, d6, d7] => { results := [.lit (.bool true)], args := [d1, d2, d3, d4, d5, d6, d7] }
  | _ => none }
def fnStepWriteThenReadRow : OpenClaim := { program := "qxb6600422a", sum := "4ab058c527422f5f673ab8413d83d02383e15b30c5b5e95189e60bebbb1ca720", func := "example.com/quorumhall/quorumhall/zzlaws_internal_kvhistory_b1.FnStepWriteThenRead", spec := "fnStepWriteThenRead", unfollowed := true, recurses := true, apart := false }
def FnStepWriteThenReadSaid : Prop := fnStepWriteThenReadRow.holds Try.pinned (OpenSpec.ofChange fnStepWriteThenReadSpec)

/-- ITS FALSE NEIGHBOUR: 'it returns false'. Refute it at one input. -/
def fnStepWriteThenReadWrong : ChangeSpec := { name := "fnStepWriteThenRead", fn := fun _ => fun
  | [d1, d2, d3, d4, d5, d6, d7] => { results := [.lit (.bool false)], args := [d1, d2, d3, d4, d5, d6, d7] }
  | _ => none }
def FnStepWriteThenReadWrongFalsely : Prop := fnStepWriteThenReadRow.holds Try.pinned (OpenSpec.ofChange fnStepWriteThenReadWrong)

/-- 'zzlaws_internal_kvhistory_b1.FnStepRefusedOrAppliedNeverBoth': WHATEVER THE INPUT: true; the input reads as it did. -/
def fnStepRefusedOrAppliedNeverBothSpec : ChangeSpec := { name := "fnStepRefusedOrAppliedNeverBoth", fn := fun _ => fun
  | [d1, d2, d3, d4, d5] => { results := [.lit (.bool true)], args := [d1, d2, d3, d4, d5] }
  | _ => none }
def fnStepRefusedOrAppliedNeverBothRow : OpenClaim := { program := "qxb6600422a", sum := "4ab058c527422f5f673ab8413d83d02383e15b30c5b5e95189e60bebbb1ca720", func := "example.com/quorumhall/quorumhall/zzlaws_internal_kvhistory_b1.FnStepRefusedOrAppliedNeverBoth", spec := "fnStepRefusedOrAppliedNeverBoth", unfollowed := true, recurses := true, apart := false }
def FnStepRefusedOrAppliedNeverBothSaid : Prop := fnStepRefusedOrAppliedNeverBothRow.holds Try.pinned (OpenSpec.ofChange fnStepRefusedOrAppliedNeverBothSpec)

/-- ITS FALSE NEIGHBOUR: 'it returns false'. Refute it at one input. -/
def fnStepRefusedOrAppliedNeverBothWrong : ChangeSpec := { name := "fnStepRefusedOrAppliedNeverBoth", fn := fun _ => fun
  | [d1, d2, d3, d4, d5] => { results := [.lit (.bool false)], args := [d1, d2, d3, d4, d5] }
  | _ => none }
def FnStepRefusedOrAppliedNeverBothWrongFalsely : Prop := fnStepRefusedOrAppliedNeverBothRow.holds Try.pinned (OpenSpec.ofChange fnStepRefusedOrAppliedNeverBothWrong)

/-- 'zzlaws_internal_kvhistory_b1.FnStepKeyAndUnknownOpsAgree': WHATEVER THE INPUT: true; the input reads as it did. -/
def fnStepKeyAndUnknownOpsAgreeSpec : ChangeSpec := { name := "fnStepKeyAndUnknownOpsAgree", fn := fun _ => fun
  | [d1, d2, d3, d4, d5, d6, d7] => { results := [.lit (.bool true)], args := [d1, d2, d3, d4, d5, d6, d7] }
  | _ => none }
def fnStepKeyAndUnknownOpsAgreeRow : OpenClaim := { program := "qxb6600422a", sum := "4ab058c527422f5f673ab8413d83d02383e15b30c5b5e95189e60bebbb1ca720", func := "example.com/quorumhall/quorumhall/zzlaws_internal_kvhistory_b1.FnStepKeyAndUnknownOpsAgree", spec := "fnStepKeyAndUnknownOpsAgree", unfollowed := true, recurses := true, apart := false }
def FnStepKeyAndUnknownOpsAgreeSaid : Prop := fnStepKeyAndUnknownOpsAgreeRow.holds Try.pinned (OpenSpec.ofChange fnStepKeyAndUnknownOpsAgreeSpec)

/-- ITS FALSE NEIGHBOUR: 'it returns false'. Refute it at one input. -/
def fnStepKeyAndUnknownOpsAgreeWrong : ChangeSpec := { name := "fnStepKeyAndUnknownOpsAgree", fn := fun _ => fun
  | [d1, d2, d3, d4, d5, d6, d7] => { results := [.lit (.bool false)], args := [d1, d2, d3, d4, d5, d6, d7] }
  | _ => none }
def FnStepKeyAndUnknownOpsAgreeWrongFalsely : Prop := fnStepKeyAndUnknownOpsAgreeRow.holds Try.pinned (OpenSpec.ofChange fnStepKeyAndUnknownOpsAgreeWrong)

/-- 'zzlaws_internal_kvhistory_b1.FnStepReplayOfObservationIsIdempotent': WHATEVER THE INPUT: true; the input reads as it did. -/
def fnStepReplayOfObservationIsIdempotentSpec : ChangeSpec := { name := "fnStepReplayOfObservationIsIdempotent", fn := fun _ => fun
  | [d1, d2, d3, d4, d5, d6] => { results := [.lit (.bool true)], args := [d1, d2, d3, d4, d5, d6] }
  | _ => none }
def fnStepReplayOfObservationIsIdempotentRow : OpenClaim := { program := "qxb6600422a", sum := "4ab058c527422f5f673ab8413d83d02383e15b30c5b5e95189e60bebbb1ca720", func := "example.com/quorumhall/quorumhall/zzlaws_internal_kvhistory_b1.FnStepReplayOfObservationIsIdempotent", spec := "fnStepReplayOfObservationIsIdempotent", unfollowed := true, recurses := true, apart := false }
def FnStepReplayOfObservationIsIdempotentSaid : Prop := fnStepReplayOfObservationIsIdempotentRow.holds Try.pinned (OpenSpec.ofChange fnStepReplayOfObservationIsIdempotentSpec)

/-- ITS FALSE NEIGHBOUR: 'it returns false'. Refute it at one input. -/
def fnStepReplayOfObservationIsIdempotentWrong : ChangeSpec := { name := "fnStepReplayOfObservationIsIdempotent", fn := fun _ => fun
  | [d1, d2, d3, d4, d5, d6] => { results := [.lit (.bool false)], args := [d1, d2, d3, d4, d5, d6] }
  | _ => none }
def FnStepReplayOfObservationIsIdempotentWrongFalsely : Prop := fnStepReplayOfObservationIsIdempotentRow.holds Try.pinned (OpenSpec.ofChange fnStepReplayOfObservationIsIdempotentWrong)

end Rows
end Go.Proofs.Qxb6600422a
