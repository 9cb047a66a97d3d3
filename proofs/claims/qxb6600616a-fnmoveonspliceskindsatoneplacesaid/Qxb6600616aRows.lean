/-
  No cell of these rows narrows 'for every input' (looked for: loops, veiled, ifaces, maps, wideKeys, modest, calm, conditions, laid).
  DERIVED. THE GIVEN ROWS OF THIS SEAT. 4 by the template 'for every input the law returns true; each argument reads behind the call as it read before'; 0 by the template 'total and deterministic' (their statements: Qxb6600616aTotals.lean).
  GIVEN WITH THE SEED: the statements are not yours to turn. If you find one false, say at which input.
  Laid BY PROGRAM, IN A SANDBOX (cutbox-rows.mjs): the forced cells as the released guide's own fill.sh prints them over the translation 2e286b7c7c50b989… (all of the seat's roots in one cut). By AI agents, Wed Nov 11 2026. No macro, syntax, notation, axiom, sorry.
-/
import Derived.Test.Qxb6600616aChecked
import GoSem.Claim
import GoSem.ClaimJoined
import GoSem.ClaimMapViews
import Derived.JoinedTies
import Derived.KernelRfl
namespace Go.Proofs.Qxb6600616a
/- THE CELL 'sum', in the pinned program and in every row, IS THE sha256 OF THE DUMP (.gsa) THAT Qxb6600616aProg.lean LOADS. Nothing in Lean hashes anything: it is a label: what it is worth is what the hold of that sum in a sandbox is worth. -/
noncomputable def Try.pinned : Pinned := { name := "qxb6600616a", sum := "2e286b7c7c50b9899e2bf002f59f4692e074e15e24b0f9ad6b08e49799b17407", checked := Try.checked }
namespace Rows
def none {H : Type} : Left H := { results := [], args := [] }

/-- 'zzlaws_internal_queue_b1.FnApplyAnswerShape': WHATEVER THE INPUT: true; the input reads as it did. -/
def fnApplyAnswerShapeSpec : ChangeSpec := { name := "fnApplyAnswerShape", fn := fun _ => fun
  | [d1, d2, d3, d4] => { results := [.lit (.bool true)], args := [d1, d2, d3, d4] }
  | _ => none }
def fnApplyAnswerShapeRow : OpenClaim := { program := "qxb6600616a", sum := "2e286b7c7c50b9899e2bf002f59f4692e074e15e24b0f9ad6b08e49799b17407", func := "example.com/cuore/cuore/zzlaws_internal_queue_b1.FnApplyAnswerShape", spec := "fnApplyAnswerShape", apart := false }
def FnApplyAnswerShapeSaid : Prop := fnApplyAnswerShapeRow.holds Try.pinned (OpenSpec.ofChange fnApplyAnswerShapeSpec)

/-- ITS FALSE NEIGHBOUR: 'it returns false'. Refute it at one input. -/
def fnApplyAnswerShapeWrong : ChangeSpec := { name := "fnApplyAnswerShape", fn := fun _ => fun
  | [d1, d2, d3, d4] => { results := [.lit (.bool false)], args := [d1, d2, d3, d4] }
  | _ => none }
def FnApplyAnswerShapeWrongFalsely : Prop := fnApplyAnswerShapeRow.holds Try.pinned (OpenSpec.ofChange fnApplyAnswerShapeWrong)

/-- 'zzlaws_internal_queue_b1.FnApplyRunningJobStaysRunning': WHATEVER THE INPUT: true; the input reads as it did. -/
def fnApplyRunningJobStaysRunningSpec : ChangeSpec := { name := "fnApplyRunningJobStaysRunning", fn := fun _ => fun
  | [d] => { results := [.lit (.bool true)], args := [d] }
  | _ => none }
def fnApplyRunningJobStaysRunningRow : OpenClaim := { program := "qxb6600616a", sum := "2e286b7c7c50b9899e2bf002f59f4692e074e15e24b0f9ad6b08e49799b17407", func := "example.com/cuore/cuore/zzlaws_internal_queue_b1.FnApplyRunningJobStaysRunning", spec := "fnApplyRunningJobStaysRunning", apart := false }
def FnApplyRunningJobStaysRunningSaid : Prop := fnApplyRunningJobStaysRunningRow.holds Try.pinned (OpenSpec.ofChange fnApplyRunningJobStaysRunningSpec)

/-- ITS FALSE NEIGHBOUR: 'it returns false'. Refute it at one input. -/
def fnApplyRunningJobStaysRunningWrong : ChangeSpec := { name := "fnApplyRunningJobStaysRunning", fn := fun _ => fun
  | [d] => { results := [.lit (.bool false)], args := [d] }
  | _ => none }
def FnApplyRunningJobStaysRunningWrongFalsely : Prop := fnApplyRunningJobStaysRunningRow.holds Try.pinned (OpenSpec.ofChange fnApplyRunningJobStaysRunningWrong)

/-- 'zzlaws_internal_queue_b1.FnMoveOnSplicesKindsAtOnePlace': WHATEVER THE INPUT: true; the input reads as it did. -/
def fnMoveOnSplicesKindsAtOnePlaceSpec : ChangeSpec := { name := "fnMoveOnSplicesKindsAtOnePlace", fn := fun _ => fun
  | [d] => { results := [.lit (.bool true)], args := [d] }
  | _ => none }
def fnMoveOnSplicesKindsAtOnePlaceRow : OpenClaim := { program := "qxb6600616a", sum := "2e286b7c7c50b9899e2bf002f59f4692e074e15e24b0f9ad6b08e49799b17407", func := "example.com/cuore/cuore/zzlaws_internal_queue_b1.FnMoveOnSplicesKindsAtOnePlace", spec := "fnMoveOnSplicesKindsAtOnePlace", apart := false }
def FnMoveOnSplicesKindsAtOnePlaceSaid : Prop := fnMoveOnSplicesKindsAtOnePlaceRow.holds Try.pinned (OpenSpec.ofChange fnMoveOnSplicesKindsAtOnePlaceSpec)

/-- ITS FALSE NEIGHBOUR: 'it returns false'. Refute it at one input. -/
def fnMoveOnSplicesKindsAtOnePlaceWrong : ChangeSpec := { name := "fnMoveOnSplicesKindsAtOnePlace", fn := fun _ => fun
  | [d] => { results := [.lit (.bool false)], args := [d] }
  | _ => none }
def FnMoveOnSplicesKindsAtOnePlaceWrongFalsely : Prop := fnMoveOnSplicesKindsAtOnePlaceRow.holds Try.pinned (OpenSpec.ofChange fnMoveOnSplicesKindsAtOnePlaceWrong)

/-- 'zzlaws_internal_queue_b1.FnMoveOnInjectiveAndLengthShift': WHATEVER THE INPUT: true; the input reads as it did. -/
def fnMoveOnInjectiveAndLengthShiftSpec : ChangeSpec := { name := "fnMoveOnInjectiveAndLengthShift", fn := fun _ => fun
  | [d1, d2] => { results := [.lit (.bool true)], args := [d1, d2] }
  | _ => none }
def fnMoveOnInjectiveAndLengthShiftRow : OpenClaim := { program := "qxb6600616a", sum := "2e286b7c7c50b9899e2bf002f59f4692e074e15e24b0f9ad6b08e49799b17407", func := "example.com/cuore/cuore/zzlaws_internal_queue_b1.FnMoveOnInjectiveAndLengthShift", spec := "fnMoveOnInjectiveAndLengthShift", apart := false }
def FnMoveOnInjectiveAndLengthShiftSaid : Prop := fnMoveOnInjectiveAndLengthShiftRow.holds Try.pinned (OpenSpec.ofChange fnMoveOnInjectiveAndLengthShiftSpec)

/-- ITS FALSE NEIGHBOUR: 'it returns false'. Refute it at one input. -/
def fnMoveOnInjectiveAndLengthShiftWrong : ChangeSpec := { name := "fnMoveOnInjectiveAndLengthShift", fn := fun _ => fun
  | [d1, d2] => { results := [.lit (.bool false)], args := [d1, d2] }
  | _ => none }
def FnMoveOnInjectiveAndLengthShiftWrongFalsely : Prop := fnMoveOnInjectiveAndLengthShiftRow.holds Try.pinned (OpenSpec.ofChange fnMoveOnInjectiveAndLengthShiftWrong)

end Rows
end Go.Proofs.Qxb6600616a
