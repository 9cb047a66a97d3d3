/-
  No cell of these rows narrows 'for every input' (looked for: loops, veiled, ifaces, maps, wideKeys, modest, calm, conditions, laid).
  DERIVED. THE GIVEN ROWS OF THIS SEAT. 5 by the template 'for every input the law returns true; each argument reads behind the call as it read before'; 0 by the template 'total and deterministic' (their statements: Qxb6605538aTotals.lean).
  GIVEN WITH THE SEED: the statements are not yours to turn. If you find one false, say at which input.
  Laid BY PROGRAM, IN A SANDBOX (cutbox-rows.mjs): the forced cells as the released guide's own fill.sh prints them over the translation 1f873f565ecfb0b7… (all of the seat's roots in one cut). By AI agents, Wed Nov 11 2026. No macro, syntax, notation, axiom, sorry.
-/
import Derived.Test.Qxb6605538aChecked
import GoSem.Claim
import GoSem.ClaimJoined
import GoSem.ClaimMapViews
import Derived.JoinedTies
import Derived.KernelRfl
namespace Go.Proofs.Qxb6605538a
/- THE CELL 'sum', in the pinned program and in every row, IS THE sha256 OF THE DUMP (.gsa) THAT Qxb6605538aProg.lean LOADS. Nothing in Lean hashes anything: it is a label: what it is worth is what the hold of that sum in a sandbox is worth. -/
noncomputable def Try.pinned : Pinned := { name := "qxb6605538a", sum := "1f873f565ecfb0b77989d500148f6fd93b187af2999175c760b7ad4948e971c6", checked := Try.checked }
namespace Rows
def none {H : Type} : Left H := { results := [], args := [] }

/-- 'zzlaws_root_b1.FnWeightedMeanExact': WHATEVER THE INPUT: true; the input reads as it did. -/
def fnWeightedMeanExactSpec : ChangeSpec := { name := "fnWeightedMeanExact", fn := fun _ => fun
  | [d1, d2, d3] => { results := [.lit (.bool true)], args := [d1, d2, d3] }
  | _ => none }
def fnWeightedMeanExactRow : OpenClaim := { program := "qxb6605538a", sum := "1f873f565ecfb0b77989d500148f6fd93b187af2999175c760b7ad4948e971c6", func := "example.com/glimpse24/glimpse24/zzlaws_root_b1.FnWeightedMeanExact", spec := "fnWeightedMeanExact", apart := false }
def FnWeightedMeanExactSaid : Prop := fnWeightedMeanExactRow.holds Try.pinned (OpenSpec.ofChange fnWeightedMeanExactSpec)

/-- ITS FALSE NEIGHBOUR: 'it returns false'. Refute it at one input. -/
def fnWeightedMeanExactWrong : ChangeSpec := { name := "fnWeightedMeanExact", fn := fun _ => fun
  | [d1, d2, d3] => { results := [.lit (.bool false)], args := [d1, d2, d3] }
  | _ => none }
def FnWeightedMeanExactWrongFalsely : Prop := fnWeightedMeanExactRow.holds Try.pinned (OpenSpec.ofChange fnWeightedMeanExactWrong)

/-- 'zzlaws_root_b1.FnWeightedMeanSharedPlace': WHATEVER THE INPUT: true; the input reads as it did. -/
def fnWeightedMeanSharedPlaceSpec : ChangeSpec := { name := "fnWeightedMeanSharedPlace", fn := fun _ => fun
  | [d1, d2, d3] => { results := [.lit (.bool true)], args := [d1, d2, d3] }
  | _ => none }
def fnWeightedMeanSharedPlaceRow : OpenClaim := { program := "qxb6605538a", sum := "1f873f565ecfb0b77989d500148f6fd93b187af2999175c760b7ad4948e971c6", func := "example.com/glimpse24/glimpse24/zzlaws_root_b1.FnWeightedMeanSharedPlace", spec := "fnWeightedMeanSharedPlace", apart := false }
def FnWeightedMeanSharedPlaceSaid : Prop := fnWeightedMeanSharedPlaceRow.holds Try.pinned (OpenSpec.ofChange fnWeightedMeanSharedPlaceSpec)

/-- ITS FALSE NEIGHBOUR: 'it returns false'. Refute it at one input. -/
def fnWeightedMeanSharedPlaceWrong : ChangeSpec := { name := "fnWeightedMeanSharedPlace", fn := fun _ => fun
  | [d1, d2, d3] => { results := [.lit (.bool false)], args := [d1, d2, d3] }
  | _ => none }
def FnWeightedMeanSharedPlaceWrongFalsely : Prop := fnWeightedMeanSharedPlaceRow.holds Try.pinned (OpenSpec.ofChange fnWeightedMeanSharedPlaceWrong)

/-- 'zzlaws_root_b1.FnParallelSlopeModel': WHATEVER THE INPUT: true; the input reads as it did. -/
def fnParallelSlopeModelSpec : ChangeSpec := { name := "fnParallelSlopeModel", fn := fun _ => fun
  | [d1, d2, d3, d4] => { results := [.lit (.bool true)], args := [d1, d2, d3, d4] }
  | _ => none }
def fnParallelSlopeModelRow : OpenClaim := { program := "qxb6605538a", sum := "1f873f565ecfb0b77989d500148f6fd93b187af2999175c760b7ad4948e971c6", func := "example.com/glimpse24/glimpse24/zzlaws_root_b1.FnParallelSlopeModel", spec := "fnParallelSlopeModel", apart := false }
def FnParallelSlopeModelSaid : Prop := fnParallelSlopeModelRow.holds Try.pinned (OpenSpec.ofChange fnParallelSlopeModelSpec)

/-- ITS FALSE NEIGHBOUR: 'it returns false'. Refute it at one input. -/
def fnParallelSlopeModelWrong : ChangeSpec := { name := "fnParallelSlopeModel", fn := fun _ => fun
  | [d1, d2, d3, d4] => { results := [.lit (.bool false)], args := [d1, d2, d3, d4] }
  | _ => none }
def FnParallelSlopeModelWrongFalsely : Prop := fnParallelSlopeModelRow.holds Try.pinned (OpenSpec.ofChange fnParallelSlopeModelWrong)

/-- 'zzlaws_root_b1.FnRoughFactorsCharacterised': WHATEVER THE INPUT: true; the input reads as it did. -/
def fnRoughFactorsCharacterisedSpec : ChangeSpec := { name := "fnRoughFactorsCharacterised", fn := fun _ => fun
  | [d] => { results := [.lit (.bool true)], args := [d] }
  | _ => none }
def fnRoughFactorsCharacterisedRow : OpenClaim := { program := "qxb6605538a", sum := "1f873f565ecfb0b77989d500148f6fd93b187af2999175c760b7ad4948e971c6", func := "example.com/glimpse24/glimpse24/zzlaws_root_b1.FnRoughFactorsCharacterised", spec := "fnRoughFactorsCharacterised", apart := false }
def FnRoughFactorsCharacterisedSaid : Prop := fnRoughFactorsCharacterisedRow.holds Try.pinned (OpenSpec.ofChange fnRoughFactorsCharacterisedSpec)

/-- ITS FALSE NEIGHBOUR: 'it returns false'. Refute it at one input. -/
def fnRoughFactorsCharacterisedWrong : ChangeSpec := { name := "fnRoughFactorsCharacterised", fn := fun _ => fun
  | [d] => { results := [.lit (.bool false)], args := [d] }
  | _ => none }
def FnRoughFactorsCharacterisedWrongFalsely : Prop := fnRoughFactorsCharacterisedRow.holds Try.pinned (OpenSpec.ofChange fnRoughFactorsCharacterisedWrong)

/-- 'zzlaws_root_b1.FnRoughFactorsMultiplicative': WHATEVER THE INPUT: true; the input reads as it did. -/
def fnRoughFactorsMultiplicativeSpec : ChangeSpec := { name := "fnRoughFactorsMultiplicative", fn := fun _ => fun
  | [d1, d2] => { results := [.lit (.bool true)], args := [d1, d2] }
  | _ => none }
def fnRoughFactorsMultiplicativeRow : OpenClaim := { program := "qxb6605538a", sum := "1f873f565ecfb0b77989d500148f6fd93b187af2999175c760b7ad4948e971c6", func := "example.com/glimpse24/glimpse24/zzlaws_root_b1.FnRoughFactorsMultiplicative", spec := "fnRoughFactorsMultiplicative", apart := false }
def FnRoughFactorsMultiplicativeSaid : Prop := fnRoughFactorsMultiplicativeRow.holds Try.pinned (OpenSpec.ofChange fnRoughFactorsMultiplicativeSpec)

/-- ITS FALSE NEIGHBOUR: 'it returns false'. Refute it at one input. -/
def fnRoughFactorsMultiplicativeWrong : ChangeSpec := { name := "fnRoughFactorsMultiplicative", fn := fun _ => fun
  | [d1, d2] => { results := [.lit (.bool false)], args := [d1, d2] }
  | _ => none }
def FnRoughFactorsMultiplicativeWrongFalsely : Prop := fnRoughFactorsMultiplicativeRow.holds Try.pinned (OpenSpec.ofChange fnRoughFactorsMultiplicativeWrong)

end Rows
end Go.Proofs.Qxb6605538a
