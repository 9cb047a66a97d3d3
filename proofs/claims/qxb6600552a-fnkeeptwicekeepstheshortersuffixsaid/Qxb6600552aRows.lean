/-
  No cell of these rows narrows 'for every input' (looked for: loops, veiled, ifaces, maps, wideKeys, modest, calm, conditions, laid).
  DERIVED. THE GIVEN ROWS OF THIS SEAT. 4 by the template 'for every input the law returns true; each argument reads behind the call as it read before'; 0 by the template 'total and deterministic' (their statements: Qxb6600552aTotals.lean).
  GIVEN WITH THE SEED: the statements are not yours to turn. If you find one false, say at which input.
  Laid BY PROGRAM, IN A SANDBOX (cutbox-rows.mjs): the forced cells as the released guide's own fill.sh prints them over the translation 5f4fd026f705251f… (all of the seat's roots in one cut). By AI agents, Wed Nov 11 2026. No macro, syntax, notation, axiom, sorry.
-/
import Derived.Test.Qxb6600552aChecked
import GoSem.Claim
import GoSem.ClaimJoined
import GoSem.ClaimMapViews
import Derived.JoinedTies
import Derived.KernelRfl
namespace Go.Proofs.Qxb6600552a
/- THE CELL 'sum', in the pinned program and in every row, IS THE sha256 OF THE DUMP (.gsa) THAT Qxb6600552aProg.lean LOADS. Nothing in Lean hashes anything: it is a label: what it is worth is what the hold of that sum in a sandbox is worth. -/
noncomputable def Try.pinned : Pinned := { name := "qxb6600552a", sum := "5f4fd026f705251f591c44b641a571c16acf4dd7434f3c7a857f954289a91204", checked := Try.checked }
namespace Rows
def none {H : Type} : Left H := { results := [], args := [] }

/-- 'zzlaws_internal_history_b1.FnKeepLeavesWhatAddingTheLastNBuilds': WHATEVER THE INPUT: true; the input reads as it did. -/
def fnKeepLeavesWhatAddingTheLastNBuildsSpec : ChangeSpec := { name := "fnKeepLeavesWhatAddingTheLastNBuilds", fn := fun _ => fun
  | [d1, d2] => { results := [.lit (.bool true)], args := [d1, d2] }
  | _ => none }
def fnKeepLeavesWhatAddingTheLastNBuildsRow : OpenClaim := { program := "qxb6600552a", sum := "5f4fd026f705251f591c44b641a571c16acf4dd7434f3c7a857f954289a91204", func := "example.com/isolens/isolens/zzlaws_internal_history_b1.FnKeepLeavesWhatAddingTheLastNBuilds", spec := "fnKeepLeavesWhatAddingTheLastNBuilds", unfollowed := true, recurses := true, plainKeys := false, apart := false }
def FnKeepLeavesWhatAddingTheLastNBuildsSaid : Prop := fnKeepLeavesWhatAddingTheLastNBuildsRow.holds Try.pinned (OpenSpec.ofChange fnKeepLeavesWhatAddingTheLastNBuildsSpec)

/-- ITS FALSE NEIGHBOUR: 'it returns false'. Refute it at one input. -/
def fnKeepLeavesWhatAddingTheLastNBuildsWrong : ChangeSpec := { name := "fnKeepLeavesWhatAddingTheLastNBuilds", fn := fun _ => fun
  | [d1, d2] => { results := [.lit (.bool false)], args := [d1, d2] }
  | _ => none }
def FnKeepLeavesWhatAddingTheLastNBuildsWrongFalsely : Prop := fnKeepLeavesWhatAddingTheLastNBuildsRow.holds Try.pinned (OpenSpec.ofChange fnKeepLeavesWhatAddingTheLastNBuildsWrong)

/-- 'zzlaws_internal_history_b1.FnKeepTwiceKeepsTheShorterSuffix': WHATEVER THE INPUT: true; the input reads as it did. -/
def fnKeepTwiceKeepsTheShorterSuffixSpec : ChangeSpec := { name := "fnKeepTwiceKeepsTheShorterSuffix", fn := fun _ => fun
  | [d1, d2, d3] => { results := [.lit (.bool true)], args := [d1, d2, d3] }
  | _ => none }
def fnKeepTwiceKeepsTheShorterSuffixRow : OpenClaim := { program := "qxb6600552a", sum := "5f4fd026f705251f591c44b641a571c16acf4dd7434f3c7a857f954289a91204", func := "example.com/isolens/isolens/zzlaws_internal_history_b1.FnKeepTwiceKeepsTheShorterSuffix", spec := "fnKeepTwiceKeepsTheShorterSuffix", unfollowed := true, recurses := true, plainKeys := false, apart := false }
def FnKeepTwiceKeepsTheShorterSuffixSaid : Prop := fnKeepTwiceKeepsTheShorterSuffixRow.holds Try.pinned (OpenSpec.ofChange fnKeepTwiceKeepsTheShorterSuffixSpec)

/-- ITS FALSE NEIGHBOUR: 'it returns false'. Refute it at one input. -/
def fnKeepTwiceKeepsTheShorterSuffixWrong : ChangeSpec := { name := "fnKeepTwiceKeepsTheShorterSuffix", fn := fun _ => fun
  | [d1, d2, d3] => { results := [.lit (.bool false)], args := [d1, d2, d3] }
  | _ => none }
def FnKeepTwiceKeepsTheShorterSuffixWrongFalsely : Prop := fnKeepTwiceKeepsTheShorterSuffixRow.holds Try.pinned (OpenSpec.ofChange fnKeepTwiceKeepsTheShorterSuffixWrong)

/-- 'zzlaws_internal_history_b1.FnConcernsAfterKeepIsConcernsFromTheCutShifted': WHATEVER THE INPUT: true; the input reads as it did. -/
def fnConcernsAfterKeepIsConcernsFromTheCutShiftedSpec : ChangeSpec := { name := "fnConcernsAfterKeepIsConcernsFromTheCutShifted", fn := fun _ => fun
  | [d1, d2, d3] => { results := [.lit (.bool true)], args := [d1, d2, d3] }
  | _ => none }
def fnConcernsAfterKeepIsConcernsFromTheCutShiftedRow : OpenClaim := { program := "qxb6600552a", sum := "5f4fd026f705251f591c44b641a571c16acf4dd7434f3c7a857f954289a91204", func := "example.com/isolens/isolens/zzlaws_internal_history_b1.FnConcernsAfterKeepIsConcernsFromTheCutShifted", spec := "fnConcernsAfterKeepIsConcernsFromTheCutShifted", unfollowed := true, recurses := true, plainKeys := false, apart := false }
def FnConcernsAfterKeepIsConcernsFromTheCutShiftedSaid : Prop := fnConcernsAfterKeepIsConcernsFromTheCutShiftedRow.holds Try.pinned (OpenSpec.ofChange fnConcernsAfterKeepIsConcernsFromTheCutShiftedSpec)

/-- ITS FALSE NEIGHBOUR: 'it returns false'. Refute it at one input. -/
def fnConcernsAfterKeepIsConcernsFromTheCutShiftedWrong : ChangeSpec := { name := "fnConcernsAfterKeepIsConcernsFromTheCutShifted", fn := fun _ => fun
  | [d1, d2, d3] => { results := [.lit (.bool false)], args := [d1, d2, d3] }
  | _ => none }
def FnConcernsAfterKeepIsConcernsFromTheCutShiftedWrongFalsely : Prop := fnConcernsAfterKeepIsConcernsFromTheCutShiftedRow.holds Try.pinned (OpenSpec.ofChange fnConcernsAfterKeepIsConcernsFromTheCutShiftedWrong)

/-- 'zzlaws_internal_history_b1.FnConcernsFromNIsConcernsFromZeroFiltered': WHATEVER THE INPUT: true; the input reads as it did. -/
def fnConcernsFromNIsConcernsFromZeroFilteredSpec : ChangeSpec := { name := "fnConcernsFromNIsConcernsFromZeroFiltered", fn := fun _ => fun
  | [d1, d2, d3] => { results := [.lit (.bool true)], args := [d1, d2, d3] }
  | _ => none }
def fnConcernsFromNIsConcernsFromZeroFilteredRow : OpenClaim := { program := "qxb6600552a", sum := "5f4fd026f705251f591c44b641a571c16acf4dd7434f3c7a857f954289a91204", func := "example.com/isolens/isolens/zzlaws_internal_history_b1.FnConcernsFromNIsConcernsFromZeroFiltered", spec := "fnConcernsFromNIsConcernsFromZeroFiltered", unfollowed := true, recurses := true, plainKeys := false, apart := false }
def FnConcernsFromNIsConcernsFromZeroFilteredSaid : Prop := fnConcernsFromNIsConcernsFromZeroFilteredRow.holds Try.pinned (OpenSpec.ofChange fnConcernsFromNIsConcernsFromZeroFilteredSpec)

/-- ITS FALSE NEIGHBOUR: 'it returns false'. Refute it at one input. -/
def fnConcernsFromNIsConcernsFromZeroFilteredWrong : ChangeSpec := { name := "fnConcernsFromNIsConcernsFromZeroFiltered", fn := fun _ => fun
  | [d1, d2, d3] => { results := [.lit (.bool false)], args := [d1, d2, d3] }
  | _ => none }
def FnConcernsFromNIsConcernsFromZeroFilteredWrongFalsely : Prop := fnConcernsFromNIsConcernsFromZeroFilteredRow.holds Try.pinned (OpenSpec.ofChange fnConcernsFromNIsConcernsFromZeroFilteredWrong)

end Rows
end Go.Proofs.Qxb6600552a
