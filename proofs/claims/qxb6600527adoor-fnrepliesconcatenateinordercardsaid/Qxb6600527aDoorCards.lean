/-
  DERIVED. GIVEN WITH THE SEED: THE CARDS: each row of Qxb6600527aDoorRows.lean that lists a variable, with what it lists TIED to the program's text (the seventh form; the later family's looks); each row that meets fmt, with fmt's text TOLD by the authors' own Lean function (tested against real Go, not proved from fmt's source: count such statements apart). THE CARD IS WHAT COUNTS. Prove the row's statement (the work); the ties are given (Qxb6600527aDoorTie.lean); close each card by the builder's one call (the guide's Derived/Test/ToyasCard.lean, 'card_holds'). Laid BY PROGRAM, IN A SANDBOX (cutbox-door.mjs). By AI agents, Wed Nov 11 2026. No macro, syntax, notation, axiom, sorry.
-/
import Derived.Test.Qxb6600527aDoorRows
import GoSem.ClaimSeven
namespace Go.Proofs.Qxb6600527aDoor
namespace Rows

/-- THE TIED CARD OF 'zzlaws_internal_resp_b1.FnParseIntegerReadsBackEveryInt64'. -/
def fnParseIntegerReadsBackEveryInt64Card : Claim7 := { stood := { row := fnParseIntegerReadsBackEveryInt64Row, standIns := [], harness := (true, "b612551a32a55fbc77d06f550ee4e7e3aa1cb4e6e25c132483dda79ff1b5483d"), looks := true }, kinds := [], alts := [], laidByText := true, laidKinds := [.data, .data, .data, .sentinel, .sentinel], laidTests := true, laidLooks := .later }
def FnParseIntegerReadsBackEveryInt64CardSaid : Prop := Claim7.holds Tryd.pinned (.plain (OpenSpec.ofChange fnParseIntegerReadsBackEveryInt64Spec)) fnParseIntegerReadsBackEveryInt64Card

/-- THE TIED CARD OF 'zzlaws_internal_resp_b1.FnParseIntegerSignSymmetry'. -/
def fnParseIntegerSignSymmetryCard : Claim7 := { stood := { row := fnParseIntegerSignSymmetryRow, standIns := [], harness := (true, "b612551a32a55fbc77d06f550ee4e7e3aa1cb4e6e25c132483dda79ff1b5483d"), looks := true }, kinds := [], alts := [], laidByText := true, laidKinds := [.data, .data, .data, .sentinel, .sentinel], laidTests := true, laidLooks := .later }
def FnParseIntegerSignSymmetryCardSaid : Prop := Claim7.holds Tryd.pinned (.plain (OpenSpec.ofChange fnParseIntegerSignSymmetrySpec)) fnParseIntegerSignSymmetryCard

/-- THE TIED CARD OF 'zzlaws_internal_resp_b1.FnBulkHeaderReadsBackByParseInteger'. -/
def fnBulkHeaderReadsBackByParseIntegerCard : Claim7 := { stood := { row := fnBulkHeaderReadsBackByParseIntegerRow, standIns := [], harness := (true, "b612551a32a55fbc77d06f550ee4e7e3aa1cb4e6e25c132483dda79ff1b5483d"), looks := true }, kinds := [], alts := [], laidByText := true, laidKinds := [.data, .data, .data, .sentinel, .sentinel], laidTests := true, laidLooks := .later }
def FnBulkHeaderReadsBackByParseIntegerCardSaid : Prop := Claim7.holds Tryd.pinned (.plain (OpenSpec.ofChange fnBulkHeaderReadsBackByParseIntegerSpec)) fnBulkHeaderReadsBackByParseIntegerCard

/-- THE TIED CARD OF 'zzlaws_internal_resp_b1.FnRepliesConcatenateInOrder'. -/
def fnRepliesConcatenateInOrderCard : Claim7 := { stood := { row := fnRepliesConcatenateInOrderRow, standIns := [], harness := (true, "b612551a32a55fbc77d06f550ee4e7e3aa1cb4e6e25c132483dda79ff1b5483d"), looks := true }, kinds := [], alts := [], laidByText := true, laidKinds := [.data, .data, .data], laidTests := true, laidLooks := .later }
def FnRepliesConcatenateInOrderCardSaid : Prop := Claim7.holds Tryd.pinned (.plain (OpenSpec.ofChange fnRepliesConcatenateInOrderSpec)) fnRepliesConcatenateInOrderCard

/-- THE TIED CARD OF 'zzlaws_internal_resp_b1.FnParseIntegerMatchesCanonicalModel'. -/
def fnParseIntegerMatchesCanonicalModelCard : Claim7 := { stood := { row := fnParseIntegerMatchesCanonicalModelRow, standIns := [], harness := (true, "b612551a32a55fbc77d06f550ee4e7e3aa1cb4e6e25c132483dda79ff1b5483d"), looks := true }, kinds := [], alts := [], laidByText := true, laidKinds := [.data, .data, .data, .sentinel, .sentinel], laidTests := true, laidLooks := .later }
def FnParseIntegerMatchesCanonicalModelCardSaid : Prop := Claim7.holds Tryd.pinned (.plain (OpenSpec.ofChange fnParseIntegerMatchesCanonicalModelSpec)) fnParseIntegerMatchesCanonicalModelCard
end Rows
end Go.Proofs.Qxb6600527aDoor
