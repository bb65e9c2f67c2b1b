/-
  DERIVED. GIVEN WITH THE SEED: THE CARDS: each row of YtlmjnlijoodbiaaDoorRows.lean that lists a variable, with what it lists TIED to the program's text (the seventh form; the later family's looks); each row that meets fmt, with fmt's text TOLD by the authors' own Lean function (tested against real Go, not proved from fmt's source: count such statements apart). THE CARD IS WHAT COUNTS. Prove the row's statement (the work); the ties are given (YtlmjnlijoodbiaaDoorTie.lean); close each card by the builder's one call (the guide's Derived/Test/ToyasCard.lean, 'card_holds'). Laid BY PROGRAM, IN A SANDBOX (cutbox-door.mjs). By AI agents, Wed Nov 11 2026. No macro, syntax, notation, axiom, sorry.
-/
import Derived.Test.YtlmjnlijoodbiaaDoorRows
import GoSem.ClaimSeven
namespace Go.Proofs.YtlmjnlijoodbiaaDoor
namespace Rows

/-- THE TIED CARD OF 'n011_109.FnInlinePrimitivesIntoTemplateFoldsStringParts'. -/
def fnInlinePrimitivesIntoTemplateFoldsStringPartsCard : Claim7 := { stood := { row := fnInlinePrimitivesIntoTemplateFoldsStringPartsRow, standIns := [], harness := (true, "fa0bd3ac8830753fe09fb201744193fdd964759183e2ed6f715cdadc1a092586"), looks := true }, kinds := [], alts := [], laidByText := true, laidKinds := [.data, .data, .data], laidTests := true, laidLooks := .later }
def FnInlinePrimitivesIntoTemplateFoldsStringPartsCardSaid : Prop := Claim7.holds Tryd.pinned (.plain (OpenSpec.ofChange fnInlinePrimitivesIntoTemplateFoldsStringPartsSpec)) fnInlinePrimitivesIntoTemplateFoldsStringPartsCard

/-- THE SECOND FORM's CARD OF 'n011_109.FnInlinePrimitivesIntoTemplateFoldsStringParts'. -/
def fnInlinePrimitivesIntoTemplateFoldsStringPartsUptoCard : Claim7 := { stood := { row := fnInlinePrimitivesIntoTemplateFoldsStringPartsUptoRow, standIns := [], harness := (true, "fa0bd3ac8830753fe09fb201744193fdd964759183e2ed6f715cdadc1a092586"), looks := true }, kinds := [], alts := [], laidByText := true, laidKinds := [.data, .data, .data], laidTests := true, laidLooks := .later }
def FnInlinePrimitivesIntoTemplateFoldsStringPartsUptoCardSaid : Prop := Claim7.holds Tryd.pinned (.plain (OpenSpec.upto fnInlinePrimitivesIntoTemplateFoldsStringPartsSpec)) fnInlinePrimitivesIntoTemplateFoldsStringPartsUptoCard
end Rows
end Go.Proofs.YtlmjnlijoodbiaaDoor
