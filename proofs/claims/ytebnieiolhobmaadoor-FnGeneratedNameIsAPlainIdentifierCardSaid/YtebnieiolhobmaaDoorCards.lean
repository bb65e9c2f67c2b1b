/-
  DERIVED. GIVEN WITH THE SEED: THE CARDS: each row of YtebnieiolhobmaaDoorRows.lean that lists a variable, with what it lists TIED to the program's text (the seventh form; the later family's looks); each row that meets fmt, with fmt's text TOLD by the authors' own Lean function (tested against real Go, not proved from fmt's source: count such statements apart). THE CARD IS WHAT COUNTS. Prove the row's statement (the work); the ties are given (YtebnieiolhobmaaDoorTie.lean); close each card by the builder's one call (the guide's Derived/Test/ToyasCard.lean, 'card_holds'). Laid BY PROGRAM, IN A SANDBOX (cutbox-door.mjs). By AI agents, Wed Nov 11 2026. No macro, syntax, notation, axiom, sorry.
-/
import Derived.Test.YtebnieiolhobmaaDoorRows
import GoSem.ClaimSeven
namespace Go.Proofs.YtebnieiolhobmaaDoor
namespace Rows

/-- THE TIED CARD OF 'n011_235.FnGeneratedNameIsAPlainIdentifier'. -/
def fnGeneratedNameIsAPlainIdentifierCard : Claim7 := { stood := { row := fnGeneratedNameIsAPlainIdentifierRow, standIns := [], harness := (true, "edc1622eca5db8715ab650464070fbdebb743dcbff49efd07016c90587793a2a"), looks := false }, kinds := [], alts := [], laidByText := true, laidKinds := [.data, .pinned], laidTests := true, laidLooks := .later }
def FnGeneratedNameIsAPlainIdentifierCardSaid : Prop := Claim7.holds Tryd.pinned (.plain (OpenSpec.ofChange fnGeneratedNameIsAPlainIdentifierSpec)) fnGeneratedNameIsAPlainIdentifierCard

/-- THE SECOND FORM's CARD OF 'n011_235.FnGeneratedNameIsAPlainIdentifier'. -/
def fnGeneratedNameIsAPlainIdentifierUptoCard : Claim7 := { stood := { row := fnGeneratedNameIsAPlainIdentifierUptoRow, standIns := [], harness := (true, "edc1622eca5db8715ab650464070fbdebb743dcbff49efd07016c90587793a2a"), looks := false }, kinds := [], alts := [], laidByText := true, laidKinds := [.data, .pinned], laidTests := true, laidLooks := .later }
def FnGeneratedNameIsAPlainIdentifierUptoCardSaid : Prop := Claim7.holds Tryd.pinned (.plain (OpenSpec.upto fnGeneratedNameIsAPlainIdentifierSpec)) fnGeneratedNameIsAPlainIdentifierUptoCard
end Rows
end Go.Proofs.YtebnieiolhobmaaDoor
