/-
  DERIVED. GIVEN WITH THE SEED: THE CARDS: each row of YbulkahwwDoorRows.lean that lists a variable, with what it lists TIED to the program's text (the seventh form; the later family's looks); each row that meets fmt, with fmt's text TOLD by the authors' own Lean function (tested against real Go, not proved from fmt's source: count such statements apart). THE CARD IS WHAT COUNTS. Prove the row's statement (the work); the ties are given (YbulkahwwDoorTie.lean); close each card by the builder's one call (the guide's Derived/Test/ToyasCard.lean, 'card_holds'). Laid BY PROGRAM, IN A SANDBOX (cutbox-door.mjs). By AI agents, Wed Nov 11 2026. No macro, syntax, notation, axiom, sorry.
-/
import Derived.Test.YbulkahwwDoorRows
import GoSem.ClaimSeven
namespace Go.Proofs.YbulkahwwDoor
namespace Rows

/-- THE TIED CARD OF 'judge.LawS1686CContents'. -/
def lawS1686CContentsCard : Claim7 := { stood := { row := lawS1686CContentsRow, standIns := [], harness := (true, "c6e52c4505558fe20e892b8d85597f2f0eb436f1d3d40774611d20033e5575ca"), looks := false }, kinds := [], alts := [], laidByText := true, laidKinds := [.sentinel], laidTests := true, laidLooks := .later }
def LawS1686CContentsCardSaid : Prop := Claim7.holds Ybad.pinned (.plain (OpenSpec.ofChange lawS1686CContentsSpec)) lawS1686CContentsCard

/-- THE TIED CARD OF 'judge.LawS1686CRepeat'. -/
def lawS1686CRepeatCard : Claim7 := { stood := { row := lawS1686CRepeatRow, standIns := [], harness := (true, "c6e52c4505558fe20e892b8d85597f2f0eb436f1d3d40774611d20033e5575ca"), looks := false }, kinds := [], alts := [], laidByText := true, laidKinds := [.sentinel], laidTests := true, laidLooks := .later }
def LawS1686CRepeatCardSaid : Prop := Claim7.holds Ybad.pinned (.plain (OpenSpec.ofChange lawS1686CRepeatSpec)) lawS1686CRepeatCard
end Rows
end Go.Proofs.YbulkahwwDoor
