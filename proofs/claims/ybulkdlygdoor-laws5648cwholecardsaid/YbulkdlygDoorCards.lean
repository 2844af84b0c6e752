/-
  DERIVED. GIVEN WITH THE SEED: THE CARDS: each row of YbulkdlygDoorRows.lean that lists a variable, with what it lists TIED to the program's text (the seventh form; the later family's looks); each row that meets fmt, with fmt's text TOLD by the authors' own Lean function (tested against real Go, not proved from fmt's source: count such statements apart). THE CARD IS WHAT COUNTS. Prove the row's statement (the work); the ties are given (YbulkdlygDoorTie.lean); close each card by the builder's one call (the guide's Derived/Test/ToyasCard.lean, 'card_holds'). Laid BY PROGRAM, IN A SANDBOX (cutbox-door.mjs). By AI agents, Wed Nov 11 2026. No macro, syntax, notation, axiom, sorry.
-/
import Derived.Test.YbulkdlygDoorRows
import GoSem.ClaimSeven
namespace Go.Proofs.YbulkdlygDoor
namespace Rows

/-- THE TIED CARD OF 'money.LawS5648CWhole'. -/
def lawS5648CWholeCard : Claim7 := { stood := { row := lawS5648CWholeRow, standIns := [], harness := (true, "8db33ede16b434c712b21ff027110cc7625618f37883123bc2ccd9798ca74375"), looks := false }, kinds := [], alts := [], laidByText := true, laidKinds := [.called], laidTests := true, laidLooks := .later }
def LawS5648CWholeCardSaid : Prop := Claim7.holds Ybad.pinned (.plain (OpenSpec.ofChange lawS5648CWholeSpec)) lawS5648CWholeCard
end Rows
end Go.Proofs.YbulkdlygDoor
