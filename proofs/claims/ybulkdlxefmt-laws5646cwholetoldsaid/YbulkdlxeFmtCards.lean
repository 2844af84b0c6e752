/-
  DERIVED. GIVEN WITH THE SEED: THE CARDS: each row of YbulkdlxeFmtRows.lean that lists a variable, with what it lists TIED to the program's text (the seventh form; the later family's looks); each row that meets fmt, with fmt's text TOLD by the authors' own Lean function (tested against real Go, not proved from fmt's source: count such statements apart). THE CARD IS WHAT COUNTS. Prove the row's statement (the work); the ties are given (YbulkdlxeFmtTie.lean); close each card by the builder's one call (the guide's Derived/Test/ToyasCard.lean, 'card_holds'). Laid BY PROGRAM, IN A SANDBOX (cutbox-door.mjs). By AI agents, Wed Nov 11 2026. No macro, syntax, notation, axiom, sorry.
-/
import Derived.Test.YbulkdlxeFmtRows
import GoSem.ClaimSeven
namespace Go.Proofs.YbulkdlxeFmt
namespace Rows

/-- THE TOLD CARD OF 'nest3.LawS5646BPart'. -/
def lawS5646BPartCard : Claim7 := { stood := { row := lawS5646BPartRow, standIns := [], harness := (true, "c3c5c1cbf740643e1f16cf9bcb0085bd2ebfd1fb4f980896600ece9d82cab22a"), looks := false }, told := true, goes := false }
def LawS5646BPartToldSaid : Prop := Claim7.holds Ybaf.pinned (.plain (OpenSpec.ofChange lawS5646BPartSpec)) lawS5646BPartCard
/-- ITS FALSE NEIGHBOUR. Refute it at one input. -/
def LawS5646BPartToldWrongFalsely : Prop := Claim7.holds Ybaf.pinned (.plain (OpenSpec.ofChange lawS5646BPartWrong)) lawS5646BPartCard

/-- THE TOLD AND TIED CARD OF 'nest3.LawS5646CWhole'. -/
def lawS5646CWholeCard : Claim7 := { stood := { row := lawS5646CWholeRow, standIns := [], harness := (true, "c3c5c1cbf740643e1f16cf9bcb0085bd2ebfd1fb4f980896600ece9d82cab22a"), looks := false }, told := true, laidByText := true, laidKinds := [.data, .data, .data], laidTests := true, laidLooks := .later, goes := false }
def LawS5646CWholeToldSaid : Prop := Claim7.holds Ybaf.pinned (.plain (OpenSpec.ofChange lawS5646CWholeSpec)) lawS5646CWholeCard
/-- ITS FALSE NEIGHBOUR. Refute it at one input. -/
def LawS5646CWholeToldWrongFalsely : Prop := Claim7.holds Ybaf.pinned (.plain (OpenSpec.ofChange lawS5646CWholeWrong)) lawS5646CWholeCard
end Rows
end Go.Proofs.YbulkdlxeFmt
