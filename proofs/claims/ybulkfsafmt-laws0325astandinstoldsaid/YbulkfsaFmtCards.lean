/-
  DERIVED. GIVEN WITH THE SEED: THE CARDS: each row of YbulkfsaFmtRows.lean that lists a variable, with what it lists TIED to the program's text (the seventh form; the later family's looks); each row that meets fmt, with fmt's text TOLD by the authors' own Lean function (tested against real Go, not proved from fmt's source: count such statements apart). THE CARD IS WHAT COUNTS. Prove the row's statement (the work); the ties are given (YbulkfsaFmtTie.lean); close each card by the builder's one call (the guide's Derived/Test/ToyasCard.lean, 'card_holds'). Laid BY PROGRAM, IN A SANDBOX (cutbox-door.mjs). By AI agents, Wed Nov 11 2026. No macro, syntax, notation, axiom, sorry.
-/
import Derived.Test.YbulkfsaFmtRows
import GoSem.ClaimSeven
namespace Go.Proofs.YbulkfsaFmt
namespace Rows

/-- THE TOLD AND TIED CARD OF 'clockwise.LawS0325AStandIns'. -/
def lawS0325AStandInsCard : Claim7 := { stood := { row := lawS0325AStandInsRow, standIns := [], harness := (true, "bc96c6e39a02a7c9cfb899b2b648220172e2c5ee280e887142cc005dee897cca"), looks := true }, told := true, laidByText := true, laidKinds := [.called], laidTests := true, laidLooks := .later, goes := false }
def LawS0325AStandInsToldSaid : Prop := Claim7.holds Ybaf.pinned (.plain (OpenSpec.ofChange lawS0325AStandInsSpec)) lawS0325AStandInsCard
/-- ITS FALSE NEIGHBOUR. Refute it at one input. -/
def LawS0325AStandInsToldWrongFalsely : Prop := Claim7.holds Ybaf.pinned (.plain (OpenSpec.ofChange lawS0325AStandInsWrong)) lawS0325AStandInsCard
end Rows
end Go.Proofs.YbulkfsaFmt
