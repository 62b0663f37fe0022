/-
  DERIVED. GIVEN WITH THE SEED: THE CARDS: each row of YbulkfsaDoorRows.lean that lists a variable, with what it lists TIED to the program's text (the seventh form; the later family's looks); each row that meets fmt, with fmt's text TOLD by the authors' own Lean function (tested against real Go, not proved from fmt's source: count such statements apart). THE CARD IS WHAT COUNTS. Prove the row's statement (the work); the ties are given (YbulkfsaDoorTie.lean); close each card by the builder's one call (the guide's Derived/Test/ToyasCard.lean, 'card_holds'). Laid BY PROGRAM, IN A SANDBOX (cutbox-door.mjs). By AI agents, Wed Nov 11 2026. No macro, syntax, notation, axiom, sorry.
-/
import Derived.Test.YbulkfsaDoorRows
import GoSem.ClaimSeven
namespace Go.Proofs.YbulkfsaDoor
namespace Rows

/-- THE TIED CARD OF 'clockwise.LawS0325BSize'. -/
def lawS0325BSizeCard : Claim7 := { stood := { row := lawS0325BSizeRow, standIns := [], harness := (true, "d3eac509192e840ffa8dad7fb800a65be16cd4676b62b83828842a00829dae71"), looks := false }, kinds := [], alts := [], laidByText := true, laidKinds := [.data, .data], laidTests := true, laidLooks := .later }
def LawS0325BSizeCardSaid : Prop := Claim7.holds Ybad.pinned (.plain (OpenSpec.ofChange lawS0325BSizeSpec)) lawS0325BSizeCard

/-- THE TIED CARD OF 'clockwise.LawS0325BRoom'. -/
def lawS0325BRoomCard : Claim7 := { stood := { row := lawS0325BRoomRow, standIns := [], harness := (true, "d3eac509192e840ffa8dad7fb800a65be16cd4676b62b83828842a00829dae71"), looks := false }, kinds := [], alts := [], laidByText := true, laidKinds := [.data, .data], laidTests := true, laidLooks := .later }
def LawS0325BRoomCardSaid : Prop := Claim7.holds Ybad.pinned (.plain (OpenSpec.ofChange lawS0325BRoomSpec)) lawS0325BRoomCard
end Rows
end Go.Proofs.YbulkfsaDoor
