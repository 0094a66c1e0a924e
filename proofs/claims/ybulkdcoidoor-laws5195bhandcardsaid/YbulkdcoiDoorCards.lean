/-
  DERIVED. GIVEN WITH THE SEED: THE CARDS: each row of YbulkdcoiDoorRows.lean that lists a variable, with what it lists TIED to the program's text (the seventh form; the later family's looks); each row that meets fmt, with fmt's text TOLD by the authors' own Lean function (tested against real Go, not proved from fmt's source: count such statements apart). THE CARD IS WHAT COUNTS. Prove the row's statement (the work); the ties are given (YbulkdcoiDoorTie.lean); close each card by the builder's one call (the guide's Derived/Test/ToyasCard.lean, 'card_holds'). Laid BY PROGRAM, IN A SANDBOX (cutbox-door.mjs). By AI agents, Wed Nov 11 2026. No macro, syntax, notation, axiom, sorry.
-/
import Derived.Test.YbulkdcoiDoorRows
import GoSem.ClaimSeven
namespace Go.Proofs.YbulkdcoiDoor
namespace Rows

/-- THE TIED CARD OF 'node.LawS5195BHand'. -/
def lawS5195BHandCard : Claim7 := { stood := { row := lawS5195BHandRow, standIns := [], harness := (true, "9c5c6412f0f61b9e85dd0b73e59f5fc218704d593bdaab93dc1a08cc5679a38a"), looks := true }, kinds := [], alts := [], laidByText := true, laidKinds := [.sentinel], laidTests := true, laidLooks := .later }
def LawS5195BHandCardSaid : Prop := Claim7.holds Ybad.pinned (.plain (OpenSpec.ofChange lawS5195BHandSpec)) lawS5195BHandCard
end Rows
end Go.Proofs.YbulkdcoiDoor
