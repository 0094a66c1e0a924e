/-
  DERIVED. GIVEN WITH THE SEED: THE CARDS: each row of YbulkdcraFmtRows.lean that lists a variable, with what it lists TIED to the program's text (the seventh form; the later family's looks); each row that meets fmt, with fmt's text TOLD by the authors' own Lean function (tested against real Go, not proved from fmt's source: count such statements apart). THE CARD IS WHAT COUNTS. Prove the row's statement (the work); the ties are given (YbulkdcraFmtTie.lean); close each card by the builder's one call (the guide's Derived/Test/ToyasCard.lean, 'card_holds'). Laid BY PROGRAM, IN A SANDBOX (cutbox-door.mjs). By AI agents, Wed Nov 11 2026. No macro, syntax, notation, axiom, sorry.
-/
import Derived.Test.YbulkdcraFmtRows
import GoSem.ClaimSeven
namespace Go.Proofs.YbulkdcraFmt
namespace Rows

/-- THE TOLD CARD OF 'blobsmith.LawS5200AAppend'. -/
def lawS5200AAppendCard : Claim7 := { stood := { row := lawS5200AAppendRow, standIns := [], harness := (true, "3c1c2f737fbf0a448492712d3305bb18d90fe6ce113518fa14d91422df09d93c"), looks := true }, told := true, goes := false }
def LawS5200AAppendToldSaid : Prop := Claim7.holds Ybaf.pinned (.plain (OpenSpec.ofChange lawS5200AAppendSpec)) lawS5200AAppendCard
/-- ITS FALSE NEIGHBOUR. Refute it at one input. -/
def LawS5200AAppendToldWrongFalsely : Prop := Claim7.holds Ybaf.pinned (.plain (OpenSpec.ofChange lawS5200AAppendWrong)) lawS5200AAppendCard

/-- THE TOLD AND TIED CARD OF 'blobsmith.LawS5200BTable'. -/
def lawS5200BTableCard : Claim7 := { stood := { row := lawS5200BTableRow, standIns := [], harness := (true, "3c1c2f737fbf0a448492712d3305bb18d90fe6ce113518fa14d91422df09d93c"), looks := true }, told := true, laidByText := true, laidKinds := [.widerDeep], laidTests := true, laidLooks := .later, goes := false }
def LawS5200BTableToldSaid : Prop := Claim7.holds Ybaf.pinned (.plain (OpenSpec.ofChange lawS5200BTableSpec)) lawS5200BTableCard
/-- ITS FALSE NEIGHBOUR. Refute it at one input. -/
def LawS5200BTableToldWrongFalsely : Prop := Claim7.holds Ybaf.pinned (.plain (OpenSpec.ofChange lawS5200BTableWrong)) lawS5200BTableCard

/-- THE TOLD AND TIED CARD OF 'blobsmith.LawS5200BCheck'. -/
def lawS5200BCheckCard : Claim7 := { stood := { row := lawS5200BCheckRow, standIns := [], harness := (true, "3c1c2f737fbf0a448492712d3305bb18d90fe6ce113518fa14d91422df09d93c"), looks := true }, told := true, laidByText := true, laidKinds := [.widerDeep], laidTests := true, laidLooks := .later, goes := false }
def LawS5200BCheckToldSaid : Prop := Claim7.holds Ybaf.pinned (.plain (OpenSpec.ofChange lawS5200BCheckSpec)) lawS5200BCheckCard
/-- ITS FALSE NEIGHBOUR. Refute it at one input. -/
def LawS5200BCheckToldWrongFalsely : Prop := Claim7.holds Ybaf.pinned (.plain (OpenSpec.ofChange lawS5200BCheckWrong)) lawS5200BCheckCard
end Rows
end Go.Proofs.YbulkdcraFmt
