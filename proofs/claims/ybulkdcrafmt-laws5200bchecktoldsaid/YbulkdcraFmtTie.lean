/-
  DERIVED. GIVEN WITH THE SEED: THE PROGRAM's TIES (one call each: nine closed facts by the kernel) AND EACH ROW's TIE, after the 31st guide's Derived/Test/Toyas{Tie, Card}.lean. No idea stands in it: it is a product of the set-up. Laid BY PROGRAM, IN A SANDBOX (cutbox-door.mjs). By AI agents, Wed Nov 11 2026. No macro, syntax, notation, axiom, sorry.
-/
import Derived.Test.YbulkdcraFmtRows
import Derived.LaidByTextLater
import Derived.SevenTiedAt
import Derived.LaidSub
import Derived.LaidOnce
namespace Go.Proofs.YbulkdcraFmt
open Go
set_option maxRecDepth 100000
theorem seatTie1 : Ybaf.prog.laidByTextLater [("example.com/blobsmith/blobsmith.algorithms", Rows.laid_example_com_blobsmith_blobsmith_algorithms)] [.widerDeep] true :=
  Program.laidByTextLater_by_one 57 8 65 (by kernel_rfl) (by kernel_rfl) (by kernel_rfl) (by kernel_rfl) (by kernel_rfl) (by kernel_rfl) (fun _ _ => by kernel_rfl)
theorem noOwnUnsafe : Ybaf.pinned.checked.prog.headLifts.contains "ownunsafe" = false := by kernel_rfl
theorem tie : Ybaf.prog.laidByTextLater [("example.com/blobsmith/blobsmith.algorithms", Rows.laid_example_com_blobsmith_blobsmith_algorithms)] [.widerDeep] true :=
  Program.laidByTextLater.sub seatTie1 ["example.com/blobsmith/blobsmith.algorithms"] (by kernel_rfl) (by kernel_rfl)
theorem lawS5200BTable_row_tie : Rows.lawS5200BTableRow.laidByTextAt .later Ybaf.pinned [.widerDeep] true :=
  OpenClaim.laidByTextAt_later rfl rfl tie noOwnUnsafe
theorem lawS5200BCheck_row_tie : Rows.lawS5200BCheckRow.laidByTextAt .later Ybaf.pinned [.widerDeep] true :=
  OpenClaim.laidByTextAt_later rfl rfl tie noOwnUnsafe
end Go.Proofs.YbulkdcraFmt
