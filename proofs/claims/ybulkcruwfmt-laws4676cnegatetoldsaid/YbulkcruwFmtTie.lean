/-
  DERIVED. GIVEN WITH THE SEED: THE PROGRAM's TIES (one call each: nine closed facts by the kernel) AND EACH ROW's TIE, after the 31st guide's Derived/Test/Toyas{Tie, Card}.lean. No idea stands in it: it is a product of the set-up. Laid BY PROGRAM, IN A SANDBOX (cutbox-door.mjs). By AI agents, Wed Nov 11 2026. No macro, syntax, notation, axiom, sorry.
-/
import Derived.Test.YbulkcruwFmtRows
import Derived.LaidByTextLater
import Derived.SevenTiedAt
import Derived.LaidSub
import Derived.LaidOnce
namespace Go.Proofs.YbulkcruwFmt
open Go
set_option maxRecDepth 100000
theorem seatTie1 : Ybaf.prog.laidByTextLater [("example.com/spanwise/spanwise.ErrOutOfRange", Rows.laid_example_com_spanwise_spanwise_ErrOutOfRange), ("example.com/spanwise/spanwise.unitNames", Rows.laid_example_com_spanwise_spanwise_unitNames)] [.sentinel, .wider] true :=
  Program.laidByTextLater_by_one 33 8 8 (by kernel_rfl) (by kernel_rfl) (by kernel_rfl) (by kernel_rfl) (by kernel_rfl) (by kernel_rfl) (fun _ _ => by kernel_rfl)
theorem noOwnUnsafe : Ybaf.pinned.checked.prog.headLifts.contains "ownunsafe" = false := by kernel_rfl
theorem tie : Ybaf.prog.laidByTextLater [("example.com/spanwise/spanwise.ErrOutOfRange", Rows.laid_example_com_spanwise_spanwise_ErrOutOfRange), ("example.com/spanwise/spanwise.unitNames", Rows.laid_example_com_spanwise_spanwise_unitNames)] [.sentinel, .wider] true :=
  Program.laidByTextLater.sub seatTie1 ["example.com/spanwise/spanwise.ErrOutOfRange", "example.com/spanwise/spanwise.unitNames"] (by kernel_rfl) (by kernel_rfl)
theorem lawS4676CNegate_row_tie : Rows.lawS4676CNegateRow.laidByTextAt .later Ybaf.pinned [.sentinel, .wider] true :=
  OpenClaim.laidByTextAt_later rfl rfl tie noOwnUnsafe
theorem lawS4676CTwice_row_tie : Rows.lawS4676CTwiceRow.laidByTextAt .later Ybaf.pinned [.sentinel, .wider] true :=
  OpenClaim.laidByTextAt_later rfl rfl tie noOwnUnsafe
end Go.Proofs.YbulkcruwFmt
