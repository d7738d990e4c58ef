/-
  DERIVED. GIVEN WITH THE SEED: THE PROGRAM's TIES (one call each: nine closed facts by the kernel) AND EACH ROW's TIE, after the 31st guide's Derived/Test/Toyas{Tie, Card}.lean. No idea stands in it: it is a product of the set-up. Laid BY PROGRAM, IN A SANDBOX (cutbox-door.mjs). By AI agents, Wed Nov 11 2026. No macro, syntax, notation, axiom, sorry.
-/
import Derived.Test.YbulkecmmFmtRows
import Derived.LaidByTextLater
import Derived.SevenTiedAt
import Derived.LaidSub
import Derived.LaidOnce
namespace Go.Proofs.YbulkecmmFmt
open Go
set_option maxRecDepth 100000
theorem seatTie1 : Ybaf.prog.laidByTextLater [("example.com/slipring/slipring/graph.ErrDuplicate", Rows.laid_example_com_slipring_slipring_graph_ErrDuplicate), ("example.com/slipring/slipring/graph.ErrFrozen", Rows.laid_example_com_slipring_slipring_graph_ErrFrozen), ("example.com/slipring/slipring.ErrBatchSize", Rows.laid_example_com_slipring_slipring_ErrBatchSize), ("example.com/slipring/slipring.ErrNotStarted", Rows.laid_example_com_slipring_slipring_ErrNotStarted), ("example.com/slipring/slipring.ErrClosed", Rows.laid_example_com_slipring_slipring_ErrClosed), ("example.com/slipring/slipring.waitPhases", Rows.laid_example_com_slipring_slipring_waitPhases)] [.sentinel, .sentinel, .sentinel, .sentinel, .sentinel, .data] true :=
  Program.laidByTextLater_by_one 113 8 21 (by kernel_rfl) (by kernel_rfl) (by kernel_rfl) (by kernel_rfl) (by kernel_rfl) (by kernel_rfl) (fun _ _ => by kernel_rfl)
theorem noOwnUnsafe : Ybaf.pinned.checked.prog.headLifts.contains "ownunsafe" = false := by kernel_rfl
theorem tie : Ybaf.prog.laidByTextLater [("example.com/slipring/slipring.ErrBatchSize", Rows.laid_example_com_slipring_slipring_ErrBatchSize), ("example.com/slipring/slipring.ErrNotStarted", Rows.laid_example_com_slipring_slipring_ErrNotStarted), ("example.com/slipring/slipring.ErrClosed", Rows.laid_example_com_slipring_slipring_ErrClosed), ("example.com/slipring/slipring.waitPhases", Rows.laid_example_com_slipring_slipring_waitPhases)] [.sentinel, .sentinel, .sentinel, .data] true :=
  Program.laidByTextLater.sub seatTie1 ["example.com/slipring/slipring.ErrBatchSize", "example.com/slipring/slipring.ErrNotStarted", "example.com/slipring/slipring.ErrClosed", "example.com/slipring/slipring.waitPhases"] (by kernel_rfl) (by kernel_rfl)
theorem lawS6447BWhole_row_tie : Rows.lawS6447BWholeRow.laidByTextAt .later Ybaf.pinned [.sentinel, .sentinel, .sentinel, .data] true :=
  OpenClaim.laidByTextAt_later rfl rfl tie noOwnUnsafe
theorem tie2 : Ybaf.prog.laidByTextLater [("example.com/slipring/slipring/graph.ErrDuplicate", Rows.laid_example_com_slipring_slipring_graph_ErrDuplicate), ("example.com/slipring/slipring/graph.ErrFrozen", Rows.laid_example_com_slipring_slipring_graph_ErrFrozen)] [.sentinel, .sentinel] true :=
  Program.laidByTextLater.sub seatTie1 ["example.com/slipring/slipring/graph.ErrDuplicate", "example.com/slipring/slipring/graph.ErrFrozen"] (by kernel_rfl) (by kernel_rfl)
theorem lawS6447CWhole_row_tie : Rows.lawS6447CWholeRow.laidByTextAt .later Ybaf.pinned [.sentinel, .sentinel] true :=
  OpenClaim.laidByTextAt_later rfl rfl tie2 noOwnUnsafe
end Go.Proofs.YbulkecmmFmt
