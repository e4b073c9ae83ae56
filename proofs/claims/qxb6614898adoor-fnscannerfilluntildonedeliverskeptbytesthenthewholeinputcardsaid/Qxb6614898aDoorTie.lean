/-
  DERIVED. GIVEN WITH THE SEED: THE PROGRAM's TIES (one call each: nine closed facts by the kernel) AND EACH ROW's TIE, after the 31st guide's Derived/Test/Toyas{Tie, Card}.lean. No idea stands in it: it is a product of the set-up. Laid BY PROGRAM, IN A SANDBOX (cutbox-door.mjs). By AI agents, Wed Nov 11 2026. No macro, syntax, notation, axiom, sorry.
-/
import Derived.Test.Qxb6614898aDoorRows
import Derived.LaidByTextLater
import Derived.SevenTiedAt
import Derived.LaidSub
import Derived.LaidOnce
namespace Go.Proofs.Qxb6614898aDoor
open Go
set_option maxRecDepth 100000
theorem seatTie1 : Tryd.prog.laidByTextLater [("io.EOF", Rows.laid_io_EOF), ("io.ErrNoProgress", Rows.laid_io_ErrNoProgress), ("example.com/quorumwatch/quorumwatch/internal/cib.zero", Rows.laid_example_com_quorumwatch_quorumwatch_internal_cib_zero), ("example.com/quorumwatch/quorumwatch/internal/cib.newline", Rows.laid_example_com_quorumwatch_quorumwatch_internal_cib_newline)] [.sentinel, .sentinel, .widerDeep, .widerDeep] true :=
  Program.laidByTextLater_by_one 57 8 2 (by kernel_rfl) (by kernel_rfl) (by kernel_rfl) (by kernel_rfl) (by kernel_rfl) (by kernel_rfl) (fun _ _ => by kernel_rfl)
theorem noOwnUnsafe : Tryd.pinned.checked.prog.headLifts.contains "ownunsafe" = false := by kernel_rfl
theorem tie : Tryd.prog.laidByTextLater [("example.com/quorumwatch/quorumwatch/internal/cib.zero", Rows.laid_example_com_quorumwatch_quorumwatch_internal_cib_zero)] [.widerDeep] true :=
  Program.laidByTextLater.sub seatTie1 ["example.com/quorumwatch/quorumwatch/internal/cib.zero"] (by kernel_rfl) (by kernel_rfl)
theorem fnDefinitionsKeyKeepsEarlierIdsAndReadsAnAddedOne_row_tie : Rows.fnDefinitionsKeyKeepsEarlierIdsAndReadsAnAddedOneRow.laidByTextAt .later Tryd.pinned [.widerDeep] true :=
  OpenClaim.laidByTextAt_later rfl rfl tie noOwnUnsafe
theorem tie2 : Tryd.prog.laidByTextLater [("io.EOF", Rows.laid_io_EOF), ("io.ErrNoProgress", Rows.laid_io_ErrNoProgress), ("example.com/quorumwatch/quorumwatch/internal/cib.newline", Rows.laid_example_com_quorumwatch_quorumwatch_internal_cib_newline)] [.sentinel, .sentinel, .widerDeep] true :=
  Program.laidByTextLater.sub seatTie1 ["io.EOF", "io.ErrNoProgress", "example.com/quorumwatch/quorumwatch/internal/cib.newline"] (by kernel_rfl) (by kernel_rfl)
theorem fnScannerFillMatchesClosedForm_row_tie : Rows.fnScannerFillMatchesClosedFormRow.laidByTextAt .later Tryd.pinned [.sentinel, .sentinel, .widerDeep] true :=
  OpenClaim.laidByTextAt_later rfl rfl tie2 noOwnUnsafe
theorem fnScannerFillUntilDoneDeliversKeptBytesThenTheWholeInput_row_tie : Rows.fnScannerFillUntilDoneDeliversKeptBytesThenTheWholeInputRow.laidByTextAt .later Tryd.pinned [.sentinel, .sentinel, .widerDeep] true :=
  OpenClaim.laidByTextAt_later rfl rfl tie2 noOwnUnsafe
end Go.Proofs.Qxb6614898aDoor
