/-
  DERIVED. GIVEN WITH THE SEED: THE PROGRAM's TIES (one call each: nine closed facts by the kernel) AND EACH ROW's TIE, after the 31st guide's Derived/Test/Toyas{Tie, Card}.lean. No idea stands in it: it is a product of the set-up. Laid BY PROGRAM, IN A SANDBOX (cutbox-door.mjs). By AI agents, Wed Nov 11 2026. No macro, syntax, notation, axiom, sorry.
-/
import Derived.Test.YbulkozgFmtRows
import Derived.LaidByTextLater
import Derived.SevenTiedAt
import Derived.LaidSub
import Derived.LaidOnce
namespace Go.Proofs.YbulkozgFmt
open Go
set_option maxRecDepth 100000
theorem seatTie1 : Ybaf.prog.laidByTextLater [("errors.errorType", Rows.laid_errors_errorType), ("example.com/creel/creel.ErrNotFound", Rows.laid_example_com_creel_creel_ErrNotFound), ("example.com/creel/creel.ErrClosed", Rows.laid_example_com_creel_creel_ErrClosed)] [.handle, .sentinel, .sentinel] true :=
  Program.laidByTextLater_by_one 54 8 2 (by kernel_rfl) (by kernel_rfl) (by kernel_rfl) (by kernel_rfl) (by kernel_rfl) (by kernel_rfl) (fun _ _ => by kernel_rfl)
theorem noOwnUnsafe : Ybaf.pinned.checked.prog.headLifts.contains "ownunsafe" = false := by kernel_rfl
theorem tie : Ybaf.prog.laidByTextLater [("errors.errorType", Rows.laid_errors_errorType), ("example.com/creel/creel.ErrNotFound", Rows.laid_example_com_creel_creel_ErrNotFound), ("example.com/creel/creel.ErrClosed", Rows.laid_example_com_creel_creel_ErrClosed)] [.handle, .sentinel, .sentinel] true :=
  Program.laidByTextLater.sub seatTie1 ["errors.errorType", "example.com/creel/creel.ErrNotFound", "example.com/creel/creel.ErrClosed"] (by kernel_rfl) (by kernel_rfl)
theorem lawS0773AParam_row_tie : Rows.lawS0773AParamRow.laidByTextAt .later Ybaf.pinned [.handle, .sentinel, .sentinel] true :=
  OpenClaim.laidByTextAt_later rfl rfl tie noOwnUnsafe
end Go.Proofs.YbulkozgFmt
