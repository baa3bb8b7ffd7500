/-
  DERIVED. GIVEN WITH THE SEED: THE PROGRAM's TIES (one call each: nine closed facts by the kernel) AND EACH ROW's TIE, after the 31st guide's Derived/Test/Toyas{Tie, Card}.lean. No idea stands in it: it is a product of the set-up. Laid BY PROGRAM, IN A SANDBOX (cutbox-door.mjs). By AI agents, Wed Nov 11 2026. No macro, syntax, notation, axiom, sorry.
-/
import Derived.Test.YbulkcuyeFmtRows
import Derived.LaidByTextLater
import Derived.SevenTiedAt
import Derived.LaidSub
import Derived.LaidOnce
namespace Go.Proofs.YbulkcuyeFmt
open Go
set_option maxRecDepth 100000
theorem seatTie1 : Ybaf.prog.laidByTextLater [("example.com/tidelock/tidelock.errRigorous", Rows.laid_example_com_tidelock_tidelock_errRigorous), ("example.com/tidelock/tidelock.ErrAborted", Rows.laid_example_com_tidelock_tidelock_ErrAborted), ("example.com/tidelock/tidelock.errCommitted", Rows.laid_example_com_tidelock_tidelock_errCommitted), ("example.com/tidelock/tidelock.errWaiting", Rows.laid_example_com_tidelock_tidelock_errWaiting)] [.sentinel, .called, .sentinel, .sentinel] true :=
  Program.laidByTextLater_by_one 85 8 2 (by kernel_rfl) (by kernel_rfl) (by kernel_rfl) (by kernel_rfl) (by kernel_rfl) (by kernel_rfl) (fun _ _ => by kernel_rfl)
theorem noOwnUnsafe : Ybaf.pinned.checked.prog.headLifts.contains "ownunsafe" = false := by kernel_rfl
theorem tie : Ybaf.prog.laidByTextLater [("example.com/tidelock/tidelock.errRigorous", Rows.laid_example_com_tidelock_tidelock_errRigorous), ("example.com/tidelock/tidelock.ErrAborted", Rows.laid_example_com_tidelock_tidelock_ErrAborted), ("example.com/tidelock/tidelock.errCommitted", Rows.laid_example_com_tidelock_tidelock_errCommitted), ("example.com/tidelock/tidelock.errWaiting", Rows.laid_example_com_tidelock_tidelock_errWaiting)] [.sentinel, .called, .sentinel, .sentinel] true :=
  Program.laidByTextLater.sub seatTie1 ["example.com/tidelock/tidelock.errRigorous", "example.com/tidelock/tidelock.ErrAborted", "example.com/tidelock/tidelock.errCommitted", "example.com/tidelock/tidelock.errWaiting"] (by kernel_rfl) (by kernel_rfl)
theorem lawS4827CReleasable_row_tie : Rows.lawS4827CReleasableRow.laidByTextAt .later Ybaf.pinned [.sentinel, .called, .sentinel, .sentinel] true :=
  OpenClaim.laidByTextAt_later rfl rfl tie noOwnUnsafe
end Go.Proofs.YbulkcuyeFmt
