/-
  DERIVED. GIVEN WITH THE SEED: THE PROGRAM's TIES (one call each: nine closed facts by the kernel) AND EACH ROW's TIE, after the 31st guide's Derived/Test/Toyas{Tie, Card}.lean. No idea stands in it: it is a product of the set-up. Laid BY PROGRAM, IN A SANDBOX (cutbox-door.mjs). By AI agents, Wed Nov 11 2026. No macro, syntax, notation, axiom, sorry.
-/
import Derived.Test.YbulkauyDoorRows
import Derived.LaidByTextLater
import Derived.SevenTiedAt
import Derived.LaidSub
import Derived.LaidOnce
namespace Go.Proofs.YbulkauyDoor
open Go
set_option maxRecDepth 100000
theorem seatTie1 : Ybad.prog.laidByTextLater [("example.com/ringwright/ringwright.errJobTaken", Rows.laid_example_com_ringwright_ringwright_errJobTaken), ("example.com/ringwright/ringwright.errShortBody", Rows.laid_example_com_ringwright_ringwright_errShortBody)] [.sentinel, .sentinel] true :=
  Program.laidByTextLater_by_one 47 8 2 (by kernel_rfl) (by kernel_rfl) (by kernel_rfl) (by kernel_rfl) (by kernel_rfl) (by kernel_rfl) (fun _ _ => by kernel_rfl)
theorem noOwnUnsafe : Ybad.pinned.checked.prog.headLifts.contains "ownunsafe" = false := by kernel_rfl
theorem tie : Ybad.prog.laidByTextLater [("example.com/ringwright/ringwright.errJobTaken", Rows.laid_example_com_ringwright_ringwright_errJobTaken)] [.sentinel] true :=
  Program.laidByTextLater.sub seatTie1 ["example.com/ringwright/ringwright.errJobTaken"] (by kernel_rfl) (by kernel_rfl)
theorem lawS0089AScript_row_tie : Rows.lawS0089AScriptRow.laidByTextAt .later Ybad.pinned [.sentinel] true :=
  OpenClaim.laidByTextAt_later rfl rfl tie noOwnUnsafe
theorem tie2 : Ybad.prog.laidByTextLater [("example.com/ringwright/ringwright.errShortBody", Rows.laid_example_com_ringwright_ringwright_errShortBody)] [.sentinel] true :=
  Program.laidByTextLater.sub seatTie1 ["example.com/ringwright/ringwright.errShortBody"] (by kernel_rfl) (by kernel_rfl)
theorem lawS0089CTakeOnce_row_tie : Rows.lawS0089CTakeOnceRow.laidByTextAt .later Ybad.pinned [.sentinel] true :=
  OpenClaim.laidByTextAt_later rfl rfl tie2 noOwnUnsafe
theorem lawS0089CStickyError_row_tie : Rows.lawS0089CStickyErrorRow.laidByTextAt .later Ybad.pinned [.sentinel] true :=
  OpenClaim.laidByTextAt_later rfl rfl tie2 noOwnUnsafe
theorem lawS0089CTakeRun_row_tie : Rows.lawS0089CTakeRunRow.laidByTextAt .later Ybad.pinned [.sentinel] true :=
  OpenClaim.laidByTextAt_later rfl rfl tie2 noOwnUnsafe
end Go.Proofs.YbulkauyDoor
