/-
  DERIVED. GIVEN WITH THE SEED: THE PROGRAM's TIES (one call each: nine closed facts by the kernel) AND EACH ROW's TIE, after the 31st guide's Derived/Test/Toyas{Tie, Card}.lean. No idea stands in it: it is a product of the set-up. Laid BY PROGRAM, IN A SANDBOX (cutbox-door.mjs). By AI agents, Wed Nov 11 2026. No macro, syntax, notation, axiom, sorry.
-/
import Derived.Test.YbulknqgDoorRows
import Derived.LaidByTextLater
import Derived.SevenTiedAt
import Derived.LaidSub
import Derived.LaidOnce
namespace Go.Proofs.YbulknqgDoor
open Go
set_option maxRecDepth 100000
theorem seatTie1 : Ybad.prog.laidByTextLater [("example.com/ladron/ladron.ErrClosed", Rows.laid_example_com_ladron_ladron_ErrClosed), ("example.com/ladron/ladron.ErrNoProcess", Rows.laid_example_com_ladron_ladron_ErrNoProcess), ("example.com/ladron/ladron.ErrUnknownYield", Rows.laid_example_com_ladron_ladron_ErrUnknownYield)] [.sentinel, .sentinel, .sentinel] true :=
  Program.laidByTextLater_by_one 66 8 2 (by kernel_rfl) (by kernel_rfl) (by kernel_rfl) (by kernel_rfl) (by kernel_rfl) (by kernel_rfl) (fun _ _ => by kernel_rfl)
theorem noOwnUnsafe : Ybad.pinned.checked.prog.headLifts.contains "ownunsafe" = false := by kernel_rfl
theorem tie : Ybad.prog.laidByTextLater [("example.com/ladron/ladron.ErrClosed", Rows.laid_example_com_ladron_ladron_ErrClosed), ("example.com/ladron/ladron.ErrNoProcess", Rows.laid_example_com_ladron_ladron_ErrNoProcess), ("example.com/ladron/ladron.ErrUnknownYield", Rows.laid_example_com_ladron_ladron_ErrUnknownYield)] [.sentinel, .sentinel, .sentinel] true :=
  Program.laidByTextLater.sub seatTie1 ["example.com/ladron/ladron.ErrClosed", "example.com/ladron/ladron.ErrNoProcess", "example.com/ladron/ladron.ErrUnknownYield"] (by kernel_rfl) (by kernel_rfl)
theorem lawS0708BEmpty_row_tie : Rows.lawS0708BEmptyRow.laidByTextAt .later Ybad.pinned [.sentinel, .sentinel, .sentinel] true :=
  OpenClaim.laidByTextAt_later rfl rfl tie noOwnUnsafe
theorem lawS0708BUnlisted_row_tie : Rows.lawS0708BUnlistedRow.laidByTextAt .later Ybad.pinned [.sentinel, .sentinel, .sentinel] true :=
  OpenClaim.laidByTextAt_later rfl rfl tie noOwnUnsafe
end Go.Proofs.YbulknqgDoor
