/-
  DERIVED. GIVEN WITH THE SEED: THE PROGRAM's TIES (one call each: nine closed facts by the kernel) AND EACH ROW's TIE, after the 31st guide's Derived/Test/Toyas{Tie, Card}.lean. No idea stands in it: it is a product of the set-up. Laid BY PROGRAM, IN A SANDBOX (cutbox-door.mjs). By AI agents, Wed Nov 11 2026. No macro, syntax, notation, axiom, sorry.
-/
import Derived.Test.YbulkbgasDoorRows
import Derived.LaidByTextLater
import Derived.SevenTiedAt
import Derived.LaidSub
import Derived.LaidOnce
namespace Go.Proofs.YbulkbgasDoor
open Go
set_option maxRecDepth 100000
theorem seatTie1 : Ybad.prog.laidByTextLater [("example.com/interleave/interleave.compatibility", Rows.laid_example_com_interleave_interleave_compatibility), ("example.com/interleave/interleave.lockModes", Rows.laid_example_com_interleave_interleave_lockModes)] [.widerDeep, .calledDeep] true :=
  Program.laidByTextLater_by_one 120 8 7 (by kernel_rfl) (by kernel_rfl) (by kernel_rfl) (by kernel_rfl) (by kernel_rfl) (by kernel_rfl) (fun _ _ => by kernel_rfl)
theorem noOwnUnsafe : Ybad.pinned.checked.prog.headLifts.contains "ownunsafe" = false := by kernel_rfl
theorem tie : Ybad.prog.laidByTextLater [("example.com/interleave/interleave.compatibility", Rows.laid_example_com_interleave_interleave_compatibility), ("example.com/interleave/interleave.lockModes", Rows.laid_example_com_interleave_interleave_lockModes)] [.widerDeep, .calledDeep] true :=
  Program.laidByTextLater.sub seatTie1 ["example.com/interleave/interleave.compatibility", "example.com/interleave/interleave.lockModes"] (by kernel_rfl) (by kernel_rfl)
theorem lawS2852AGeneral_row_tie : Rows.lawS2852AGeneralRow.laidByTextAt .later Ybad.pinned [.widerDeep, .calledDeep] true :=
  OpenClaim.laidByTextAt_later rfl rfl tie noOwnUnsafe
theorem lawS2852ASerial_row_tie : Rows.lawS2852ASerialRow.laidByTextAt .later Ybad.pinned [.widerDeep, .calledDeep] true :=
  OpenClaim.laidByTextAt_later rfl rfl tie noOwnUnsafe
theorem lawS2852ACycle_row_tie : Rows.lawS2852ACycleRow.laidByTextAt .later Ybad.pinned [.widerDeep, .calledDeep] true :=
  OpenClaim.laidByTextAt_later rfl rfl tie noOwnUnsafe
end Go.Proofs.YbulkbgasDoor
