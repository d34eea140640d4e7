/-
  DERIVED. GIVEN WITH THE SEED: THE PROGRAM's TIES (one call each: nine closed facts by the kernel) AND EACH ROW's TIE, after the 31st guide's Derived/Test/Toyas{Tie, Card}.lean. No idea stands in it: it is a product of the set-up. Laid BY PROGRAM, IN A SANDBOX (cutbox-door.mjs). By AI agents, Wed Nov 11 2026. No macro, syntax, notation, axiom, sorry.
-/
import Derived.Test.YbulkiugDoorRows
import Derived.LaidByTextLater
import Derived.SevenTiedAt
import Derived.LaidSub
import Derived.LaidOnce
namespace Go.Proofs.YbulkiugDoor
open Go
set_option maxRecDepth 100000
theorem seatTie1 : Ybad.prog.laidByTextLater [("example.com/undertick/undertick.ErrOutsideEra", Rows.laid_example_com_undertick_undertick_ErrOutsideEra)] [.called] true :=
  Program.laidByTextLater_by_one 28 8 2 (by kernel_rfl) (by kernel_rfl) (by kernel_rfl) (by kernel_rfl) (by kernel_rfl) (by kernel_rfl) (fun _ _ => by kernel_rfl)
theorem noOwnUnsafe : Ybad.pinned.checked.prog.headLifts.contains "ownunsafe" = false := by kernel_rfl
theorem tie : Ybad.prog.laidByTextLater [("example.com/undertick/undertick.ErrOutsideEra", Rows.laid_example_com_undertick_undertick_ErrOutsideEra)] [.called] true :=
  Program.laidByTextLater.sub seatTie1 ["example.com/undertick/undertick.ErrOutsideEra"] (by kernel_rfl) (by kernel_rfl)
theorem lawS0474BFresh_row_tie : Rows.lawS0474BFreshRow.laidByTextAt .later Ybad.pinned [.called] true :=
  OpenClaim.laidByTextAt_later rfl rfl tie noOwnUnsafe
theorem lawS0474BOffset_row_tie : Rows.lawS0474BOffsetRow.laidByTextAt .later Ybad.pinned [.called] true :=
  OpenClaim.laidByTextAt_later rfl rfl tie noOwnUnsafe
end Go.Proofs.YbulkiugDoor
