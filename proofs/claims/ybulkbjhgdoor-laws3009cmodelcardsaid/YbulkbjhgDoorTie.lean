/-
  DERIVED. GIVEN WITH THE SEED: THE PROGRAM's TIES (one call each: nine closed facts by the kernel) AND EACH ROW's TIE, after the 31st guide's Derived/Test/Toyas{Tie, Card}.lean. No idea stands in it: it is a product of the set-up. Laid BY PROGRAM, IN A SANDBOX (cutbox-door.mjs). By AI agents, Wed Nov 11 2026. No macro, syntax, notation, axiom, sorry.
-/
import Derived.Test.YbulkbjhgDoorRows
import Derived.LaidByTextLater
import Derived.SevenTiedAt
import Derived.LaidSub
import Derived.LaidOnce
namespace Go.Proofs.YbulkbjhgDoor
open Go
set_option maxRecDepth 100000
theorem seatTie1 : Ybad.prog.laidByTextLater [("example.com/roamkey/roamkey/cave.table", Rows.laid_example_com_roamkey_roamkey_cave_table)] [.data] true :=
  Program.laidByTextLater_by_one 19 8 257 (by kernel_rfl) (by kernel_rfl) (by kernel_rfl) (by kernel_rfl) (by kernel_rfl) (by kernel_rfl) (fun _ _ => by kernel_rfl)
theorem seatTie2 : Ybad.prog.laidByTextLater [("example.com/roamkey/roamkey/cave.ibox", Rows.laid_example_com_roamkey_roamkey_cave_ibox)] [.data] true :=
  Program.laidByTextLater_by_one 19 8 257 (by kernel_rfl) (by kernel_rfl) (by kernel_rfl) (by kernel_rfl) (by kernel_rfl) (by kernel_rfl) (fun _ _ => by kernel_rfl)
theorem noOwnUnsafe : Ybad.pinned.checked.prog.headLifts.contains "ownunsafe" = false := by kernel_rfl
theorem tie : Ybad.prog.laidByTextLater [("example.com/roamkey/roamkey/cave.table", Rows.laid_example_com_roamkey_roamkey_cave_table)] [.data] true :=
  Program.laidByTextLater.sub seatTie1 ["example.com/roamkey/roamkey/cave.table"] (by kernel_rfl) (by kernel_rfl)
theorem lawS3009AShape_row_tie : Rows.lawS3009AShapeRow.laidByTextAt .later Ybad.pinned [.data] true :=
  OpenClaim.laidByTextAt_later rfl rfl tie noOwnUnsafe
theorem lawS3009AWalk_row_tie : Rows.lawS3009AWalkRow.laidByTextAt .later Ybad.pinned [.data] true :=
  OpenClaim.laidByTextAt_later rfl rfl tie noOwnUnsafe
theorem tie2 : Ybad.prog.laidByTextLater [("example.com/roamkey/roamkey/cave.ibox", Rows.laid_example_com_roamkey_roamkey_cave_ibox)] [.data] true :=
  Program.laidByTextLater.sub seatTie2 ["example.com/roamkey/roamkey/cave.ibox"] (by kernel_rfl) (by kernel_rfl)
theorem lawS3009CModel_row_tie : Rows.lawS3009CModelRow.laidByTextAt .later Ybad.pinned [.data] true :=
  OpenClaim.laidByTextAt_later rfl rfl tie2 noOwnUnsafe
theorem lawS3009CRoundTrip_row_tie : Rows.lawS3009CRoundTripRow.laidByTextAt .later Ybad.pinned [.data] true :=
  OpenClaim.laidByTextAt_later rfl rfl tie2 noOwnUnsafe
end Go.Proofs.YbulkbjhgDoor
