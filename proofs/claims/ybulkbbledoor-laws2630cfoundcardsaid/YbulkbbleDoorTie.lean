/-
  DERIVED. GIVEN WITH THE SEED: THE PROGRAM's TIES (one call each: nine closed facts by the kernel) AND EACH ROW's TIE, after the 31st guide's Derived/Test/Toyas{Tie, Card}.lean. No idea stands in it: it is a product of the set-up. Laid BY PROGRAM, IN A SANDBOX (cutbox-door.mjs). By AI agents, Wed Nov 11 2026. No macro, syntax, notation, axiom, sorry.
-/
import Derived.Test.YbulkbbleDoorRows
import Derived.LaidByTextLater
import Derived.SevenTiedAt
import Derived.LaidSub
import Derived.LaidOnce
namespace Go.Proofs.YbulkbbleDoor
open Go
set_option maxRecDepth 100000
theorem seatTie1 : Ybad.prog.laidByTextLater [("example.com/pellucid/pellucid/storage.ErrNotFound", Rows.laid_example_com_pellucid_pellucid_storage_ErrNotFound), ("example.com/pellucid/pellucid/storage.ErrNotTable", Rows.laid_example_com_pellucid_pellucid_storage_ErrNotTable)] [.called, .called] true :=
  Program.laidByTextLater_by_one 47 8 2 (by kernel_rfl) (by kernel_rfl) (by kernel_rfl) (by kernel_rfl) (by kernel_rfl) (by kernel_rfl) (fun _ _ => by kernel_rfl)
theorem noOwnUnsafe : Ybad.pinned.checked.prog.headLifts.contains "ownunsafe" = false := by kernel_rfl
theorem tie : Ybad.prog.laidByTextLater [("example.com/pellucid/pellucid/storage.ErrNotFound", Rows.laid_example_com_pellucid_pellucid_storage_ErrNotFound), ("example.com/pellucid/pellucid/storage.ErrNotTable", Rows.laid_example_com_pellucid_pellucid_storage_ErrNotTable)] [.called, .called] true :=
  Program.laidByTextLater.sub seatTie1 ["example.com/pellucid/pellucid/storage.ErrNotFound", "example.com/pellucid/pellucid/storage.ErrNotTable"] (by kernel_rfl) (by kernel_rfl)
theorem lawS2630CFound_row_tie : Rows.lawS2630CFoundRow.laidByTextAt .later Ybad.pinned [.called, .called] true :=
  OpenClaim.laidByTextAt_later rfl rfl tie noOwnUnsafe
theorem lawS2630CTwoTables_row_tie : Rows.lawS2630CTwoTablesRow.laidByTextAt .later Ybad.pinned [.called, .called] true :=
  OpenClaim.laidByTextAt_later rfl rfl tie noOwnUnsafe
end Go.Proofs.YbulkbbleDoor
