/-
  DERIVED. GIVEN WITH THE SEED: THE PROGRAM's TIES (one call each: nine closed facts by the kernel) AND EACH ROW's TIE, after the 31st guide's Derived/Test/Toyas{Tie, Card}.lean. No idea stands in it: it is a product of the set-up. Laid BY PROGRAM, IN A SANDBOX (cutbox-door.mjs). By AI agents, Wed Nov 11 2026. No macro, syntax, notation, axiom, sorry.
-/
import Derived.Test.YbulkdetkGreatDoorRows
import Derived.LaidByTextLater
import Derived.SevenTiedAt
import Derived.LaidSub
import Derived.LaidOnce
namespace Go.Proofs.YbulkdetkGreatDoor
open Go
set_option maxRecDepth 100000
theorem seatTie1 : Ybaz.prog.laidByTextLater [("example.com/palimpsest/palimpsest/internal/engine.compatible", Rows.laid_example_com_palimpsest_palimpsest_internal_engine_compatible), ("example.com/palimpsest/palimpsest/internal/engine.covers", Rows.laid_example_com_palimpsest_palimpsest_internal_engine_covers)] [.data, .data] true :=
  Program.laidByTextLater_by_one 29 8 26 (by kernel_rfl) (by kernel_rfl) (by kernel_rfl) (by kernel_rfl) (by kernel_rfl) (by kernel_rfl) (fun _ _ => by kernel_rfl)
theorem noOwnUnsafe : Ybaz.pinned.checked.prog.headLifts.contains "ownunsafe" = false := by kernel_rfl
theorem tie : Ybaz.prog.laidByTextLater [("example.com/palimpsest/palimpsest/internal/engine.compatible", Rows.laid_example_com_palimpsest_palimpsest_internal_engine_compatible), ("example.com/palimpsest/palimpsest/internal/engine.covers", Rows.laid_example_com_palimpsest_palimpsest_internal_engine_covers)] [.data, .data] true :=
  Program.laidByTextLater.sub seatTie1 ["example.com/palimpsest/palimpsest/internal/engine.compatible", "example.com/palimpsest/palimpsest/internal/engine.covers"] (by kernel_rfl) (by kernel_rfl)
theorem lawS5301CAlone_row_tie : Rows.lawS5301CAloneRow.laidByTextAt .later Ybaz.pinned [.data, .data] true :=
  OpenClaim.laidByTextAt_later rfl rfl tie noOwnUnsafe
theorem lawS5301CInsert_row_tie : Rows.lawS5301CInsertRow.laidByTextAt .later Ybaz.pinned [.data, .data] true :=
  OpenClaim.laidByTextAt_later rfl rfl tie noOwnUnsafe
end Go.Proofs.YbulkdetkGreatDoor
