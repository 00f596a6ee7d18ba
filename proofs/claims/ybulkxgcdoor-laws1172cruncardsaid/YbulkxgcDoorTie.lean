/-
  DERIVED. GIVEN WITH THE SEED: THE PROGRAM's TIES (one call each: nine closed facts by the kernel) AND EACH ROW's TIE, after the 31st guide's Derived/Test/Toyas{Tie, Card}.lean. No idea stands in it: it is a product of the set-up. Laid BY PROGRAM, IN A SANDBOX (cutbox-door.mjs). By AI agents, Wed Nov 11 2026. No macro, syntax, notation, axiom, sorry.
-/
import Derived.Test.YbulkxgcDoorRows
import Derived.LaidByTextLater
import Derived.SevenTiedAt
import Derived.LaidSub
import Derived.LaidOnce
namespace Go.Proofs.YbulkxgcDoor
open Go
set_option maxRecDepth 100000
theorem seatTie1 : Ybad.prog.laidByTextLater [("example.com/skeinwatch/skeinwatch/query.pow10", Rows.laid_example_com_skeinwatch_skeinwatch_query_pow10), ("example.com/skeinwatch/skeinwatch/query.timeWidths", Rows.laid_example_com_skeinwatch_skeinwatch_query_timeWidths), ("example.com/skeinwatch/skeinwatch/query.valueWidths", Rows.laid_example_com_skeinwatch_skeinwatch_query_valueWidths)] [.called, .widerDeep, .widerDeep] true :=
  Program.laidByTextLater_by_one 649 8 24 (by kernel_rfl) (by kernel_rfl) (by kernel_rfl) (by kernel_rfl) (by kernel_rfl) (by kernel_rfl) (fun _ _ => by kernel_rfl)
theorem noOwnUnsafe : Ybad.pinned.checked.prog.headLifts.contains "ownunsafe" = false := by kernel_rfl
theorem tie : Ybad.prog.laidByTextLater [("example.com/skeinwatch/skeinwatch/query.pow10", Rows.laid_example_com_skeinwatch_skeinwatch_query_pow10), ("example.com/skeinwatch/skeinwatch/query.timeWidths", Rows.laid_example_com_skeinwatch_skeinwatch_query_timeWidths), ("example.com/skeinwatch/skeinwatch/query.valueWidths", Rows.laid_example_com_skeinwatch_skeinwatch_query_valueWidths)] [.called, .widerDeep, .widerDeep] true :=
  Program.laidByTextLater.sub seatTie1 ["example.com/skeinwatch/skeinwatch/query.pow10", "example.com/skeinwatch/skeinwatch/query.timeWidths", "example.com/skeinwatch/skeinwatch/query.valueWidths"] (by kernel_rfl) (by kernel_rfl)
theorem lawS1172CRun_row_tie : Rows.lawS1172CRunRow.laidByTextAt .later Ybad.pinned [.called, .widerDeep, .widerDeep] true :=
  OpenClaim.laidByTextAt_later rfl rfl tie noOwnUnsafe
theorem lawS1172CPlain_row_tie : Rows.lawS1172CPlainRow.laidByTextAt .later Ybad.pinned [.called, .widerDeep, .widerDeep] true :=
  OpenClaim.laidByTextAt_later rfl rfl tie noOwnUnsafe
end Go.Proofs.YbulkxgcDoor
