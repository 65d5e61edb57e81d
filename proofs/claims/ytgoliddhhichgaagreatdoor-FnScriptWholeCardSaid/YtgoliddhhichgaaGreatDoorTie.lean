/-
  DERIVED. GIVEN WITH THE SEED: THE PROGRAM's TIES (one call each: nine closed facts by the kernel) AND EACH ROW's TIE, after the 31st guide's Derived/Test/Toyas{Tie, Card}.lean. No idea stands in it: it is a product of the set-up. Laid BY PROGRAM, IN A SANDBOX (cutbox-door.mjs). By AI agents, Wed Nov 11 2026. No macro, syntax, notation, axiom, sorry.
-/
import Derived.Test.YtgoliddhhichgaaGreatDoorRows
import Derived.LaidByTextLater
import Derived.SevenTiedAt
import Derived.LaidSub
import Derived.LaidOnce
namespace Go.Proofs.YtgoliddhhichgaaGreatDoor
open Go
set_option maxRecDepth 100000
theorem seatTie1 : Tryz.prog.laidByTextLater [("loop.example/pub-sketchscripts/pub/hyperloglog.ErrorTooShort", Rows.laid_loop_example_pub_sketchscripts_pub_hyperloglog_ErrorTooShort), ("loop.example/pub-sketchscripts/pub/hyperloglog.ErrorInvalidVersion", Rows.laid_loop_example_pub_sketchscripts_pub_hyperloglog_ErrorInvalidVersion), ("loop.example/pub-sketchscripts/pub/hyperloglog.ErrorInvalidPrecision", Rows.laid_loop_example_pub_sketchscripts_pub_hyperloglog_ErrorInvalidPrecision), ("loop.example/pub-sketchscripts/pub/hyperloglog.ErrorInvalidData", Rows.laid_loop_example_pub_sketchscripts_pub_hyperloglog_ErrorInvalidData), ("loop.example/pub-sketchscripts/pub/hyperloglog.ErrorPrecisionMismatch", Rows.laid_loop_example_pub_sketchscripts_pub_hyperloglog_ErrorPrecisionMismatch)] [.sentinel, .sentinel, .sentinel, .sentinel, .sentinel] true :=
  Program.laidByTextLater_by_one 104 8 2 (by kernel_rfl) (by kernel_rfl) (by kernel_rfl) (by kernel_rfl) (by kernel_rfl) (by kernel_rfl) (fun _ _ => by kernel_rfl)
theorem noOwnUnsafe : Tryz.pinned.checked.prog.headLifts.contains "ownunsafe" = false := by kernel_rfl
theorem tie : Tryz.prog.laidByTextLater [("loop.example/pub-sketchscripts/pub/hyperloglog.ErrorTooShort", Rows.laid_loop_example_pub_sketchscripts_pub_hyperloglog_ErrorTooShort), ("loop.example/pub-sketchscripts/pub/hyperloglog.ErrorInvalidVersion", Rows.laid_loop_example_pub_sketchscripts_pub_hyperloglog_ErrorInvalidVersion), ("loop.example/pub-sketchscripts/pub/hyperloglog.ErrorInvalidPrecision", Rows.laid_loop_example_pub_sketchscripts_pub_hyperloglog_ErrorInvalidPrecision), ("loop.example/pub-sketchscripts/pub/hyperloglog.ErrorInvalidData", Rows.laid_loop_example_pub_sketchscripts_pub_hyperloglog_ErrorInvalidData), ("loop.example/pub-sketchscripts/pub/hyperloglog.ErrorPrecisionMismatch", Rows.laid_loop_example_pub_sketchscripts_pub_hyperloglog_ErrorPrecisionMismatch)] [.sentinel, .sentinel, .sentinel, .sentinel, .sentinel] true :=
  Program.laidByTextLater.sub seatTie1 ["loop.example/pub-sketchscripts/pub/hyperloglog.ErrorTooShort", "loop.example/pub-sketchscripts/pub/hyperloglog.ErrorInvalidVersion", "loop.example/pub-sketchscripts/pub/hyperloglog.ErrorInvalidPrecision", "loop.example/pub-sketchscripts/pub/hyperloglog.ErrorInvalidData", "loop.example/pub-sketchscripts/pub/hyperloglog.ErrorPrecisionMismatch"] (by kernel_rfl) (by kernel_rfl)
theorem fnScriptWhole_row_tie : Rows.fnScriptWholeRow.laidByTextAt .later Tryz.pinned [.sentinel, .sentinel, .sentinel, .sentinel, .sentinel] true :=
  OpenClaim.laidByTextAt_later rfl rfl tie noOwnUnsafe
theorem fnScriptWholeUpto_row_tie : Rows.fnScriptWholeUptoRow.laidByTextAt .later Tryz.pinned [.sentinel, .sentinel, .sentinel, .sentinel, .sentinel] true :=
  OpenClaim.laidByTextAt_later rfl rfl tie noOwnUnsafe
end Go.Proofs.YtgoliddhhichgaaGreatDoor
