/-
  DERIVED. GIVEN WITH THE SEED: THE PROGRAM's TIES (one call each: nine closed facts by the kernel) AND EACH ROW's TIE, after the 31st guide's Derived/Test/Toyas{Tie, Card}.lean. No idea stands in it: it is a product of the set-up. Laid BY PROGRAM, IN A SANDBOX (cutbox-door.mjs). By AI agents, Wed Nov 11 2026. No macro, syntax, notation, axiom, sorry.
-/
import Derived.Test.YtoegfdndoeiolaaDoorRows
import Derived.LaidByTextLater
import Derived.SevenTiedAt
import Derived.LaidSub
import Derived.LaidOnce
namespace Go.Proofs.YtoegfdndoeiolaaDoor
open Go
set_option maxRecDepth 100000
theorem seatTie1 : Tryd.prog.laidByTextLater [("loop.example/pub-sketchedcounts/pub/hyperloglog.ErrorTooShort", Rows.laid_loop_example_pub_sketchedcounts_pub_hyperloglog_ErrorTooShort), ("loop.example/pub-sketchedcounts/pub/hyperloglog.ErrorInvalidVersion", Rows.laid_loop_example_pub_sketchedcounts_pub_hyperloglog_ErrorInvalidVersion), ("loop.example/pub-sketchedcounts/pub/hyperloglog.ErrorInvalidPrecision", Rows.laid_loop_example_pub_sketchedcounts_pub_hyperloglog_ErrorInvalidPrecision), ("loop.example/pub-sketchedcounts/pub/hyperloglog.ErrorInvalidData", Rows.laid_loop_example_pub_sketchedcounts_pub_hyperloglog_ErrorInvalidData), ("loop.example/pub-sketchedcounts/pub/hyperloglog.ErrorPrecisionMismatch", Rows.laid_loop_example_pub_sketchedcounts_pub_hyperloglog_ErrorPrecisionMismatch)] [.sentinel, .sentinel, .sentinel, .sentinel, .sentinel] true :=
  Program.laidByTextLater_by_one 104 8 2 (by kernel_rfl) (by kernel_rfl) (by kernel_rfl) (by kernel_rfl) (by kernel_rfl) (by kernel_rfl) (fun _ _ => by kernel_rfl)
theorem noOwnUnsafe : Tryd.pinned.checked.prog.headLifts.contains "ownunsafe" = false := by kernel_rfl
theorem tie : Tryd.prog.laidByTextLater [("loop.example/pub-sketchedcounts/pub/hyperloglog.ErrorTooShort", Rows.laid_loop_example_pub_sketchedcounts_pub_hyperloglog_ErrorTooShort), ("loop.example/pub-sketchedcounts/pub/hyperloglog.ErrorInvalidData", Rows.laid_loop_example_pub_sketchedcounts_pub_hyperloglog_ErrorInvalidData)] [.sentinel, .sentinel] true :=
  Program.laidByTextLater.sub seatTie1 ["loop.example/pub-sketchedcounts/pub/hyperloglog.ErrorTooShort", "loop.example/pub-sketchedcounts/pub/hyperloglog.ErrorInvalidData"] (by kernel_rfl) (by kernel_rfl)
theorem fnUnpacked_row_tie : Rows.fnUnpackedRow.laidByTextAt .later Tryd.pinned [.sentinel, .sentinel] true :=
  OpenClaim.laidByTextAt_later rfl rfl tie noOwnUnsafe
theorem tie2 : Tryd.prog.laidByTextLater [("loop.example/pub-sketchedcounts/pub/hyperloglog.ErrorInvalidPrecision", Rows.laid_loop_example_pub_sketchedcounts_pub_hyperloglog_ErrorInvalidPrecision)] [.sentinel] true :=
  Program.laidByTextLater.sub seatTie1 ["loop.example/pub-sketchedcounts/pub/hyperloglog.ErrorInvalidPrecision"] (by kernel_rfl) (by kernel_rfl)
theorem fnSetAlone_row_tie : Rows.fnSetAloneRow.laidByTextAt .later Tryd.pinned [.sentinel] true :=
  OpenClaim.laidByTextAt_later rfl rfl tie2 noOwnUnsafe
theorem fnCompacted_row_tie : Rows.fnCompactedRow.laidByTextAt .later Tryd.pinned [.sentinel] true :=
  OpenClaim.laidByTextAt_later rfl rfl tie2 noOwnUnsafe
theorem fnExactRegs_row_tie : Rows.fnExactRegsRow.laidByTextAt .later Tryd.pinned [.sentinel] true :=
  OpenClaim.laidByTextAt_later rfl rfl tie2 noOwnUnsafe
theorem fnCopied_row_tie : Rows.fnCopiedRow.laidByTextAt .later Tryd.pinned [.sentinel] true :=
  OpenClaim.laidByTextAt_later rfl rfl tie2 noOwnUnsafe
theorem tie3 : Tryd.prog.laidByTextLater [("loop.example/pub-sketchedcounts/pub/hyperloglog.ErrorInvalidPrecision", Rows.laid_loop_example_pub_sketchedcounts_pub_hyperloglog_ErrorInvalidPrecision), ("loop.example/pub-sketchedcounts/pub/hyperloglog.ErrorPrecisionMismatch", Rows.laid_loop_example_pub_sketchedcounts_pub_hyperloglog_ErrorPrecisionMismatch)] [.sentinel, .sentinel] true :=
  Program.laidByTextLater.sub seatTie1 ["loop.example/pub-sketchedcounts/pub/hyperloglog.ErrorInvalidPrecision", "loop.example/pub-sketchedcounts/pub/hyperloglog.ErrorPrecisionMismatch"] (by kernel_rfl) (by kernel_rfl)
theorem fnExactJoined_row_tie : Rows.fnExactJoinedRow.laidByTextAt .later Tryd.pinned [.sentinel, .sentinel] true :=
  OpenClaim.laidByTextAt_later rfl rfl tie3 noOwnUnsafe
theorem fnJoinTurns_row_tie : Rows.fnJoinTurnsRow.laidByTextAt .later Tryd.pinned [.sentinel, .sentinel] true :=
  OpenClaim.laidByTextAt_later rfl rfl tie3 noOwnUnsafe
theorem tie4 : Tryd.prog.laidByTextLater [("loop.example/pub-sketchedcounts/pub/hyperloglog.ErrorTooShort", Rows.laid_loop_example_pub_sketchedcounts_pub_hyperloglog_ErrorTooShort), ("loop.example/pub-sketchedcounts/pub/hyperloglog.ErrorInvalidVersion", Rows.laid_loop_example_pub_sketchedcounts_pub_hyperloglog_ErrorInvalidVersion), ("loop.example/pub-sketchedcounts/pub/hyperloglog.ErrorInvalidPrecision", Rows.laid_loop_example_pub_sketchedcounts_pub_hyperloglog_ErrorInvalidPrecision), ("loop.example/pub-sketchedcounts/pub/hyperloglog.ErrorInvalidData", Rows.laid_loop_example_pub_sketchedcounts_pub_hyperloglog_ErrorInvalidData)] [.sentinel, .sentinel, .sentinel, .sentinel] true :=
  Program.laidByTextLater.sub seatTie1 ["loop.example/pub-sketchedcounts/pub/hyperloglog.ErrorTooShort", "loop.example/pub-sketchedcounts/pub/hyperloglog.ErrorInvalidVersion", "loop.example/pub-sketchedcounts/pub/hyperloglog.ErrorInvalidPrecision", "loop.example/pub-sketchedcounts/pub/hyperloglog.ErrorInvalidData"] (by kernel_rfl) (by kernel_rfl)
theorem fnReadBack_row_tie : Rows.fnReadBackRow.laidByTextAt .later Tryd.pinned [.sentinel, .sentinel, .sentinel, .sentinel] true :=
  OpenClaim.laidByTextAt_later rfl rfl tie4 noOwnUnsafe
theorem fnReadDense_row_tie : Rows.fnReadDenseRow.laidByTextAt .later Tryd.pinned [.sentinel, .sentinel, .sentinel, .sentinel] true :=
  OpenClaim.laidByTextAt_later rfl rfl tie4 noOwnUnsafe
theorem fnBack_row_tie : Rows.fnBackRow.laidByTextAt .later Tryd.pinned [.sentinel, .sentinel, .sentinel, .sentinel] true :=
  OpenClaim.laidByTextAt_later rfl rfl tie4 noOwnUnsafe
theorem fnWrittenSpoilt_row_tie : Rows.fnWrittenSpoiltRow.laidByTextAt .later Tryd.pinned [.sentinel, .sentinel, .sentinel, .sentinel] true :=
  OpenClaim.laidByTextAt_later rfl rfl tie4 noOwnUnsafe
theorem fnUnpackedUpto_row_tie : Rows.fnUnpackedUptoRow.laidByTextAt .later Tryd.pinned [.sentinel, .sentinel] true :=
  OpenClaim.laidByTextAt_later rfl rfl tie noOwnUnsafe
theorem fnSetAloneUpto_row_tie : Rows.fnSetAloneUptoRow.laidByTextAt .later Tryd.pinned [.sentinel] true :=
  OpenClaim.laidByTextAt_later rfl rfl tie2 noOwnUnsafe
theorem fnCompactedUpto_row_tie : Rows.fnCompactedUptoRow.laidByTextAt .later Tryd.pinned [.sentinel] true :=
  OpenClaim.laidByTextAt_later rfl rfl tie2 noOwnUnsafe
theorem fnExactRegsUpto_row_tie : Rows.fnExactRegsUptoRow.laidByTextAt .later Tryd.pinned [.sentinel] true :=
  OpenClaim.laidByTextAt_later rfl rfl tie2 noOwnUnsafe
theorem fnCopiedUpto_row_tie : Rows.fnCopiedUptoRow.laidByTextAt .later Tryd.pinned [.sentinel] true :=
  OpenClaim.laidByTextAt_later rfl rfl tie2 noOwnUnsafe
theorem fnExactJoinedUpto_row_tie : Rows.fnExactJoinedUptoRow.laidByTextAt .later Tryd.pinned [.sentinel, .sentinel] true :=
  OpenClaim.laidByTextAt_later rfl rfl tie3 noOwnUnsafe
theorem fnJoinTurnsUpto_row_tie : Rows.fnJoinTurnsUptoRow.laidByTextAt .later Tryd.pinned [.sentinel, .sentinel] true :=
  OpenClaim.laidByTextAt_later rfl rfl tie3 noOwnUnsafe
theorem fnReadBackUpto_row_tie : Rows.fnReadBackUptoRow.laidByTextAt .later Tryd.pinned [.sentinel, .sentinel, .sentinel, .sentinel] true :=
  OpenClaim.laidByTextAt_later rfl rfl tie4 noOwnUnsafe
theorem fnReadDenseUpto_row_tie : Rows.fnReadDenseUptoRow.laidByTextAt .later Tryd.pinned [.sentinel, .sentinel, .sentinel, .sentinel] true :=
  OpenClaim.laidByTextAt_later rfl rfl tie4 noOwnUnsafe
theorem fnBackUpto_row_tie : Rows.fnBackUptoRow.laidByTextAt .later Tryd.pinned [.sentinel, .sentinel, .sentinel, .sentinel] true :=
  OpenClaim.laidByTextAt_later rfl rfl tie4 noOwnUnsafe
theorem fnWrittenSpoiltUpto_row_tie : Rows.fnWrittenSpoiltUptoRow.laidByTextAt .later Tryd.pinned [.sentinel, .sentinel, .sentinel, .sentinel] true :=
  OpenClaim.laidByTextAt_later rfl rfl tie4 noOwnUnsafe
end Go.Proofs.YtoegfdndoeiolaaDoor
