/-
  DERIVED. GIVEN WITH THE SEED: THE PROGRAM's TIES (one call each: nine closed facts by the kernel) AND EACH ROW's TIE, after the 31st guide's Derived/Test/Toyas{Tie, Card}.lean. No idea stands in it: it is a product of the set-up. Laid BY PROGRAM, IN A SANDBOX (cutbox-door.mjs). By AI agents, Wed Nov 11 2026. No macro, syntax, notation, axiom, sorry.
-/
import Derived.Test.YtfpepghmbeoanaaDoorRows
import Derived.LaidByTextLater
import Derived.SevenTiedAt
import Derived.LaidSub
import Derived.LaidOnce
namespace Go.Proofs.YtfpepghmbeoanaaDoor
open Go
set_option maxRecDepth 100000
theorem seatTie1 : Tryd.prog.laidByTextLater [("io.EOF", Rows.laid_io_EOF), ("loop.example/pub-g03247/pub/sevenzip.errWrongNumberOfFilenames", Rows.laid_loop_example_pub_g03247_pub_sevenzip_errWrongNumberOfFilenames), ("loop.example/pub-g03247/pub/sevenzip.errUint64NonZero", Rows.laid_loop_example_pub_g03247_pub_sevenzip_errUint64NonZero), ("loop.example/pub-g03247/pub/sevenzip.errUint64TooLarge", Rows.laid_loop_example_pub_g03247_pub_sevenzip_errUint64TooLarge), ("loop.example/pub-g03247/pub/sevenzip.errTokenTooLong", Rows.laid_loop_example_pub_g03247_pub_sevenzip_errTokenTooLong)] [.sentinel, .sentinel, .sentinel, .sentinel, .sentinel] true :=
  Program.laidByTextLater_by_one 104 8 2 (by kernel_rfl) (by kernel_rfl) (by kernel_rfl) (by kernel_rfl) (by kernel_rfl) (by kernel_rfl) (fun _ _ => by kernel_rfl)
theorem noOwnUnsafe : Tryd.pinned.checked.prog.headLifts.contains "ownunsafe" = false := by kernel_rfl
theorem tie : Tryd.prog.laidByTextLater [("loop.example/pub-g03247/pub/sevenzip.errUint64NonZero", Rows.laid_loop_example_pub_g03247_pub_sevenzip_errUint64NonZero), ("loop.example/pub-g03247/pub/sevenzip.errUint64TooLarge", Rows.laid_loop_example_pub_g03247_pub_sevenzip_errUint64TooLarge)] [.sentinel, .sentinel] true :=
  Program.laidByTextLater.sub seatTie1 ["loop.example/pub-g03247/pub/sevenzip.errUint64NonZero", "loop.example/pub-g03247/pub/sevenzip.errUint64TooLarge"] (by kernel_rfl) (by kernel_rfl)
theorem fnBools_row_tie : Rows.fnBoolsRow.laidByTextAt .later Tryd.pinned [.sentinel, .sentinel] true :=
  OpenClaim.laidByTextAt_later rfl rfl tie noOwnUnsafe
theorem fnOptional_row_tie : Rows.fnOptionalRow.laidByTextAt .later Tryd.pinned [.sentinel, .sentinel] true :=
  OpenClaim.laidByTextAt_later rfl rfl tie noOwnUnsafe
theorem tie2 : Tryd.prog.laidByTextLater [("io.EOF", Rows.laid_io_EOF), ("loop.example/pub-g03247/pub/sevenzip.errWrongNumberOfFilenames", Rows.laid_loop_example_pub_g03247_pub_sevenzip_errWrongNumberOfFilenames), ("loop.example/pub-g03247/pub/sevenzip.errUint64NonZero", Rows.laid_loop_example_pub_g03247_pub_sevenzip_errUint64NonZero), ("loop.example/pub-g03247/pub/sevenzip.errUint64TooLarge", Rows.laid_loop_example_pub_g03247_pub_sevenzip_errUint64TooLarge), ("loop.example/pub-g03247/pub/sevenzip.errTokenTooLong", Rows.laid_loop_example_pub_g03247_pub_sevenzip_errTokenTooLong)] [.sentinel, .sentinel, .sentinel, .sentinel, .sentinel] true :=
  Program.laidByTextLater.sub seatTie1 ["io.EOF", "loop.example/pub-g03247/pub/sevenzip.errWrongNumberOfFilenames", "loop.example/pub-g03247/pub/sevenzip.errUint64NonZero", "loop.example/pub-g03247/pub/sevenzip.errUint64TooLarge", "loop.example/pub-g03247/pub/sevenzip.errTokenTooLong"] (by kernel_rfl) (by kernel_rfl)
theorem fnNames_row_tie : Rows.fnNamesRow.laidByTextAt .later Tryd.pinned [.sentinel, .sentinel, .sentinel, .sentinel, .sentinel] true :=
  OpenClaim.laidByTextAt_later rfl rfl tie2 noOwnUnsafe
theorem fnBoolsUpto_row_tie : Rows.fnBoolsUptoRow.laidByTextAt .later Tryd.pinned [.sentinel, .sentinel] true :=
  OpenClaim.laidByTextAt_later rfl rfl tie noOwnUnsafe
theorem fnOptionalUpto_row_tie : Rows.fnOptionalUptoRow.laidByTextAt .later Tryd.pinned [.sentinel, .sentinel] true :=
  OpenClaim.laidByTextAt_later rfl rfl tie noOwnUnsafe
theorem fnNamesUpto_row_tie : Rows.fnNamesUptoRow.laidByTextAt .later Tryd.pinned [.sentinel, .sentinel, .sentinel, .sentinel, .sentinel] true :=
  OpenClaim.laidByTextAt_later rfl rfl tie2 noOwnUnsafe
end Go.Proofs.YtfpepghmbeoanaaDoor
