/-
  DERIVED. GIVEN WITH THE SEED: THE PROGRAM's TIES (one call each: nine closed facts by the kernel) AND EACH ROW's TIE, after the 31st guide's Derived/Test/Toyas{Tie, Card}.lean. No idea stands in it: it is a product of the set-up. Laid BY PROGRAM, IN A SANDBOX (cutbox-door.mjs). By AI agents, Wed Nov 11 2026. No macro, syntax, notation, axiom, sorry.
-/
import Derived.Test.YtdcdbbcphkhmeaaDoorRows
import Derived.LaidByTextLater
import Derived.SevenTiedAt
import Derived.LaidSub
import Derived.LaidOnce
namespace Go.Proofs.YtdcdbbcphkhmeaaDoor
open Go
set_option maxRecDepth 100000
theorem seatTie1 : Tryd.prog.laidByTextLater [("io.ErrShortWrite", Rows.laid_io_ErrShortWrite), ("io.EOF", Rows.laid_io_EOF), ("loop.example/lib-g01387/impl.errSource", Rows.laid_loop_example_lib_g01387_impl_errSource), ("loop.example/lib-g01387/impl.errSink", Rows.laid_loop_example_lib_g01387_impl_errSink)] [.sentinel, .sentinel, .sentinel, .sentinel] true :=
  Program.laidByTextLater_by_one 85 8 2 (by kernel_rfl) (by kernel_rfl) (by kernel_rfl) (by kernel_rfl) (by kernel_rfl) (by kernel_rfl) (fun _ _ => by kernel_rfl)
theorem noOwnUnsafe : Tryd.pinned.checked.prog.headLifts.contains "ownunsafe" = false := by kernel_rfl
theorem tie : Tryd.prog.laidByTextLater [("io.ErrShortWrite", Rows.laid_io_ErrShortWrite), ("io.EOF", Rows.laid_io_EOF), ("loop.example/lib-g01387/impl.errSource", Rows.laid_loop_example_lib_g01387_impl_errSource), ("loop.example/lib-g01387/impl.errSink", Rows.laid_loop_example_lib_g01387_impl_errSink)] [.sentinel, .sentinel, .sentinel, .sentinel] true :=
  Program.laidByTextLater.sub seatTie1 ["io.ErrShortWrite", "io.EOF", "loop.example/lib-g01387/impl.errSource", "loop.example/lib-g01387/impl.errSink"] (by kernel_rfl) (by kernel_rfl)
theorem fnNopReads_row_tie : Rows.fnNopReadsRow.laidByTextAt .later Tryd.pinned [.sentinel, .sentinel, .sentinel, .sentinel] true :=
  OpenClaim.laidByTextAt_later rfl rfl tie noOwnUnsafe
theorem fnNopRest_row_tie : Rows.fnNopRestRow.laidByTextAt .later Tryd.pinned [.sentinel, .sentinel, .sentinel, .sentinel] true :=
  OpenClaim.laidByTextAt_later rfl rfl tie noOwnUnsafe
theorem fnNopWriteTo_row_tie : Rows.fnNopWriteToRow.laidByTextAt .later Tryd.pinned [.sentinel, .sentinel, .sentinel, .sentinel] true :=
  OpenClaim.laidByTextAt_later rfl rfl tie noOwnUnsafe
theorem fnNopClose_row_tie : Rows.fnNopCloseRow.laidByTextAt .later Tryd.pinned [.sentinel, .sentinel, .sentinel, .sentinel] true :=
  OpenClaim.laidByTextAt_later rfl rfl tie noOwnUnsafe
theorem fnNopReadsUpto_row_tie : Rows.fnNopReadsUptoRow.laidByTextAt .later Tryd.pinned [.sentinel, .sentinel, .sentinel, .sentinel] true :=
  OpenClaim.laidByTextAt_later rfl rfl tie noOwnUnsafe
theorem fnNopRestUpto_row_tie : Rows.fnNopRestUptoRow.laidByTextAt .later Tryd.pinned [.sentinel, .sentinel, .sentinel, .sentinel] true :=
  OpenClaim.laidByTextAt_later rfl rfl tie noOwnUnsafe
theorem fnNopWriteToUpto_row_tie : Rows.fnNopWriteToUptoRow.laidByTextAt .later Tryd.pinned [.sentinel, .sentinel, .sentinel, .sentinel] true :=
  OpenClaim.laidByTextAt_later rfl rfl tie noOwnUnsafe
theorem fnNopCloseUpto_row_tie : Rows.fnNopCloseUptoRow.laidByTextAt .later Tryd.pinned [.sentinel, .sentinel, .sentinel, .sentinel] true :=
  OpenClaim.laidByTextAt_later rfl rfl tie noOwnUnsafe
end Go.Proofs.YtdcdbbcphkhmeaaDoor
