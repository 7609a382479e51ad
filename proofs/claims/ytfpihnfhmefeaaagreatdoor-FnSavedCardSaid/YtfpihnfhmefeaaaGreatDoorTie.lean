/-
  DERIVED. GIVEN WITH THE SEED: THE PROGRAM's TIES (one call each: nine closed facts by the kernel) AND EACH ROW's TIE, after the 31st guide's Derived/Test/Toyas{Tie, Card}.lean. No idea stands in it: it is a product of the set-up. Laid BY PROGRAM, IN A SANDBOX (cutbox-door.mjs). By AI agents, Wed Nov 11 2026. No macro, syntax, notation, axiom, sorry.
-/
import Derived.Test.YtfpihnfhmefeaaaGreatDoorRows
import Derived.LaidByTextLater
import Derived.SevenTiedAt
import Derived.LaidSub
import Derived.LaidOnce
namespace Go.Proofs.YtfpihnfhmefeaaaGreatDoor
open Go
set_option maxRecDepth 100000
theorem seatTie1 : Tryz.prog.laidByTextLater [("io.ErrShortBuffer", Rows.laid_io_ErrShortBuffer), ("io.EOF", Rows.laid_io_EOF), ("io.ErrUnexpectedEOF", Rows.laid_io_ErrUnexpectedEOF), ("loop.example/pub-g03124/pub/suffixarray.maxData32", Rows.laid_loop_example_pub_g03124_pub_suffixarray_maxData32), ("loop.example/pub-g03124/pub/suffixarray.errCorrupted", Rows.laid_loop_example_pub_g03124_pub_suffixarray_errCorrupted)] [.sentinel, .sentinel, .sentinel, .data, .sentinel] true :=
  Program.laidByTextLater_by_one 108 8 2 (by kernel_rfl) (by kernel_rfl) (by kernel_rfl) (by kernel_rfl) (by kernel_rfl) (by kernel_rfl) (fun _ _ => by kernel_rfl)
theorem noOwnUnsafe : Tryz.pinned.checked.prog.headLifts.contains "ownunsafe" = false := by kernel_rfl
theorem tie : Tryz.prog.laidByTextLater [("io.ErrShortBuffer", Rows.laid_io_ErrShortBuffer), ("io.EOF", Rows.laid_io_EOF), ("io.ErrUnexpectedEOF", Rows.laid_io_ErrUnexpectedEOF), ("loop.example/pub-g03124/pub/suffixarray.maxData32", Rows.laid_loop_example_pub_g03124_pub_suffixarray_maxData32), ("loop.example/pub-g03124/pub/suffixarray.errCorrupted", Rows.laid_loop_example_pub_g03124_pub_suffixarray_errCorrupted)] [.sentinel, .sentinel, .sentinel, .data, .sentinel] true :=
  Program.laidByTextLater.sub seatTie1 ["io.ErrShortBuffer", "io.EOF", "io.ErrUnexpectedEOF", "loop.example/pub-g03124/pub/suffixarray.maxData32", "loop.example/pub-g03124/pub/suffixarray.errCorrupted"] (by kernel_rfl) (by kernel_rfl)
theorem fnBehind_row_tie : Rows.fnBehindRow.laidByTextAt .later Tryz.pinned [.sentinel, .sentinel, .sentinel, .data, .sentinel] true :=
  OpenClaim.laidByTextAt_later rfl rfl tie noOwnUnsafe
theorem fnSaved_row_tie : Rows.fnSavedRow.laidByTextAt .later Tryz.pinned [.sentinel, .sentinel, .sentinel, .data, .sentinel] true :=
  OpenClaim.laidByTextAt_later rfl rfl tie noOwnUnsafe
theorem fnCut_row_tie : Rows.fnCutRow.laidByTextAt .later Tryz.pinned [.sentinel, .sentinel, .sentinel, .data, .sentinel] true :=
  OpenClaim.laidByTextAt_later rfl rfl tie noOwnUnsafe
theorem fnBehindUpto_row_tie : Rows.fnBehindUptoRow.laidByTextAt .later Tryz.pinned [.sentinel, .sentinel, .sentinel, .data, .sentinel] true :=
  OpenClaim.laidByTextAt_later rfl rfl tie noOwnUnsafe
theorem fnSavedUpto_row_tie : Rows.fnSavedUptoRow.laidByTextAt .later Tryz.pinned [.sentinel, .sentinel, .sentinel, .data, .sentinel] true :=
  OpenClaim.laidByTextAt_later rfl rfl tie noOwnUnsafe
theorem fnCutUpto_row_tie : Rows.fnCutUptoRow.laidByTextAt .later Tryz.pinned [.sentinel, .sentinel, .sentinel, .data, .sentinel] true :=
  OpenClaim.laidByTextAt_later rfl rfl tie noOwnUnsafe
end Go.Proofs.YtfpihnfhmefeaaaGreatDoor
