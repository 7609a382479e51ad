/-
  DERIVED. GIVEN WITH THE SEED: THE PROGRAM's TIES (one call each: nine closed facts by the kernel) AND EACH ROW's TIE, after the 31st guide's Derived/Test/Toyas{Tie, Card}.lean. No idea stands in it: it is a product of the set-up. Laid BY PROGRAM, IN A SANDBOX (cutbox-door.mjs). By AI agents, Wed Nov 11 2026. No macro, syntax, notation, axiom, sorry.
-/
import Derived.Test.YthmpjmohakdkmaaGreatDoorRows
import Derived.LaidByTextLater
import Derived.SevenTiedAt
import Derived.LaidSub
import Derived.LaidOnce
namespace Go.Proofs.YthmpjmohakdkmaaGreatDoor
open Go
set_option maxRecDepth 100000
theorem seatTie1 : Tryz.prog.laidByTextLater [("loop.example/pub-g03124/pub/suffixarray.maxData32", Rows.laid_loop_example_pub_g03124_pub_suffixarray_maxData32)] [.data] true :=
  Program.laidByTextLater_by_one 13 8 2 (by kernel_rfl) (by kernel_rfl) (by kernel_rfl) (by kernel_rfl) (by kernel_rfl) (by kernel_rfl) (fun _ _ => by kernel_rfl)
theorem noOwnUnsafe : Tryz.pinned.checked.prog.headLifts.contains "ownunsafe" = false := by kernel_rfl
theorem tie : Tryz.prog.laidByTextLater [("loop.example/pub-g03124/pub/suffixarray.maxData32", Rows.laid_loop_example_pub_g03124_pub_suffixarray_maxData32)] [.data] true :=
  Program.laidByTextLater.sub seatTie1 ["loop.example/pub-g03124/pub/suffixarray.maxData32"] (by kernel_rfl) (by kernel_rfl)
theorem fnSome_row_tie : Rows.fnSomeRow.laidByTextAt .later Tryz.pinned [.data] true :=
  OpenClaim.laidByTextAt_later rfl rfl tie noOwnUnsafe
theorem fnLookup_row_tie : Rows.fnLookupRow.laidByTextAt .later Tryz.pinned [.data] true :=
  OpenClaim.laidByTextAt_later rfl rfl tie noOwnUnsafe
theorem fnSomeUpto_row_tie : Rows.fnSomeUptoRow.laidByTextAt .later Tryz.pinned [.data] true :=
  OpenClaim.laidByTextAt_later rfl rfl tie noOwnUnsafe
theorem fnLookupUpto_row_tie : Rows.fnLookupUptoRow.laidByTextAt .later Tryz.pinned [.data] true :=
  OpenClaim.laidByTextAt_later rfl rfl tie noOwnUnsafe
end Go.Proofs.YthmpjmohakdkmaaGreatDoor
