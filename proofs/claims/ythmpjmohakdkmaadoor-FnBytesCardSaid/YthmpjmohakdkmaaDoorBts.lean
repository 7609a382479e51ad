/-
  Walks over the text of an index. No condition but those typed.
-/
import Derived.Test.YthmpjmohakdkmaaDoorIml
namespace Go.Proofs.YthmpjmohakdkmaaDoor
open Go.RowKit

set_option maxHeartbeats 1000000 in
set_option maxRecDepth 100000 in
/-- The index's slice of bytes. -/
theorem data_any (ib : Nat) (v : Value) (w : World) (h : w.cell? ⟨ib, 0, none⟩ = some v) :
    Calls Tryd.prog 15 #[.pointer (some ⟨ib, 0, none⟩)] w fun e w' => e = .returned v ∧ w' = w := by
  go_enter Tryd.func15, Tryd.ntmps15
  go_wp2_with fail
  go_ret
  exact ⟨rfl, rfl⟩

set_option maxHeartbeats 1000000 in
set_option maxRecDepth 100000 in
/-- The text of an index. -/
theorem bytes_any (a : Option Addr) (n c : Nat) (T : Nat → Nat) (w : World) (hin : Came w a n T) (hT : ∀ i, i < n → T i < 256) (hn : n ≤ 1073741824) (hM : Most w) :
    Calls Tryd.prog 7 #[.slice a n c] w fun e w' => ∃ a' c', e = .returned (.slice a' n c') ∧ Came w' a' n T ∧ Kept (fun _ _ => False) w w' := by
  have HN := Lib.hid (new_copy a n c T w hin hT hn hM)
  have HB := Lib.hid hn
  clear hin hT hM hn
  go_enter Tryd.func7, Tryd.ntmps7
  go_wp2_with fail
  refine HN.out.mono ?_
  rintro e w1 ⟨v1, rfl, hk1, hnew⟩
  have HNW := Lib.hid hnew
  clear hnew hk1
  go_wp2_with fail
  refine HNW.out.mono ?_
  rintro e w2 ⟨ib, da, tb, tc, sb, g, rfl, hI, hg, hk2⟩
  have HD := Lib.hid (data_any ib _ w2 hI.data)
  have hc2 : Came w2 da n T := fun h0 => ⟨tb, 0, hI.here h0, hI.text⟩
  have HC := Lib.hid (copied_any da n tc T w2 hc2 (by have := HB.out; omega))
  clear hI hg hc2
  go_wp2_with fail
  refine HD.out.mono ?_
  rintro e w3 ⟨rfl, rfl⟩
  go_wp2_with fail
  refine HC.out.mono ?_
  rintro e w4 ⟨a', c', rfl, hq, hk4⟩
  go_wp2_with fail
  go_ret
  exact ⟨a', c', rfl, hq, hk2.trans hk4⟩

end Go.Proofs.YthmpjmohakdkmaaDoor
