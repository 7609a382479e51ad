/-
  Walks over the copy of a slice of bytes, and the check of a text's length. No condition but those typed.
-/
import Derived.Test.YtfpihnfhmefeaaaGreatDoorIn
namespace Go.Proofs.YtfpihnfhmefeaaaGreatDoor
open Go.RowKit

set_option maxHeartbeats 1000000 in
set_option maxRecDepth 100000 in
/-- The copy of a slice of n bytes. -/
theorem copied_row (b o n c : Nat) (T : Nat → Nat) (w : World) (hc : ∀ j, j < n → w.cell? ⟨b, o + j, none⟩ = some (.int .u8 (T j : Int))) (h0 : 0 < n) (hn : n ≤ 4294967296) :
    Calls Tryz.prog 16 #[.slice (some ⟨b, o, none⟩) n c] w fun e w' =>
      ∃ cap, e = .returned (.slice (some ⟨w.heap.size, 0, none⟩) n cap) ∧ n ≤ cap ∧ Row w' .u8 w.heap.size 0 n (fun i => (T i : Int)) ∧ Kept (fun _ _ => False) w w' := by
  obtain ⟨i0, hi, hz0, hz1, hz2⟩ := info_parts info_u8
  obtain ⟨cap, w1, hr, hcap, hR, hk, _⟩ := append_row (P := Tryz.prog) (c := c) (f := fun i => (T i : Int)) 22 22 5 i0 Tryz.underlying22 hi hz0 hz1 (by rw [hz2]; omega) hc h0 hn
  clear hc hi hz0 hz1 hz2
  go_enter Tryz.func16, Tryz.ntmps16
  go_wp2_with (at_builtin; refine Lib.wpList_append_run_sl w rfl _ _ _ rfl _ _ rfl rfl hr ?_)
  go_ret
  exact ⟨cap, rfl, hcap, hR, hk⟩

set_option maxHeartbeats 1000000 in
set_option maxRecDepth 100000 in
/-- The copy of a slice of no byte. -/
theorem copied_zero (a : Option Addr) (c : Nat) (w : World) :
    Calls Tryz.prog 16 #[.slice a 0 c] w fun e w' => e = .returned (.slice none 0 0) ∧ Kept (fun _ _ => False) w w' := by
  obtain ⟨i0, hi, hz0, hz1, hz2⟩ := info_parts info_u8
  have hr := append_zero (P := Tryz.prog) (w := w) 22 22 5 i0 Tryz.underlying22 hi a c
  clear hi hz0 hz1 hz2
  go_enter Tryz.func16, Tryz.ntmps16
  go_wp2_with (at_builtin; refine Lib.wpList_append_run_sl w rfl _ _ _ rfl _ _ rfl rfl hr ?_)
  go_ret
  exact ⟨rfl, Kept.refl _ _⟩

set_option maxHeartbeats 1000000 in
set_option maxRecDepth 100000 in
/-- The check of a text's length. -/
theorem long_any (a : Option Addr) (n c : Nat) (w : World) :
    Calls Tryz.prog 7 #[.slice a n c] w fun e w' => e = .returned (.bool (decide (1048576 < n))) ∧ w' = w := by
  by_cases hn : 1048576 < n
  · go_enter Tryz.func7, Tryz.ntmps7
    go_wp2_with fail
    go_ret
    exact ⟨by simp; omega, rfl⟩
  · go_enter Tryz.func7, Tryz.ntmps7
    go_wp2_with fail
    go_ret
    exact ⟨by simp; omega, rfl⟩

end Go.Proofs.YtfpihnfhmefeaaaGreatDoor

