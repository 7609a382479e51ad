/-
  Walks over the comparison of two slices. No condition but those typed.
-/
import Derived.Test.YthmpjmohakdkmaaGreatDoorApp
import Derived.Deep.QuietTactic
import Derived.BigQuiet
namespace Go.Proofs.YthmpjmohakdkmaaGreatDoor
open Go.RowKit

set_option maxHeartbeats 1600000 in
set_option maxRecDepth 100000 in
/-- Two slices that hold the same numbers. -/
theorem equal_same (b o n c b' o' c' : Nat) (f : Nat → Int) (w : World) (hR : Row w .i64 b o n f) (hR' : Row w .i64 b' o' n f) (hn : n ≤ 1073741824) :
    Calls Tryz.prog 10 #[.slice (some ⟨b, o, none⟩) n c, .slice (some ⟨b', o', none⟩) n c'] w fun e w' => e = .returned (.bool true) ∧ ∃ m, w' = w.drewN m := by
  go_enter Tryz.func10, Tryz.ntmps10
  go_wp2_with fail
  go_loopw [13] (fun i wr => ∃ k : Nat, k ≤ n ∧ i = .int .i64 k ∧ Row wr .i64 b o n f ∧ Row wr .i64 b' o' n f ∧ ∃ m, wr = w.drewN m)
    (fun i _ => n - (intOf i).toNat)
  case atStart => exact ⟨0, Nat.zero_le _, rfl, hR, hR', 0, rfl⟩
  case round =>
    obtain ⟨k, hk, rfl, hA, hB, hm⟩ := hrel
    have HM := Lib.hid hm
    clear hm
    by_cases hkn : k < n
    · have hc1 := hA.cell k hkn
      have hc2 := hB.cell k hkn
      go_wp2_with fail
      go_quiet (fail)
      go_wp2_with fail
      go_roundw
      case rel =>
        obtain ⟨m, hm⟩ := HM.out
        exact ⟨k + 1, by omega, by simp, hA.drewN _, hB.drewN _, m + nq, by rw [hm, World.drewN_drewN]⟩
      case measure => simp [intOf]; omega
    · have hkn : k = n := by omega
      subst hkn
      go_wp2_with fail
      go_ret
      exact ⟨rfl, HM.out⟩

set_option maxHeartbeats 1600000 in
set_option maxRecDepth 100000 in
theorem equal_zero (a a' : Option Addr) (c c' : Nat) (w : World) :
    Calls Tryz.prog 10 #[.slice a 0 c, .slice a' 0 c'] w fun e w' => e = .returned (.bool true) ∧ w' = w := by
  go_enter Tryz.func10, Tryz.ntmps10
  go_wp2_with fail
  refine wp_loop_rounds 1 ?_
  rw [rounds_succ]
  go_wp2_with fail
  go_ret
  exact ⟨rfl, rfl⟩

end Go.Proofs.YthmpjmohakdkmaaGreatDoor
