/-
  Walks over the checks that places come in order. No condition but those typed.
-/
import Derived.Test.YthmpjmohakdkmaaCmp
import Derived.Deep.QuietTactic
import Derived.BigQuiet
namespace Go.Proofs.Ythmpjmohakdkmaa
open Go.RowKit

set_option maxHeartbeats 1000000 in
set_option maxRecDepth 100000 in
/-- What stands at one place comes ahead of what stands at another. -/
theorem before_any (b o n i j c : Nat) (T : Nat → Nat) (w : World) (hc : ∀ x, x < n → w.cell? ⟨b, o + x, none⟩ = some (.int .u8 (T x : Int))) (hTK : ∀ i, i < n → T i < 256) (hi : i < n) (hj : j < n) (hn : n ≤ c) (hs : sl T n i j = true) :
    Calls Try.prog 10 #[.slice (some ⟨b, o, none⟩) n c, .int .i64 i, .int .i64 j] w fun e w' => e = .returned (.bool true) ∧ ∃ m, w' = w.drewN m := by
  have hv : cmpT T n i j = -1 := by
    unfold cmpT
    rw [if_neg (fun e => by rw [e, sl_irrefl] at hs; simp at hs), if_pos hs]
  have hcmp : ∀ (w : World), (∀ x, x < n → w.cell? ⟨b, o + x, none⟩ = some (.int .u8 (T x : Int))) → ∀ ci cj, Calls Try.prog 19 #[.slice (some ⟨b, o + i, none⟩) (n - i) ci, .slice (some ⟨b, o + j, none⟩) (n - j) cj] w fun e w' => e = .returned (.int .i64 (-1)) ∧ w' = w := fun w hc ci cj => by
    rw [← hv]; exact compare_any b o n i j ci cj T w hc hTK hi hj
  have HC := Lib.hid hc
  have HCMP := Lib.hid hcmp
  clear hc hTK hv hcmp hs
  have q1 : (i : Int) ≤ (n : Int) := by omega
  have q2 : (j : Int) ≤ (n : Int) := by omega
  have q3 : ¬ c = i := by omega
  have q4 : ¬ c = j := by omega
  have q5 : i ≤ n := by omega
  have q6 : j ≤ n := by omega
  go_enter Try.func10, Try.ntmps10
  go_wp2_with fail
  go_quiet ((refine Calls.quiet_of_same (HCMP.out (w.drewN _) ?_ _ _); exact HC.out))
  go_wp2_with fail
  go_ret
  exact ⟨rfl, nq, rfl⟩

end Go.Proofs.Ythmpjmohakdkmaa
