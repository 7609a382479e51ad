/-
  Walks over the checks that places come in order. No condition but those typed.
-/
import Derived.Test.YtpennngcehbioaaCmp
import Derived.Deep.QuietTactic
import Derived.BigQuiet
namespace Go.Proofs.Ytpennngcehbioaa
open Go.RowKit

set_option maxHeartbeats 1000000 in
set_option maxRecDepth 100000 in
/-- What stands at one place comes ahead of what stands at another. -/
theorem before_any (b o n i j c : Nat) (T : Nat → Nat) (w : World) (hc : ∀ x, x < n → w.cell? ⟨b, o + x, none⟩ = some (.int .u8 (T x : Int))) (hTK : ∀ i, i < n → T i < 256) (hi : i < n) (hj : j < n) (hn : n ≤ c) (hs : sl T n i j = true) :
    Calls Try.prog 24 #[.slice (some ⟨b, o, none⟩) n c, .int .i64 i, .int .i64 j] w fun e w' => e = .returned (.bool true) ∧ ∃ m, w' = w.drewN m := by
  have hv : cmpT T n i j = -1 := by
    unfold cmpT
    rw [if_neg (fun e => by rw [e, sl_irrefl] at hs; simp at hs), if_pos hs]
  have hcmp : ∀ (w : World), (∀ x, x < n → w.cell? ⟨b, o + x, none⟩ = some (.int .u8 (T x : Int))) → ∀ ci cj, Calls Try.prog 27 #[.slice (some ⟨b, o + i, none⟩) (n - i) ci, .slice (some ⟨b, o + j, none⟩) (n - j) cj] w fun e w' => e = .returned (.int .i64 (-1)) ∧ w' = w := fun w hc ci cj => by
    rw [← hv]; exact compare_any b o n i j ci cj T w hc hTK hi hj
  have HC := Lib.hid hc
  have HCMP := Lib.hid hcmp
  clear hc hTK hv hcmp hs
  have q1 : (i : Int) ≤ (n : Int) := by omega
  have q2 : (j : Int) ≤ (n : Int) := by omega
  have q3 : ¬ c = i := by omega
  have q4 : ¬ c = j := by omega
  have q5 : i ≤ n := by omega
  have q6 : j ≤ n := by omega
  go_enter Try.func24, Try.ntmps24
  go_wp2_with fail
  go_quiet ((refine Calls.quiet_of_same (HCMP.out (w.drewN _) ?_ _ _); exact HC.out))
  go_wp2_with fail
  go_ret
  exact ⟨rfl, nq, rfl⟩

set_option maxHeartbeats 1600000 in
set_option maxRecDepth 100000 in
/-- The array's places come in order. -/
theorem ascends_any (tb tp tc n lb lc : Nat) (T : Nat → Nat) (g : Nat → Nat) (w : World) (hc : ∀ x, x < n → w.cell? ⟨tb, tp + x, none⟩ = some (.int .u8 (T x : Int))) (hTK : ∀ i, i < n → T i < 256) (hR : Row w .i64 lb 0 n (fun x => (g x : Int))) (hg : IsSA T n g) (htc : n ≤ tc) (hn : n ≤ 1073741824) :
    Calls Try.prog 16 #[.slice (some ⟨tb, tp, none⟩) n tc, .slice (some ⟨lb, 0, none⟩) n lc] w fun e w' => e = .returned (.bool true) ∧ ∃ m, w' = w.drewN m := by
  have HC := Lib.hid hc
  have HTK := Lib.hid hTK
  have HM := Lib.hid hg.mem
  have HG := Lib.hid hg.inc
  clear hc hTK hg
  go_enter Try.func16, Try.ntmps16
  go_wp2_with fail
  go_loopw [9] (fun i wr => ∃ k : Nat, k ≤ n ∧ i = .int .i64 k ∧ ∃ m, wr = w.drewN m)
    (fun i _ => n - (intOf i).toNat)
  case atStart => exact ⟨0, Nat.zero_le _, rfl, 0, rfl⟩
  case round =>
    obtain ⟨k, hk, rfl, m, rfl⟩ := hrel
    by_cases hkn : k < n
    · have hgk := HM.out k hkn
      have hR2 := hR.drewN m
      have hc1 := hR2.cell k hkn
      rw [Nat.zero_add] at hc1
      by_cases hk0 : k = 0
      · subst hk0
        go_wp2_with fail
        go_roundw
        case rel => exact ⟨1, by omega, by simp, m, rfl⟩
        case measure => simp [intOf]; omega
      · obtain ⟨j, rfl⟩ : ∃ j, k = j + 1 := ⟨k - 1, by omega⟩
        have hgj := HM.out j (by omega)
        have hc2 := hR2.cell j (by omega)
        rw [Nat.zero_add] at hc2
        go_wp2_with fail
        refine (before_any tb tp n (g j) (g (j + 1)) tc T (w.drewN m) HC.out HTK.out hgj hgk htc (HG.out j (j + 1) (by omega) hkn)).mono ?_
        rintro e w2 ⟨rfl, m2, rfl⟩
        go_wp2_with fail
        go_roundw
        case rel => exact ⟨j + 2, by omega, by simp; omega, m + m2, rfl⟩
        case measure => simp [intOf]; omega
    · have hkn : k = n := by omega
      subst hkn
      go_wp2_with fail
      go_ret
      exact ⟨rfl, m, rfl⟩

set_option maxHeartbeats 1600000 in
set_option maxRecDepth 100000 in
theorem ascends_zero (v : Value) (a : Option Addr) (c : Nat) (w : World) :
    Calls Try.prog 16 #[v, .slice a 0 c] w fun e w' => e = .returned (.bool true) ∧ w' = w := by
  go_enter Try.func16, Try.ntmps16
  go_wp2_with fail
  refine wp_loop_rounds 1 ?_
  rw [rounds_succ]
  go_wp2_with fail
  go_ret
  exact ⟨rfl, rfl⟩

end Go.Proofs.Ytpennngcehbioaa
