/-
  Walks over the search of a number in a slice that holds it. No condition but those typed.
-/
import Derived.Test.YthmpjmohakdkmaaDoorPlc
namespace Go.Proofs.YthmpjmohakdkmaaDoor
open Go.RowKit

set_option maxHeartbeats 1600000 in
set_option maxRecDepth 100000 in
/-- The place of a number that a slice holds. -/
theorem index_row (b o n c : Nat) (f : Nat → Int) (x : Int) (w : World) (hR : Row w .i64 b o n f) (hx : ∃ j, j < n ∧ f j = x) (hn : n ≤ 1073741824) :
    Calls Tryd.prog 18 #[.slice (some ⟨b, o, none⟩) n c, .int .i64 x] w fun e w' => (∃ j : Nat, e = .returned (.int .i64 j)) ∧ w' = w := by
  have HX := Lib.hid hx
  clear hx
  go_enter Tryd.func18, Tryd.ntmps18
  go_wp2_with fail
  go_loopw [8] (fun i wr => ∃ k : Nat, k ≤ n ∧ i = .int .i64 k ∧ wr = w ∧ Hid (∀ t, t < k → f t ≠ x))
    (fun i _ => n - (intOf i).toNat)
  case atStart => exact ⟨0, Nat.zero_le _, rfl, rfl, Lib.hid fun t h => absurd h (Nat.not_lt_zero _)⟩
  case round =>
    obtain ⟨k, hk, rfl, rfl, HK⟩ := hrel
    by_cases hkn : k < n
    · have hc1 := hR.cell k hkn
      by_cases he : f k = x
      · rw [he] at hc1
        have HE := Lib.hid he
        clear he
        go_wp2_with fail
        go_ret
        exact ⟨⟨k, rfl⟩, rfl⟩
      · have hne : ¬ x = f k := fun e => he e.symm
        have hbe : (x == f k) = false := by simp [hne]
        go_wp2_with fail
        go_roundw
        case rel => exact ⟨k + 1, by omega, by simp, by trivial, Lib.hid fun t ht => by
          by_cases e : t = k
          · subst e; exact he
          · exact HK.out t (by omega)⟩
        case measure => simp [intOf]; omega
    · obtain ⟨j, hj, hjx⟩ := HX.out
      exact absurd hjx (HK.out j (by omega))

set_option maxHeartbeats 1000000 in
set_option maxRecDepth 100000 in
/-- A slice that holds the number. -/
theorem contains_row (b o n c : Nat) (f : Nat → Int) (x : Int) (w : World) (hR : Row w .i64 b o n f) (hx : ∃ j, j < n ∧ f j = x) (hn : n ≤ 1073741824) :
    Calls Tryd.prog 9 #[.slice (some ⟨b, o, none⟩) n c, .int .i64 x] w fun e w' => e = .returned (.bool true) ∧ w' = w := by
  have H := Lib.hid (index_row b o n c f x w hR hx hn)
  clear hR hx
  go_enter Tryd.func9, Tryd.ntmps9
  go_wp2_with fail
  refine H.out.mono ?_
  rintro e w' ⟨⟨j, rfl⟩, rfl⟩
  go_wp2_with fail
  go_ret
  exact ⟨by simp, rfl⟩

end Go.Proofs.YthmpjmohakdkmaaDoor
