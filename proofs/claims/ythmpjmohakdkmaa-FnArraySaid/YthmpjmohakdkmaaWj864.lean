/-
  Walks over the sorting functions (variant 8_64): implw. No condition but those typed.
-/
import Derived.Test.YthmpjmohakdkmaaWy864
import Derived.Test.YthmpjmohakdkmaaCopy
namespace Go.Proofs.Ythmpjmohakdkmaa
open Go.RowKit

set_option maxHeartbeats 1000000 in
set_option maxRecDepth 100000 in
/-- The array of a text of some bytes. -/
theorem arr_64 (b o n c : Nat) (T : Nat → Nat) (w : World) (hc : ∀ j, j < n → w.cell? ⟨b, o + j, none⟩ = some (.int .u8 (T j : Int))) (hTK : ∀ i, i < n → T i < 256) (h0 : 0 < n) (hn : n ≤ 1073741824) :
    Calls Try.prog 9 #[.bool true, .slice (some ⟨b, o, none⟩) n c] w (ArrPost T n w) := by
  have HC := Lib.hid hc
  have HTK := Lib.hid hTK
  clear hc hTK
  go_enter Try.func9, Try.ntmps9
  go_wp2_with fail
  refine (copied_row b o n c T w HC.out h0 hn).mono ?_
  rintro e w1 ⟨cap, rfl, hcap, hR1, hk1⟩
  go_wp2_with fail
  refine (zz_64 T _ 0 cap n w1 h0 hR1 HTK.out hn hcap).mono ?_
  rintro e w2 ⟨s, rfl, hR2, ⟨g, hg, hgs⟩, hk2⟩
  have hs1 := hk1.size
  have hs2 := hk2.size
  have hR3 := hR2.congr hgs
  have HGS := Lib.hid hgs
  clear hgs hR2
  go_wp2_with fail
  refine (numbers_64 w.heap.size _ 0 n n g w2 hR3 (fun x hx => by have := hg.mem x hx; omega) hn (by omega)).mono ?_
  rintro e w3 ⟨v, rfl, hown, hk3⟩
  go_wp2_with fail
  go_ret
  exact ⟨v, g, rfl, hg, hown, hk1.trans (hk2.trans hk3)⟩

set_option maxHeartbeats 1000000 in
set_option maxRecDepth 100000 in
/-- The array of a text of no byte. -/
theorem arr_64_zero (a : Option Addr) (c : Nat) (T : Nat → Nat) (w : World) :
    Calls Try.prog 9 #[.bool true, .slice a 0 c] w (ArrPost T 0 w) := by
  go_enter Try.func9, Try.ntmps9
  go_wp2_with fail
  refine (copied_zero a c w).mono ?_
  rintro e w1 ⟨rfl, hk1⟩
  go_wp2_with fail
  refine (zz_64_zero none 0 w1).mono ?_
  rintro e w2 ⟨rfl, hk2⟩
  go_wp2_with fail
  refine (numbers_64_zero _ 0 w2).mono ?_
  rintro e w3 ⟨rfl, rfl⟩
  go_wp2_with fail
  go_ret
  exact ⟨_, fun _ => 0, rfl, isSA_zero T _, World.ownsRow_nil _ _ _ _, hk1.trans hk2⟩

/-- The array of a text, whatever its length. -/
theorem arr_64_any (a : Option Addr) (n c : Nat) (T : Nat → Nat) (w : World) (hin : 0 < n → ∃ b o, a = some ⟨b, o, none⟩ ∧ ∀ j, j < n → w.cell? ⟨b, o + j, none⟩ = some (.int .u8 (T j : Int))) (hTK : ∀ i, i < n → T i < 256) (hn : n ≤ 1073741824) :
    Calls Try.prog 9 #[.bool true, .slice a n c] w (ArrPost T n w) := by
  by_cases h0 : n = 0
  · subst h0; exact arr_64_zero a c T w
  · obtain ⟨b, o, rfl, hc⟩ := hin (by omega)
    exact arr_64 b o n c T w hc hTK (by omega) hn

end Go.Proofs.Ythmpjmohakdkmaa
