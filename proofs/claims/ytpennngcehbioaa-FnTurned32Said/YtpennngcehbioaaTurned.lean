/-
  A walk over the turning of a text. No condition but those typed.
-/
import Derived.Test.YtpennngcehbioaaApp
import Derived.Test.YtpennngcehbioaaTurn
namespace Go.Proofs.Ytpennngcehbioaa
open Go.RowKit

/-- What the turning leaves: two slices of the call's own. -/
def TurnPost (T : Nat → Nat) (n : Nat) (w : World) (e : Ending) (w' : World) : Prop :=
  ∃ v1 v2, e = .returned (.tuple #[v1, v2]) ∧ OwnL w' w.heap.size 5 .u8 v1 (n + 1) (fun i => (lowT T n i : Int)) ∧ OwnL w' w.heap.size 5 .u8 v2 (n + 1) (fun i => (highT T n i : Int)) ∧ Kept (fun _ _ => False) w w'

set_option maxHeartbeats 4000000 in
set_option maxRecDepth 100000 in
theorem turned_any (a : Option Addr) (n c : Nat) (T : Nat → Nat) (w : World) (hin : 0 < n → ∃ b o, a = some ⟨b, o, none⟩ ∧ ∀ j, j < n → w.cell? ⟨b, o + j, none⟩ = some (.int .u8 (T j : Int))) (hTK : ∀ i, i < n → T i < 256) (hn : n ≤ 1048576) :
    Calls Try.prog 15 #[.slice a n c] w (TurnPost T n w) := by
  obtain ⟨i0, hi, hz0, hz1, hz2⟩ := info_parts info_u8
  have HIN := Lib.hid hin
  have HTK := Lib.hid hTK
  have HI := Lib.hid (And.intro hi (And.intro hz0 (And.intro hz1 hz2)))
  clear hin hTK hi hz0 hz1 hz2
  go_enter Try.func15, Try.ntmps15
  go_wp2
  go_loopw [4, 5, 12] (fun v1 v2 i wr => ∃ k : Nat, k ≤ n ∧ i = .int .i64 k ∧ OwnL wr w.heap.size 5 .u8 v1 k (fun i => (lowT T n i : Int)) ∧ OwnL wr w.heap.size 5 .u8 v2 k (fun i => (highT T n i : Int)) ∧ TwoBlocks v1 v2 ∧ Below w.heap.size w wr)
    (fun _ _ i _ => n - (intOf i).toNat)
  case atStart =>
    have h2 := World.ownsRow_made (base := w.heap.size) (e := 5) (size := 1) (w.alloc (.cells #[] 5)) #[] 0 (by simp) (by unfold maxLen; omega) rfl
    rw [show (w.alloc (.cells #[] 5)).heap.size = w.heap.size + 1 by simp] at h2
    refine ⟨0, Nat.zero_le _, rfl, World.ownsRow.alloc (World.ownsRow_made w #[] 0 (Nat.le_refl _) (by unfold maxLen; omega) rfl) _, h2, fun g h1 h2 => ?_, ((Below.refl _ _).alloc (Nat.le_refl _) _).alloc (by simp) _⟩
    simp [Value.ownBlock] at h1 h2
    omega
  case round =>
    obtain ⟨k, hk, rfl, ho1, ho2, htwo, hnx⟩ := hrel
    have hsz := hnx.size
    by_cases hkn : k < n
    · obtain ⟨b, o, rfl, hc⟩ := HIN.out (by omega)
      have hb : b < w.heap.size := cell_lt (hc 0 (by omega))
      have hcx : wr.cell? ⟨b, o + k, none⟩ = some (.int .u8 (T k : Int)) := (hnx.cell hb).trans (hc k hkn)
      have hTk := HTK.out k hkn
      clear hc
      obtain ⟨v1', w1, hr1, hn1, hg1, hb1⟩ := append_one (P := Try.prog) 22 22 i0 Try.underlying22 HI.out.1 HI.out.2.1 HI.out.2.2.1 (by rw [HI.out.2.2.2]; omega) ho1 (by omega) hsz (1 + (T k : Int) % 254)
      have hs1 := hg1.size
      have hm2 := ho2.kept hg1 htwo.symm
      obtain ⟨v2', w2, hr2, hn2, hg2, hb2⟩ := append_one (P := Try.prog) 22 22 i0 Try.underlying22 HI.out.1 HI.out.2.1 HI.out.2.2.1 (by rw [HI.out.2.2.2]; omega) hm2 (by omega) (by omega) (255 - (1 + (T k : Int) % 254))
      have ht1 : TwoBlocks u5 v1' := htwo.symm.appended (fun x hx => (ho2.below x hx).2) hb1
      have ht2 : TwoBlocks v1' v2' := ht1.symm.appended (fun x hx => (hn1.below x hx).2) hb2
      have hn1' := hn1.kept hg2 ht1.symm
      have hnx' : Below w.heap.size w w2 := (hnx.grown hg1 hsz fun x hx => (ho1.below x hx).1).grown hg2 (by omega) fun x hx => (hm2.below x hx).1
      have hN1 := Lib.hid (hn1'.congr (g := fun i => (lowT T n i : Int)) fun j hj => by
        by_cases e : j < k
        · simp [e]
        · have : j = k := by omega
          subst this; simp [lowT, hkn])
      have hN2 := Lib.hid (hn2.congr (g := fun i => (highT T n i : Int)) fun j hj => by
        by_cases e : j < k
        · simp [e]
        · have : j = k := by omega
          subst this
          have := Nat.mod_lt (T j) (show 0 < 254 by omega)
          simp [highT, hkn]; omega)
      have hNX := Lib.hid hnx'
      have hT2 := Lib.hid ht2
      clear hn1' hn2 hnx' ht2 hn1 ht1 hg1 hg2 hm2 hnx ho1 ho2 htwo hb1 hb2
      go_wp2_with (first
        | (at_builtin; refine Lib.wpList_append_run_sl _ rfl _ _ _ rfl _ _ rfl rfl hr1 ?_)
        | (at_builtin; refine Lib.wpList_append_run_sl _ rfl _ _ _ rfl _ _ rfl rfl hr2 ?_)
        | go_in)
      go_roundw
      case rel => exact ⟨k + 1, by omega, by simp, hN1.out, hN2.out, hT2.out, hNX.out⟩
      case measure => simp [intOf]; omega
    · have hkn : k = n := by omega
      subst hkn
      obtain ⟨v1', w1, hr1, hn1, hg1, hb1⟩ := append_one (P := Try.prog) 22 22 i0 Try.underlying22 HI.out.1 HI.out.2.1 HI.out.2.2.1 (by rw [HI.out.2.2.2]; omega) ho1 (by omega) hsz 0
      have hs1 := hg1.size
      have hm2 := ho2.kept hg1 htwo.symm
      obtain ⟨v2', w2, hr2, hn2, hg2, hb2⟩ := append_one (P := Try.prog) 22 22 i0 Try.underlying22 HI.out.1 HI.out.2.1 HI.out.2.2.1 (by rw [HI.out.2.2.2]; omega) hm2 (by omega) (by omega) 255
      have ht1 : TwoBlocks u5 v1' := htwo.symm.appended (fun x hx => (ho2.below x hx).2) hb1
      have hn1' := hn1.kept hg2 ht1.symm
      have hnx' : Below w.heap.size w w2 := (hnx.grown hg1 hsz fun x hx => (ho1.below x hx).1).grown hg2 (by omega) fun x hx => (hm2.below x hx).1
      have hN1 := Lib.hid (hn1'.congr (g := fun i => (lowT T k i : Int)) fun j hj => by
        by_cases e : j < k
        · simp [e]
        · simp [e, lowT])
      have hN2 := Lib.hid (hn2.congr (g := fun i => (highT T k i : Int)) fun j hj => by
        by_cases e : j < k
        · simp [e]
        · simp [e, highT])
      have hNX := Lib.hid hnx'
      clear hn1' hn2 hnx' hn1 ht1 hg1 hg2 hm2 hnx ho1 ho2 htwo hb1 hb2
      go_wp2_with (first
        | (at_builtin; refine Lib.wpList_append_run_sl _ rfl _ _ _ rfl _ _ rfl rfl hr1 ?_)
        | (at_builtin; refine Lib.wpList_append_run_sl _ rfl _ _ _ rfl _ _ rfl rfl hr2 ?_)
        | go_in)
      go_ret2
      exact ⟨_, _, rfl, hN1.out, hN2.out, below_kept hNX.out⟩

end Go.Proofs.Ytpennngcehbioaa
