/-
  Walks over the places of a piece as the specification tells them, over the search of a number in a slice, and over the check of sizes. No condition but those typed.
-/
import Derived.Test.YthmpjmohakdkmaaDoorIml
import Derived.Test.YthmpjmohakdkmaaDoorApp
namespace Go.Proofs.YthmpjmohakdkmaaDoor
open Go.RowKit

/-- The places below k where a piece stands. -/
def upTo (T : Nat → Nat) (n : Nat) (s : List UInt8) (k : Nat) : List Nat := (List.range k).filter fun x => s.isPrefixOf (sg T n x)
theorem upTo_yes {T : Nat → Nat} {n : Nat} {s : List UInt8} {k : Nat} (h : s.isPrefixOf (sg T n k) = true) : upTo T n s (k + 1) = upTo T n s k ++ [k] := by simp [upTo, List.range_succ, h]
theorem upTo_no {T : Nat → Nat} {n : Nat} {s : List UInt8} {k : Nat} (h : s.isPrefixOf (sg T n k) = false) : upTo T n s (k + 1) = upTo T n s k := by simp [upTo, List.range_succ, h]
theorem upTo_len (T : Nat → Nat) (n : Nat) (s : List UInt8) (k : Nat) : (upTo T n s k).length ≤ k := Nat.le_trans (List.length_filter_le _ _) (by simp)

/-- A list of numbers that is told: none, or a stretch. -/
def ListPost (l : List Nat) (w : World) (e : Ending) (w' : World) : Prop :=
  ∃ v, e = .returned v ∧ (l.length = 0 → ∃ a' c', v = .slice a' 0 c') ∧ (0 < l.length → ∃ rb cap, v = .slice (some ⟨rb, 0, none⟩) l.length cap ∧ Row w' .i64 rb 0 l.length (fun x => (l.getD x 0 : Int))) ∧ Kept (fun _ _ => False) w w'
theorem own_list {l : List Nat} {w w' : World} {v : Value} (h : OwnL w' w.heap.size 3 .i64 v l.length (fun x => (l.getD x 0 : Int))) (hk : Kept (fun _ _ => False) w w') : ListPost l w (.returned v) w' := by
  refine ⟨v, rfl, fun h0 => ?_, fun h0 => ?_, hk⟩
  · rw [h0] at h
    exact own_zero h
  · obtain ⟨g, cap, rfl, _, _, hR⟩ := own_row h h0
    exact ⟨g, cap, rfl, hR⟩

set_option maxHeartbeats 4000000 in
set_option maxRecDepth 100000 in
/-- The places of a piece of some bytes. -/
theorem places_some (a : Option Addr) (n c : Nat) (T : Nat → Nat) (qb qo m d : Nat) (S : Nat → Nat) (w : World) (hin : Came w a n T) (hT : ∀ i, i < n → T i < 256) (hq : ∀ j, j < m → w.cell? ⟨qb, qo + j, none⟩ = some (.int .u8 (S j : Int))) (hS : ∀ i, i < m → S i < 256) (hm : 0 < m) (hn : n ≤ 1048576) (hmn : m ≤ 4294967296) (hnc : n ≤ c) :
    Calls Tryd.prog 12 #[.slice a n c, .slice (some ⟨qb, qo, none⟩) m d] w (ListPost (plcs T n (sg S m 0)) w) := by
  have hsne : sg S m 0 ≠ [] := by rw [sg_step S m 0 hm]; simp
  have hpl : plcs T n (sg S m 0) = upTo T n (sg S m 0) (n + 1 - m) := (if_neg hsne).trans (places_cut hT hS hm)
  rw [hpl]
  obtain ⟨i0, hi, hz0, hz1, hz2⟩ := info_parts info_int
  have HI := Lib.hid (And.intro hi (And.intro hz0 (And.intro hz1 hz2)))
  have HIN := Lib.hid hin
  have HQ := Lib.hid hq
  have hqb : qb < w.heap.size := cell_lt (hq 0 hm)
  have HPRE : Hid (∀ k, k + m ≤ n → (sg S m 0).isPrefixOf (sg T n k) = (Lib.bytesOf (lst (fun x => T (k + x)) m) == Lib.bytesOf (lst S m))) := Lib.hid fun k hk => by
    have := pre_iff (fun x => T (k + x)) S (n - k) m
    rw [decide_eq_true (show m ≤ n - k by omega), Bool.true_and] at this
    rw [← this, ← lst_zero, ← lst_at]
  clear hin hT hq hS hpl hsne hi hz0 hz1 hz2
  generalize sg S m 0 = s at *
  go_enter Tryd.func12, Tryd.ntmps12
  go_wp2
  go_loopw [5, 6] (fun v i wr => ∃ k : Nat, k ≤ n + 1 - m ∧ i = .int .i64 k ∧ OwnL wr w.heap.size 3 .i64 v (upTo T n s k).length (fun x => ((upTo T n s k).getD x 0 : Int)) ∧ Below w.heap.size w wr)
    (fun _ i _ => n + 1 - m - (intOf i).toNat)
  case atStart =>
    exact ⟨0, Nat.zero_le _, rfl, World.ownsRow_made (base := w.heap.size) (e := 3) (size := 1) w #[] 0 (by simp) (by unfold maxLen; omega) rfl, (Below.refl _ _).alloc (Nat.le_refl _) _⟩
  case round =>
    obtain ⟨k, hk, rfl, ho, hnx⟩ := hrel
    have hsz := hnx.size
    have q1 : (0 : Int) < (m : Int) := by omega
    by_cases hkn : k + m ≤ n
    · obtain ⟨b, o, rfl, hc⟩ := HIN.out (by omega)
      have hb : b < w.heap.size := cell_lt (hc 0 (by omega))
      have HE := Lib.hid (fun cc => equal_two b (o + k) m cc qb qo m d (fun x => T (k + x)) S wr (fun j hj => by rw [Nat.add_assoc]; exact (hnx.cell hb).trans (hc (k + j) (by omega))) (fun j hj => (hnx.cell hqb).trans (HQ.out j hj)))
      have hpre := HPRE.out k hkn
      have q2 : (k : Int) + (m : Int) ≤ (n : Int) := by omega
      have q3 : (k : Int) + (m : Int) ≤ (c : Int) := by omega
      have q4 : ¬ c = k := by omega
      have hlen := upTo_len T n s k
      clear hc
      cases hp : s.isPrefixOf (sg T n k) with
      | true =>
        rw [hp] at hpre
        rw [← hpre] at HE
        obtain ⟨v', w1, hr1, hn1, hg1, _⟩ := append_one (P := Tryd.prog) 26 26 i0 Tryd.underlying26 HI.out.1 HI.out.2.1 HI.out.2.2.1 (by rw [HI.out.2.2.2]; omega) ho (by omega) hsz (k : Int)
        have hs1 := hg1.size
        have hnx' : Below w.heap.size w w1 := hnx.grown hg1 hsz fun x hx => (ho.below x hx).1
        have hN1 : OwnL w1 w.heap.size 3 .i64 v' (upTo T n s (k + 1)).length (fun x => ((upTo T n s (k + 1)).getD x 0 : Int)) := by
          rw [upTo_yes hp, List.length_append]
          refine hn1.congr fun j hj => ?_
          by_cases e : j < (upTo T n s k).length
          · simp [e, List.getD, List.getElem?_append_left e]
          · have hj' : j < (upTo T n s k).length + 1 := hj
            have : j = (upTo T n s k).length := by omega
            subst this; simp [List.getD]
        have HN1 := Lib.hid hN1
        have HNX := Lib.hid hnx'
        clear hn1 hN1 hg1 ho hnx hnx' hpre hp
        go_wp2_with fail
        refine (HE.out _).mono ?_
        rintro e w2 ⟨rfl, rfl⟩
        go_wp2_with (at_builtin; refine Lib.wpList_append_run_sl _ rfl _ _ _ rfl _ _ rfl rfl hr1 ?_)
        go_roundw
        case rel => exact ⟨k + 1, by omega, by simp, HN1.out, HNX.out⟩
        case measure => simp [intOf]; omega
      | false =>
        rw [hp] at hpre
        rw [← hpre] at HE
        rw [← upTo_no hp] at ho
        have HO := Lib.hid ho
        have HNX := Lib.hid hnx
        clear ho hnx hpre hp
        go_wp2_with fail
        refine (HE.out _).mono ?_
        rintro e w2 ⟨rfl, rfl⟩
        go_wp2_with fail
        go_roundw
        case rel => exact ⟨k + 1, by omega, by simp, HO.out, HNX.out⟩
        case measure => simp [intOf]; omega
    · have hkn : k = n + 1 - m := by omega
      have q2 : ¬ (k : Int) + (m : Int) ≤ (n : Int) := by omega
      have HO := Lib.hid (own_list ho (below_kept hnx))
      clear ho hnx
      go_wp2_with fail
      go_ret
      rw [← hkn]
      exact HO.out

set_option maxHeartbeats 1000000 in
set_option maxRecDepth 100000 in
/-- The places of a piece of nothing. -/
theorem places_none (a : Option Addr) (n c : Nat) (T : Nat → Nat) (b : Option Addr) (d : Nat) (w : World) :
    Calls Tryd.prog 12 #[.slice a n c, .slice b 0 d] w (ListPost (plcs T n []) w) := by
  rw [plcs_nil]
  go_enter Tryd.func12, Tryd.ntmps12
  go_wp2
  refine wp_loop_rounds 1 ?_
  rw [rounds_succ]
  go_wp2_with fail
  go_ret
  exact ⟨_, rfl, fun _ => ⟨_, _, rfl⟩, fun h => absurd h (Nat.not_lt_zero _), Kept.alloc _ _⟩

theorem places_any (a : Option Addr) (n c : Nat) (T : Nat → Nat) (b : Option Addr) (m d : Nat) (S : Nat → Nat) (w : World) (hin : Came w a n T) (hT : ∀ i, i < n → T i < 256) (hq : Came w b m S) (hS : ∀ i, i < m → S i < 256) (hn : n ≤ 1048576) (hmn : m ≤ 4294967296) (hnc : n ≤ c) :
    Calls Tryd.prog 12 #[.slice a n c, .slice b m d] w (ListPost (plcs T n (sg S m 0)) w) := by
  by_cases hm : m = 0
  · subst hm
    rw [show sg S 0 0 = [] from sg_n S 0]
    exact places_none a n c T b d w
  · obtain ⟨qb, qo, rfl, hc⟩ := hq (by omega)
    exact places_some a n c T qb qo m d S w hin hT hc hS (by omega) hn hmn hnc

set_option maxHeartbeats 1600000 in
set_option maxRecDepth 100000 in
/-- The check of one size. -/
theorem beyond_one (b m : Nat) (w : World) (hc : w.cell? ⟨b, 0, none⟩ = some (.int .i64 m)) :
    Calls Tryd.prog 10 #[.slice (some ⟨b, 0, none⟩) 1 1] w fun e w' => e = .returned (.bool (decide (1048576 < m))) ∧ w' = w := by
  by_cases hm : 1048576 < m
  · rw [decide_eq_true hm]
    have q1 : (1048576 : Int) < (m : Int) := by omega
    go_enter Tryd.func10, Tryd.ntmps10
    go_wp2
    refine wp_loop_rounds 1 ?_
    rw [rounds_succ]
    go_wp2_with fail
    go_ret
    exact ⟨rfl, rfl⟩
  · rw [decide_eq_false hm]
    have q1 : ¬ (1048576 : Int) < (m : Int) := by omega
    go_enter Tryd.func10, Tryd.ntmps10
    go_wp2
    refine wp_loop_rounds 2 ?_
    rw [rounds_succ]
    go_wp2_with fail
    rw [rounds_succ]
    go_wp2_with fail
    go_ret
    exact ⟨rfl, rfl⟩

end Go.Proofs.YthmpjmohakdkmaaDoor
