/-
  Walks over an index of a text: how it is made, its length, its numbers, the text from one of its places on, a stretch of its numbers. No condition but those typed.
-/
import Derived.Test.YtfpihnfhmefeaaaGreatDoorWt832
import Derived.Test.YtfpihnfhmefeaaaGreatDoorCopy
import Derived.Deep.QuietTactic
import Derived.BigQuiet
namespace Go.Proofs.YtfpihnfhmefeaaaGreatDoor
open Go.RowKit

/-- An index of a text: its slice of bytes, its slice of numbers. -/
structure Ix (w : World) (ib : Nat) (da : Option Addr) (tb tc sb n : Nat) (T g : Nat → Nat) : Prop where
  data : w.cell? ⟨ib, 0, none⟩ = some (.slice da n tc)
  c32 : w.cell? ⟨ib, 1, none⟩ = some (.slice (some ⟨sb, 0, none⟩) n n)
  c64 : w.cell? ⟨ib, 2, none⟩ = some (.slice none 0 0)
  text : ∀ j, j < n → w.cell? ⟨tb, 0 + j, none⟩ = some (.int .u8 (T j : Int))
  nums : ∀ j, j < n → w.cell? ⟨sb, 0 + j, none⟩ = some (.int .i32 (g j : Int))
  here : 0 < n → da = some ⟨tb, 0, none⟩
  cap : n ≤ tc
theorem Ix.kept {w w' : World} {ib : Nat} {da : Option Addr} {tb tc sb n : Nat} {T g : Nat → Nat} (h : Ix w ib da tb tc sb n T g) (k : Kept (fun _ _ => False) w w') : Ix w' ib da tb tc sb n T g := by
  have hk : ∀ {x y : Nat} {v : Value}, w.cell? ⟨x, y, none⟩ = some v → w'.cell? ⟨x, y, none⟩ = some v := fun {x y v} hv => by rw [k.cell x y (cell_lt hv) (fun hf => hf)]; exact hv
  exact ⟨hk h.data, hk h.c32, hk h.c64, fun j hj => hk (h.text j hj), fun j hj => hk (h.nums j hj), h.here, h.cap⟩
theorem Ix.drewN {w : World} {ib : Nat} {da : Option Addr} {tb tc sb n : Nat} {T g : Nat → Nat} (h : Ix w ib da tb tc sb n T g) (m : Nat) : Ix (w.drewN m) ib da tb tc sb n T g := h.kept ((Kept.refl _ w).drewN m)

set_option maxHeartbeats 1000000 in
set_option maxRecDepth 100000 in
/-- A number of the index. -/
theorem get_any (ib tb tc sb n r : Nat) (da : Option Addr) (T g : Nat → Nat) (w : World) (h : Ix w ib da tb tc sb n T g) (hr : r < n) (hg : g r < 1073741824) :
    Calls Tryz.prog 44 #[.pointer (some ⟨ib, 1, none⟩), .int .i64 r] w fun e w' => e = .returned (.int .i64 (g r : Int)) ∧ w' = w := by
  have h1 := h.c32
  have h2 := h.c64
  have h3 := h.nums r hr
  rw [Nat.zero_add] at h3
  have q1 : ∀ (w : World) (a : Option Addr) (n c n' c' : Nat), (binOp .neq 51 (.slice a n c) (.slice none n' c')).run Tryz.prog w = .ok (.bool !a.isNone) w := fun w a n c n' c' => run_neq_slice_nil_any w _ _ a n c n' c' Tryz.underlying51
  clear h
  go_enter Tryz.func44, Tryz.ntmps44
  go_wp2_with fail
  go_ret
  exact ⟨rfl, rfl⟩

set_option maxHeartbeats 1000000 in
set_option maxRecDepth 100000 in
/-- How many numbers there are. -/
theorem len_of (ib o m c : Nat) (a : Option Addr) (w : World) (h1 : w.cell? ⟨ib, o, none⟩ = some (.slice a m c)) (h2 : w.cell? ⟨ib, o + 1, none⟩ = some (.slice none 0 0)) (hm : m ≤ 1073741824) :
    Calls Tryz.prog 31 #[.pointer (some ⟨ib, o, none⟩)] w fun e w' => e = .returned (.int .i64 (m : Int)) ∧ ∃ m, w' = w.drewN m := by
  go_enter Tryz.func31, Tryz.ntmps31
  go_wp2_with fail
  go_quiet (fail)
  go_wp2_with fail
  go_ret
  exact ⟨by go_num, nq, rfl⟩

set_option maxHeartbeats 1000000 in
set_option maxRecDepth 100000 in
/-- The text from a place of the index on. -/
theorem at_any (ib tb tc sb n r : Nat) (da : Option Addr) (T g : Nat → Nat) (w : World) (h : Ix w ib da tb tc sb n T g) (hr : r < n) (hg : g r < n) (hn : n ≤ 1073741824) :
    Calls Tryz.prog 52 #[.pointer (some ⟨ib, 0, none⟩), .int .i64 r] w fun e w' => e = .returned (.slice (some ⟨tb, g r, none⟩) (n - g r) (tc - g r)) ∧ ∃ m, w' = w.drewN m := by
  have h0 := h.data
  rw [h.here (by omega)] at h0
  have q0 := h.cap
  have q1 : (g r : Int) ≤ (n : Int) := by omega
  have q2 : ¬ tc = g r := by omega
  have q3 : g r ≤ n := by omega
  have HG := Lib.hid (fun m => get_any ib tb tc sb n r da T g (w.drewN m) (h.drewN m) hr (by omega))
  clear h
  go_enter Tryz.func52, Tryz.ntmps52
  go_wp2_with fail
  go_quiet ((refine Calls.quiet_of_same (HG.out _)))
  go_wp2_with fail
  go_ret
  exact ⟨by simp, nq, rfl⟩

set_option maxHeartbeats 1000000 in
set_option maxRecDepth 100000 in
/-- A stretch of the index's numbers. -/
theorem slice_any (ib tb tc sb n i j : Nat) (da : Option Addr) (T g : Nat → Nat) (w : World) (h : Ix w ib da tb tc sb n T g) (hij : i ≤ j) (hj : j ≤ n) (hn : n ≤ 1073741824) :
    Calls Tryz.prog 33 #[.pointer (some ⟨ib, 1, none⟩), .int .i64 i, .int .i64 j] w fun e w' =>
      ∃ a c, e = .returned (.agg #[.slice a (j - i) c, .slice none 0 0]) ∧ (i < j → a = some ⟨sb, i, none⟩) ∧ Kept (fun _ _ => False) w w' := by
  have h1 := h.c32
  have h2 := h.c64
  have q1 : ∀ (w : World) (a : Option Addr) (n c n' c' : Nat), (binOp .neq 51 (.slice a n c) (.slice none n' c')).run Tryz.prog w = .ok (.bool !a.isNone) w := fun w a n c n' c' => run_neq_slice_nil_any w _ _ a n c n' c' Tryz.underlying51
  have q2 : (i : Int) ≤ (j : Int) := by omega
  have q3 : (j : Int) ≤ (n : Int) := by omega
  have hb : ib < w.heap.size := cell_lt h1
  clear h
  by_cases hin : i = n
  · obtain rfl : j = n := by omega
    subst hin
    go_enter Tryz.func33, Tryz.ntmps33
    go_wp2_with fail
    refine bodyPost_ret (v := .agg #[.slice (some ⟨sb, 0, none⟩) (i - i) 0, .slice none 0 0]) (by simp [results, Tryz.results33, go_sem]) rfl ⟨_, _, rfl, fun h => by omega, Kept.alloc _ _⟩
  · have q4 : ¬ n = i := fun e => hin e.symm
    go_enter Tryz.func33, Tryz.ntmps33
    go_wp2_with fail
    refine bodyPost_ret (v := .agg #[.slice (some ⟨sb, i, none⟩) (j - i) (n - i), .slice none 0 0]) (by simp [results, Tryz.results33, go_sem]) rfl ⟨_, _, rfl, fun _ => rfl, Kept.alloc _ _⟩

end Go.Proofs.YtfpihnfhmefeaaaGreatDoor

