/-
  Walks over the copy of a slice of bytes, the check of a text's length, and the check that each place is told once. No condition but those typed.
-/
import Derived.Test.YtpennngcehbioaaIn
namespace Go.Proofs.Ytpennngcehbioaa
open Go.RowKit

set_option maxHeartbeats 1000000 in
set_option maxRecDepth 100000 in
/-- The copy of a slice of n bytes. -/
theorem copied_row (b o n c : Nat) (T : Nat → Nat) (w : World) (hc : ∀ j, j < n → w.cell? ⟨b, o + j, none⟩ = some (.int .u8 (T j : Int))) (h0 : 0 < n) (hn : n ≤ 1073741824) :
    Calls Try.prog 21 #[.slice (some ⟨b, o, none⟩) n c] w fun e w' =>
      ∃ cap, e = .returned (.slice (some ⟨w.heap.size, 0, none⟩) n cap) ∧ n ≤ cap ∧ Row w' .u8 w.heap.size 0 n (fun i => (T i : Int)) ∧ Kept (fun _ _ => False) w w' := by
  obtain ⟨i0, hi, hz0, hz1, hz2⟩ := info_parts info_u8
  obtain ⟨cap, w1, hr, hcap, hR, hk, _⟩ := append_row (P := Try.prog) (c := c) (f := fun i => (T i : Int)) 22 22 5 i0 Try.underlying22 hi hz0 hz1 (by rw [hz2]; omega) hc h0 hn
  clear hc hi hz0 hz1 hz2
  go_enter Try.func21, Try.ntmps21
  go_wp2_with (at_builtin; refine Lib.wpList_append_run_sl w rfl _ _ _ rfl _ _ rfl rfl hr ?_)
  go_ret
  exact ⟨cap, rfl, hcap, hR, hk⟩

set_option maxHeartbeats 1000000 in
set_option maxRecDepth 100000 in
/-- The copy of a slice of no byte. -/
theorem copied_zero (a : Option Addr) (c : Nat) (w : World) :
    Calls Try.prog 21 #[.slice a 0 c] w fun e w' => e = .returned (.slice none 0 0) ∧ Kept (fun _ _ => False) w w' := by
  obtain ⟨i0, hi, hz0, hz1, hz2⟩ := info_parts info_u8
  have hr := append_zero (P := Try.prog) (w := w) 22 22 5 i0 Try.underlying22 hi a c
  clear hi hz0 hz1 hz2
  go_enter Try.func21, Try.ntmps21
  go_wp2_with (at_builtin; refine Lib.wpList_append_run_sl w rfl _ _ _ rfl _ _ rfl rfl hr ?_)
  go_ret
  exact ⟨rfl, Kept.refl _ _⟩

set_option maxHeartbeats 1000000 in
set_option maxRecDepth 100000 in
/-- The check of a text's length. -/
theorem long_any (a : Option Addr) (n c : Nat) (w : World) :
    Calls Try.prog 11 #[.slice a n c] w fun e w' => e = .returned (.bool (decide (1048576 < n))) ∧ w' = w := by
  by_cases hn : 1048576 < n
  · go_enter Try.func11, Try.ntmps11
    go_wp2_with fail
    go_ret
    exact ⟨by simp; omega, rfl⟩
  · go_enter Try.func11, Try.ntmps11
    go_wp2_with fail
    go_ret
    exact ⟨by simp; omega, rfl⟩

/-- A stretch of bools of a block. -/
structure BRow (w : World) (b n : Nat) (p : Nat → Bool) : Prop where
  cell : ∀ j, j < n → w.cell? ⟨b, j, none⟩ = some (.bool (p j))
  free : ∀ j, j < n → w.frozen? ⟨b, j, none⟩ = false
theorem BRow.set {w : World} {b n : Nat} {p : Nat → Bool} (h : BRow w b n p) {i : Nat} (hi : i < n) : BRow (w.setCell ⟨b, i, none⟩ (.bool true)) b n (fun x => p x || decide (x = i)) := by
  refine ⟨fun j hj => ?_, fun j hj => by rw [setCell_frozen]; exact h.free j hj⟩
  by_cases e : j = i
  · subst e; rw [setCell_cell_same (h.cell j hj)]; simp
  · rw [setCell_cell b j (by simp [e]), h.cell j hj]; simp [e]
/-- 'make' of a slice of bools. -/
theorem make_bools (w : World) (i : TypeInfo) (hi : Try.prog.info? 4 = some i) (hz : i.zero = some (.bool false)) (hsz : i.size = 1) (hby : i.bytes = 1) (n : Nat) (hn : n ≤ 1073741824) :
    ∃ w1, (Instr.makeSlice 31 (.int .i64 (n : Int)) (.int .i64 (n : Int))).run Try.prog w = .ok (.slice (some ⟨w.heap.size, 0, none⟩) n n) w1 ∧ BRow w1 w.heap.size n (fun _ => false) ∧ Kept (fun _ _ => False) w w1 ∧ w.heap.size < w1.heap.size := by
  have hb2 : (i.bytes : Int) * (n : Int) ≤ 281474976710656 := by rw [hby]; omega
  have hr := run_make (P := Try.prog) w 31 4 i (.bool false) Try.underlying31 hi hz .i64 .i64 n n (by omega) (Int.le_refl _) hb2 (by omega)
  simp only [Int.toNat_natCast, hsz, Nat.mul_one] at hr
  have hh : (w.alloc (.cells (madeCells (Value.bool false).cells n) 4)).heap[w.heap.size]? = some (.cells (madeCells (Value.bool false).cells n) 4 (0, 0)) := heap_alloc_new w _
  refine ⟨_, hr, ⟨fun j hj => ?_, fun j hj => ?_⟩, Kept.alloc _ _, by rw [heap_alloc_push, Array.size_push]; omega⟩
  · rw [cell_of_row _ w.heap.size j _ 4 (0, 0) hh]
    simp [madeCells, Value.cells, hj, Nat.mod_one]
  · exact free_of_block hh

/-- What is marked when k places were met. -/
def met (g : Nat → Nat) : Nat → Nat → Bool
  | 0 => fun _ => false
  | k + 1 => fun x => met g k x || decide (x = g k)
theorem met_not {g : Nat → Nat} {n : Nat} (hg : ∀ r r', r < n → r' < n → g r = g r' → r = r') {k : Nat} (hk : k < n) : met g k (g k) = false := by
  have : ∀ m, m ≤ k → met g m (g k) = false := fun m => by
    induction m with
    | zero => intro _; rfl
    | succ m ih =>
      intro hm
      simp only [met, ih (by omega), Bool.false_or, decide_eq_false_iff_not]
      intro e
      have := hg k m hk (by omega) e
      omega
  exact this k (Nat.le_refl _)

set_option maxHeartbeats 1600000 in
set_option maxRecDepth 100000 in
/-- Each place is told once. -/
theorem each_row (b o n c : Nat) (g : Nat → Nat) (w : World) (hR : Row w .i64 b o n (fun x => (g x : Int))) (hlt : ∀ x, x < n → g x < n) (hinj : ∀ r r', r < n → r' < n → g r = g r' → r = r') (hn : n ≤ 1073741824) :
    Calls Try.prog 12 #[.slice (some ⟨b, o, none⟩) n c, .int .i64 n] w fun e w' => e = .returned (.bool true) ∧ Kept (fun _ _ => False) w w' := by
  obtain ⟨i0, hi, hz0, hz1, hz2⟩ := info_parts info_bool
  obtain ⟨w1, hmk, hF, hk1, hsz⟩ := make_bools w i0 hi hz0 hz1 hz2 n hn
  have hR1 := hR.keptAll hk1
  have HLT := Lib.hid hlt
  have HINJ := Lib.hid hinj
  clear hlt hinj hi hz0 hz1 hz2
  go_enter Try.func12, Try.ntmps12
  go_wp2_with fail
  go_loopw [12] (fun i wr => ∃ k : Nat, k ≤ n ∧ i = .int .i64 k ∧ BRow wr w.heap.size n (met g k) ∧ Kept (fun _ _ => False) w wr ∧ w.heap.size < wr.heap.size)
    (fun i _ => n - (intOf i).toNat)
  case atStart => exact ⟨0, Nat.zero_le _, rfl, hF, hk1, hsz⟩
  case round =>
    obtain ⟨k, hk, rfl, hB, hK, hS⟩ := hrel
    by_cases hkn : k < n
    · have hgk := HLT.out k hkn
      have hc1 : wr.cell? ⟨b, o + k, none⟩ = some (.int .i64 (g k : Int)) := (hR.keptAll hK).cell k hkn
      have hc2 : wr.cell? ⟨w.heap.size, g k, none⟩ = some (.bool false) := by rw [hB.cell _ hgk, met_not HINJ.out hkn]
      have hf2 : wr.frozen? ⟨w.heap.size, g k, none⟩ = false := hB.free _ hgk
      go_wp2_with fail
      go_roundw
      case rel => exact ⟨k + 1, by omega, by simp, hB.set hgk, hK.fresh (R := reg w.heap.size (g k) 1) (Kept.setCell ⟨rfl, by omega, by omega⟩) fun x y hr => by have := hr.1; omega, by simpa [World.setCell] using hS⟩
      case measure => simp [intOf]; omega
    · have hkn : k = n := by omega
      subst hkn
      go_wp2_with fail
      go_ret
      exact ⟨rfl, hK⟩

set_option maxHeartbeats 1600000 in
set_option maxRecDepth 100000 in
theorem each_zero (a : Option Addr) (c : Nat) (w : World) :
    Calls Try.prog 12 #[.slice a 0 c, .int .i64 0] w fun e w' => e = .returned (.bool true) ∧ Kept (fun _ _ => False) w w' := by
  obtain ⟨i0, hi, hz0, hz1, hz2⟩ := info_parts info_bool
  obtain ⟨w1, hmk, _, hk1, _⟩ := make_bools w i0 hi hz0 hz1 hz2 0 (by omega)
  have hmk2 : (Instr.makeSlice 31 (.int .i64 0) (.int .i64 0)).run Try.prog w = .ok (.slice (some ⟨w.heap.size, 0, none⟩) 0 0) w1 := hmk
  clear hmk hi hz0 hz1 hz2
  go_enter Try.func12, Try.ntmps12
  go_wp2_with fail
  refine wp_loop_rounds 1 ?_
  rw [rounds_succ]
  go_wp2_with fail
  go_ret
  exact ⟨rfl, hk1⟩

end Go.Proofs.Ytpennngcehbioaa
