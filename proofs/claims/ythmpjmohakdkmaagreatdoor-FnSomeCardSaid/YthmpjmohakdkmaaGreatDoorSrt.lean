/-
  Walks over slices.Clone, slices.Sort (by its contract) and the sorted copy of some numbers. No condition but those typed.
-/
import Derived.Test.YthmpjmohakdkmaaGreatDoorApp
import Derived.Test.YthmpjmohakdkmaaGreatDoorFound
import Derived.Test.YthmpjmohakdkmaaGreatDoorLayM
namespace Go.Proofs.YthmpjmohakdkmaaGreatDoor
open Go.RowKit

/-- Numbers as a list. -/
def ints (f : Nat → Int) (n : Nat) : List Int := (List.range n).map f
theorem ints_len (f : Nat → Int) (n : Nat) : (ints f n).length = n := by simp [ints]
theorem ints_get (f : Nat → Int) {n x : Nat} (h : x < n) : (ints f n)[x]? = some (f x) := by simp [ints, h]

set_option maxHeartbeats 1000000 in
set_option maxRecDepth 100000 in
/-- slices.Clone at some numbers. -/
theorem clone_row (b o n c : Nat) (f : Nat → Int) (w : World) (hR : Row w .i64 b o n f) (h0 : 0 < n) (hn : n ≤ 1073741824) :
    Calls Tryz.prog 12 #[.slice (some ⟨b, o, none⟩) n c] w fun e w' =>
      ∃ g cap, e = .returned (.slice (some ⟨g, 0, none⟩) n cap) ∧ w.heap.size ≤ g ∧ Row w' .i64 g 0 n f ∧ Kept (fun _ _ => False) w w' := by
  obtain ⟨i0, hi, hz0, hz1, hz2⟩ := info_parts info_int
  have hb : b < w.heap.size := hR.lt h0
  have h2 := World.ownsRow_made (base := w.heap.size) (e := 3) (size := 1) w #[] 0 (by simp) (by unfold maxLen; omega) rfl
  have hsize : (w.alloc (.cells #[] 3)).heap.size = w.heap.size + 1 := by simp
  obtain ⟨v', w', hr, hown, hg, _⟩ := run_append_own (P := Tryz.prog) (w.alloc (.cells #[] 3)) w.heap.size 26 26 3 i0 (.int .i64 0) 1 i0.bytes Tryz.underlying26 hi hz0 hz1 rfl rfl (by omega) (.slice (some ⟨w.heap.size, 0, none⟩) 0 0) 0 [] h2 ⟨b, o, none⟩ n c ((List.range n).map fun x => Value.int .i64 (f x)) (by simp)
    (fun j u hj => by
      have hjn : j < n := by have := (List.getElem?_eq_some_iff.1 hj).1; simpa using this
      have e1 : ((List.range n).map fun x => Value.int .i64 (f x))[j]? = some (.int .i64 (f j)) := by simp [hjn]
      rw [e1] at hj
      rw [Addr.add_lit, World.cell?_alloc_past _ _ _ (by exact hb), hR.cell j hjn]; exact hj)
    (fun u hu => by simp only [List.mem_map] at hu; obtain ⟨x, _, rfl⟩ := hu; rfl) (by unfold maxLen; omega) (by rw [hz2]; omega) (by rw [hsize]; omega)
  have hk : Kept (fun _ _ => False) w w' := below_kept (((Below.refl _ _).alloc (Nat.le_refl _) _).grown hg (by rw [hsize]; omega) fun x hx => by simp [Value.ownBlock] at hx; omega)
  rw [List.nil_append, Nat.zero_add] at hown
  obtain ⟨g, cap, rfl, hgb, _, hR'⟩ := own_row hown h0
  have HR := Lib.hid hR'
  have HK := Lib.hid hk
  clear hi hz0 hz1 hz2 hR hown hg h2 hR' hk
  have q1 : ∀ (w : World) (a : Option Addr) (n c n' c' : Nat), (binOp .eql 26 (.slice a n c) (.slice none n' c')).run Tryz.prog w = .ok (.bool a.isNone) w := fun w a n c n' c' => Lib.run_eql_slice_nil w _ _ a n c n' c' Tryz.underlying26
  go_enter Tryz.func12, Tryz.ntmps12
  go_wp2_with (at_builtin; refine Lib.wpList_append_run_sl _ rfl _ _ _ rfl _ _ rfl rfl hr ?_)
  go_ret
  exact ⟨g, cap, rfl, hgb, HR.out, HK.out⟩

set_option maxHeartbeats 1000000 in
set_option maxRecDepth 100000 in
/-- slices.Clone at no number. -/
theorem clone_zero (a : Option Addr) (c : Nat) (w : World) :
    Calls Tryz.prog 12 #[.slice a 0 c] w fun e w' => ∃ a' c', e = .returned (.slice a' 0 c') ∧ Kept (fun _ _ => False) w w' := by
  obtain ⟨i0, hi, hz0, hz1, hz2⟩ := info_parts info_int
  have q1 : ∀ (w : World) (a : Option Addr) (n c n' c' : Nat), (binOp .eql 26 (.slice a n c) (.slice none n' c')).run Tryz.prog w = .ok (.bool a.isNone) w := fun w a n c n' c' => Lib.run_eql_slice_nil w _ _ a n c n' c' Tryz.underlying26
  cases a with
  | none =>
    go_enter Tryz.func12, Tryz.ntmps12
    go_wp2_with fail
    go_ret
    exact ⟨_, _, rfl, Kept.refl _ _⟩
  | some a =>
    have h2 := World.ownsRow_made (base := w.heap.size) (e := 3) (size := 1) w #[] 0 (by simp) (by unfold maxLen; omega) rfl
    have hsize : (w.alloc (.cells #[] 3)).heap.size = w.heap.size + 1 := by simp
    obtain ⟨v', w', hr, hown, hg, _⟩ := run_append_own (P := Tryz.prog) (w.alloc (.cells #[] 3)) w.heap.size 26 26 3 i0 (.int .i64 0) 1 i0.bytes Tryz.underlying26 hi hz0 hz1 rfl rfl (by omega) (.slice (some ⟨w.heap.size, 0, none⟩) 0 0) 0 [] h2 a 0 c [] (by simp)
      (fun j u hj => by simp at hj) (fun u hu => by simp at hu) (by unfold maxLen; omega) (by rw [hz2]; omega) (by rw [hsize]; omega)
    have hk : Kept (fun _ _ => False) w w' := below_kept (((Below.refl _ _).alloc (Nat.le_refl _) _).grown hg (by rw [hsize]; omega) fun x hx => by simp [Value.ownBlock] at hx; omega)
    obtain ⟨a', cap, rfl⟩ := own_zero hown
    have HK := Lib.hid hk
    clear hi hz0 hz1 hz2 hown hg h2 hk
    go_enter Tryz.func12, Tryz.ntmps12
    go_wp2_with (at_builtin; refine Lib.wpList_append_run_sl _ rfl _ _ _ rfl _ _ rfl rfl hr ?_)
    go_ret
    exact ⟨⟨a', cap, rfl⟩, HK.out⟩

/-- slices.Sort at some numbers. -/
theorem sort_row (g n cap : Nat) (f : Nat → Int) (w : World) (h0 : 0 < n) (hn : n ≤ 1073741824) (hR : Row w .i64 g 0 n f) :
    Calls Tryz.prog 13 #[.slice (some ⟨g, 0, none⟩) n cap] w fun e w' =>
      e = .returned (.tuple #[]) ∧ Row w' .i64 g 0 n (fun x => (up (ints f n)).getD x 0) ∧ Kept (reg g 0 n) w w' := by
  have hgl : g < w.heap.size := hR.lt h0
  have hH : Go.Sort.Holds (Value.int .i64) w g 0 (ints f n).toArray := fun j hj => by
    have hj' : j < n := by simpa [ints] using hj
    have : (ints f n).toArray[j]! = f j := by rw [getElem!_pos (ints f n).toArray j hj]; simp [ints]
    rw [this]
    exact ⟨hR.cell j hj', hR.free j hj'⟩
  have hS := AnyM.slices_Sort_int Tryz.srtL g 0 cap (ints f n) w hH hgl (by rw [ints_len]; omega)
  rw [ints_len] at hS
  change Calls Tryz.prog 13 _ _ _ at hS
  refine hS.mono ?_
  rintro e w' ⟨rfl, m, os, rfl⟩
  have hlen : (up (ints f n)).length = n := by rw [up_length, ints_len]
  have hsz : ((up (ints f n)).toArray).size = n := by simpa using hlen
  refine ⟨rfl, ?_, ?_⟩
  · have h1 := Go.Sort.holds_grow _ _ os g 0 (up (ints f n)).toArray (by simpa using hgl) (Go.Sort.holds_putRow (Value.int .i64) (Go.Sort.ahead w m) g 0 (ints f n).toArray (up (ints f n)).toArray hH (by rw [hsz]; simp [ints]))
    refine ⟨fun j hj => ?_, fun j hj => (h1 j (by omega)).2⟩
    have h2 := (h1 j (by omega)).1
    rw [getElem!_pos (up (ints f n)).toArray j (by omega)] at h2
    rw [show (up (ints f n)).getD j 0 = (up (ints f n)).toArray[j]'(by omega) by simp [List.getD, show j < (up (ints f n)).length by omega]]
    exact h2
  · have k1 : Kept (reg g 0 n) w (Go.Sort.putRow (Value.int .i64) (Go.Sort.ahead w m) g 0 (up (ints f n)).toArray) := by
      refine ⟨rfl, rfl, rfl, by simp, fun x hx hr => ?_, fun x y hx hr => ?_, fun x y hx => by rw [Go.Sort.frozen?_putRow]; rfl⟩
      · have hne : x ≠ g := fun e => hr 0 ⟨e, Nat.zero_le _, by omega⟩
        unfold Go.Sort.putRow Go.Sort.mapBlock
        simp [Array.getElem?_modify, Ne.symm hne]
      · rw [Go.Sort.cell?_putRow_other _ _ _ _ _ _ (by
          by_cases e : x = g
          · right; right
            unfold reg at hr
            show 0 + (up (ints f n)).toArray.size ≤ y
            omega
          · left; exact e)]
        rfl
    refine k1.trans ⟨rfl, rfl, rfl, by simp, fun x hx _ => Go.Sort.heap_grow_old _ os hx, fun x y hx _ => Go.Sort.cell?_grow _ os _ hx, fun x y hx => Go.Sort.frozen?_grow _ os _ hx⟩

set_option maxHeartbeats 1000000 in
set_option maxRecDepth 100000 in
/-- The sorted copy of some numbers. -/
theorem sorted_row (b o n c : Nat) (f : Nat → Int) (w : World) (hR : Row w .i64 b o n f) (h0 : 0 < n) (hn : n ≤ 1073741824) :
    Calls Tryz.prog 7 #[.slice (some ⟨b, o, none⟩) n c] w fun e w' =>
      ∃ g cap, e = .returned (.slice (some ⟨g, 0, none⟩) n cap) ∧ Row w' .i64 g 0 n (fun x => (up (ints f n)).getD x 0) ∧ Kept (fun _ _ => False) w w' := by
  go_enter Tryz.func7, Tryz.ntmps7
  go_wp2_with fail
  refine (clone_row b o n c f w hR h0 hn).mono ?_
  rintro e w1 ⟨g, cap, rfl, hg, hR1, hk1⟩
  go_wp2_with fail
  refine (sort_row g n cap f w1 h0 hn hR1).mono ?_
  rintro e w2 ⟨rfl, hR2, hk2⟩
  go_wp2_with fail
  go_ret
  exact ⟨g, cap, rfl, hR2, hk1.fresh hk2 fun x y hr => by have := hr.1; omega⟩

set_option maxHeartbeats 1000000 in
set_option maxRecDepth 100000 in
/-- The sorted copy of no number. -/
theorem sorted_zero (a : Option Addr) (c : Nat) (w : World) :
    Calls Tryz.prog 7 #[.slice a 0 c] w fun e w' => ∃ a' c', e = .returned (.slice a' 0 c') ∧ Kept (fun _ _ => False) w w' := by
  have hS := fun a c W => AnyM.slices_Sort_int_none (P := Tryz.prog) (ρ := Tryz.srtL_ren) { Tryz.srtL with } a c W
  change ∀ a c W, Calls Tryz.prog 13 _ _ _ at hS
  go_enter Tryz.func7, Tryz.ntmps7
  go_wp2_with fail
  refine (clone_zero a c w).mono ?_
  rintro e w1 ⟨a1, c1, rfl, hk1⟩
  go_wp2_with fail
  refine (hS a1 c1 w1).mono ?_
  rintro e w2 ⟨rfl, rfl⟩
  go_wp2_with fail
  go_ret
  exact ⟨a1, c1, rfl, hk1⟩

end Go.Proofs.YthmpjmohakdkmaaGreatDoor
