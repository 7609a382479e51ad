/-
  What comes in and goes out: an append onto nothing, a slice of the call's own, arrays of texts of one letter and of none. No condition.
-/
import Derived.Test.YtfpihnfhmefeaaaGreatDoorMake
import Derived.Test.YtfpihnfhmefeaaaGreatDoorRound
import Derived.Below
import Derived.Laws.AppendOwn
import Derived.Lib.SlFresh
namespace Go.Proofs.YtfpihnfhmefeaaaGreatDoor
open Go.RowKit

theorem Kept.below {R : Nat → Nat → Prop} {w w' : World} {B : Nat} (h : Kept R w w') (hR : ∀ x y, x < B → ¬ R x y) (hB : B ≤ w.heap.size) : Below B w w' :=
  ⟨h.os, h.tape, h.output, h.size, fun k hk => h.block k (by omega) fun y => hR k y hk⟩
theorem Kept.nothing {w w' : World} (h : Kept (fun _ _ => False) w w') : Below w.heap.size w w' := h.below (fun _ _ _ hf => hf) (Nat.le_refl _)
theorem below_kept {w w' : World} (h : Below w.heap.size w w') : Kept (fun _ _ => False) w w' :=
  ⟨h.os, h.tape, h.output, h.size, fun x hx _ => h.block x hx, fun x y hx _ => h.cell (p := ⟨x, y, none⟩) hx, fun x y hx => h.frozen (p := ⟨x, y, none⟩) hx⟩
theorem Row.keptAll {w w' : World} {k : IntKind} {b o n : Nat} {f : Nat → Int} (h : Row w k b o n f) (g : Kept (fun _ _ => False) w w') : Row w' k b o n f := h.kept g fun _ _ hf => hf
/-- A stretch of a block that was not there. -/
theorem Kept.fresh {R : Nat → Nat → Prop} {a b c : World} (h : Kept (fun _ _ => False) a b) (g : Kept R b c) (hR : ∀ x y, R x y → a.heap.size ≤ x) : Kept (fun _ _ => False) a c :=
  ((h.mono (S := R) fun _ _ _ hf => hf.elim).trans g).mono fun x y hx hr => by have := hR x y hr; omega

theorem free_of_block {w : World} {g j : Nat} {cur : Array Value} {e : TypeId} (hh : w.heap[g]? = some (.cells cur e (0, 0))) : w.frozen? ⟨g, j, none⟩ = false := by simp [World.frozen?, hh]
/-- A stretch at the head of a block. -/
theorem row_of_block {w : World} {g n : Nat} {cur : Array Value} {e : TypeId} {k : IntKind} {f : Nat → Int} (hh : w.heap[g]? = some (.cells cur e (0, 0))) (hc : ∀ j, j < n → cur[j]? = some (.int k (f j))) : Row w k g 0 n f :=
  ⟨fun j hj => by rw [cell_of_row w g (0 + j) cur e (0, 0) hh, Nat.zero_add]; exact hc j hj, fun _ _ => free_of_block hh⟩
/-- An append of n numbers onto nothing. -/
theorem append_row {P : Program} {w : World} {k : IntKind} {b o n c : Nat} {f : Nat → Int} (t ty e : TypeId) (i : TypeInfo) (ht : P.underlying t = some (.slice e)) (hi : P.info? e = some i) (hz : i.zero = some (.int k 0)) (hsz : i.size = 1) (hby : i.bytes ≤ 8)
    (hc : ∀ j, j < n → w.cell? ⟨b, o + j, none⟩ = some (.int k (f j))) (h0 : 0 < n) (hn : n ≤ 4294967296) :
    ∃ cap w1, (Builtin.append_ #[t, t] ty #[.slice none 0 0, .slice (some ⟨b, o, none⟩) n c]).run P w = .ok (.slice (some ⟨w.heap.size, 0, none⟩) n cap) w1 ∧ n ≤ cap ∧ Row w1 k w.heap.size 0 n f ∧ Kept (fun _ _ => False) w w1 ∧ w.heap.size < w1.heap.size := by
  have hlen : ((List.range n).map fun x => Value.int k (f x)).length = n := by simp
  have hb2 : n * i.bytes ≤ 281474976710656 := by
    have h1 : n * i.bytes ≤ 4294967296 * 8 := Nat.mul_le_mul hn hby
    omega
  have hr := run_append_nil (P := P) w t ty e i (.int k 0) ht hi hz ⟨b, o, none⟩ n c ((List.range n).map fun x => Value.int k (f x)) (by rw [hlen, hsz, Nat.mul_one]) (fun j v hv => by
    have hjn : j < n := by have := (List.getElem?_eq_some_iff.1 hv).1; simpa using this
    have e1 : ((List.range n).map fun x => Value.int k (f x))[j]? = some (.int k (f j)) := by simp [hjn]
    rw [e1] at hv
    rw [Addr.add_lit, hc j hjn]; exact hv) h0 (by omega) hb2
  refine ⟨_, _, hr, grownCap_ge w n 0 e, ?_, ((Kept.refl _ w).drewN 1).trans (Kept.alloc _ _), ?_⟩
  · refine row_of_block (heap_alloc_new w.drew _) fun j hj => ?_
    rw [Array.getElem?_append_left (by simpa using hj)]
    simp [hj]
  · show w.heap.size < (w.heap.push _).size
    simp

/-- An append of nothing onto nothing. -/
theorem append_zero {P : Program} {w : World} (t ty e : TypeId) (i : TypeInfo) (ht : P.underlying t = some (.slice e)) (hi : P.info? e = some i) (a : Option Addr) (c : Nat) :
    (Builtin.append_ #[t, t] ty #[.slice none 0 0, .slice a 0 c]).run P w = .ok (.slice none 0 0) w := by
  cases a <;> simp [Builtin.append_, run_underlying ht, sizeOf, typeInfo, hi, Builtin.lenOf, Builtin.firstCells, loadCells, loadCellsFrom]

/-- A slice of n integers that the call owns. -/
theorem own_row {w : World} {base : Nat} {e : TypeId} {v : Value} {n : Nat} {k : IntKind} {f : Nat → Int} (h : w.ownsRow base e 1 v n ((List.range n).map fun x => Value.int k (f x))) (h0 : 0 < n) :
    ∃ g cap, v = .slice (some ⟨g, 0, none⟩) n cap ∧ base ≤ g ∧ n ≤ cap ∧ Row w k g 0 n f := by
  rcases h.2 with ⟨_, hn⟩ | ⟨g, cap, cur, rfl, hg, hh, hnc, hcm, hcs, htake⟩
  · omega
  · rw [Nat.mul_one] at hcs htake
    refine ⟨g, cap, rfl, hg, hnc, row_of_block hh fun j hj => ?_⟩
    have e1 : ((List.range n).map fun x => Value.int k (f x))[j]? = some (.int k (f j)) := by simp [hj]
    rw [← htake, List.getElem?_take, if_pos hj] at e1
    simpa using e1
theorem own_zero {w : World} {base : Nat} {e : TypeId} {v : Value} {xs : List Value} (h : w.ownsRow base e 1 v 0 xs) : ∃ a cap, v = .slice a 0 cap := by
  rcases h.2 with ⟨h, _⟩ | ⟨g, cap, cur, rfl, _⟩
  · exact ⟨none, 0, h⟩
  · exact ⟨_, _, rfl⟩

/-- The integers' rows of the table of types. -/
theorem info_u8 : (Tryz.prog.info? 5).map (fun i => (i.zero, i.size, i.bytes)) = some (some (.int .u8 0), 1, 1) := by kernel_rfl
theorem info_int : (Tryz.prog.info? 3).map (fun i => (i.zero, i.size, i.bytes)) = some (some (.int .i64 0), 1, 8) := by kernel_rfl
theorem info_bool : (Tryz.prog.info? 4).map (fun i => (i.zero, i.size, i.bytes)) = some (some (.bool false), 1, 1) := by kernel_rfl

/-- The arrays of a text of one letter, of none. -/
theorem isSA_one (T : Nat → Nat) : IsSA T 1 (fun _ => 0) := ⟨fun _ _ => Nat.zero_lt_one, fun _ _ _ _ => by omega⟩
theorem isSA_zero (T : Nat → Nat) (g : Nat → Nat) : IsSA T 0 g := ⟨fun _ h => absurd h (Nat.not_lt_zero _), fun _ _ _ h => absurd h (Nat.not_lt_zero _)⟩
theorem IsSA.inj {T : Nat → Nat} {n : Nat} {g : Nat → Nat} (h : IsSA T n g) {r r' : Nat} (hr : r < n) (hr' : r' < n) (he : g r = g r') : r = r' := by
  have irr : ∀ x, sl T n x x = false := fun x => by simp [sl, List.lt_irrefl]
  rcases Nat.lt_trichotomy r r' with h1 | h1 | h1
  · have := h.inc r r' h1 hr'; rw [he, irr] at this; simp at this
  · exact h1
  · have := h.inc r' r h1 hr; rw [he, irr] at this; simp at this

/-- What the array of a text is, as a slice of integers of the call's own. -/
def ArrPost (T : Nat → Nat) (n : Nat) (w : World) (e : Ending) (w' : World) : Prop :=
  ∃ v g, e = .returned v ∧ IsSA T n g ∧ w'.ownsRow w.heap.size 3 1 v n ((List.range n).map fun x => Value.int .i64 (g x : Int)) ∧ Kept (fun _ _ => False) w w'

end Go.Proofs.YtfpihnfhmefeaaaGreatDoor

