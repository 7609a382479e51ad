/-
  An append of one number to a slice of the call's own, and whose block it then lies in. No condition.
-/
import Derived.Test.YthmpjmohakdkmaaDoorIn
namespace Go.Proofs.YthmpjmohakdkmaaDoor
open Go.RowKit

/-- A slice of n numbers that the call owns. -/
def OwnL (w : World) (B : Nat) (e : TypeId) (k : IntKind) (v : Value) (n : Nat) (f : Nat → Int) : Prop := w.ownsRow B e 1 v n ((List.range n).map fun x => Value.int k (f x))
/-- Two slices of the call's own lie in two blocks. -/
def TwoBlocks (v u : Value) : Prop := ∀ g, v.ownBlock = some g → u.ownBlock ≠ some g

section
variable {w w' : World} {B : Nat} {e : TypeId} {k : IntKind} {v u : Value} {n : Nat} {f g : Nat → Int}
theorem OwnL.congr (h : OwnL w B e k v n f) (he : ∀ j, j < n → f j = g j) : OwnL w B e k v n g := by
  have : ((List.range n).map fun x => Value.int k (f x)) = (List.range n).map fun x => Value.int k (g x) := List.map_congr_left fun x hx => by rw [he x (by simpa using hx)]
  unfold OwnL at *
  rw [← this]; exact h
theorem OwnL.kept (h : OwnL w B e k v n f) (hg : w.grownBy w' u.ownBlock) (h2 : TwoBlocks v u) : OwnL w' B e k v n f := by
  refine World.ownsRow.kept h hg ?_
  cases hv : v.ownBlock with
  | none => exact .inl rfl
  | some x => exact .inr fun e => h2 x hv e.symm
theorem OwnL.keptAll (h : OwnL w B e k v n f) (hk : Kept (fun _ _ => False) w w') : OwnL w' B e k v n f :=
  World.ownsRow.kept (row := none) h ⟨hk.os, hk.tape, hk.output, hk.size, fun y hy _ => hk.block y hy fun _ hf => hf⟩ (by
    cases hv : v.ownBlock with
    | none => exact .inl rfl
    | some x => exact .inr fun e => by cases e)
theorem OwnL.below (h : OwnL w B e k v n f) : ∀ x, v.ownBlock = some x → B ≤ x ∧ x < w.heap.size := World.ownsRow.lt h
theorem TwoBlocks.symm (h : TwoBlocks v u) : TwoBlocks u v := fun x h1 h2 => h x h2 h1

/-- An append of one number. -/
theorem append_one {P : Program} (t ty : TypeId) (i : TypeInfo) (ht : P.underlying t = some (.slice e)) (hi : P.info? e = some i) (hz : i.zero = some (.int k 0)) (hsz : i.size = 1) (hby : i.bytes ≤ 8)
    (h : OwnL w B e k v n f) (hn : n < 1073741824) (hB : B ≤ w.heap.size) (x : Int) :
    ∃ v' w', (Builtin.append_ #[t, t] ty #[v, .slice (some ⟨w.heap.size, 0, none⟩) 1 1]).run P (w.alloc (.cells #[.int k x] e)) = .ok v' w' ∧ OwnL w' B e k v' (n + 1) (fun j => if j < n then f j else x) ∧ w.grownBy w' v.ownBlock ∧
      (v'.ownBlock = v.ownBlock ∨ ∃ b, v'.ownBlock = some b ∧ w.heap.size ≤ b) := by
  have hal : OwnL (w.alloc (.cells #[.int k x] e)) B e k v n f := World.ownsRow.alloc h _
  have hnews : ∀ j u, [Value.int k x][j]? = some u → (w.alloc (.cells #[.int k x] e)).cell? ((⟨w.heap.size, 0, none⟩ : Addr).add j) = some u := fun j u hj => by
    match j, hj with
    | 0, hj => simp at hj; subst hj; simp [Addr.add]
  have h1 : ∀ u ∈ [Value.int k x], u.oneCell' = true := fun u hu => by simp at hu; subst hu; rfl
  have hbytes : (n + 1) * i.bytes ≤ 140737488355328 := by
    have : (n + 1) * i.bytes ≤ 1073741824 * 8 := Nat.mul_le_mul (by omega) hby
    omega
  obtain ⟨v', w', hr, hown, hg, _⟩ := run_append_own (P := P) (w.alloc (.cells #[.int k x] e)) B t ty e i (.int k 0) 1 i.bytes ht hi hz hsz rfl rfl (by omega) v n _ hal ⟨w.heap.size, 0, none⟩ 1 1 [.int k x] rfl hnews h1 (by unfold maxLen; omega) hbytes (by simp; omega)
  have hsize : (w.alloc (.cells #[.int k x] e)).heap.size = w.heap.size + 1 := by simp
  refine ⟨v', w', hr, ?_, ⟨hg.os, hg.tape, hg.output, by have := hg.size; omega, fun y hy hne => (hg.block y (by omega) hne).trans (Below.heap_alloc w _ y hy)⟩, ?_⟩
  · unfold OwnL
    have : ((List.range n).map fun y => Value.int k (f y)) ++ [Value.int k x] = (List.range (n + 1)).map fun y => Value.int k (if y < n then f y else x) := by
      rw [List.range_succ, List.map_append]
      congr 1
      · exact List.map_congr_left fun y hy => by rw [if_pos (by simpa using hy)]
      · simp
    rw [← this]; exact hown
  · rcases hal.2 with ⟨rfl, rfl⟩ | ⟨b, cap, cur, rfl, hb, hbb, hnc, hcm, hcs, htake⟩
    · have := run_append_nil (P := P) (w.alloc (.cells #[.int k x] e)) t ty e i (.int k 0) ht hi hz ⟨w.heap.size, 0, none⟩ 1 1 [.int k x] (by rw [hsz]; rfl) hnews (by omega) (by omega) (by omega)
      rw [hr] at this
      simp only [Result.ok.injEq] at this
      rw [this.1]
      exact .inr ⟨_, rfl, by show w.heap.size ≤ (w.alloc _).heap.size; rw [hsize]; omega⟩
    · by_cases hroom : n + 1 ≤ cap
      · have := run_append_room (P := P) (w.alloc (.cells #[.int k x] e)) t ty e i ht hi b n cap cur hbb ⟨w.heap.size, 0, none⟩ 1 1 [.int k x] (by rw [hsz]; rfl) hnews h1 hroom (by rw [hsz, hcs]; simp; omega)
        rw [hr] at this
        simp only [Result.ok.injEq] at this
        rw [this.1]
        exact .inl rfl
      · have := run_append_grow (P := P) (w.alloc (.cells #[.int k x] e)) t ty e i (.int k 0) ht hi hz ⟨b, 0, none⟩ n cap _ (by rw [hsz]; exact hal.1) (fun j u hj => World.ownsRow.cells hal (g := b) rfl j u hj) ⟨w.heap.size, 0, none⟩ 1 1 [.int k x] (by rw [hsz]; rfl) hnews (by omega) (by omega) (growslice_fits (by omega) hbytes)
        rw [hr] at this
        simp only [Result.ok.injEq] at this
        rw [this.1]
        exact .inr ⟨_, rfl, by show w.heap.size ≤ (w.alloc _).heap.size; rw [hsize]; omega⟩

/-- Behind an append: the other slice lies elsewhere still. -/
theorem TwoBlocks.appended {v' : Value} (h : TwoBlocks u v) (hu : ∀ x, u.ownBlock = some x → x < w.heap.size) (hb : v'.ownBlock = v.ownBlock ∨ ∃ b, v'.ownBlock = some b ∧ w.heap.size ≤ b) : TwoBlocks u v' := fun x h1 h2 => by
  rcases hb with hb | ⟨b, hb, hle⟩
  · rw [hb] at h2; exact h x h1 h2
  · rw [hb] at h2
    have := hu x h1
    simp at h2; omega
end

end Go.Proofs.YthmpjmohakdkmaaDoor
