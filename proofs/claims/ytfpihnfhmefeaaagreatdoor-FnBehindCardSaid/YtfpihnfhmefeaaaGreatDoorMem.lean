/-
  Stretches of cells that hold integers, what a call leaves unturned, and the laws of a load, a store, a draw and a new block for them. No condition.
-/
import Derived.Test.YtfpihnfhmefeaaaGreatDoorRows
import Derived.Test.YtfpihnfhmefeaaaGreatDoorCnt
import Derived.WalkKit
import Derived.WalkSpells
import Derived.WalkLawsBesides
import Derived.CellFam
import Derived.BigQuiet
import Derived.Deep.QuietTactic
import Derived.Deep.Draws
import Derived.Deep.Cut
import Derived.Deep.CutRange
import Derived.Deep.CutBlock
import Derived.Deep.LoopGhost
import Derived.Deep.DeepFit
import Derived.Lib.Hide
import Derived.Lib.SliceRun
namespace Go.Proofs.YtfpihnfhmefeaaaGreatDoor
open Go.RowKit

/-- The cells from o on of block b hold the n integers of f, and may be written. -/
structure Row (w : World) (k : IntKind) (b o n : Nat) (f : Nat → Int) : Prop where
  cell : ∀ j, j < n → w.cell? ⟨b, o + j, none⟩ = some (.int k (f j))
  free : ∀ j, j < n → w.frozen? ⟨b, o + j, none⟩ = false

/-- The places of a stretch. -/
def reg (b o n : Nat) : Nat → Nat → Prop := fun x y => x = b ∧ o ≤ y ∧ y < o + n

/-- But for the places of R, what was there is as it was. -/
structure Kept (R : Nat → Nat → Prop) (w w' : World) : Prop where
  os : w'.os = w.os
  tape : w'.tape = w.tape
  output : w'.output = w.output
  size : w.heap.size ≤ w'.heap.size
  block : ∀ x, x < w.heap.size → (∀ y, ¬ R x y) → w'.heap[x]? = w.heap[x]?
  cell : ∀ x y, x < w.heap.size → ¬ R x y → w'.cell? ⟨x, y, none⟩ = w.cell? ⟨x, y, none⟩
  frozen : ∀ x y, x < w.heap.size → w'.frozen? ⟨x, y, none⟩ = w.frozen? ⟨x, y, none⟩

theorem Kept.refl (R : Nat → Nat → Prop) (w : World) : Kept R w w := ⟨rfl, rfl, rfl, Nat.le_refl _, fun _ _ _ => rfl, fun _ _ _ _ => rfl, fun _ _ _ => rfl⟩
theorem Kept.trans {R : Nat → Nat → Prop} {a b c : World} (h : Kept R a b) (g : Kept R b c) : Kept R a c :=
  ⟨g.os.trans h.os, g.tape.trans h.tape, g.output.trans h.output, Nat.le_trans h.size g.size,
    fun x hx hr => (g.block x (Nat.lt_of_lt_of_le hx h.size) hr).trans (h.block x hx hr),
    fun x y hx hr => (g.cell x y (Nat.lt_of_lt_of_le hx h.size) hr).trans (h.cell x y hx hr),
    fun x y hx => (g.frozen x y (Nat.lt_of_lt_of_le hx h.size)).trans (h.frozen x y hx)⟩
/-- What is kept but for R is kept but for more; places that were not there yet count for nothing. -/
theorem Kept.mono {R S : Nat → Nat → Prop} {a b : World} (h : Kept R a b) (hs : ∀ x y, x < a.heap.size → R x y → S x y) : Kept S a b :=
  ⟨h.os, h.tape, h.output, h.size, fun x hx hr => h.block x hx fun y hy => hr y (hs x y hx hy), fun x y hx hr => h.cell x y hx fun hy => hr (hs x y hx hy), h.frozen⟩
theorem Kept.drewN {R : Nat → Nat → Prop} {a b : World} (h : Kept R a b) (n : Nat) : Kept R a (b.drewN n) := ⟨h.os, h.tape, h.output, h.size, h.block, h.cell, h.frozen⟩
theorem Kept.drew {R : Nat → Nat → Prop} {a b : World} (h : Kept R a b) : Kept R a b.drew := ⟨h.os, h.tape, h.output, h.size, h.block, h.cell, h.frozen⟩
theorem Row.drewN {w : World} {k : IntKind} {b o n : Nat} {f : Nat → Int} (h : Row w k b o n f) (m : Nat) : Row (w.drewN m) k b o n f := ⟨h.cell, h.free⟩
theorem Row.drew {w : World} {k : IntKind} {b o n : Nat} {f : Nat → Int} (h : Row w k b o n f) : Row w.drew k b o n f := ⟨h.cell, h.free⟩

theorem cell_lt {w : World} {x y : Nat} {v : Value} (h : w.cell? ⟨x, y, none⟩ = some v) : x < w.heap.size := by
  rcases Nat.lt_or_ge x w.heap.size with h' | h'
  · exact h'
  · simp [World.cell?, Array.getElem?_eq_none h'] at h
theorem Row.lt {w : World} {k : IntKind} {b o n : Nat} {f : Nat → Int} (h : Row w k b o n f) (hn : 0 < n) : b < w.heap.size := cell_lt (h.cell 0 hn)

theorem setCell_cell {w : World} {b p : Nat} {v : Value} (x y : Nat) (h : ¬ (x = b ∧ y = p)) : (w.setCell ⟨b, p, none⟩ v).cell? ⟨x, y, none⟩ = w.cell? ⟨x, y, none⟩ := by
  simp only [World.setCell, World.cell?, Array.getElem?_modify]
  by_cases hx : b = x
  · subst hx
    cases hh : w.heap[b]? with
    | none => simp
    | some ob =>
      cases ob with
      | cells c e fr =>
        simp only [if_true, Option.map_some, Option.isSome_none, Bool.false_eq_true, if_false]
        rw [Array.getElem?_setIfInBounds_ne (by omega)]
      | _ => simp
  · simp [hx]
theorem setCell_cell_same {w : World} {b p : Nat} {u v : Value} (h : w.cell? ⟨b, p, none⟩ = some u) : (w.setCell ⟨b, p, none⟩ v).cell? ⟨b, p, none⟩ = some v := by
  simp only [World.setCell, World.cell?, Array.getElem?_modify, if_true] at h ⊢
  cases hh : w.heap[b]? with
  | none => simp [hh] at h
  | some ob =>
    rw [hh] at h
    cases ob with
    | cells c e fr =>
      simp only [Option.map_some, Option.isSome_none, Bool.false_eq_true, if_false] at h ⊢
      have hl : p < c.size := by
        rcases Nat.lt_or_ge p c.size with h' | h'
        · exact h'
        · simp [Array.getElem?_eq_none h'] at h
      simp [hl]
    | _ => simp at h
theorem setCell_frozen {w : World} {b p : Nat} {v : Value} (x y : Nat) : (w.setCell ⟨b, p, none⟩ v).frozen? ⟨x, y, none⟩ = w.frozen? ⟨x, y, none⟩ := by
  simp only [World.setCell, World.frozen?, Array.getElem?_modify]
  by_cases hx : b = x
  · subst hx
    cases hh : w.heap[b]? with
    | none => simp
    | some ob => cases ob <;> simp
  · simp [hx]

theorem Row.set {w : World} {k : IntKind} {b o n : Nat} {f : Nat → Int} (h : Row w k b o n f) {i : Nat} (hi : i < n) (v : Int) : Row (w.setCell ⟨b, o + i, none⟩ (.int k v)) k b o n (put f i v) := by
  refine ⟨fun j hj => ?_, fun j hj => by rw [setCell_frozen]; exact h.free j hj⟩
  by_cases hji : j = i
  · subst hji; rw [setCell_cell_same (h.cell j hj), put_same]
  · rw [setCell_cell _ _ (by omega), put_other _ _ _ _ hji]; exact h.cell j hj
theorem Kept.setCell {w : World} {b p : Nat} {v : Value} {R : Nat → Nat → Prop} (hR : R b p) : Kept R w (w.setCell ⟨b, p, none⟩ v) := by
  refine ⟨rfl, rfl, rfl, by simp [World.setCell], fun x hx hr => ?_, fun x y hx hr => setCell_cell _ _ (by rintro ⟨rfl, rfl⟩; exact hr hR), fun x y _ => setCell_frozen _ _⟩
  have hne : b ≠ x := by rintro rfl; exact hr _ hR
  simp [World.setCell, Array.getElem?_modify, hne]

/-- A stretch that lies apart from R holds what it held. -/
theorem Row.kept {w w' : World} {k : IntKind} {b o n : Nat} {f : Nat → Int} {R : Nat → Nat → Prop} (h : Row w k b o n f) (g : Kept R w w') (hd : ∀ j, j < n → ¬ R b (o + j)) : Row w' k b o n f := by
  refine ⟨fun j hj => ?_, fun j hj => ?_⟩
  · rw [g.cell b (o + j) (cell_lt (h.cell j hj)) (hd j hj)]; exact h.cell j hj
  · rw [g.frozen b (o + j) (cell_lt (h.cell j hj))]; exact h.free j hj
/-- Two stretches lie apart. -/
def Apart (b o n b' o' n' : Nat) : Prop := b ≠ b' ∨ o + n ≤ o' ∨ o' + n' ≤ o
theorem Apart.symm {b o n b' o' n' : Nat} (h : Apart b o n b' o' n') : Apart b' o' n' b o n := by unfold Apart at *; omega
theorem Row.keptReg {w w' : World} {k : IntKind} {b o n b' o' n' : Nat} {f : Nat → Int} (h : Row w k b o n f) (g : Kept (reg b' o' n') w w') (hd : Apart b o n b' o' n') : Row w' k b o n f :=
  h.kept g fun j hj => by unfold reg; unfold Apart at hd; omega
theorem Row.congr {w : World} {k : IntKind} {b o n : Nat} {f g : Nat → Int} (h : Row w k b o n f) (he : ∀ j, j < n → f j = g j) : Row w k b o n g :=
  ⟨fun j hj => by rw [h.cell j hj, he j hj], h.free⟩
/-- A part of a stretch. -/
theorem Row.part {w : World} {k : IntKind} {b o n : Nat} {f : Nat → Int} (h : Row w k b o n f) (i m : Nat) (hm : i + m ≤ n) : Row w k b (o + i) m (fun j => f (i + j)) :=
  ⟨fun j hj => by have := h.cell (i + j) (by omega); rw [Nat.add_assoc]; exact this, fun j hj => by have := h.free (i + j) (by omega); rw [Nat.add_assoc]; exact this⟩

theorem Kept.setCells {b : Nat} {R : Nat → Nat → Prop} : ∀ (vs : List Value) (o : Nat) (w : World), (∀ j, j < vs.length → R b (o + j)) → Kept R w (w.setCells b o vs)
  | [], _, _, _ => Kept.refl _ _
  | v :: vs, o, w, h => (Kept.setCell (v := v) (h 0 (by simp))).trans (Kept.setCells vs (o + 1) (w.setCell ⟨b, o, none⟩ v) fun j hj => by
      have := h (j + 1) (by simp; omega); rw [show o + 1 + j = o + (j + 1) by omega]; exact this)
/-- The stretch behind a store of a whole list. -/
theorem Row.setCells {w : World} {k : IntKind} {b o n : Nat} {f : Nat → Int} (h : Row w k b o n f) (vs : List Int) (hv : vs.length = n) : Row (w.setCells b o (vs.map (Value.int k))) k b o n (fun j => vs.getD j 0) := by
  refine ⟨fun j hj => ?_, fun j hj => by rw [World.frozen?_setCells]; exact h.free j hj⟩
  rw [World.cell?_setCells_in b (vs.map (Value.int k)) o w (fun j hj => by rw [h.cell j (by simpa [hv] using hj)]; rfl) j (by simpa [hv] using hj)]
  have : j < vs.length := by omega
  simp [this]
/-- 'clear' of a slice of integers. -/
theorem clear_row {P : Program} {w : World} {k : IntKind} {b o n : Nat} {f : Nat → Int} (h : Row w k b o n f) (t e : TypeId) (ht : P.underlying t = some (.slice e)) (hv : ∀ w, (zeroValue e).run P w = .ok (.int k 0) w) (hn : 0 < n) :
    ∃ w1, (∀ (ty : TypeId) (c : Nat), (Builtin.clear_ #[t] ty #[.slice (some ⟨b, o, none⟩) n c]).run P w = .ok (.tuple #[]) w1) ∧ Row w1 k b o n (fun _ => 0) ∧ Kept (reg b o n) w w1 := by
  refine ⟨w.setCells b o (List.replicate n (.int k 0)), fun ty c => Lib.run_clear_slice w t e ty (.int k 0) ht hv rfl rfl b o n c hn (fun j hj => by rw [h.cell j hj]; rfl) h.free, ?_, ?_⟩
  · have := h.setCells (List.replicate n 0) (by simp)
    simp only [List.map_replicate] at this
    refine this.congr fun j hj => by simp [List.getD, hj]
  · exact Kept.setCells _ _ _ fun j hj => ⟨rfl, by omega, by simpa using hj⟩

end Go.Proofs.YtfpihnfhmefeaaaGreatDoor

