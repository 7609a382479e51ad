/-
  A new stretch of integers, a copy within one, stretches side by side. No condition.
-/
import Derived.Test.YtfpihnfhmefeaaaGreatDoorLay
namespace Go.Proofs.YtfpihnfhmefeaaaGreatDoor
open Go.RowKit

theorem heap_alloc_push (w : World) (o : Obj) : (w.alloc o).heap = w.heap.push o := rfl
theorem Kept.alloc {R : Nat → Nat → Prop} (w : World) (o : Obj) : Kept R w (w.alloc o) := by
  have hb : ∀ x, x < w.heap.size → (w.alloc o).heap[x]? = w.heap[x]? := fun x hx => Below.heap_alloc w o x hx
  exact ⟨rfl, rfl, rfl, by rw [heap_alloc_push, Array.size_push]; omega, fun x hx _ => hb x hx, fun x y hx _ => World.cell?_of_block (w := w) (hb x hx), fun x y hx => World.frozen?_of_block (w := w) (hb x hx)⟩

/-- 'make' of a slice of integers. -/
theorem make_row {P : Program} (w : World) (t e : TypeId) (k : IntKind) (i : TypeInfo) (ht : P.underlying t = some (.slice e)) (hi : P.info? e = some i) (hz : i.zero = some (.int k 0)) (hsz : i.size = 1) (hb : i.bytes ≤ 8) (n : Nat) (hn : n ≤ 1073741824) :
    ∃ w1, (Instr.makeSlice t (.int .i64 (n : Int)) (.int .i64 (n : Int))).run P w = .ok (.slice (some ⟨w.heap.size, 0, none⟩) n n) w1 ∧ Row w1 k w.heap.size 0 n (fun _ => 0) ∧ Kept (fun _ _ => False) w w1 ∧ w.heap.size < w1.heap.size := by
  have hb2 : (i.bytes : Int) * (n : Int) ≤ 281474976710656 := by
    have h1 : i.bytes * n ≤ 8 * 1073741824 := Nat.mul_le_mul hb hn
    have h2 : ((i.bytes * n : Nat) : Int) ≤ 281474976710656 := by omega
    rwa [Int.natCast_mul] at h2
  have hr := run_make (P := P) w t e i (.int k 0) ht hi hz .i64 .i64 n n (by omega) (Int.le_refl _) hb2 (by omega)
  simp only [Int.toNat_natCast, hsz, Nat.mul_one] at hr
  refine ⟨_, hr, ⟨fun j hj => ?_, fun j hj => ?_⟩, Kept.alloc _ _, by rw [heap_alloc_push, Array.size_push]; omega⟩
  · have hh : (w.alloc (.cells (madeCells (Value.int k 0).cells n) e)).heap[w.heap.size]? = some (.cells (madeCells (Value.int k 0).cells n) e (0, 0)) := by rw [heap_alloc_push]; simp
    simp only [World.cell?, hh, Nat.zero_add, Option.isSome_none, Bool.false_eq_true, if_false]
    simp [madeCells, Value.cells, hj, Nat.mod_one]
  · simp only [World.frozen?, heap_alloc_push, Array.getElem?_push_size]; simp

/-- 'copy(sa, sa[q:])': the last m cells of a stretch go to its beginning. -/
theorem copy_row {P : Program} {w : World} {k : IntKind} {b o n : Nat} {f : Nat → Int} (h : Row w k b o n f) (t e : TypeId) (ht : P.underlying t = some (.slice e)) (hi : (P.info? e).map (·.size) = some 1) (q m : Nat) (hq : q + m = n) :
    ∃ w1, (∀ (ty : TypeId) (c c' : Nat), (Builtin.copy_ #[t, t] ty #[.slice (some ⟨b, o, none⟩) n c, .slice (some ⟨b, o + q, none⟩) m c']).run P w = .ok (goInt m) w1) ∧
      Row w1 k b o n (fun x => if x < m then f (q + x) else f x) ∧ Kept (reg b o n) w w1 := by
  have hlen : ((List.range m).map fun x => Value.int k (f (q + x))).length = m := by simp
  refine ⟨w.setCells b o ((List.range m).map fun x => Value.int k (f (q + x))), fun ty c c' => ?_, ⟨fun j hj => ?_, fun j hj => by rw [World.frozen?_setCells]; exact h.free j hj⟩, Kept.setCells _ _ _ fun j hj => ⟨rfl, by omega, by rw [hlen] at hj; omega⟩⟩
  · have := run_copy_cells (P := P) w t t ty e b o n c ⟨b, o + q, none⟩ m c' ((List.range m).map fun x => Value.int k (f (q + x))) ht hi
      (by rw [hlen]; exact (Nat.min_eq_left (by omega)).symm) (fun j v hv => by
        have hjm : j < m := by
          have := (List.getElem?_eq_some_iff.1 hv).1; simpa using this
        have e1 : ((List.range m).map fun x => Value.int k (f (q + x)))[j]? = some (.int k (f (q + j))) := by simp [hjm]
        rw [e1] at hv
        rw [Addr.add_lit, Nat.add_assoc, h.cell (q + j) (by omega)]; exact hv) (fun j hj => by rw [h.cell j (by rw [hlen] at hj; omega)]; rfl) (fun j hj => h.free j (by rw [hlen] at hj; omega))
      (fun v hv => by obtain ⟨x, _, rfl⟩ := List.mem_map.1 hv; rfl)
    rw [hlen] at this
    exact this
  · by_cases hjm : j < m
    · rw [World.cell?_setCells_in b _ o w (fun x hx => by rw [h.cell x (by rw [hlen] at hx; omega)]; rfl) j (by rw [hlen]; exact hjm)]
      simp [hjm]
    · rw [World.cell?_setCells_out b _ o w ⟨b, o + j, none⟩ (fun _ _ => by rw [hlen]; right; show o + m ≤ o + j; omega), h.cell j hj]
      simp [hjm]

/-- Two stretches side by side. -/
theorem Row.join {w : World} {k : IntKind} {b o n1 n2 : Nat} {f g : Nat → Int} (h : Row w k b o n1 f) (h2 : Row w k b (o + n1) n2 g) : Row w k b o (n1 + n2) (fun x => if x < n1 then f x else g (x - n1)) := by
  refine ⟨fun j hj => ?_, fun j hj => ?_⟩
  · by_cases hl : j < n1
    · simp only [hl, if_true]; exact h.cell j hl
    · simp only [hl, if_false]
      have := h2.cell (j - n1) (by omega)
      rw [show o + n1 + (j - n1) = o + j by omega] at this; exact this
  · by_cases hl : j < n1
    · exact h.free j hl
    · have := h2.free (j - n1) (by omega)
      rw [show o + n1 + (j - n1) = o + j by omega] at this; exact this
/-- A stretch's beginning; its end. -/
theorem Row.head {w : World} {k : IntKind} {b o n : Nat} {f : Nat → Int} (h : Row w k b o n f) {m : Nat} (hm : m ≤ n) : Row w k b o m f := ⟨fun j hj => h.cell j (by omega), fun j hj => h.free j (by omega)⟩

section
variable {ik tk : IntKind} {K : Nat} {L : Lay} {w0 w w' : World} {s s' B : Nat → Int}
/-- A callee that writes the array alone. -/
theorem Mem.keptS (h : Mem ik tk K L w0 w s B) (hk : Kept (reg L.sb L.so L.n) w w') (hs : Row w' ik L.sb L.so L.n s') : Mem ik tk K L w0 w' s' B := by
  have hin := h.inB
  refine { h with text := h.text.keptReg hk h.aTS, sa := hs, bkt := h.bkt.keptReg hk ?_, kept := h.kept.trans (hk.mono fun x y _ hr => .inl hr), frq := h.frq.imp id fun ⟨fc, a, b, c, F, d, e⟩ => ⟨fc, a, b, c, F, d.keptReg hk ?_, e⟩ }
  · have := h.aSM; unfold Apart at *; omega
  · have := h.aSM; unfold Apart at *; omega
end

/-- The integers' rows of the table of types. -/
theorem info_i32 : (Tryz.prog.info? 21).map (fun i => (i.zero, i.size, i.bytes)) = some (some (.int .i32 0), 1, 4) := by kernel_rfl
theorem info_i64 : (Tryz.prog.info? 2).map (fun i => (i.zero, i.size, i.bytes)) = some (some (.int .i64 0), 1, 8) := by kernel_rfl
theorem info1_i32 : (Tryz.prog.info? 21).map (·.size) = some 1 := by kernel_rfl
theorem info1_i64 : (Tryz.prog.info? 2).map (·.size) = some 1 := by kernel_rfl

end Go.Proofs.YtfpihnfhmefeaaaGreatDoor

