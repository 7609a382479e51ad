/-
  The memory of the sorting functions: the text, the array, the room for counts and buckets; what a store, a draw and a callee leave of it. No condition.
-/
import Derived.Test.YtfpihnfhmefeaaaGreatDoorMem
namespace Go.Proofs.YtfpihnfhmefeaaaGreatDoor
open Go.RowKit

/-- Where the text, the array and the room lie; the text's numbers, how many, below which bound. -/
structure Lay where
  T : Nat → Nat
  n : Nat
  tb : Nat
  tp : Nat
  sb : Nat
  so : Nat
  mb : Nat
  mo : Nat
  mn : Nat
  bo : Nat
  fv : Value

/-- What may be written. -/
def Lay.area (L : Lay) : Nat → Nat → Prop := fun x y => reg L.sb L.so L.n x y ∨ reg L.mb L.mo L.mn x y

structure Mem (ik tk : IntKind) (K : Nat) (L : Lay) (w0 w : World) (s B : Nat → Int) : Prop where
  text : Row w tk L.tb L.tp L.n (fun i => (L.T i : Int))
  sa : Row w ik L.sb L.so L.n s
  bkt : Row w ik L.mb L.bo K B
  frq : L.fv = .slice none 0 0 ∨ (∃ fc, L.fv = .slice (some ⟨L.mb, L.mo, none⟩) K fc ∧ K ≤ fc ∧ L.mo + K ≤ L.bo ∧ ∃ F, Row w ik L.mb L.mo K F ∧ (F 0 < 0 ∨ ∀ c, c < K → F c = (occ L.T L.n c : Int)))
  kept : Kept L.area w0 w
  inB : L.mo ≤ L.bo ∧ L.bo + K ≤ L.mo + L.mn
  aTS : Apart L.tb L.tp L.n L.sb L.so L.n
  aTM : Apart L.tb L.tp L.n L.mb L.mo L.mn
  aSM : Apart L.sb L.so L.n L.mb L.mo L.mn
  small : ∀ i, i < L.n → L.T i < K
  nle : L.n ≤ 1073741824
  Kle : 0 < K ∧ K ≤ 1073741824

section
variable {ik tk : IntKind} {K : Nat} {L : Lay} {w0 w : World} {s B : Nat → Int}

theorem Mem.drewN (h : Mem ik tk K L w0 w s B) (m : Nat) : Mem ik tk K L w0 (w.drewN m) s B :=
  { h with text := h.text.drewN m, sa := h.sa.drewN m, bkt := h.bkt.drewN m, kept := h.kept.drewN m, frq := h.frq.imp id fun ⟨fc, a, b, c, F, d, e⟩ => ⟨fc, a, b, c, F, d.drewN m, e⟩ }
theorem Mem.drew (h : Mem ik tk K L w0 w s B) : Mem ik tk K L w0 w.drew s B :=
  { h with text := h.text.drew, sa := h.sa.drew, bkt := h.bkt.drew, kept := h.kept.drew, frq := h.frq.imp id fun ⟨fc, a, b, c, F, d, e⟩ => ⟨fc, a, b, c, F, d.drew, e⟩ }

/-- A store into the array. -/
theorem Mem.setS (h : Mem ik tk K L w0 w s B) {i : Nat} (hi : i < L.n) (v : Int) : Mem ik tk K L w0 (w.setCell ⟨L.sb, L.so + i, none⟩ (.int ik v)) (put s i v) B := by
  have hk : Kept (reg L.sb L.so L.n) w (w.setCell ⟨L.sb, L.so + i, none⟩ (.int ik v)) := Kept.setCell ⟨rfl, by omega, by omega⟩
  have hin := h.inB
  refine { h with text := h.text.keptReg hk h.aTS, sa := h.sa.set hi v, bkt := h.bkt.keptReg hk ?_, kept := h.kept.trans (Kept.setCell (.inl ⟨rfl, by omega, by omega⟩)), frq := h.frq.imp id fun ⟨fc, a, b, c, F, d, e⟩ => ⟨fc, a, b, c, F, d.keptReg hk ?_, e⟩ }
  · have := h.aSM; unfold Apart at *; omega
  · have := h.aSM; unfold Apart at *; omega
/-- A store into the buckets. -/
theorem Mem.setB (h : Mem ik tk K L w0 w s B) {c : Nat} (hc : c < K) (v : Int) : Mem ik tk K L w0 (w.setCell ⟨L.mb, L.bo + c, none⟩ (.int ik v)) s (put B c v) := by
  have hin := h.inB
  have hk : Kept (reg L.mb L.bo K) w (w.setCell ⟨L.mb, L.bo + c, none⟩ (.int ik v)) := Kept.setCell ⟨rfl, by omega, by omega⟩
  refine { h with text := h.text.keptReg hk ?_, sa := h.sa.keptReg hk ?_, bkt := h.bkt.set hc v, kept := h.kept.trans (Kept.setCell (.inr ⟨rfl, by omega, by omega⟩)), frq := h.frq.imp id fun ⟨fc, a, b, c, F, d, e⟩ => ⟨fc, a, b, c, F, d.keptReg hk ?_, e⟩ }
  · have := h.aTM; unfold Apart at *; omega
  · have := h.aSM; unfold Apart at *; omega
  · unfold Apart; omega
theorem Mem.congr (h : Mem ik tk K L w0 w s B) {s' B' : Nat → Int} (hs : ∀ i, i < L.n → s i = s' i) (hB : ∀ c, c < K → B c = B' c) : Mem ik tk K L w0 w s' B' :=
  { h with sa := h.sa.congr hs, bkt := h.bkt.congr hB }
theorem Mem.cellT (h : Mem ik tk K L w0 w s B) : ∀ j, j < L.n → w.cell? ⟨L.tb, L.tp + j, none⟩ = some (.int tk (L.T j : Int)) := h.text.cell
end

/-- The buckets, one of them kept in a variable. -/
def Cached (K : Nat) (Bk B : Nat → Int) (cB : Nat) (b : Int) : Prop := cB < K ∧ b = B cB ∧ ∀ c, c < K → c ≠ cB → Bk c = B c
theorem cached_start {K c : Nat} (Bk : Nat → Int) (hc : c < K) (v : Int) : Cached K Bk (put Bk c v) c v := ⟨hc, by rw [put_same], fun d _ hd => by rw [put_other _ _ _ _ hd]⟩
theorem Cached.same {K cB : Nat} {Bk B : Nat → Int} {b : Int} (h : Cached K Bk B cB b) (v : Int) : Cached K Bk (put B cB v) cB v :=
  ⟨h.1, by rw [put_same], fun d hd hne => by rw [put_other _ _ _ _ hne]; exact h.2.2 d hd hne⟩
theorem Cached.turn {K cB c : Nat} {Bk B : Nat → Int} {b : Int} (h : Cached K Bk B cB b) (hc : c < K) (hne : c ≠ cB) (v : Int) : Cached K (put Bk cB b) (put B c v) c v ∧ put Bk cB b c = B c := by
  refine ⟨⟨hc, by rw [put_same], fun d hd hdc => ?_⟩, by rw [put_other _ _ _ _ hne]; exact h.2.2 c hc hne⟩
  rw [put_other _ _ _ _ hdc]
  by_cases hdB : d = cB
  · rw [hdB, put_same]; exact h.2.1
  · rw [put_other _ _ _ _ hdB]; exact h.2.2 d hd hdB

/-- What the count leaves: a slice that holds how often each number occurs: the counts' own, or the buckets. -/
def FreqPost (ik tk : IntKind) (K : Nat) (L : Lay) (w0 : World) (s : Nat → Int) (e : Ending) (w' : World) : Prop :=
  ∃ fo c B', e = .returned (.slice (some ⟨L.mb, fo, none⟩) K c) ∧ K ≤ c ∧ (fo = L.bo ∨ fo + K ≤ L.bo) ∧ Mem ik tk K L w0 w' s B' ∧ ∀ j, j < K → w'.cell? ⟨L.mb, fo + j, none⟩ = some (.int ik (occ L.T L.n j : Int))
/-- What the bucket functions leave. -/
def BktPost (ik tk : IntKind) (K : Nat) (L : Lay) (w0 : World) (s B : Nat → Int) (e : Ending) (w' : World) : Prop := e = .returned (.tuple #[]) ∧ Mem ik tk K L w0 w' s B

/-- The element type's zero value is the integer 0. -/
theorem zero_i32 (w : World) : (zeroValue 21).run Tryz.prog w = .ok (.int .i32 0) w := by kernel_rfl
theorem zero_i64 (w : World) : (zeroValue 2).run Tryz.prog w = .ok (.int .i64 0) w := by kernel_rfl

end Go.Proofs.YtfpihnfhmefeaaaGreatDoor

