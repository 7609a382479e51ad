/-
  What is found of a piece: its places, each once; how many; sorted, the places ascending. No condition.
-/
import Derived.Test.YtfpihnfhmefeaaaGreatDoorStretch
namespace Go.Proofs.YtfpihnfhmefeaaaGreatDoor

/-- A text's array, sorted. -/
theorem sorted_all {T : Nat → Nat} {n : Nat} {g : Nat → Nat} (hg : IsSA T n g) :
    ((List.range n).map fun t => (g t : Int)).mergeSort (fun x y => decide (x ≤ y)) = (List.range n).map fun (x : Nat) => (x : Int) := by
  have h := found_sorted hg [] (i := 0) (c := n) (by omega) (fun r hr => by simp [begins]; exact hr)
  simp only [Nat.zero_add] at h
  rw [h, List.filter_eq_self.2 (fun _ _ => by simp)]

/-- The places where a piece stands, ascending; none of a piece of nothing. -/
def plcs (T : Nat → Nat) (n : Nat) (s : List UInt8) : List Nat := if s = [] then [] else (List.range n).filter fun x => s.isPrefixOf (sg T n x)

theorem plcs_nil (T : Nat → Nat) (n : Nat) : plcs T n [] = [] := by simp [plcs]
theorem mem_plcs {T : Nat → Nat} {n : Nat} {s : List UInt8} {x : Nat} : x ∈ plcs T n s ↔ s ≠ [] ∧ x < n ∧ s.isPrefixOf (sg T n x) = true := by
  unfold plcs
  split
  · rename_i h; simp [h]
  · rename_i h; simp [h]
theorem plcs_inc (T : Nat → Nat) (n : Nat) (s : List UInt8) : (plcs T n s).Pairwise (· < ·) := by
  unfold plcs
  split
  · exact List.Pairwise.nil
  · exact List.pairwise_lt_range.filter _
theorem plcs_len (T : Nat → Nat) (n : Nat) (s : List UInt8) : (plcs T n s).length ≤ n := by
  unfold plcs
  split
  · simp
  · exact Nat.le_trans (List.length_filter_le _ _) (by simp)

/-- What is told of a piece where k places are asked for, all where k is below 0. -/
structure Found (T : Nat → Nat) (n : Nat) (s : List UInt8) (k : Int) (c : Nat) (f : Nat → Nat) : Prop where
  mem : ∀ t, t < c → f t ∈ plcs T n s
  inj : ∀ t t', t < c → t' < c → f t = f t' → t = t'
  all : k < 0 → ∀ x, x ∈ plcs T n s → ∃ t, t < c ∧ f t = x
  cnt : c = if k < 0 then (plcs T n s).length else min k.toNat (plcs T n s).length

theorem Found.lt {T : Nat → Nat} {n : Nat} {s : List UInt8} {k : Int} {c : Nat} {f : Nat → Nat} (h : Found T n s k c f) {t : Nat} (ht : t < c) : f t < n := (mem_plcs.1 (h.mem t ht)).2.1
theorem Found.le {T : Nat → Nat} {n : Nat} {s : List UInt8} {k : Int} {c : Nat} {f : Nat → Nat} (h : Found T n s k c f) : c ≤ n := by
  have h1 := plcs_len T n s
  have h2 := h.cnt
  split at h2
  · omega
  · have := Nat.min_le_right k.toNat (plcs T n s).length
    omega
theorem found_none (T : Nat → Nat) (n : Nat) (k : Int) (f : Nat → Nat) : Found T n [] k 0 f :=
  ⟨fun _ h => absurd h (Nat.not_lt_zero _), fun _ _ h => absurd h (Nat.not_lt_zero _), fun _ x h => by simp [plcs_nil] at h, by simp [plcs_nil]⟩
theorem found_none_asked (T : Nat → Nat) (n : Nat) (s : List UInt8) (f : Nat → Nat) : Found T n s 0 0 f :=
  ⟨fun _ h => absurd h (Nat.not_lt_zero _), fun _ _ h => absurd h (Nat.not_lt_zero _), fun h => absurd h (by omega), by simp⟩

/-- What the index finds. -/
theorem found_of {T : Nat → Nat} {n : Nat} {g : Nat → Nat} (hg : IsSA T n g) (hT : ∀ i, i < n → T i < 256) {s : List UInt8} (hs : s ≠ []) (k : Int) {c : Nat}
    (hc : c = if k < 0 then manyOf T n g s (lowOf T n g s) else min k.toNat (manyOf T n g s (lowOf T n g s))) : Found T n s k c (fun t => g (lowOf T n g s + t)) := by
  obtain ⟨h1, h2, h3⟩ := stretch hg hT s
  have hp : plcs T n s = (List.range n).filter fun x => s.isPrefixOf (sg T n x) := if_neg hs
  have hf := found_sorted hg s h2 h3
  rw [← hp] at hf
  have hl : manyOf T n g s (lowOf T n g s) = (plcs T n s).length := by
    have := congrArg List.length hf
    simpa using this
  have hcl : c ≤ manyOf T n g s (lowOf T n g s) := by
    rw [hc]; split
    · exact Nat.le_refl _
    · exact Nat.min_le_right _ _
  refine ⟨fun t ht => mem_plcs.2 ⟨hs, hg.mem _ (by omega), (h3 _ (by omega)).2 ⟨by omega, by omega⟩⟩, fun t t' ht ht' he => ?_, fun hk x hx => ?_, by rw [hc, hl]⟩
  · have := hg.inj (by omega) (by omega) he; omega
  · have hm : (x : Int) ∈ (plcs T n s).map fun (x : Nat) => (x : Int) := List.mem_map.2 ⟨x, hx, rfl⟩
    rw [← hf, List.mem_mergeSort, List.mem_map] at hm
    obtain ⟨t, ht, he⟩ := hm
    rw [if_pos hk] at hc
    exact ⟨t, by rw [hc]; simpa using ht, by omega⟩

/-- What is told, as whole numbers; sorted. -/
def told (c : Nat) (f : Nat → Nat) : List Int := (List.range c).map fun t => (f t : Int)
def up (l : List Int) : List Int := l.mergeSort fun x y => decide (x ≤ y)
theorem up_length (l : List Int) : (up l).length = l.length := by simp [up]
theorem mem_up {l : List Int} {x : Int} : x ∈ up l ↔ x ∈ l := by simp [up]
theorem up_sorted (l : List Int) : (up l).Pairwise (· ≤ ·) :=
  (List.pairwise_mergeSort (fun a b c h1 h2 => by simp at *; omega) (fun a b => by simp; omega) l).imp fun h => by simpa using h
theorem told_nodup {T : Nat → Nat} {n : Nat} {s : List UInt8} {k : Int} {c : Nat} {f : Nat → Nat} (h : Found T n s k c f) : (told c f).Nodup := by
  unfold told
  refine List.pairwise_map.2 (List.pairwise_lt_range.imp_of_mem fun {a b} ha hb hlt he => ?_)
  have := h.inj a b (List.mem_range.1 ha) (List.mem_range.1 hb) (by omega)
  omega
theorem up_inc {T : Nat → Nat} {n : Nat} {s : List UInt8} {k : Int} {c : Nat} {f : Nat → Nat} (h : Found T n s k c f) : (up (told c f)).Pairwise (· < ·) := by
  have h1 : (up (told c f)).Nodup := (List.mergeSort_perm _ _).nodup_iff.2 (told_nodup h)
  exact (List.Pairwise.and (up_sorted _) h1).imp fun h2 => by have := h2.1; have := h2.2; omega
theorem up_all {T : Nat → Nat} {n : Nat} {s : List UInt8} {k : Int} {c : Nat} {f : Nat → Nat} (h : Found T n s k c f) (hk : k < 0) : up (told c f) = (plcs T n s).map fun (x : Nat) => (x : Int) := by
  refine List.Perm.eq_of_pairwise (le := fun a b : Int => a < b) (fun a b _ _ h1 h2 => by omega) (up_inc h) (List.pairwise_map.2 ((plcs_inc T n s).imp fun h1 => by omega)) ((List.mergeSort_perm _ _).trans ?_)
  rw [List.perm_ext_iff_of_nodup (told_nodup h) (List.pairwise_map.2 ((plcs_inc T n s).imp fun h1 he => by omega))]
  intro a
  simp only [told, List.mem_map, List.mem_range]
  constructor
  · rintro ⟨t, ht, rfl⟩; exact ⟨f t, h.mem t ht, rfl⟩
  · rintro ⟨x, hx, rfl⟩
    obtain ⟨t, ht, rfl⟩ := h.all hk x hx
    exact ⟨t, ht, rfl⟩
theorem mem_up_told {T : Nat → Nat} {n : Nat} {s : List UInt8} {k : Int} {c : Nat} {f : Nat → Nat} (h : Found T n s k c f) {x : Int} (hx : x ∈ up (told c f)) : x ∈ (plcs T n s).map fun (x : Nat) => (x : Int) := by
  rw [mem_up] at hx
  simp only [told, List.mem_map, List.mem_range] at hx
  obtain ⟨t, ht, rfl⟩ := hx
  exact List.mem_map.2 ⟨f t, h.mem t ht, rfl⟩

theorem prefix_app : ∀ (s m a : List UInt8), (s ++ m).isPrefixOf a = true → s.isPrefixOf a = true
  | [], _, _, _ => by simp
  | x :: s, m, [], h => by simp at h
  | x :: s, m, y :: a, h => by
    simp only [List.cons_append, List.isPrefixOf_cons_cons, Bool.and_eq_true] at h ⊢
    exact ⟨h.1, prefix_app s m a h.2⟩
/-- Where a longer piece stands its beginning stands. -/
theorem plcs_app {T : Nat → Nat} {n : Nat} {s m : List UInt8} (hs : s ≠ []) {x : Nat} (h : x ∈ plcs T n (s ++ m)) : x ∈ plcs T n s := by
  obtain ⟨_, h2, h3⟩ := mem_plcs.1 h
  exact mem_plcs.2 ⟨hs, h2, prefix_app s m _ h3⟩

end Go.Proofs.YtfpihnfhmefeaaaGreatDoor

