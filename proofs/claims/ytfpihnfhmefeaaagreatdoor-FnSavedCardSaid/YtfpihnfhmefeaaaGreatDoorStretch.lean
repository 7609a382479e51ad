/-
  The places of a piece: what two searches find, and what stands there, sorted. No condition.
-/
import Derived.Test.YtfpihnfhmefeaaaGreatDoorFind
namespace Go.Proofs.YtfpihnfhmefeaaaGreatDoor

/-- How many are false, ahead of the first that is true. -/
theorem count_mono {p : Nat → Bool} : ∀ n, (∀ a b, a ≤ b → b < n → p a = true → p b = true) → (List.range n).countP (fun i => !p i) ≤ n ∧ ∀ r, r < n → (p r = true ↔ (List.range n).countP (fun i => !p i) ≤ r)
  | 0, _ => ⟨by simp, fun r h => absurd h (Nat.not_lt_zero _)⟩
  | n + 1, h => by
    obtain ⟨h1, h2⟩ := count_mono n fun a b hab hb => h a b hab (by omega)
    have hc : (List.range (n + 1)).countP (fun i => !p i) = (List.range n).countP (fun i => !p i) + if p n = true then 0 else 1 := by
      rw [List.range_succ, List.countP_append]
      congr 1
      cases hp : p n <;> simp [hp]
    rw [hc]
    by_cases hp : p n = true
    · rw [if_pos hp]
      refine ⟨by omega, fun r hr => ?_⟩
      rcases Nat.lt_or_ge r n with h3 | h3
      · exact h2 r h3
      · have : r = n := by omega
        subst this
        exact ⟨fun _ => h1, fun _ => hp⟩
    · rw [if_neg hp]
      have hall : ∀ r, r < n + 1 → ¬ p r = true := fun r hr h3 => hp (h r n (by omega) (by omega) h3)
      have hn : (List.range n).countP (fun i => !p i) = n := by
        rcases Nat.lt_or_ge ((List.range n).countP (fun i => !p i)) n with h3 | h3
        · exact absurd ((h2 _ h3).2 (Nat.le_refl _)) (hall _ (by omega))
        · omega
      rw [hn]
      exact ⟨Nat.le_refl _, fun r hr => ⟨fun h3 => absurd h3 (hall r hr), fun h3 => by omega⟩⟩

section
variable {T : Nat → Nat} {n : Nat} {g : Nat → Nat}
/-- The first place whose text is not less than the piece; how many from there on begin with it. -/
def lowOf (T : Nat → Nat) (n : Nat) (g : Nat → Nat) (s : List UInt8) : Nat := (List.range n).countP fun i => !atLeast T n g s i
def manyOf (T : Nat → Nat) (n : Nat) (g : Nat → Nat) (s : List UInt8) (i : Nat) : Nat := (List.range (n - i)).countP fun t => !!begins T n g s (t + i)

theorem stretch (hg : IsSA T n g) (hT : ∀ i, i < n → T i < 256) (s : List UInt8) :
    lowOf T n g s ≤ n ∧ lowOf T n g s + manyOf T n g s (lowOf T n g s) ≤ n ∧ ∀ r, r < n → (begins T n g s r = true ↔ lowOf T n g s ≤ r ∧ r < lowOf T n g s + manyOf T n g s (lowOf T n g s)) := by
  obtain ⟨h1, h2⟩ := count_mono (p := atLeast T n g s) n fun a b hab hb hp => atLeast_mono hg hT s hab hb hp
  have hlow : lowOf T n g s = (List.range n).countP fun i => !atLeast T n g s i := rfl
  rw [← hlow] at h1 h2
  obtain ⟨h3, h4⟩ := count_mono (p := fun t => !begins T n g s (t + lowOf T n g s)) (n - lowOf T n g s) fun a b hab hb hp => by
    simp only [Bool.not_eq_true'] at hp ⊢
    exact begins_mono hg hT s (by omega) (by omega) ((h2 _ (by omega)).2 (by omega)) hp
  have hmany : manyOf T n g s (lowOf T n g s) = (List.range (n - lowOf T n g s)).countP fun t => !!begins T n g s (t + lowOf T n g s) := rfl
  rw [← hmany] at h3 h4
  refine ⟨h1, by omega, fun r hr => ⟨fun hb => ?_, fun ⟨a, b⟩ => ?_⟩⟩
  · have h5 := (h2 r hr).1 (begins_atLeast hb)
    refine ⟨h5, ?_⟩
    have h6 := h4 (r - lowOf T n g s) (by omega)
    rw [show r - lowOf T n g s + lowOf T n g s = r by omega, hb] at h6
    simp at h6
    omega
  · have h6 := h4 (r - lowOf T n g s) (by omega)
    rw [show r - lowOf T n g s + lowOf T n g s = r by omega] at h6
    cases hb : begins T n g s r with
    | true => rfl
    | false =>
      rw [hb] at h6
      simp at h6
      omega

/-- What is found, sorted: the places where the piece stands, ascending. -/
theorem found_sorted (hg : IsSA T n g) (s : List UInt8) {i c : Nat} (hic : i + c ≤ n) (h : ∀ r, r < n → (begins T n g s r = true ↔ i ≤ r ∧ r < i + c)) :
    ((List.range c).map fun t => (g (i + t) : Int)).mergeSort (fun x y => decide (x ≤ y)) = ((List.range n).filter fun x => s.isPrefixOf (sg T n x)).map fun (x : Nat) => (x : Int) := by
  refine List.Perm.eq_of_pairwise (le := fun a b : Int => decide (a ≤ b) = true) (fun a b _ _ h1 h2 => by simp at h1 h2; omega) (List.pairwise_mergeSort (fun a b c h1 h2 => by simp at *; omega) (fun a b => by simp; omega) _) ?_ ((List.mergeSort_perm _ _).trans ?_)
  · refine List.pairwise_map.2 ((List.pairwise_lt_range.filter _).imp fun h1 => decide_eq_true (by omega))
  · rw [List.perm_ext_iff_of_nodup]
    · intro a
      simp only [List.mem_map, List.mem_range, List.mem_filter]
      constructor
      · rintro ⟨t, ht, rfl⟩
        exact ⟨g (i + t), ⟨hg.mem _ (by omega), (h (i + t) (by omega)).2 ⟨by omega, by omega⟩⟩, rfl⟩
      · rintro ⟨x, ⟨hx, hp⟩, rfl⟩
        obtain ⟨r, hr, rfl⟩ := onto_of_inj n g hg.mem (fun r r' h1 h2 he => by
          rcases Nat.lt_trichotomy r r' with h3 | h3 | h3
          · have := hg.inc r r' h3 h2; rw [he, sl_irrefl] at this; simp at this
          · exact h3
          · have := hg.inc r' r h3 h1; rw [he, sl_irrefl] at this; simp at this) x hx
        have := (h r hr).1 hp
        exact ⟨r - i, by omega, by rw [show i + (r - i) = r by omega]⟩
    · refine List.pairwise_map.2 (List.pairwise_lt_range.imp_of_mem fun {a b} ha hb hlt he => ?_)
      have ha' := List.mem_range.1 ha
      have hb' := List.mem_range.1 hb
      have h3 := hg.inc (i + a) (i + b) (by omega) (by omega)
      have he' : g (i + a) = g (i + b) := by omega
      rw [he', sl_irrefl] at h3
      simp at h3
    · refine List.pairwise_map.2 ((List.pairwise_lt_range.filter _).imp fun h1 he => by omega)
end

theorem filter_cut {p : Nat → Bool} {k : Nat} : ∀ n, k ≤ n → (∀ x, k ≤ x → x < n → p x = false) → (List.range n).filter p = (List.range k).filter p
  | 0, hk, _ => by rw [show k = 0 by omega]
  | n + 1, hk, h => by
    rcases Nat.lt_or_ge n k with h1 | h1
    · rw [show k = n + 1 by omega]
    · rw [List.range_succ, List.filter_append, filter_cut n h1 fun x a b => h x a (by omega)]
      simp [h n h1 (by omega)]

/-- The places where a piece of m bytes stands: none behind the last that leaves room for it. -/
theorem places_cut {T S : Nat → Nat} {n m : Nat} (hT : ∀ i, i < n → T i < 256) (hS : ∀ i, i < m → S i < 256) (hm : 0 < m) :
    ((List.range n).filter fun x => (sg S m 0).isPrefixOf (sg T n x)) = (List.range (n + 1 - m)).filter fun x => (sg S m 0).isPrefixOf (sg T n x) := by
  refine filter_cut n (by omega) fun x h1 h2 => ?_
  rw [← Bool.not_eq_true, prefix_iff hT hS m 0 x rfl (by omega) (by omega)]
  intro h
  have := h.1
  omega

end Go.Proofs.YtfpihnfhmefeaaaGreatDoor

