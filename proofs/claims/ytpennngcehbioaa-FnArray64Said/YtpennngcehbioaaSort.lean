/-
  The sorted places of a text: the order is strict, and what is sorted is the text's array. No condition.
-/
import Derived.Test.YtpennngcehbioaaCmp
import Derived.Test.YtpennngcehbioaaTurn
import Derived.Shelf.SlSortCmp.Insertion
namespace Go.Proofs.Ytpennngcehbioaa
open Go.RowKit

/-- The comparison of two places of a text. -/
def cfT (T : Nat → Nat) (n : Nat) (x y : Fin n) : Int := cmpT T n x.val y.val
theorem lt_cfT (T : Nat → Nat) (n : Nat) (x y : Fin n) : ltOf (cfT T n) x y = sl T n x.val y.val := by
  unfold ltOf cfT cmpT
  by_cases e : x.val = y.val
  · rw [if_pos e, e, sl_irrefl]; rfl
  · rw [if_neg e]
    by_cases h : sl T n x.val y.val = true
    · rw [if_pos h, h]; rfl
    · rw [if_neg h]
      rw [Bool.not_eq_true] at h
      rw [h]; rfl
theorem swoT (T : Nat → Nat) (n : Nat) : Go.Sort.SWO (ltOf (cfT T n)) where
  irrefl x := by rw [lt_cfT, sl_irrefl]
  trans x y z h1 h2 := by rw [lt_cfT] at *; exact sl_trans h1 h2
  ntrans x y z h1 h2 := by
    rw [lt_cfT] at *
    by_cases e : x.val = z.val
    · rw [e, sl_irrefl]
    · rcases sl_total (T := T) (Nat.le_of_lt x.isLt) (Nat.le_of_lt z.isLt) e with h | h
      · exfalso
        by_cases e1 : x.val = y.val
        · rw [← e1, h] at h2; simp at h2
        · by_cases e2 : y.val = z.val
          · rw [← e2, h1] at h; simp at h
          · have h3 := (sl_total (T := T) (Nat.le_of_lt x.isLt) (Nat.le_of_lt y.isLt) e1).resolve_left (by rw [h1]; simp)
            have h4 := (sl_total (T := T) (Nat.le_of_lt y.isLt) (Nat.le_of_lt z.isLt) e2).resolve_left (by rw [h2]; simp)
            have h5 := sl_trans h4 h3
            rw [sl_asymm h] at h5; simp at h5
      · exact sl_asymm h

/-- All places of a text, as they stand. -/
def places (n : Nat) : Array (Fin n) := Array.ofFn fun i => i
theorem places_size (n : Nat) : (places n).size = n := by simp [places]
theorem places_at (n : Nat) [Inhabited (Fin n)] (j : Nat) (h : j < n) : (places n)[j]! = ⟨j, h⟩ := by
  rw [getElem!_pos _ j (by rw [places_size]; exact h)]
  simp [places]

theorem extract_all {α : Type} (a : Array α) (m : Nat) (h : a.size = m) : a.extract 0 m = a := by subst h; simp
/-- What is sorted is the array. -/
theorem sorted_sa {T : Nat → Nat} {n : Nat} [Inhabited (Fin n)] {d : Array (Fin n)} (hp : Go.Sort.PermIn 0 n (places n) d) (hs : Go.Sort.SortedIn (ltOf (cfT T n)) 0 n d) : d.size = n ∧ IsSA T n (fun r => (d[r]!).val) := by
  obtain ⟨h1, _, h3⟩ := hp
  rw [places_size] at h1
  refine ⟨h1, fun r _ => (d[r]!).isLt, fun r r' hlt hr' => ?_⟩
  rw [extract_all d n h1, extract_all (places n) n (places_size n)] at h3
  have onto : ∀ x, ∃ r, x < n → r < n ∧ (d[r]!).val = x := fun x => by
    by_cases hx : x < n
    · have hm : (⟨x, hx⟩ : Fin n) ∈ d.toList := by
        rw [h3.mem_iff]
        simp [places]
      rw [List.mem_iff_getElem] at hm
      obtain ⟨r, hr, he⟩ := hm
      have hr2 : r < d.size := by simpa using hr
      refine ⟨r, fun _ => ⟨by omega, ?_⟩⟩
      rw [getElem!_pos _ r hr2]
      have : d[r] = ⟨x, hx⟩ := by simpa using he
      rw [this]
    · exact ⟨0, fun h => absurd h hx⟩
  obtain ⟨h, hh⟩ := Classical.axiomOfChoice onto
  have onto2 := onto_of_inj n h (fun x hx => (hh x hx).1) fun x x' hx hx' he => by
    have a1 := (hh x hx).2
    have a2 := (hh x' hx').2
    rw [he] at a1; omega
  have hne : (d[r]!).val ≠ (d[r']!).val := fun e => by
    obtain ⟨x, hx, rfl⟩ := onto2 r (by omega)
    obtain ⟨x', hx', rfl⟩ := onto2 r' hr'
    have a1 := (hh x hx).2
    have a2 := (hh x' hx').2
    have : x = x' := by omega
    subst this
    omega
  have hf := hs r r' (Nat.zero_le _) hlt hr'
  rw [lt_cfT] at hf
  exact (sl_total (T := T) (Nat.le_of_lt (d[r]!).isLt) (Nat.le_of_lt (d[r']!).isLt) hne).resolve_right (by rw [hf]; simp)

end Go.Proofs.Ytpennngcehbioaa
