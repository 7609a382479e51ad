/-
  Where a piece stands: a stretch of the array. No condition.
-/
import Derived.Test.YtfpihnfhmefeaaaGreatDoorCmp
import Derived.Test.YtfpihnfhmefeaaaGreatDoorTurn
namespace Go.Proofs.YtfpihnfhmefeaaaGreatDoor

/-- The bytes from a place on. -/
def sg (T : Nat → Nat) (n i : Nat) : List UInt8 := Lib.bytesOf (seg T n i)

theorem cb_trans : ∀ (a b c : List UInt8), Lib.compareBytes a b < 0 → Lib.compareBytes b c < 0 → Lib.compareBytes a c < 0
  | [], [], _, h, _ => by simp [Lib.compareBytes] at h
  | _ :: _, [], _, h, _ => by simp [Lib.compareBytes] at h
  | [], y :: b, [], _, g => by simp [Lib.compareBytes] at g
  | [], y :: b, z :: c, _, _ => by simp [Lib.compareBytes]
  | x :: a, y :: b, [], _, g => by simp [Lib.compareBytes] at g
  | x :: a, y :: b, z :: c, h, g => by
    have ih := cb_trans a b c
    simp only [Lib.compareBytes] at h g ⊢
    simp only [UInt8.lt_iff_toNat_lt] at h g ⊢
    by_cases h1 : x.toNat < y.toNat
    · by_cases h2 : y.toNat < z.toNat
      · rw [if_pos (by omega)]; omega
      · rw [if_neg h2] at g
        by_cases h3 : z.toNat < y.toNat
        · rw [if_pos h3] at g; omega
        · rw [if_pos (by omega)]; omega
    · rw [if_neg h1] at h
      by_cases h3 : y.toNat < x.toNat
      · rw [if_pos h3] at h; omega
      · rw [if_neg h3] at h
        by_cases h2 : y.toNat < z.toNat
        · rw [if_pos (by omega)]; omega
        · rw [if_neg h2] at g
          by_cases h4 : z.toNat < y.toNat
          · rw [if_pos h4] at g; omega
          · rw [if_neg h4] at g
            rw [if_neg (by omega), if_neg (by omega)]
            exact ih h g

/-- What lies between a piece and what begins with it begins with it. -/
theorem cb_prefix : ∀ (s a b : List UInt8), Lib.compareBytes a b < 0 → 0 ≤ Lib.compareBytes a s → s.isPrefixOf b = true → s.isPrefixOf a = true
  | [], _, _, _, _, _ => by simp
  | x :: s, _, [], _, _, h => by simp at h
  | x :: s, [], y :: b, _, h, _ => by simp [Lib.compareBytes] at h
  | x :: s, z :: a, y :: b, h, g, p => by
    have ih := cb_prefix s a b
    simp only [List.isPrefixOf, Bool.and_eq_true, beq_iff_eq] at p ⊢
    obtain ⟨rfl, p⟩ := p
    simp only [Lib.compareBytes] at h g
    simp only [UInt8.lt_iff_toNat_lt] at h g
    by_cases h1 : z.toNat < x.toNat
    · rw [if_pos h1] at g; omega
    · rw [if_neg h1] at h g
      by_cases h2 : x.toNat < z.toNat
      · rw [if_pos h2] at h; omega
      · rw [if_neg h2] at h g
        exact ⟨UInt8.toNat_inj.1 (by omega), ih h g p⟩

theorem cb_of_prefix : ∀ (s a : List UInt8), s.isPrefixOf a = true → 0 ≤ Lib.compareBytes a s
  | [], [], _ => by simp [Lib.compareBytes]
  | [], _ :: _, _ => by simp [Lib.compareBytes]
  | x :: s, [], h => by simp at h
  | x :: s, y :: a, h => by
    simp only [List.isPrefixOf, Bool.and_eq_true, beq_iff_eq] at h
    obtain ⟨rfl, h⟩ := h
    have := cb_of_prefix s a h
    simp only [Lib.compareBytes]
    simp only [UInt8.lt_iff_toNat_lt]
    rw [if_neg (by omega), if_neg (by omega)]; exact this

/-- The array's order, as the bytes' own. -/
theorem cb_inc {T : Nat → Nat} {n : Nat} {g : Nat → Nat} (hg : IsSA T n g) (hT : ∀ i, i < n → T i < 256) {r r' : Nat} (h : r < r') (h' : r' < n) : Lib.compareBytes (sg T n (g r)) (sg T n (g r')) < 0 := by
  have h1 := hg.inc r r' h h'
  have h2 := hg.mem r (by omega)
  have h3 := hg.mem r' h'
  unfold sg
  rw [cmp_sl hT _ _ _ rfl (by omega) (by omega)]
  unfold cmpT
  rw [if_neg (fun e => by rw [e, sl_irrefl] at h1; simp at h1), if_pos h1]
  omega

/-- Not less than the piece. -/
def atLeast (T : Nat → Nat) (n : Nat) (g : Nat → Nat) (s : List UInt8) (r : Nat) : Bool := decide (0 ≤ Lib.compareBytes (sg T n (g r)) s)
/-- The piece stands there. -/
def begins (T : Nat → Nat) (n : Nat) (g : Nat → Nat) (s : List UInt8) (r : Nat) : Bool := s.isPrefixOf (sg T n (g r))

section
variable {T : Nat → Nat} {n : Nat} {g : Nat → Nat} (hg : IsSA T n g) (hT : ∀ i, i < n → T i < 256) (s : List UInt8)
include hg hT
theorem atLeast_mono {r r' : Nat} (h : r ≤ r') (h' : r' < n) (hp : atLeast T n g s r = true) : atLeast T n g s r' = true := by
  rcases Nat.lt_or_ge r r' with h1 | h1
  · unfold atLeast at *
    rw [decide_eq_true_eq] at *
    have h2 := cb_inc hg hT h1 h'
    rcases Int.lt_or_le (Lib.compareBytes (sg T n (g r')) s) 0 with h3 | h3
    · have := cb_trans _ _ _ h2 h3; omega
    · exact h3
  · have : r = r' := by omega
    subst this; exact hp
theorem begins_mono {r r' : Nat} (h : r ≤ r') (h' : r' < n) (hp : atLeast T n g s r = true) (hb : begins T n g s r = false) : begins T n g s r' = false := by
  rcases Nat.lt_or_ge r r' with h1 | h1
  · unfold begins atLeast at *
    rw [decide_eq_true_eq] at hp
    have h2 := cb_inc hg hT h1 h'
    rw [← Bool.not_eq_true]
    intro h3
    rw [cb_prefix _ _ _ h2 hp h3] at hb
    simp at hb
  · have : r = r' := by omega
    subst this; exact hb
end
theorem begins_atLeast {T : Nat → Nat} {n : Nat} {g : Nat → Nat} {s : List UInt8} {r : Nat} (h : begins T n g s r = true) : atLeast T n g s r = true := by
  unfold begins atLeast at *
  rw [decide_eq_true_eq]
  exact cb_of_prefix _ _ h

theorem sg_n (T : Nat → Nat) (n : Nat) : sg T n n = [] := by unfold sg; rw [seg_n]; rfl
theorem sg_step (T : Nat → Nat) (n i : Nat) (h : i < n) : sg T n i = (T i).toUInt8 :: sg T n (i + 1) := by
  unfold sg
  rw [seg_step T n i h]
  simp [Lib.bytesOf]
theorem byte_eq {x y : Nat} (hx : x < 256) (hy : y < 256) : (x.toUInt8 == y.toUInt8) = decide (x = y) := by
  rw [Bool.eq_iff_iff]
  simp only [beq_iff_eq, decide_eq_true_eq]
  constructor
  · intro h
    have h2 := congrArg UInt8.toNat h
    simp only [Nat.toUInt8, UInt8.toNat_ofNat'] at h2
    rw [Nat.mod_eq_of_lt (by omega), Nat.mod_eq_of_lt (by omega)] at h2
    exact h2
  · intro h; rw [h]

/-- Where the piece stands: its bytes stand there. -/
theorem prefix_iff {T S : Nat → Nat} {n m : Nat} (hT : ∀ i, i < n → T i < 256) (hS : ∀ i, i < m → S i < 256) : ∀ d a i, d = m - a → a ≤ m → i ≤ n →
    ((sg S m a).isPrefixOf (sg T n i) = true ↔ i + (m - a) ≤ n ∧ ∀ k, k < m - a → T (i + k) = S (a + k)) := by
  intro d
  induction d with
  | zero =>
    intro a i hd ha hi
    have : a = m := by omega
    subst this
    rw [sg_n]
    simp only [List.isPrefixOf_nil_left, Nat.sub_self, Nat.add_zero, true_iff]
    exact ⟨hi, fun k hk => by omega⟩
  | succ d ih =>
    intro a i hd ha hi
    rw [sg_step S m a (by omega)]
    rcases Nat.lt_or_ge i n with h | h
    · rw [sg_step T n i h, List.isPrefixOf, Bool.and_eq_true, byte_eq (hS a (by omega)) (hT i h), decide_eq_true_eq, ih (a + 1) (i + 1) (by omega) (by omega) (by omega)]
      constructor
      · rintro ⟨h1, h2, h3⟩
        refine ⟨by omega, fun k hk => ?_⟩
        cases k with
        | zero => simpa using h1.symm
        | succ k =>
          have := h3 k (by omega)
          rw [show i + (k + 1) = i + 1 + k by omega, show a + (k + 1) = a + 1 + k by omega]; exact this
      · rintro ⟨h1, h2⟩
        refine ⟨by have := h2 0 (by omega); simpa using this.symm, by omega, fun k hk => ?_⟩
        have := h2 (k + 1) (by omega)
        rw [show i + 1 + k = i + (k + 1) by omega, show a + 1 + k = a + (k + 1) by omega]; exact this
    · have : i = n := by omega
      subst this
      rw [sg_n]
      simp only [List.isPrefixOf_cons_nil, Bool.false_eq_true, false_iff]
      intro h; omega

end Go.Proofs.YtfpihnfhmefeaaaGreatDoor

