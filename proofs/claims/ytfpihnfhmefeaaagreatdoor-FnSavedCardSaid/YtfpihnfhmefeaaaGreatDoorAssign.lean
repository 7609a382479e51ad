/-
  Giving numbers to the pieces in their order: when the next one is new. No condition.
-/
import Derived.Test.YtfpihnfhmefeaaaGreatDoorCode
namespace Go.Proofs.YtfpihnfhmefeaaaGreatDoor

theorem half_inj {T : Nat → Nat} {n i j : Nat} (hi : lms T n i = true) (hj : lms T n j = true) (h : i / 2 = j / 2) : i = j := by
  by_cases he : i = j
  · exact he
  · by_cases h1 : j = i + 1
    · subst h1; rw [lms_next hi] at hj; simp at hj
    · have h2 : i = j + 1 := by omega
      subst h2; rw [lms_next hj] at hi; simp at hi

theorem many_half_aux (T : Nat → Nat) (n : Nat) : ∀ k, 2 * cnt (lms T n) k ≤ k ∧ 2 * cnt (lms T n) (k + 1) ≤ k + 1 := by
  intro k
  induction k with
  | zero =>
    have h0 : lms T n 0 = false := by simp [lms]
    simp [cnt, h0]
  | succ k ih =>
    refine ⟨ih.2, ?_⟩
    rw [cnt_succ]
    by_cases h : lms T n (k + 1) = true
    · have hk : lms T n k = false := by
        cases hq : lms T n k with
        | false => rfl
        | true => rw [lms_next hq] at h; simp at h
      have := cnt_succ_neg _ _ hk
      rw [if_pos h, this]; omega
    · rw [if_neg h]; omega
theorem many_half {T : Nat → Nat} {n : Nat} (hn : 0 < n) : 2 * many T n < n := by
  obtain ⟨k, rfl⟩ : ∃ k, n = k + 1 := ⟨n - 1, by omega⟩
  have h1 := (many_half_aux T (k + 1) k).1
  have h2 : lms T (k + 1) k = false := by
    cases hq : lms T (k + 1) k with
    | false => rfl
    | true => have := lms_bound hq; omega
  unfold many
  rw [cnt_succ_neg _ _ h2]; omega
theorem half_lt {T : Nat → Nat} {n j : Nat} (h : lms T n j = true) : j / 2 + many T n < n := by
  have h1 := lms_bound h
  have h2 := many_half (T := T) (n := n) (by omega)
  obtain ⟨k, rfl⟩ : ∃ k, n = k + 1 := ⟨n - 1, by omega⟩
  omega

theorem last_uniq {T : Nat → Nat} {n i j : Nat} (hi : lms T n i = true) (hj : lms T n j = true) (h : nxt T n i = n) (h' : nxt T n j = n) : i = j := by
  have bi := (lms_iff.1 hi).2.1
  have bj := (lms_iff.1 hj).2.1
  rcases Nat.lt_trichotomy i j with hl | hl | hl
  · have := nxt_none (T := T) bi j hl (by omega); simp [lmz, hj] at this
  · exact hl
  · have := nxt_none (T := T) bj i hl (by omega); simp [lmz, hi] at this
theorem subs_last {T : Nat → Nat} {n i j : Nat} (hi : lms T n i = true) (hj : lms T n j = true) (hs : subs T n i = subs T n j) : nxt T n i = n ↔ nxt T n j = n := by
  have bi := (lms_iff.1 hi).2.1
  have bj := (lms_iff.1 hj).2.1
  have h3 := (subs_same' bi bj hs).2.2.1
  have li := nxt_le (T := T) bi
  have lj := nxt_le (T := T) bj
  constructor
  · intro h
    rcases Nat.lt_or_ge (nxt T n j) n with h4 | h4
    · have := xv_pos (T := T) h4
      rw [h, xv_n] at h3; omega
    · omega
  · intro h
    rcases Nat.lt_or_ge (nxt T n i) n with h4 | h4
    · have := xv_pos (T := T) h4
      rw [h, xv_n] at h3; omega
    · omega

section
variable {T : Nat → Nat} {n : Nat} {M : Int} {cod : Nat → Int}
theorem asg_new (hc : CodeOK T n M cod) {j p : Nat} (hj : lms T n j = true) (hp : lms T n p = true) (h : cod j ≠ cod p) : subs T n j ≠ subs T n p := by
  intro hs
  have hl := subs_last hj hp hs
  have lj := nxt_le (T := T) (lms_iff.1 hj).2.1
  have lp := nxt_le (T := T) (lms_iff.1 hp).2.1
  by_cases h1 : nxt T n j = n
  · exact h (by rw [hc.last j hj h1, hc.last p hp (hl.1 h1)])
  · exact h (hc.same j p hj hp (by omega) (by have : ¬ nxt T n p = n := fun e => h1 (hl.2 e); omega) hs)
theorem asg_enc (hc : CodeOK T n M cod) (hn : 0 < n) {j p : Nat} (hj : lms T n j = true) (hp : lms T n p = true) (h : cod j = cod p) (hu : (n : Int) ≤ cod j % M) : subs T n j = subs T n p := by
  have lj := nxt_le (T := T) (lms_iff.1 hj).2.1
  have lp := nxt_le (T := T) (lms_iff.1 hp).2.1
  have h1 : nxt T n j < n := by
    rcases Nat.lt_or_ge (nxt T n j) n with h' | h'
    · exact h'
    · rw [hc.last j hj (by omega)] at hu; simp at hu; omega
  have h2 : nxt T n p < n := by
    rcases Nat.lt_or_ge (nxt T n p) n with h' | h'
    · exact h'
    · have := (hc.kinds j hj h1).1
      rw [h, hc.last p hp (by omega)] at this; exact (this rfl).elim
  exact hc.enc j p hj hp h1 h2 h hu
theorem asg_len (hc : CodeOK T n M cod) {j p : Nat} (hj : lms T n j = true) (hp : lms T n p = true) (hne : nxt T n j = n → nxt T n p ≠ n) (h : cod j = cod p) (hu : cod j % M < (n : Int)) :
    nxt T n j < n ∧ nxt T n p < n ∧ ∃ len : Nat, cod j = (len : Int) ∧ nxt T n j + 1 = j + len ∧ nxt T n p + 1 = p + len := by
  have bj := (lms_iff.1 hj).2.1
  have bp := (lms_iff.1 hp).2.1
  have lj := nxt_le (T := T) bj
  have lp := nxt_le (T := T) bp
  have gj := nxt_gt (T := T) bj
  have gp := nxt_gt (T := T) bp
  have h1 : nxt T n j < n := by
    rcases Nat.lt_or_ge (nxt T n j) n with h' | h'
    · exact h'
    · have h2 := hne (by omega)
      have := (hc.kinds p hp (by omega)).1
      rw [← h, hc.last j hj (by omega)] at this; exact (this rfl).elim
  have h2 : nxt T n p < n := by
    rcases Nat.lt_or_ge (nxt T n p) n with h' | h'
    · exact h'
    · have := (hc.kinds j hj h1).1
      rw [h, hc.last p hp (by omega)] at this; exact (this rfl).elim
  have kj := (hc.kinds j hj h1).2.2
  have kp := (hc.kinds p hp h2).2.2
  rw [← h] at kp
  rcases kj with kj | kj
  · omega
  · rcases kp with kp | kp
    · omega
    · exact ⟨h1, h2, nxt T n j + 1 - j, kj.1, by omega, by omega⟩
theorem asg_text {j p len : Nat} (hj : lms T n j = true) (hp : lms T n p = true) (h1 : nxt T n j < n) (h2 : nxt T n p < n) (l1 : nxt T n j + 1 = j + len) (l2 : nxt T n p + 1 = p + len) :
    (subs T n j = subs T n p ↔ ∀ e, e < len → T (j + e) = T (p + e)) := by
  have bj := (lms_iff.1 hj).2.1
  have bp := (lms_iff.1 hp).2.1
  have gj := nxt_gt (T := T) bj
  have gp := nxt_gt (T := T) bp
  constructor
  · intro hs e he
    exact (subs_same' bj bp hs).2.2.2 e (by omega) (by omega) (by omega)
  · intro ht
    exact subs_of_text T n (nxt T n j - j - 1) j p (by omega) bj bp h1 h2 (by omega) fun e he => ht e (by omega)
end

/-- The numbers given so far. -/
def idTo (T : Nat → Nat) (n : Nat) (a : Nat → Nat) : Nat → Nat
  | 0 => 0
  | r + 1 => idOf T n a r
theorem idTo_new {T : Nat → Nat} {n : Nat} {a : Nat → Nat} {r : Nat} (h : 0 < r → subs T n (a r) ≠ subs T n (a (r - 1))) : idTo T n a r + 1 = idOf T n a r := by
  cases r with
  | zero => rfl
  | succ r =>
    have h1 := h (by omega)
    rw [Nat.add_sub_cancel] at h1
    simp only [idTo, idOf]
    rw [if_neg fun e => h1 e.symm]
theorem idTo_same {T : Nat → Nat} {n : Nat} {a : Nat → Nat} {r : Nat} (h0 : 0 < r) (h : subs T n (a r) = subs T n (a (r - 1))) : idTo T n a r = idOf T n a r := by
  obtain ⟨q, rfl⟩ : ∃ q, r = q + 1 := ⟨r - 1, by omega⟩
  rw [Nat.add_sub_cancel] at h
  simp only [idTo, idOf]
  rw [if_pos h.symm]; rfl
theorem idTo_le (T : Nat → Nat) (n : Nat) (a : Nat → Nat) (r : Nat) : idTo T n a r ≤ r := by
  cases r with
  | zero => exact Nat.le_refl _
  | succ r => exact idOf_le_succ T n a r

end Go.Proofs.YtfpihnfhmefeaaaGreatDoor

