/-
  The order of a text's ends and of the turned text's; two arrays of one text are one. No condition.
-/
import Derived.Test.YtfpihnfhmefeaaaGreatDoorRound
namespace Go.Proofs.YtfpihnfhmefeaaaGreatDoor

/-- The text whose bytes are below 255 and above 0, a 0 at the end; the same taken from 255. -/
def lowT (T : Nat → Nat) (n i : Nat) : Nat := if i < n then 1 + T i % 254 else 0
def highT (T : Nat → Nat) (n i : Nat) : Nat := if i < n then 255 - (1 + T i % 254) else 255
theorem low_le (T : Nat → Nat) (n i : Nat) : lowT T n i ≤ 254 := by
  unfold lowT
  have := Nat.mod_lt (T i) (show 0 < 254 by omega)
  split <;> omega
theorem high_low (T : Nat → Nat) (n i : Nat) : highT T n i = 255 - lowT T n i := by
  unfold lowT highT
  split <;> omega
theorem low_end (T : Nat → Nat) (n i : Nat) (h : i < n) : lowT T n n < lowT T n i := by
  unfold lowT
  rw [if_neg (by omega), if_pos h]; omega

/-- The order turned. -/
theorem turn_sl (T : Nat → Nat) (n : Nat) : ∀ d x y, d = n + 1 - x → x < n + 1 → y < n + 1 → x ≠ y → sl (highT T n) (n + 1) x y = sl (lowT T n) (n + 1) y x := by
  intro d
  induction d with
  | zero => intro x y hd hx; omega
  | succ d ih =>
    intro x y hd hx hy hne
    have key : sl (highT T n) (n + 1) x y = true ↔ sl (lowT T n) (n + 1) y x = true := by
      rw [sl_iff _ _ x y hx hy, sl_iff _ _ y x hy hx, high_low, high_low]
      have h1 := low_le T n x
      have h2 := low_le T n y
      by_cases he : lowT T n x = lowT T n y
      · have hxn : x < n := by
          rcases Nat.lt_or_ge x n with h | h
          · exact h
          · have e1 : x = n := by omega
            have e2 : y < n := by omega
            have := low_end T n y e2
            rw [e1] at he; omega
        have hyn : y < n := by
          rcases Nat.lt_or_ge y n with h | h
          · exact h
          · have e1 : y = n := by omega
            have := low_end T n x hxn
            rw [e1] at he; omega
        rw [ih (x + 1) (y + 1) (by omega) (by omega) (by omega) (by omega)]
        constructor
        · rintro (h | ⟨_, h⟩)
          · omega
          · exact .inr ⟨he.symm, h⟩
        · rintro (h | ⟨_, h⟩)
          · omega
          · exact .inr ⟨by omega, h⟩
      · constructor
        · rintro (h | ⟨h, _⟩)
          · left; omega
          · omega
        · rintro (h | ⟨h, _⟩)
          · left; omega
          · omega
    rw [Bool.eq_iff_iff]; exact key

theorem up_id {n : Nat} {h : Nat → Nat} (hm : ∀ r, r < n → h r < n) (hi : ∀ r r', r < r' → r' < n → h r < h r') : ∀ r, r < n → h r = r := by
  have lo : ∀ r, r < n → r ≤ h r := fun r => by
    induction r with
    | zero => intro _; omega
    | succ r ih => intro hr; have := hi r (r + 1) (by omega) hr; have := ih (by omega); omega
  have up : ∀ d r, r + d + 1 = n → h r ≤ r := fun d => by
    induction d with
    | zero => intro r hr; have := hm r (by omega); omega
    | succ d ih => intro r hr; have := ih (r + 1) (by omega); have := hi r (r + 1) (by omega) (by omega); omega
  intro r hr
  have := lo r hr
  have := up (n - 1 - r) r (by omega)
  omega

/-- Two arrays of one text are one. -/
theorem IsSA.same {T : Nat → Nat} {n : Nat} {g g' : Nat → Nat} (hg : IsSA T n g) (hg' : IsSA T n g') : ∀ r, r < n → g r = g' r := by
  have inj : ∀ r r', r < n → r' < n → g' r = g' r' → r = r' := fun r r' hr hr' he => by
    rcases Nat.lt_trichotomy r r' with h1 | h1 | h1
    · have := hg'.inc r r' h1 hr'; rw [he, sl_irrefl] at this; simp at this
    · exact h1
    · have := hg'.inc r' r h1 hr; rw [he, sl_irrefl] at this; simp at this
  have onto : ∀ x, x < n → ∃ r, r < n ∧ g' r = x := onto_of_inj n g' hg'.mem inj
  have hex : ∀ r, ∃ q, r < n → q < n ∧ g' q = g r := fun r => by
    by_cases hr : r < n
    · obtain ⟨q, h1, h2⟩ := onto (g r) (hg.mem r hr)
      exact ⟨q, fun _ => ⟨h1, h2⟩⟩
    · exact ⟨0, fun h => absurd h hr⟩
  obtain ⟨h, hh⟩ := Classical.axiomOfChoice hex
  have hid := up_id (n := n) (h := h) (fun r hr => (hh r hr).1) fun r r' hlt hr' => by
    have h1 := hg.inc r r' hlt hr'
    have h2 := hh r (by omega)
    have h3 := hh r' hr'
    rw [← h2.2, ← h3.2] at h1
    rcases Nat.lt_trichotomy (h r) (h r') with h4 | h4 | h4
    · exact h4
    · rw [h4, sl_irrefl] at h1; simp at h1
    · rw [sl_asymm (hg'.inc _ _ h4 h2.1)] at h1; simp at h1
  intro r hr
  have := (hh r hr).2
  rw [hid r hr] at this
  exact this.symm

/-- The arrays of the text and of the turned one. -/
theorem turn_sa {T : Nat → Nat} {n : Nat} {g g' : Nat → Nat} (hg : IsSA (lowT T n) (n + 1) g) (hg' : IsSA (highT T n) (n + 1) g') : ∀ r, r < n + 1 → g r = g' (n - r) := by
  refine hg.same ⟨fun r _ => hg'.mem _ (by omega), fun r r' h1 h2 => ?_⟩
  have h3 := hg'.inc (n - r') (n - r) (by omega) (by omega)
  have hne : g' (n - r') ≠ g' (n - r) := fun e => by rw [e, sl_irrefl] at h3; simp at h3
  rw [turn_sl T n _ _ _ rfl (hg'.mem _ (by omega)) (hg'.mem _ (by omega)) hne] at h3
  exact h3

end Go.Proofs.YtfpihnfhmefeaaaGreatDoor

