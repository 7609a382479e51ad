/-
  A text with a sentinel behind it: the order of its ends, which places are of type S, and where a run of type S begins. No condition.
-/
import Derived.Test.YtfpihnfhmefeaaaGreatDoorCnt
namespace Go.Proofs.YtfpihnfhmefeaaaGreatDoor

/-- Is the place that lies d places before the sentinel of type S? (The sentinel is.) -/
def tyAux (T : Nat → Nat) (n : Nat) : Nat → Bool
  | 0 => true
  | 1 => false
  | d + 2 => decide (T (n - (d + 2)) < T (n - (d + 1))) || (T (n - (d + 2)) == T (n - (d + 1)) && tyAux T n (d + 1))
/-- Is place i of type S? -/
def tyS (T : Nat → Nat) (n i : Nat) : Bool := tyAux T n (n - i)

theorem tyS_n (T : Nat → Nat) (n : Nat) : tyS T n n = true := by simp [tyS, tyAux]
theorem tyS_last (T : Nat → Nat) (n i : Nat) (h : i + 1 = n) : tyS T n i = false := by
  unfold tyS; rw [show n - i = 1 by omega]; rfl
theorem tyS_step (T : Nat → Nat) (n i : Nat) (h : i + 1 < n) : tyS T n i = (decide (T i < T (i + 1)) || (T i == T (i + 1) && tyS T n (i + 1))) := by
  unfold tyS
  obtain ⟨d, hd⟩ : ∃ d, n - i = d + 2 := ⟨n - i - 2, by omega⟩
  rw [hd, tyAux, show n - (d + 2) = i by omega, show n - (d + 1) = i + 1 by omega, show n - (i + 1) = d + 1 by omega]
theorem tyS_lt (T : Nat → Nat) (n i : Nat) (h : i + 1 < n) (hc : T i < T (i + 1)) : tyS T n i = true := by simp [tyS_step T n i h, hc]
theorem tyS_gt (T : Nat → Nat) (n i : Nat) (h : i < n) (hc : i + 1 < n → T (i + 1) < T i) : tyS T n i = false := by
  by_cases hl : i + 1 = n
  · exact tyS_last T n i hl
  · have := hc (by omega)
    rw [tyS_step T n i (by omega)]; simp; omega
theorem tyS_eq (T : Nat → Nat) (n i : Nat) (h : i + 1 < n) (hc : T i = T (i + 1)) : tyS T n i = tyS T n (i + 1) := by
  rw [tyS_step T n i h]; simp [hc]
/-- Of type S: there is a next place, and its number is no less. -/
theorem tyS_le {T : Nat → Nat} {n i : Nat} (h : i < n) (hs : tyS T n i = true) : i + 1 < n ∧ T i ≤ T (i + 1) := by
  by_cases hl : i + 1 = n
  · rw [tyS_last T n i hl] at hs; simp at hs
  · refine ⟨by omega, ?_⟩
    rw [tyS_step T n i (by omega)] at hs
    simp at hs; omega
theorem tyL_ge {T : Nat → Nat} {n i : Nat} (h : i + 1 < n) (hs : tyS T n i = false) : T (i + 1) ≤ T i := by
  rw [tyS_step T n i h] at hs
  simp at hs; omega

/-- Does a run of type S begin at place i (the sentinel aside)? -/
def lms (T : Nat → Nat) (n i : Nat) : Bool := decide (0 < i) && decide (i < n) && tyS T n i && !tyS T n (i - 1)
theorem lms_iff {T : Nat → Nat} {n i : Nat} : lms T n i = true ↔ 0 < i ∧ i < n ∧ tyS T n i = true ∧ tyS T n (i - 1) = false := by
  unfold lms; simp [and_assoc]
theorem lms_pred {T : Nat → Nat} {n i : Nat} (h : lms T n i = true) : T i < T (i - 1) := by
  obtain ⟨h0, h1, h2, h3⟩ := lms_iff.1 h
  have e : i - 1 + 1 = i := by omega
  have h4 := tyL_ge (i := i - 1) (by omega) h3
  rw [e] at h4
  rcases Nat.lt_or_ge (T i) (T (i - 1)) with h5 | h5
  · exact h5
  · have := tyS_eq T n (i - 1) (by omega) (by rw [e]; omega)
    rw [e, h2, h3] at this; simp at this
theorem lms_bound {T : Nat → Nat} {n i : Nat} (h : lms T n i = true) : 0 < i ∧ i + 1 < n := by
  obtain ⟨h0, h1, h2, h3⟩ := lms_iff.1 h
  exact ⟨h0, (tyS_le h1 h2).1⟩
theorem lms_next {T : Nat → Nat} {n i : Nat} (h : lms T n i = true) : lms T n (i + 1) = false := by
  obtain ⟨h0, h1, h2, h3⟩ := lms_iff.1 h
  cases hq : lms T n (i + 1) with
  | false => rfl
  | true => obtain ⟨_, _, _, h4⟩ := lms_iff.1 hq; simp at h4; simp [h4] at h2

/-! ### The walk from behind: what is known at a place from the number there and from what stood at the next one -/
/-- The number at the next place; 0 at the sentinel. -/
def nx (T : Nat → Nat) (n j : Nat) : Nat := if j < n then T j else 0
/-- The next place's type; the sentinel's is told as L. -/
def fl (T : Nat → Nat) (n j : Nat) : Bool := decide (j < n) && tyS T n j
theorem fl_lt (T : Nat → Nat) (n j : Nat) (h : j < n) : fl T n j = tyS T n j := by simp [fl, h]
theorem fl_n (T : Nat → Nat) (n : Nat) : fl T n n = false := by simp [fl]
theorem nx_lt (T : Nat → Nat) (n j : Nat) (h : j < n) : nx T n j = T j := by simp [nx, h]
theorem nx_n (T : Nat → Nat) (n : Nat) : nx T n n = 0 := by simp [nx]
theorem iter_up {T : Nat → Nat} {n i : Nat} (h : i < n) (hc : T i < nx T n (i + 1)) : fl T n i = true ∧ lms T n (i + 1) = false := by
  have hl : i + 1 < n := by
    rcases Nat.lt_or_ge (i + 1) n with h' | h'
    · exact h'
    · unfold nx at hc; rw [if_neg (by omega)] at hc; omega
  rw [nx_lt T n _ hl] at hc
  have ht := tyS_lt T n i hl hc
  refine ⟨by rw [fl_lt T n i h]; exact ht, ?_⟩
  cases hq : lms T n (i + 1) with
  | false => rfl
  | true => obtain ⟨_, _, _, h4⟩ := lms_iff.1 hq; simp at h4; simp [h4] at ht
theorem iter_event {T : Nat → Nat} {n i : Nat} (h : i < n) (hc : nx T n (i + 1) < T i) (hf : fl T n (i + 1) = true) : fl T n i = false ∧ lms T n (i + 1) = true ∧ i + 1 < n ∧ nx T n (i + 1) = T (i + 1) := by
  have hl : i + 1 < n := by unfold fl at hf; simp at hf; exact hf.1
  rw [nx_lt T n _ hl] at hc
  rw [fl_lt T n _ hl] at hf
  have ht := tyS_gt T n i h fun _ => hc
  exact ⟨by rw [fl_lt T n i h]; exact ht, lms_iff.2 ⟨by omega, hl, hf, by simpa using ht⟩, hl, nx_lt T n _ hl⟩
theorem iter_stay {T : Nat → Nat} {n i : Nat} (h : i < n) (h1 : ¬ T i < nx T n (i + 1)) (h2 : nx T n (i + 1) < T i → fl T n (i + 1) = false) : fl T n i = fl T n (i + 1) ∧ lms T n (i + 1) = false := by
  have hq : tyS T n i = fl T n (i + 1) := by
    by_cases hl : i + 1 = n
    · rw [hl, fl_n, tyS_last T n i hl]
    · rw [fl_lt T n _ (by omega)]
      rw [nx_lt T n _ (by omega)] at h1 h2
      rw [fl_lt T n _ (by omega)] at h2
      rcases Nat.lt_or_ge (T (i + 1)) (T i) with h3 | h3
      · rw [h2 h3]; exact tyS_gt T n i h fun _ => h3
      · exact tyS_eq T n i (by omega) (by omega)
  refine ⟨by rw [fl_lt T n i h, hq], ?_⟩
  cases hlm : lms T n (i + 1) with
  | false => rfl
  | true =>
    obtain ⟨_, h5, h6, h4⟩ := lms_iff.1 hlm
    simp at h4
    rw [h4, fl_lt T n _ h5, h6] at hq; simp at hq

/-! ### The order of the ends -/
/-- The end that begins d places before the sentinel; each number raised by one, the sentinel 0. -/
def sufAux (T : Nat → Nat) (n : Nat) : Nat → List Nat
  | 0 => [0]
  | d + 1 => (T (n - (d + 1)) + 1) :: sufAux T n d
def suf (T : Nat → Nat) (n i : Nat) : List Nat := sufAux T n (n - i)
theorem suf_n (T : Nat → Nat) (n : Nat) : suf T n n = [0] := by simp [suf, sufAux]
theorem suf_step (T : Nat → Nat) (n i : Nat) (h : i < n) : suf T n i = (T i + 1) :: suf T n (i + 1) := by
  unfold suf
  obtain ⟨d, hd⟩ : ∃ d, n - i = d + 1 := ⟨n - i - 1, by omega⟩
  rw [hd, sufAux, show n - (d + 1) = i by omega, show n - (i + 1) = d by omega]
theorem sufAux_length (T : Nat → Nat) (n d : Nat) : (sufAux T n d).length = d + 1 := by
  induction d with
  | zero => rfl
  | succ d ih => simp [sufAux, ih]
theorem suf_inj (T : Nat → Nat) (n i j : Nat) (hi : i ≤ n) (hj : j ≤ n) (h : suf T n i = suf T n j) : i = j := by
  have := congrArg List.length h
  simp only [suf, sufAux_length] at this
  omega

/-- The end at i comes ahead of the end at j. -/
def sl (T : Nat → Nat) (n i j : Nat) : Bool := decide (suf T n i < suf T n j)
theorem lex_irrefl (l : List Nat) : ¬ l < l := List.lt_irrefl l
theorem lex_trans {a b c : List Nat} (h : a < b) (g : b < c) : a < c := List.lt_trans h g
theorem lex_total {a b : List Nat} (h : a ≠ b) : a < b ∨ b < a := by
  by_cases h1 : a < b
  · exact .inl h1
  · by_cases h2 : b < a
    · exact .inr h2
    · exact (h (List.le_antisymm (List.not_lt.1 h2) (List.not_lt.1 h1))).elim
theorem lex_cons (a b : Nat) (x y : List Nat) : (a :: x) < (b :: y) ↔ a < b ∨ (a = b ∧ x < y) := List.cons_lt_cons_iff
theorem sl_iff (T : Nat → Nat) (n i j : Nat) (hi : i < n) (hj : j < n) : sl T n i j = true ↔ T i < T j ∨ (T i = T j ∧ sl T n (i + 1) (j + 1) = true) := by
  unfold sl
  rw [decide_eq_true_iff, decide_eq_true_iff, suf_step T n i hi, suf_step T n j hj, lex_cons]
  constructor
  · rintro (h | ⟨h, g⟩)
    · exact .inl (by omega)
    · exact .inr ⟨by omega, g⟩
  · rintro (h | ⟨h, g⟩)
    · exact .inl (by omega)
    · exact .inr ⟨by omega, g⟩
theorem sl_n (T : Nat → Nat) (n j : Nat) (hj : j < n) : sl T n n j = true := by
  unfold sl
  rw [decide_eq_true_iff, suf_n, suf_step T n j hj, lex_cons]; omega
theorem sl_irrefl (T : Nat → Nat) (n i : Nat) : sl T n i i = false := by simp [sl, List.lt_irrefl]
theorem sl_trans {T : Nat → Nat} {n i j k : Nat} (h : sl T n i j = true) (g : sl T n j k = true) : sl T n i k = true := by
  unfold sl at *; rw [decide_eq_true_iff] at *; exact lex_trans h g
theorem sl_total {T : Nat → Nat} {n i j : Nat} (hi : i ≤ n) (hj : j ≤ n) (h : i ≠ j) : sl T n i j = true ∨ sl T n j i = true := by
  unfold sl; rw [decide_eq_true_iff, decide_eq_true_iff]
  exact lex_total fun e => h (suf_inj T n i j hi hj e)
theorem sl_asymm {T : Nat → Nat} {n i j : Nat} (h : sl T n i j = true) : sl T n j i = false := by
  cases hq : sl T n j i with
  | false => rfl
  | true => have := sl_trans h hq; rw [sl_irrefl] at this; simp at this

/-- A place of type L: the end behind it comes ahead; of type S: it comes behind. -/
theorem sl_ty (T : Nat → Nat) (n : Nat) : ∀ d i, n = i + 1 + d → sl T n i (i + 1) = tyS T n i ∧ sl T n (i + 1) i = !tyS T n i := by
  intro d
  induction d with
  | zero =>
    intro i hd
    have hn : i + 1 = n := by omega
    have h1 : sl T n (i + 1) i = true := by rw [hn]; exact sl_n T n i (by omega)
    rw [tyS_last T n i hn, sl_asymm h1, h1]; simp
  | succ d ih =>
    intro i hd
    obtain ⟨h1, h2⟩ := ih (i + 1) (by omega)
    have key : ∀ x y : Bool, (x = true ↔ T i < T (i + 1) ∨ (T i = T (i + 1) ∧ tyS T n (i + 1) = true)) → (y = true ↔ T (i + 1) < T i ∨ (T (i + 1) = T i ∧ (!tyS T n (i + 1)) = true)) → x = tyS T n i ∧ y = !tyS T n i := by
      intro x y hx hy
      rw [tyS_step T n i (by omega)]
      constructor
      · rw [Bool.eq_iff_iff, hx]; simp
      · rw [Bool.eq_iff_iff, hy]; simp
        constructor
        · rintro (h | ⟨h, g⟩)
          · exact ⟨by omega, .inl (by omega)⟩
          · exact ⟨by omega, .inr g⟩
        · rintro ⟨h, g⟩
          by_cases he : T i = T (i + 1)
          · exact .inr ⟨he.symm, by rcases g with g | g; exact (g he).elim; exact g⟩
          · exact .inl (by omega)
    refine key _ _ ?_ ?_
    · rw [sl_iff T n i (i + 1) (by omega) (by omega), h1]
    · rw [sl_iff T n (i + 1) i (by omega) (by omega), h2]
theorem sl_S {T : Nat → Nat} {n i : Nat} (h : i < n) (hs : tyS T n i = true) : sl T n i (i + 1) = true := by
  rw [(sl_ty T n (n - 1 - i) i (by omega)).1]; exact hs
theorem sl_L {T : Nat → Nat} {n i : Nat} (h : i < n) (hs : tyS T n i = false) : sl T n (i + 1) i = true := by
  rw [(sl_ty T n (n - 1 - i) i (by omega)).2, hs]; rfl

/-- Where the numbers are one, type L comes ahead of type S. -/
theorem sl_LS (T : Nat → Nat) (n : Nat) : ∀ d i j, i < n → j < n → d = n - i → tyS T n i = false → tyS T n j = true → T i = T j → sl T n i j = true := by
  intro d
  induction d with
  | zero => intro i j hi _ hd; omega
  | succ d ih =>
    intro i j hi hj hd hL hS hT
    obtain ⟨hj1, hjT⟩ := tyS_le hj hS
    rw [sl_iff T n i j hi hj]
    refine .inr ⟨hT, ?_⟩
    by_cases hi1 : i + 1 = n
    · rw [hi1]; exact sl_n T n (j + 1) hj1
    · have hiT := tyL_ge (i := i) (by omega) hL
      by_cases he : T (i + 1) = T (j + 1)
      · -- both are as their neighbours
        have h1 : T i = T (i + 1) := by omega
        have h2 : T j = T (j + 1) := by omega
        exact ih (i + 1) (j + 1) (by omega) hj1 (by omega) (by rw [← tyS_eq T n i (by omega) h1]; exact hL) (by rw [← tyS_eq T n j hj1 h2]; exact hS) he
      · rw [sl_iff T n (i + 1) (j + 1) (by omega) hj1]
        exact .inl (by omega)
theorem sl_LS' {T : Nat → Nat} {n i j : Nat} (hi : i < n) (hj : j < n) (hL : tyS T n i = false) (hS : tyS T n j = true) (hT : T i = T j) : sl T n i j = true :=
  sl_LS T n (n - i) i j hi hj rfl hL hS hT

end Go.Proofs.YtfpihnfhmefeaaaGreatDoor

