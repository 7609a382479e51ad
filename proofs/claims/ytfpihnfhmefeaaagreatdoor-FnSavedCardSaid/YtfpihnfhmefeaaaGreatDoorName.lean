/-
  The pieces of a text between two beginnings of runs of type S, their names, and that the text of the names has the order of the ends. No condition.
-/
import Derived.Test.YtfpihnfhmefeaaaGreatDoorKey
namespace Go.Proofs.YtfpihnfhmefeaaaGreatDoor

/-! ### The next beginning, and the piece up to it -/
def nxtAux (T : Nat → Nat) (n : Nat) : Nat → Nat
  | 0 => n
  | d + 1 => if lmz T n (n - d) then n - d else nxtAux T n d
def nxt (T : Nat → Nat) (n i : Nat) : Nat := nxtAux T n (n - i)
theorem nxt_step {T : Nat → Nat} {n i : Nat} (h : i < n) : nxt T n i = if lmz T n (i + 1) then i + 1 else nxt T n (i + 1) := by
  unfold nxt
  obtain ⟨d, hd⟩ : ∃ d, n - i = d + 1 := ⟨n - i - 1, by omega⟩
  rw [hd, nxtAux, show n - d = i + 1 by omega, show n - (i + 1) = d by omega]
theorem nxt_z {T : Nat → Nat} {n i : Nat} (h : i < n) (hz : lmz T n (i + 1) = true) : nxt T n i = i + 1 := by rw [nxt_step h, hz]; rfl
theorem nxt_on {T : Nat → Nat} {n i : Nat} (h : i < n) (hz : lmz T n (i + 1) = false) : nxt T n i = nxt T n (i + 1) := by rw [nxt_step h, hz]; rfl
theorem not_lmz_lt {T : Nat → Nat} {n i : Nat} (h : i ≤ n) (hz : lmz T n i = false) : i < n := by
  rcases Nat.lt_or_ge i n with h' | h'
  · exact h'
  · rw [show i = n by omega, lmz_n] at hz; simp at hz
theorem nxt_facts (T : Nat → Nat) (n : Nat) : ∀ d i, n = i + 1 + d → i < nxt T n i ∧ nxt T n i ≤ n ∧ lmz T n (nxt T n i) = true ∧ ∀ j, i < j → j < nxt T n i → lmz T n j = false := by
  intro d
  induction d with
  | zero =>
    intro i hd
    have hz : lmz T n (i + 1) = true := by rw [show i + 1 = n by omega]; exact lmz_n T n
    rw [nxt_z (by omega) hz]
    exact ⟨by omega, by omega, hz, fun j h1 h2 => by omega⟩
  | succ d ih =>
    intro i hd
    by_cases hz : lmz T n (i + 1) = true
    · rw [nxt_z (by omega) hz]
      exact ⟨by omega, by omega, hz, fun j h1 h2 => by omega⟩
    · have hz' : lmz T n (i + 1) = false := by simpa using hz
      obtain ⟨a, b, c, e⟩ := ih (i + 1) (by omega)
      rw [nxt_on (by omega) hz']
      refine ⟨by omega, b, c, fun j h1 h2 => ?_⟩
      by_cases hj : j = i + 1
      · rw [hj]; exact hz'
      · exact e j (by omega) h2
theorem nxt_gt {T : Nat → Nat} {n i : Nat} (h : i < n) : i < nxt T n i := (nxt_facts T n (n - 1 - i) i (by omega)).1
theorem nxt_le {T : Nat → Nat} {n i : Nat} (h : i < n) : nxt T n i ≤ n := (nxt_facts T n (n - 1 - i) i (by omega)).2.1
theorem nxt_lmz {T : Nat → Nat} {n i : Nat} (h : i < n) : lmz T n (nxt T n i) = true := (nxt_facts T n (n - 1 - i) i (by omega)).2.2.1
theorem nxt_none {T : Nat → Nat} {n i : Nat} (h : i < n) : ∀ j, i < j → j < nxt T n i → lmz T n j = false := (nxt_facts T n (n - 1 - i) i (by omega)).2.2.2
theorem nxt_lms {T : Nat → Nat} {n i : Nat} (h : i < n) (h1 : nxt T n i < n) : lms T n (nxt T n i) = true := by
  have := nxt_lmz (T := T) h
  simp [lmz] at this
  rcases this with h2 | h2
  · exact h2
  · omega
/-- Which place it is, told by what lies between. -/
theorem nxt_eq {T : Nat → Nat} {n i j : Nat} (h : i < j) (hj : j ≤ n) (hz : lmz T n j = true) (hno : ∀ x, i < x → x < j → lmz T n x = false) : nxt T n i = j := by
  have hi : i < n := by omega
  rcases Nat.lt_trichotomy (nxt T n i) j with h1 | h1 | h1
  · have := hno _ (nxt_gt (T := T) hi) h1
    rw [nxt_lmz hi] at this; simp at this
  · exact h1
  · have := nxt_none (T := T) hi j h h1
    rw [hz] at this; simp at this

def subsAux (T : Nat → Nat) (n : Nat) : Nat → List Nat
  | 0 => []
  | d + 1 => xv T n (n - (d + 1)) :: (if lmz T n (n - d) then [xv T n (n - d)] else subsAux T n d)
def subs (T : Nat → Nat) (n i : Nat) : List Nat := subsAux T n (n - i)
theorem subs_step {T : Nat → Nat} {n i : Nat} (h : i < n) : subs T n i = xv T n i :: (if lmz T n (i + 1) then [xv T n (i + 1)] else subs T n (i + 1)) := by
  unfold subs
  obtain ⟨d, hd⟩ : ∃ d, n - i = d + 1 := ⟨n - i - 1, by omega⟩
  rw [hd, subsAux, show n - (d + 1) = i by omega, show n - d = i + 1 by omega, show n - (i + 1) = d by omega]
theorem subs_z {T : Nat → Nat} {n i : Nat} (h : i < n) (hz : lmz T n (i + 1) = true) : subs T n i = [xv T n i, xv T n (i + 1)] := by rw [subs_step h, hz]; rfl
theorem subs_on {T : Nat → Nat} {n i : Nat} (h : i < n) (hz : lmz T n (i + 1) = false) : subs T n i = xv T n i :: subs T n (i + 1) := by rw [subs_step h, hz]; rfl
theorem subs_head {T : Nat → Nat} {n i : Nat} (h : i < n) : ∃ r, subs T n i = xv T n i :: r := ⟨_, subs_step h⟩

/-- By key ahead: by piece ahead, or the pieces are one. -/
theorem subs_of_key (T : Nat → Nat) (n : Nat) : ∀ d a b, n = a + 1 + d → b < n → key T n a < key T n b → subs T n a < subs T n b ∨ subs T n a = subs T n b := by
  intro d
  induction d with
  | zero =>
    intro a b hd hb hk
    have hza : lmz T n (a + 1) = true := by rw [show a + 1 = n by omega]; exact lmz_n T n
    rw [key_lt_iff (by omega) hb] at hk
    rcases hk with hk | ⟨hx, hk⟩
    · left; rw [subs_step (by omega : a < n), subs_step hb, lex_cons]; exact .inl hk
    · by_cases hx' : xv T n (a + 1) = xv T n (b + 1)
      · have hzb := lmz_mixed (by omega) hb hx hx' hza
        right; rw [subs_z (by omega) hza, subs_z hb hzb, hx, hx']
      · left
        have hx0 : xv T n (a + 1) = 0 := by rw [show a + 1 = n by omega, xv_n]
        have hlt : xv T n (a + 1) < xv T n (b + 1) := by omega
        rw [subs_z (by omega) hza, subs_step hb, lex_cons]
        refine .inr ⟨hx, ?_⟩
        split
        · rw [lex_cons]; exact .inl hlt
        · rename_i hzb
          obtain ⟨r, hr⟩ := subs_head (T := T) (not_lmz_lt (T := T) (n := n) (i := b + 1) (by omega) (by simpa using hzb))
          rw [hr, lex_cons]; exact .inl hlt
  | succ d ih =>
    intro a b hd hb hk
    rw [key_lt_iff (by omega) hb] at hk
    rcases hk with hk | ⟨hx, hk⟩
    · left; rw [subs_step (by omega : a < n), subs_step hb, lex_cons]; exact .inl hk
    · by_cases hx' : xv T n (a + 1) = xv T n (b + 1)
      · by_cases hza : lmz T n (a + 1) = true
        · have hzb := lmz_mixed (by omega) hb hx hx' hza
          right; rw [subs_z (by omega) hza, subs_z hb hzb, hx, hx']
        · have hza' : lmz T n (a + 1) = false := by simpa using hza
          have hzb' : lmz T n (b + 1) = false := by
            cases hq : lmz T n (b + 1) with
            | false => rfl
            | true => exact (hza (lmz_mixed hb (by omega) hx.symm hx'.symm hq)).elim
          have hb1 := not_lmz_lt (T := T) (n := n) (i := b + 1) (by omega) hzb'
          rw [kap_key hza', kap_key hzb'] at hk
          rw [subs_on (by omega) hza', subs_on hb hzb', hx, lex_cons]
          rcases ih (a + 1) (b + 1) (by omega) hb1 hk with h1 | h1
          · exact .inl (.inr ⟨rfl, h1⟩)
          · right; rw [h1]
      · left
        have hlt : xv T n (a + 1) < xv T n (b + 1) := by
          obtain ⟨r, _, hr⟩ := kap_head (T := T) (n := n) (i := a + 1) (by omega)
          obtain ⟨q, _, hq⟩ := kap_head (T := T) (n := n) (i := b + 1) (by omega)
          rw [hr, hq, lex_cons] at hk
          rcases hk with hk | hk
          · exact hk
          · exact (hx' hk.1).elim
        rw [subs_step (by omega : a < n), subs_step hb, lex_cons]
        refine .inr ⟨hx, ?_⟩
        have hA : ∃ r, (if lmz T n (a + 1) = true then [xv T n (a + 1)] else subs T n (a + 1)) = xv T n (a + 1) :: r := by
          split
          · exact ⟨_, rfl⟩
          · rename_i hz; exact subs_head (not_lmz_lt (T := T) (n := n) (i := a + 1) (by omega) (by simpa using hz))
        have hB : ∃ r, (if lmz T n (b + 1) = true then [xv T n (b + 1)] else subs T n (b + 1)) = xv T n (b + 1) :: r := by
          split
          · exact ⟨_, rfl⟩
          · rename_i hz; exact subs_head (not_lmz_lt (T := T) (n := n) (i := b + 1) (by omega) (by simpa using hz))
        obtain ⟨r, hr⟩ := hA
        obtain ⟨q, hq⟩ := hB
        rw [hr, hq, lex_cons]; exact .inl hlt

/-- By piece ahead: by end ahead. -/
theorem sl_of_subs (T : Nat → Nat) (n : Nat) : ∀ d a b, n = a + 1 + d → b < n → subs T n a < subs T n b → sl T n a b = true := by
  have main : ∀ a b, a < n → b < n → xv T n a = xv T n b → xv T n (a + 1) < xv T n (b + 1) → sl T n a b = true := fun a b ha hb hx hlt => by
    rw [sl_iff T n a b ha hb]
    exact .inr ⟨(xv_eq' ha hb hx).1, xv_sl (by omega) (by omega) hlt⟩
  intro d
  induction d with
  | zero =>
    intro a b hd hb hs
    have hza : lmz T n (a + 1) = true := by rw [show a + 1 = n by omega]; exact lmz_n T n
    rw [subs_z (by omega) hza, subs_step hb, lex_cons] at hs
    rcases hs with hs | ⟨hx, hs⟩
    · exact xv_sl (by omega) (by omega) hs
    · by_cases hx' : xv T n (a + 1) = xv T n (b + 1)
      · rw [lmz_mixed (by omega) hb hx hx' hza, if_pos rfl, lex_cons] at hs
        rcases hs with hs | ⟨_, hs⟩
        · omega
        · exact (lex_irrefl [] hs).elim
      · refine main a b (by omega) hb hx ?_
        have hx0 : xv T n (a + 1) = 0 := by rw [show a + 1 = n by omega, xv_n]
        omega
  | succ d ih =>
    intro a b hd hb hs
    rw [subs_step (by omega : a < n), subs_step hb, lex_cons] at hs
    rcases hs with hs | ⟨hx, hs⟩
    · exact xv_sl (by omega) (by omega) hs
    · by_cases hx' : xv T n (a + 1) = xv T n (b + 1)
      · by_cases hza : lmz T n (a + 1) = true
        · rw [hza, lmz_mixed (by omega) hb hx hx' hza, if_pos rfl, if_pos rfl, lex_cons] at hs
          rcases hs with hs | ⟨_, hs⟩
          · omega
          · exact (lex_irrefl [] hs).elim
        · have hza' : lmz T n (a + 1) = false := by simpa using hza
          have hzb' : lmz T n (b + 1) = false := by
            cases hq : lmz T n (b + 1) with
            | false => rfl
            | true => exact (hza (lmz_mixed hb (by omega) hx.symm hx'.symm hq)).elim
          have hb1 := not_lmz_lt (T := T) (n := n) (i := b + 1) (by omega) hzb'
          rw [hza', hzb'] at hs
          simp only [Bool.false_eq_true, if_false] at hs
          rw [sl_iff T n a b (by omega) hb]
          exact .inr ⟨(xv_eq' (by omega) hb hx).1, ih (a + 1) (b + 1) (by omega) hb1 hs⟩
      · refine main a b (by omega) hb hx ?_
        have hA : ∃ r, (if lmz T n (a + 1) = true then [xv T n (a + 1)] else subs T n (a + 1)) = xv T n (a + 1) :: r := by
          split
          · exact ⟨_, rfl⟩
          · rename_i hz; exact subs_head (not_lmz_lt (T := T) (n := n) (i := a + 1) (by omega) (by simpa using hz))
        have hB : ∃ r, (if lmz T n (b + 1) = true then [xv T n (b + 1)] else subs T n (b + 1)) = xv T n (b + 1) :: r := by
          split
          · exact ⟨_, rfl⟩
          · rename_i hz; exact subs_head (not_lmz_lt (T := T) (n := n) (i := b + 1) (by omega) (by simpa using hz))
        obtain ⟨r, hr⟩ := hA
        obtain ⟨q, hq⟩ := hB
        rw [hr, hq, lex_cons] at hs
        rcases hs with hs | hs
        · exact hs
        · exact (hx' hs.1).elim
theorem sl_of_subs' {T : Nat → Nat} {n a b : Nat} (ha : a < n) (hb : b < n) (h : subs T n a < subs T n b) : sl T n a b = true := sl_of_subs T n (n - 1 - a) a b (by omega) hb h
theorem subs_of_key' {T : Nat → Nat} {n a b : Nat} (ha : a < n) (hb : b < n) (h : key T n a < key T n b) : subs T n a < subs T n b ∨ subs T n a = subs T n b := subs_of_key T n (n - 1 - a) a b (by omega) hb h

/-- Equal pieces: they are of one length, the ends behind them decide. -/
theorem subs_same (T : Nat → Nat) (n : Nat) : ∀ d a b, n = a + 1 + d → b < n → subs T n a = subs T n b →
    sl T n a b = sl T n (nxt T n a) (nxt T n b) ∧ nxt T n a + b = nxt T n b + a ∧ xv T n (nxt T n a) = xv T n (nxt T n b) ∧ ∀ e, a + e ≤ nxt T n a → a + e < n → b + e < n → T (a + e) = T (b + e) := by
  have main : ∀ a b, a < n → b < n → xv T n a = xv T n b → xv T n (a + 1) = xv T n (b + 1) → lmz T n (a + 1) = true → lmz T n (b + 1) = true →
      sl T n a b = sl T n (nxt T n a) (nxt T n b) ∧ nxt T n a + b = nxt T n b + a ∧ xv T n (nxt T n a) = xv T n (nxt T n b) ∧ ∀ e, a + e ≤ nxt T n a → a + e < n → b + e < n → T (a + e) = T (b + e) := fun a b ha hb hx hx' hza hzb => by
    have hT := (xv_eq' ha hb hx).1
    rw [nxt_z ha hza, nxt_z hb hzb]
    refine ⟨?_, by omega, hx', fun e he h1 h2 => ?_⟩
    · rw [Bool.eq_iff_iff, sl_iff T n a b ha hb]; simp [hT]
    · by_cases h0 : e = 0
      · subst h0; exact hT
      · obtain rfl : e = 1 := by omega
        exact (xv_eq' h1 h2 hx').1
  intro d
  induction d with
  | zero =>
    intro a b hd hb hs
    have hza : lmz T n (a + 1) = true := by rw [show a + 1 = n by omega]; exact lmz_n T n
    rw [subs_z (by omega) hza, subs_step hb] at hs
    simp only [List.cons.injEq] at hs
    by_cases hzb : lmz T n (b + 1) = true
    · rw [hzb] at hs; simp at hs
      exact main a b (by omega) hb hs.1 hs.2 hza hzb
    · have hzb' : lmz T n (b + 1) = false := by simpa using hzb
      have hb1 := not_lmz_lt (T := T) (n := n) (i := b + 1) (by omega) hzb'
      rw [hzb', subs_step hb1] at hs; simp at hs
      have h1 := xv_pos (T := T) hb1
      rw [show a + 1 = n by omega, xv_n] at hs; omega
  | succ d ih =>
    intro a b hd hb hs
    rw [subs_step (by omega : a < n), subs_step hb] at hs
    simp only [List.cons.injEq] at hs
    obtain ⟨hx, hs⟩ := hs
    have hx' : xv T n (a + 1) = xv T n (b + 1) := by
      have hA : ∃ r, (if lmz T n (a + 1) = true then [xv T n (a + 1)] else subs T n (a + 1)) = xv T n (a + 1) :: r := by
        split
        · exact ⟨_, rfl⟩
        · rename_i hz; exact subs_head (not_lmz_lt (T := T) (n := n) (i := a + 1) (by omega) (by simpa using hz))
      have hB : ∃ r, (if lmz T n (b + 1) = true then [xv T n (b + 1)] else subs T n (b + 1)) = xv T n (b + 1) :: r := by
        split
        · exact ⟨_, rfl⟩
        · rename_i hz; exact subs_head (not_lmz_lt (T := T) (n := n) (i := b + 1) (by omega) (by simpa using hz))
      obtain ⟨r, hr⟩ := hA
      obtain ⟨q, hq⟩ := hB
      rw [hr, hq] at hs
      simp only [List.cons.injEq] at hs
      exact hs.1
    by_cases hza : lmz T n (a + 1) = true
    · exact main a b (by omega) hb hx hx' hza (lmz_mixed (by omega) hb hx hx' hza)
    · have hza' : lmz T n (a + 1) = false := by simpa using hza
      have hzb' : lmz T n (b + 1) = false := by
        cases hq : lmz T n (b + 1) with
        | false => rfl
        | true => exact (hza (lmz_mixed hb (by omega) hx.symm hx'.symm hq)).elim
      have hb1 := not_lmz_lt (T := T) (n := n) (i := b + 1) (by omega) hzb'
      rw [hza', hzb'] at hs
      simp only [Bool.false_eq_true, if_false] at hs
      obtain ⟨e1, e2, e3, e4⟩ := ih (a + 1) (b + 1) (by omega) hb1 hs
      have hT := (xv_eq' (by omega) hb hx).1
      rw [nxt_on (by omega) hza', nxt_on hb hzb']
      refine ⟨?_, by omega, e3, fun e he h1 h2 => ?_⟩
      · rw [← e1, Bool.eq_iff_iff, sl_iff T n a b (by omega) hb]; simp [hT]
      · by_cases h0 : e = 0
        · subst h0; exact hT
        · obtain ⟨e', rfl⟩ : ∃ e', e = e' + 1 := ⟨e - 1, by omega⟩
          have := e4 e' (by omega) (by omega) (by omega)
          rw [show a + 1 + e' = a + (e' + 1) by omega, show b + 1 + e' = b + (e' + 1) by omega] at this
          exact this
theorem subs_same' {T : Nat → Nat} {n a b : Nat} (ha : a < n) (hb : b < n) (h : subs T n a = subs T n b) :
    sl T n a b = sl T n (nxt T n a) (nxt T n b) ∧ nxt T n a + b = nxt T n b + a ∧ xv T n (nxt T n a) = xv T n (nxt T n b) ∧ ∀ e, a + e ≤ nxt T n a → a + e < n → b + e < n → T (a + e) = T (b + e) :=
  subs_same T n (n - 1 - a) a b (by omega) hb h

/-- Pieces of one length and of one text are equal: the types follow. -/
theorem subs_of_text (T : Nat → Nat) (n : Nat) : ∀ d a b, nxt T n a = a + 1 + d → a < n → b < n → nxt T n a < n → nxt T n b < n → nxt T n a + b = nxt T n b + a → (∀ e, a + e ≤ nxt T n a → T (a + e) = T (b + e)) → subs T n a = subs T n b := by
  intro d
  induction d with
  | zero =>
    intro a b hd ha hb hna hnb hl ht
    have hza : lmz T n (a + 1) = true := by
      have := nxt_lmz (T := T) ha; rw [hd] at this; exact this
    have hzb : lmz T n (b + 1) = true := by
      have := nxt_lmz (T := T) hb; rw [show nxt T n b = b + 1 by omega] at this; exact this
    have la := nxt_lms ha hna
    have lb := nxt_lms hb hnb
    rw [hd] at la
    rw [show nxt T n b = b + 1 by omega] at lb
    rw [subs_z ha hza, subs_z hb hzb]
    have t0 := ht 0 (by omega)
    have t1 := ht 1 (by omega)
    rw [Nat.add_zero, Nat.add_zero] at t0
    rw [xv_eq ha hb t0 (by rw [lmz_prev ha hza, lmz_prev hb hzb]), xv_eq (i := a + 1) (j := b + 1) (by omega) (by omega) t1 (by rw [(lms_iff.1 la).2.2.1, (lms_iff.1 lb).2.2.1])]
  | succ d ih =>
    intro a b hd ha hb hna hnb hl ht
    have hza : lmz T n (a + 1) = false := nxt_none (T := T) ha (a + 1) (by omega) (by omega)
    have hzb : lmz T n (b + 1) = false := nxt_none (T := T) hb (b + 1) (by omega) (by omega)
    have ea := nxt_on ha hza
    have eb := nxt_on hb hzb
    have hI := ih (a + 1) (b + 1) (by omega) (by omega) (by omega) (by omega) (by omega) (by omega) (fun e he => by
      have := ht (e + 1) (by omega)
      rw [show a + 1 + e = a + (e + 1) by omega, show b + 1 + e = b + (e + 1) by omega]; exact this)
    rw [subs_on ha hza, subs_on hb hzb, hI]
    have t0 := ht 0 (by omega)
    have t1 := ht 1 (by omega)
    rw [Nat.add_zero, Nat.add_zero] at t0
    have hty : tyS T n (a + 1) = tyS T n (b + 1) := by
      obtain ⟨r, hr⟩ := subs_head (T := T) (n := n) (i := a + 1) (by omega)
      obtain ⟨q, hq⟩ := subs_head (T := T) (n := n) (i := b + 1) (by omega)
      rw [hr, hq] at hI
      simp only [List.cons.injEq] at hI
      exact (xv_eq' (by omega) (by omega) hI.1).2
    rw [xv_eq ha hb t0 (by rw [tyS_step T n a (by omega), tyS_step T n b (by omega), t0, t1, hty])]

end Go.Proofs.YtfpihnfhmefeaaaGreatDoor

