/-
  What is written down of each piece of a text: its length, or its text itself in one word; two words are one just where the pieces are. No condition.
-/
import Derived.Test.YtfpihnfhmefeaaaGreatDoorRound
namespace Go.Proofs.YtfpihnfhmefeaaaGreatDoor

/-- The d + 1 bytes that end at place e, each raised by one, packed: the last one highest; modulo M. -/
def cxD (T : Nat → Nat) (M e : Nat) : Nat → Nat
  | 0 => (T e + 1) % 256
  | d + 1 => cxD T M e d * 256 % M + (T (e - (d + 1)) + 1) % 256
def cxAt (T : Nat → Nat) (M e j : Nat) : Nat := cxD T M e (e - j)
theorem cxAt_self (T : Nat → Nat) (M e : Nat) : cxAt T M e e = (T e + 1) % 256 := by simp [cxAt, cxD]
theorem cxAt_step {T : Nat → Nat} {M e j : Nat} (h : j < e) : cxAt T M e j = cxAt T M e (j + 1) * 256 % M + (T j + 1) % 256 := by
  unfold cxAt
  obtain ⟨d, hd⟩ : ∃ d, e - j = d + 1 := ⟨e - j - 1, by omega⟩
  rw [hd, cxD, show e - (d + 1) = j by omega, show e - (j + 1) = d by omega]
theorem cxD_small {T : Nat → Nat} {e w : Nat} : ∀ d, d < w → cxD T (256 ^ w) e d < 256 ^ (d + 1) ∧ (d + 1 < w → cxD T (256 ^ w) e (d + 1) = cxD T (256 ^ w) e d * 256 + (T (e - (d + 1)) + 1) % 256) := by
  intro d
  induction d with
  | zero =>
    intro hw
    have h0 : cxD T (256 ^ w) e 0 < 256 := Nat.mod_lt _ (by omega)
    refine ⟨by simpa using h0, fun h1 => ?_⟩
    have : 256 ^ 2 ≤ 256 ^ w := Nat.pow_le_pow_right (by omega) h1
    have e2 : (256 : Nat) ^ 2 = 65536 := rfl
    show cxD T (256 ^ w) e 0 * 256 % 256 ^ w + (T (e - (0 + 1)) + 1) % 256 = _
    rw [Nat.mod_eq_of_lt (show cxD T (256 ^ w) e 0 * 256 < 256 ^ w by omega)]
  | succ d ih =>
    intro hw
    obtain ⟨h1, h2⟩ := ih (by omega)
    have h3 := h2 hw
    have hlt : (T (e - (d + 1)) + 1) % 256 < 256 := Nat.mod_lt _ (by omega)
    have hp : (256 : Nat) ^ (d + 1 + 1) = 256 ^ (d + 1) * 256 := Nat.pow_succ ..
    have h4 : cxD T (256 ^ w) e (d + 1) < 256 ^ (d + 1 + 1) := by rw [h3, hp]; omega
    refine ⟨h4, fun h5 => ?_⟩
    have h6 : (256 : Nat) ^ (d + 1 + 1 + 1) ≤ 256 ^ w := Nat.pow_le_pow_right (by omega) h5
    have h7 : (256 : Nat) ^ (d + 1 + 1 + 1) = 256 ^ (d + 1 + 1) * 256 := Nat.pow_succ ..
    show cxD T (256 ^ w) e (d + 1) * 256 % 256 ^ w + _ = _
    rw [Nat.mod_eq_of_lt (show cxD T (256 ^ w) e (d + 1) * 256 < 256 ^ w by omega)]
theorem cxD_pos {T : Nat → Nat} {e w : Nat} (he : T e < 255) : ∀ d, d < w → 0 < cxD T (256 ^ w) e d := by
  intro d
  induction d with
  | zero => intro _; rw [cxD, Nat.mod_eq_of_lt (by omega)]; omega
  | succ d ih =>
    intro hw
    have h1 := ih (by omega)
    rw [(cxD_small (T := T) (e := e) d (by omega)).2 hw]; omega
/-- The packed words are one: the lengths and the bytes are. -/
theorem cxD_inj {T : Nat → Nat} {e e' w : Nat} (hT : ∀ i, i ≤ e → T i < 256) (hT' : ∀ i, i ≤ e' → T i < 256) (he : T e < 255) (he' : T e' < 255) : ∀ d d', d < w → d' < w → d ≤ e → d' ≤ e' → cxD T (256 ^ w) e d = cxD T (256 ^ w) e' d' →
    d = d' ∧ ∀ x, x ≤ d → T (e - x) = T (e' - x) := by
  intro d
  induction d with
  | zero =>
    intro d' hd hd' hde hde' h
    cases d' with
    | zero =>
      refine ⟨rfl, fun x hx => ?_⟩
      rw [cxD, cxD, Nat.mod_eq_of_lt (by omega), Nat.mod_eq_of_lt (by omega)] at h
      rw [show x = 0 by omega]; simpa using h
    | succ d' =>
      rw [(cxD_small (T := T) (e := e') d' (by omega)).2 hd'] at h
      have h1 := cxD_pos (w := w) he' d' (by omega)
      rw [cxD, Nat.mod_eq_of_lt (by omega)] at h
      omega
  | succ d ih =>
    intro d' hd hd' hde hde' h
    cases d' with
    | zero =>
      rw [(cxD_small (T := T) (e := e) d (by omega)).2 hd] at h
      have h1 := cxD_pos (w := w) he d (by omega)
      have h2 : cxD T (256 ^ w) e' 0 < 256 := Nat.mod_lt _ (by omega)
      omega
    | succ d' =>
      rw [(cxD_small (T := T) (e := e) d (by omega)).2 hd, (cxD_small (T := T) (e := e') d' (by omega)).2 hd'] at h
      have l1 : (T (e - (d + 1)) + 1) % 256 < 256 := Nat.mod_lt _ (by omega)
      have l2 : (T (e' - (d' + 1)) + 1) % 256 < 256 := Nat.mod_lt _ (by omega)
      obtain ⟨e1, e2⟩ := ih d' (by omega) (by omega) (by omega) (by omega) (by omega)
      subst e1
      refine ⟨rfl, fun x hx => ?_⟩
      by_cases hxd : x = d + 1
      · subst hxd
        have t1 := hT (e - (d + 1)) (by omega)
        have t2 := hT' (e' - (d + 1)) (by omega)
        have : (T (e - (d + 1)) + 1) % 256 = (T (e' - (d + 1)) + 1) % 256 := by omega
        omega
      · exact e2 x (by omega)
theorem cxD_congr {T : Nat → Nat} {M e e' : Nat} : ∀ d, (∀ x, x ≤ d → T (e - x) = T (e' - x)) → cxD T M e d = cxD T M e' d := by
  intro d
  induction d with
  | zero => intro h; have := h 0 (by omega); simp at this; simp [cxD, this]
  | succ d ih => intro h; rw [cxD, cxD, ih fun x hx => h x (by omega), h (d + 1) (by omega)]

/-- What is to be known of the words. -/
structure CodeOK (T : Nat → Nat) (n : Nat) (M : Int) (cod : Nat → Int) : Prop where
  last : ∀ j, lms T n j = true → nxt T n j = n → cod j = 0
  kinds : ∀ j, lms T n j = true → nxt T n j < n → cod j ≠ 0 ∧ cod j ≠ -1 ∧ ((n : Int) ≤ cod j % M ∨ (cod j = ((nxt T n j + 1 - j : Nat) : Int) ∧ cod j % M < (n : Int)))
  same : ∀ j j', lms T n j = true → lms T n j' = true → nxt T n j < n → nxt T n j' < n → subs T n j = subs T n j' → cod j = cod j'
  enc : ∀ j j', lms T n j = true → lms T n j' = true → nxt T n j < n → nxt T n j' < n → cod j = cod j' → (n : Int) ≤ cod j % M → subs T n j = subs T n j'

def codW (T : Nat → Nat) (n j : Nat) : Int := if nxt T n j = n then 0 else ((nxt T n j + 1 - j : Nat) : Int)
def codB (T : Nat → Nat) (n w : Nat) (sg : Int → Int) (j : Nat) : Int :=
  if nxt T n j = n then 0 else if nxt T n j + 1 - j ≤ w ∧ n ≤ 256 ^ w - 1 - cxAt T (256 ^ w) (nxt T n j) j then sg ((256 ^ w - 1 - cxAt T (256 ^ w) (nxt T n j) j : Nat) : Int) else ((nxt T n j + 1 - j : Nat) : Int)

theorem len_same {T : Nat → Nat} {n j j' : Nat} (hj : j < n) (hj' : j' < n) (h : subs T n j = subs T n j') : nxt T n j + 1 - j = nxt T n j' + 1 - j' := by
  have := (subs_same' hj hj' h).2.1
  have a := nxt_gt (T := T) hj
  have b := nxt_gt (T := T) hj'
  omega
theorem len_small {T : Nat → Nat} {n j : Nat} (hj : lms T n j = true) (h : nxt T n j < n) : nxt T n j + 1 - j < n ∧ 0 < nxt T n j + 1 - j := by
  have a := lms_bound hj
  have b := lms_bound (nxt_lms (by omega) h)
  have c := nxt_gt (T := T) (n := n) (i := j) (by omega)
  omega
theorem codW_ok {T : Nat → Nat} {n : Nat} {M : Int} (hM : (n : Int) ≤ M) : CodeOK T n M (codW T n) := by
  have val : ∀ j, lms T n j = true → nxt T n j < n → codW T n j = ((nxt T n j + 1 - j : Nat) : Int) ∧ codW T n j % M < (n : Int) := fun j hj h => by
    have h1 := len_small hj h
    have e : codW T n j = ((nxt T n j + 1 - j : Nat) : Int) := by unfold codW; rw [if_neg (by omega)]
    refine ⟨e, ?_⟩
    rw [e, Int.emod_eq_of_lt (by omega) (by omega)]; omega
  refine ⟨fun j _ h => by unfold codW; rw [if_pos h], fun j hj h => ?_, fun j j' hj hj' h h' hs => ?_, fun j j' hj _ h _ _ hn => ?_⟩
  · have := val j hj h
    have h1 := len_small hj h
    exact ⟨by omega, by omega, .inr this⟩
  · rw [(val j hj h).1, (val j' hj' h').1, len_same (lms_iff.1 hj).2.1 (lms_iff.1 hj').2.1 hs]
  · have := (val j hj h).2; omega

theorem codB_ok {T : Nat → Nat} {n w : Nat} {M : Int} {sg : Int → Int} (hMw : M = ((256 ^ w : Nat) : Int)) (hM : (n : Int) ≤ M) (hn : 0 < n) (hT : ∀ i, i < n → T i < 256) (hsg : ∀ d : Nat, d < 256 ^ w → sg (d : Int) % M = (d : Int)) :
    CodeOK T n M (codB T n w sg) := by
  have val : ∀ j, lms T n j = true → nxt T n j < n → (codB T n w sg j = ((nxt T n j + 1 - j : Nat) : Int) ∧ codB T n w sg j % M < (n : Int) ∧ ¬ (nxt T n j + 1 - j ≤ w ∧ n ≤ 256 ^ w - 1 - cxAt T (256 ^ w) (nxt T n j) j)) ∨
      ((n : Int) ≤ codB T n w sg j % M ∧ nxt T n j + 1 - j ≤ w ∧ codB T n w sg j % M = ((256 ^ w - 1 - cxAt T (256 ^ w) (nxt T n j) j : Nat) : Int) ∧ codB T n w sg j = sg ((256 ^ w - 1 - cxAt T (256 ^ w) (nxt T n j) j : Nat) : Int)) := fun j hj h => by
    have h1 := len_small hj h
    by_cases hc : nxt T n j + 1 - j ≤ w ∧ n ≤ 256 ^ w - 1 - cxAt T (256 ^ w) (nxt T n j) j
    · right
      have e : codB T n w sg j = sg ((256 ^ w - 1 - cxAt T (256 ^ w) (nxt T n j) j : Nat) : Int) := by unfold codB; rw [if_neg (by omega), if_pos hc]
      have e2 := hsg (256 ^ w - 1 - cxAt T (256 ^ w) (nxt T n j) j) (by omega)
      rw [e]
      exact ⟨by rw [e2]; omega, hc.1, e2, rfl⟩
    · left
      have e : codB T n w sg j = ((nxt T n j + 1 - j : Nat) : Int) := by unfold codB; rw [if_neg (by omega), if_neg hc]
      refine ⟨e, ?_, hc⟩
      rw [e, Int.emod_eq_of_lt (by omega) (by omega)]; omega
  have small : ∀ e, lms T n e = true → T e < 255 := fun e he => by
    have h1 := lms_pred he
    have h2 := hT (e - 1) (by have := lms_bound he; omega)
    omega
  have text : ∀ j j', lms T n j = true → lms T n j' = true → nxt T n j < n → nxt T n j' < n → subs T n j = subs T n j' → cxAt T (256 ^ w) (nxt T n j) j = cxAt T (256 ^ w) (nxt T n j') j' := fun j j' hj hj' h h' hs => by
    have b1 := (lms_iff.1 hj).2.1
    have b2 := (lms_iff.1 hj').2.1
    obtain ⟨_, e2, _, e4⟩ := subs_same' b1 b2 hs
    have a := nxt_gt (T := T) b1
    have b := nxt_gt (T := T) b2
    unfold cxAt
    rw [show nxt T n j' - j' = nxt T n j - j by omega]
    refine cxD_congr _ fun x hx => ?_
    have := e4 (nxt T n j - j - x) (by omega) (by omega) (by omega)
    rw [show j + (nxt T n j - j - x) = nxt T n j - x by omega, show j' + (nxt T n j - j - x) = nxt T n j' - x by omega] at this
    exact this
  refine ⟨fun j _ h => by unfold codB; rw [if_pos h], fun j hj h => ?_, fun j j' hj hj' h h' hs => ?_, fun j j' hj hj' h h' he hn' => ?_⟩
  · have h1 := len_small hj h
    rcases val j hj h with v | v
    · exact ⟨by omega, by omega, .inr ⟨v.1, v.2.1⟩⟩
    · have hpos : 0 < cxAt T (256 ^ w) (nxt T n j) j := cxD_pos (small _ (nxt_lms (lms_iff.1 hj).2.1 h)) _ (by omega)
      refine ⟨fun e0 => ?_, fun e1 => ?_, .inl v.1⟩
      · rw [e0] at v; simp at v; omega
      · have v3 := v.2.2.1
        rw [e1] at v3
        have hM1 : (-1 : Int) % M = M - 1 := by
          have hMpos : 0 < M := by omega
          have := Int.add_mul_emod_self_left (-1) M 1
          rw [← this, Int.emod_eq_of_lt] <;> omega
        rw [hM1, hMw] at v3
        omega
  · have e1 := len_same (lms_iff.1 hj).2.1 (lms_iff.1 hj').2.1 hs
    have e2 := text j j' hj hj' h h' hs
    unfold codB
    rw [if_neg (by omega : ¬ nxt T n j = n), if_neg (by omega : ¬ nxt T n j' = n), e1, e2]
  · rcases val j hj h with v | v
    · omega
    · rcases val j' hj' h' with v' | v'
      · rw [← he] at v'; omega
      · have b1 := (lms_iff.1 hj).2.1
        have b2 := (lms_iff.1 hj').2.1
        have a := nxt_gt (T := T) b1
        have b := nxt_gt (T := T) b2
        have l1 : cxAt T (256 ^ w) (nxt T n j) j < 256 ^ w := by
          have h1 := (cxD_small (T := T) (e := nxt T n j) (w := w) (nxt T n j - j) (by omega)).1
          have h2 : (256 : Nat) ^ (nxt T n j - j + 1) ≤ 256 ^ w := Nat.pow_le_pow_right (by omega) (by omega)
          unfold cxAt; omega
        have l2 : cxAt T (256 ^ w) (nxt T n j') j' < 256 ^ w := by
          have h1 := (cxD_small (T := T) (e := nxt T n j') (w := w) (nxt T n j' - j') (by omega)).1
          have h2 : (256 : Nat) ^ (nxt T n j' - j' + 1) ≤ 256 ^ w := Nat.pow_le_pow_right (by omega) (by omega)
          unfold cxAt; omega
        have hcx : cxAt T (256 ^ w) (nxt T n j) j = cxAt T (256 ^ w) (nxt T n j') j' := by
          have := v.2.2.1
          rw [he, v'.2.2.1] at this
          omega
        obtain ⟨f1, f2⟩ := cxD_inj (w := w) (fun i hi => hT i (by omega)) (fun i hi => hT i (by omega)) (small _ (nxt_lms b1 h)) (small _ (nxt_lms b2 h')) (nxt T n j - j) (nxt T n j' - j') (by omega) (by omega) (by omega) (by omega) hcx
        refine subs_of_text T n (nxt T n j - j - 1) j j' (by omega) b1 b2 h h' (by omega) fun x hx => ?_
        have := f2 (nxt T n j - j - x) (by omega)
        rw [show nxt T n j - (nxt T n j - j - x) = j + x by omega, show nxt T n j' - (nxt T n j - j - x) = j' + x by omega] at this
        exact this

end Go.Proofs.YtfpihnfhmefeaaaGreatDoor

