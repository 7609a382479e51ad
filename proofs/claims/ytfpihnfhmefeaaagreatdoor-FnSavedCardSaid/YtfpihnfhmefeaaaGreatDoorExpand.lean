/-
  Laying a sorted list of the beginnings into their buckets, in place, from behind; and the walk that turns a list of numbers of beginnings into their places. No condition.
-/
import Derived.Test.YtfpihnfhmefeaaaGreatDoorAssign
namespace Go.Proofs.YtfpihnfhmefeaaaGreatDoor

abbrev rhoE (T : Nat → Nat) (n e : Nat) : Nat := rho T n (allL T n) (lms T n) (sl T n) e
/-- How many of the beginnings with number c have been laid, or are about to be. -/
def vb (T : Nat → Nat) (n : Nat) (g : Nat → Nat) (x c : Nat) : Nat := cnt (fun k => lms T n k && T k == c && (k == g x || sl T n (g x) k)) n

structure IX (T : Nat → Nat) (n m : Nat) (g : Nat → Nat) (p x : Nat) (done : Bool) (s B : Nat → Int) : Prop where
  lt : x < m
  here : if done then x = 0 ∧ p ≤ rhoE T n (g x) else rhoE T n (g x) < p
  low : ∀ r, r < x → s r = (g r : Int)
  placed : ∀ r, r < m → (x < r ∨ (done = true ∧ r = x)) → p ≤ rhoE T n (g r) ∧ s (rhoE T n (g r)) = (g r : Int)
  zero : ∀ y, p ≤ y → y < n → (∀ r, r < m → (x < r ∨ (done = true ∧ r = x)) → rhoE T n (g r) ≠ y) → s y = 0
  bkt : ∀ c, B c + (vb T n g x c : Nat) = (lo T n (c + 1) : Nat)

section
variable {T : Nat → Nat} {n m : Nat} {g : Nat → Nat} {p x : Nat} {s B : Nat → Int}

theorem Srt.sl_iff_lt (hg : Srt (lms T n) n (sl T n) m g) {a b : Nat} (ha : a < m) (hb : b < m) : sl T n (g a) (g b) = true ↔ a < b := by
  constructor
  · intro h
    rcases Nat.lt_trichotomy a b with h1 | h1 | h1
    · exact h1
    · rw [h1, sl_irrefl] at h; simp at h
    · rw [sl_asymm (hg.inc b a h1 ha)] at h; simp at h
  · intro h; exact hg.inc a b h hb
theorem Srt.rho_up (hn : 0 < n) (hg : Srt (lms T n) n (sl T n) m g) : ∀ a, a < m → a ≤ rhoE T n (g a) := by
  intro a
  induction a with
  | zero => intro _; omega
  | succ a ih =>
    intro ha
    have h1 := ih (by omega)
    have h2 := (lp_all (T := T) hn).toTwo.rho_lt (.inr (hg.mem a (by omega)).2) (.inr (hg.mem (a + 1) ha).2) (hg.inc a (a + 1) (by omega) ha)
    unfold rhoE at *; omega
/-- The place of the next one, out of the buckets. -/
theorem expand_b (hn : 0 < n) (hg : Srt (lms T n) n (sl T n) m g) (hx : x < m) : rhoE T n (g x) + 1 + cnt (fun k => lms T n k && T k == T (g x) && sl T n (g x) k) n = lo T n (T (g x) + 1) :=
  ((lp_all (T := T) hn).toTwo.S_bound (hg.mem x hx).2).2.2
theorem vb_top (hg : Srt (lms T n) n (sl T n) m g) (hx : x + 1 = m) (c : Nat) : vb T n g x c = if c = T (g x) then 1 else 0 := by
  have hm := hg.mem x (by omega)
  have h1 := cnt_insert (p := fun _ => false) (n := n) (k := g x) hm.1 rfl
  rw [cnt_false (p := fun _ => false) (fun _ _ => rfl)] at h1
  by_cases hc : c = T (g x)
  · rw [if_pos hc]
    refine Eq.trans ?_ h1
    refine cnt_congr fun k hk => ?_
    by_cases hkx : k = g x
    · subst hkx; simp [hm.2, hc]
    · have hkx' : (k == g x) = false := beq_false_of_ne hkx
      by_cases hl : lms T n k = true
      · obtain ⟨r, hr, rfl⟩ := hg.cover (sl_irrefl T n) hk hl
        have : sl T n (g x) (g r) = false := by
          cases hq : sl T n (g x) (g r) with
          | false => rfl
          | true => have := (hg.sl_iff_lt (by omega) hr).1 hq; omega
        simp [this, hkx']
      · simp [hl, hkx']
  · rw [if_neg hc]
    refine cnt_false fun k hk => ?_
    by_cases hl : lms T n k = true
    · obtain ⟨r, hr, rfl⟩ := hg.cover (sl_irrefl T n) hk hl
      have h3 : sl T n (g x) (g r) = false := by
        cases hq : sl T n (g x) (g r) with
        | false => rfl
        | true => have := (hg.sl_iff_lt (by omega) hr).1 hq; omega
      by_cases hrx : g r = g x
      · have : (T (g r) == c) = false := beq_false_of_ne fun e => hc (by rw [← e, hrx])
        simp [this]
      · have : (g r == g x) = false := beq_false_of_ne hrx
        simp [h3, this]
    · simp [hl]
theorem vb_next (hg : Srt (lms T n) n (sl T n) m g) (hx : x + 1 < m) (c : Nat) : vb T n g x c = vb T n g (x + 1) c + (if c = T (g x) then 1 else 0) := by
  have hm := hg.mem x (by omega)
  have hirr := sl_irrefl T n
  have key : ∀ k, k < n → lms T n k = true → (k == g x || sl T n (g x) k) = ((k == g (x + 1) || sl T n (g (x + 1)) k) || k == g x) := fun k hk hl => by
    obtain ⟨r, hr, rfl⟩ := hg.cover hirr hk hl
    rw [Bool.eq_iff_iff]
    simp only [Bool.or_eq_true, beq_iff_eq]
    rw [hg.sl_iff_lt (by omega) hr, hg.sl_iff_lt hx hr]
    constructor
    · rintro (h | h)
      · exact .inr h
      · by_cases h1 : r = x + 1
        · rw [h1]; exact .inl (.inl rfl)
        · exact .inl (.inr (by omega))
    · rintro ((h | h) | h)
      · right; have := hg.inj hirr hr hx h; omega
      · right; omega
      · exact .inl h
  have hnot : (g x == g (x + 1) || sl T n (g (x + 1)) (g x)) = false := by
    have h1 : (g x == g (x + 1)) = false := beq_false_of_ne fun e => by have := hg.inj hirr (by omega) hx e; omega
    have h2 : sl T n (g (x + 1)) (g x) = false := by
      cases hq : sl T n (g (x + 1)) (g x) with
      | false => rfl
      | true => have := (hg.sl_iff_lt hx (by omega)).1 hq; omega
    simp [h1, h2]
  unfold vb
  by_cases hc : c = T (g x)
  · subst hc
    rw [if_pos rfl, ← cnt_insert (p := fun k => lms T n k && T k == T (g x) && (k == g (x + 1) || sl T n (g (x + 1)) k)) (k := g x) hm.1 (by simp only [hnot, Bool.and_false])]
    refine cnt_congr fun k hk => ?_
    by_cases hl : lms T n k = true
    · rw [key k hk hl]
      by_cases hkx : k = g x
      · subst hkx; simp [hm.2]
      · have hkx' : (k == g x) = false := beq_false_of_ne hkx
        simp [hkx']
    · have hkx' : (k == g x) = false := beq_false_of_ne (by rintro rfl; exact hl hm.2)
      simp [hl, hkx']
  · rw [if_neg hc, Nat.add_zero]
    refine cnt_congr fun k hk => ?_
    by_cases hl : lms T n k = true
    · rw [key k hk hl]
      by_cases hkx : k = g x
      · have : (T k == c) = false := beq_false_of_ne fun e => hc (by rw [← e, hkx])
        simp [this]
      · have hkx' : (k == g x) = false := beq_false_of_ne hkx
        simp [hkx']
    · simp [hl]

theorem expand_start (hn : 0 < n) (hg : Srt (lms T n) n (sl T n) m g) (hm : 0 < m) (hs : ∀ r, r < m → s r = (g r : Int)) (hB : ∀ c, B c = (lo T n (c + 1) : Int)) :
    B (T (g (m - 1))) = (rhoE T n (g (m - 1)) : Int) + 1 ∧ IX T n m g n (m - 1) false s (put B (T (g (m - 1))) (rhoE T n (g (m - 1)) : Int)) := by
  have h1 := expand_b hn hg (x := m - 1) (by omega)
  have h0 : cnt (fun k => lms T n k && T k == T (g (m - 1)) && sl T n (g (m - 1)) k) n = 0 := cnt_false fun k hk => by
    by_cases hl : lms T n k = true
    · obtain ⟨r, hr, rfl⟩ := hg.cover (sl_irrefl T n) hk hl
      have : sl T n (g (m - 1)) (g r) = false := by
        cases hq : sl T n (g (m - 1)) (g r) with
        | false => rfl
        | true => have := (hg.sl_iff_lt (by omega) hr).1 hq; omega
      simp [this]
    · simp [hl]
  have hBv : B (T (g (m - 1))) = (rhoE T n (g (m - 1)) : Int) + 1 := by rw [hB]; omega
  refine ⟨hBv, ⟨by omega, ?_, fun r hr => hs r (by omega), fun r hr h => ?_, fun y h1 h2 => by omega, fun c => ?_⟩⟩
  · simp only [Bool.false_eq_true, if_false]; exact ((lp_all (T := T) hn).toTwo.bound (.inr (hg.mem (m - 1) (by omega)).2)).2.2
  · rcases h with h | h
    · omega
    · simp at h
  · rw [vb_top hg (by omega)]
    by_cases hc : c = T (g (m - 1))
    · subst hc; rw [put_same, if_pos rfl]; rw [hB] at hBv; omega
    · rw [put_other _ _ _ _ hc, if_neg hc, hB]; rfl
/-- A place for which there is nothing. -/
theorem expand_zero (hn : 0 < n) (hg : Srt (lms T n) n (sl T n) m g) {i : Nat} {done : Bool} (h : IX T n m g (i + 1) x done s B) (hi : i ≠ rhoE T n (g x)) : IX T n m g i x done (put s i 0) B := by
  have hup := hg.rho_up hn x h.lt
  refine ⟨h.lt, ?_, fun r hr => ?_, fun r hr hq => ?_, fun y h1 h2 hno => ?_, h.bkt⟩
  · have := h.here
    cases done with
    | true => simp at this ⊢; omega
    | false => simp at this ⊢; unfold rhoE at *; omega
  · have := h.here
    cases done with
    | true => simp at this; omega
    | false =>
      simp at this
      rw [put_other _ _ _ _ (by unfold rhoE at *; omega)]; exact h.low r hr
  · obtain ⟨a, b⟩ := h.placed r hr hq
    exact ⟨by omega, by rw [put_other _ _ _ _ (by omega)]; exact b⟩
  · by_cases hy : y = i
    · rw [hy, put_same]
    · rw [put_other _ _ _ _ hy]; exact h.zero y (by omega) h2 hno
/-- A place for the next one; there are more. -/
theorem expand_more (hn : 0 < n) (hg : Srt (lms T n) n (sl T n) m g) (h : IX T n m g (rhoE T n (g (x + 1)) + 1) (x + 1) false s B) :
    put s (rhoE T n (g (x + 1))) (g (x + 1) : Int) x = (g x : Int) ∧ B (T (g x)) = (rhoE T n (g x) : Int) + 1 ∧ rhoE T n (g x) < rhoE T n (g (x + 1)) ∧ x < rhoE T n (g (x + 1)) ∧
    IX T n m g (rhoE T n (g (x + 1))) x false (put s (rhoE T n (g (x + 1))) (g (x + 1) : Int)) (put B (T (g x)) (rhoE T n (g x) : Int)) := by
  have hlt := h.lt
  have hup := hg.rho_up hn (x + 1) hlt
  have hmono := (lp_all (T := T) hn).toTwo.rho_lt (.inr (hg.mem x (by omega)).2) (.inr (hg.mem (x + 1) hlt).2) (hg.inc x (x + 1) (by omega) hlt)
  have h1 := expand_b hn hg (x := x) (by omega)
  have h2 : cnt (fun k => lms T n k && T k == T (g x) && sl T n (g x) k) n = vb T n g (x + 1) (T (g x)) := cnt_congr fun k hk => by
    by_cases hl : lms T n k = true
    · obtain ⟨r, hr, rfl⟩ := hg.cover (sl_irrefl T n) hk hl
      have : sl T n (g x) (g r) = (g r == g (x + 1) || sl T n (g (x + 1)) (g r)) := by
        rw [Bool.eq_iff_iff]
        simp only [Bool.or_eq_true, beq_iff_eq]
        rw [hg.sl_iff_lt (by omega) hr, hg.sl_iff_lt hlt hr]
        constructor
        · intro q
          by_cases h3 : r = x + 1
          · rw [h3]; exact .inl rfl
          · exact .inr (by omega)
        · rintro (q | q)
          · have := hg.inj (sl_irrefl T n) hr hlt q; omega
          · omega
      rw [this]
    · simp [hl]
  have h3 := h.bkt (T (g x))
  have hBv : B (T (g x)) = (rhoE T n (g x) : Int) + 1 := by unfold rhoE at *; omega
  refine ⟨by rw [put_other _ _ _ _ (by omega)]; exact h.low x (by omega), hBv, hmono, by omega, ⟨by omega, by simpa using hmono, fun r hr => ?_, fun r hr hq => ?_, fun y hy1 hy2 hno => ?_, fun c => ?_⟩⟩
  · rw [put_other _ _ _ _ (by omega)]; exact h.low r (by omega)
  · rcases hq with hq | hq
    · by_cases hrx : r = x + 1
      · subst hrx; exact ⟨Nat.le_refl _, put_same _ _ _⟩
      · obtain ⟨a, b⟩ := h.placed r hr (.inl (by omega))
        exact ⟨by omega, by rw [put_other _ _ _ _ (by omega)]; exact b⟩
    · simp at hq
  · by_cases hyx : y = rhoE T n (g (x + 1))
    · exact (hno (x + 1) hlt (.inl (by omega)) hyx.symm).elim
    · rw [put_other _ _ _ _ hyx]
      exact h.zero y (by omega) hy2 fun r hr hq => hno r hr (by rcases hq with hq | hq; exact .inl (by omega); simp at hq)
  · rw [vb_next hg hlt]
    have := h.bkt c
    by_cases hc : c = T (g x)
    · subst hc; rw [put_same, if_pos rfl]; omega
    · rw [put_other _ _ _ _ hc, if_neg hc]; omega
/-- A place for the last one. -/
theorem expand_last (hn : 0 < n) (hg : Srt (lms T n) n (sl T n) m g) (h : IX T n m g (rhoE T n (g 0) + 1) 0 false s B) : IX T n m g (rhoE T n (g 0)) 0 true (put s (rhoE T n (g 0)) (g 0 : Int)) B := by
  have _ := hn
  have _ := hg
  refine ⟨h.lt, by simp, fun r hr => by omega, fun r hr hq => ?_, fun y h1 h2 hno => ?_, h.bkt⟩
  · by_cases h0 : r = 0
    · subst h0; exact ⟨Nat.le_refl _, put_same _ _ _⟩
    · obtain ⟨a, b⟩ := h.placed r hr (.inl (by omega))
      exact ⟨by omega, by rw [put_other _ _ _ _ (by omega)]; exact b⟩
  · by_cases hy : y = rhoE T n (g 0)
    · exact (hno 0 h.lt (.inr ⟨rfl, rfl⟩) hy.symm).elim
    · rw [put_other _ _ _ _ hy]
      exact h.zero y (by omega) h2 fun r hr hq => hno r hr (by rcases hq with hq | hq; exact .inl hq; simp at hq)
theorem expand_end (hg : Srt (lms T n) n (sl T n) m g) {done : Bool} (h : IX T n m g 0 x done s B) : PlaceAll T n s := by
  have hd := h.here
  cases done with
  | false => simp at hd
  | true =>
    simp at hd
    subst hd
    refine ⟨fun e he => ?_, fun y hy hno => h.zero y (Nat.zero_le _) hy fun r hr _ => hno (g r) (hg.mem r hr).2⟩
    obtain ⟨r, hr, rfl⟩ := hg.cover (sl_irrefl T n) (lms_iff.1 he).2.1 he
    exact (h.placed r hr (by by_cases h0 : r = 0; exact .inr ⟨rfl, h0⟩; exact .inl (by omega))).2
end

/-! ### The places of the beginnings, laid down from behind -/
/-- How many beginnings lie at p or ahead of it. -/
def upto (T : Nat → Nat) (n p : Nat) : Nat := cnt (lms T n) (p + 1)
theorem upto_zero (T : Nat → Nat) (n : Nat) : upto T n 0 = 0 := by
  have h0 : lms T n 0 = false := by simp [lms]
  simp [upto, cnt, h0]
theorem upto_n (T : Nat → Nat) (n : Nat) : upto T n n = many T n := cnt_succ_neg _ _ (by simp [lms])
theorem upto_stay {T : Nat → Nat} {n i : Nat} (h : lms T n (i + 1) = false) : upto T n i = upto T n (i + 1) := (cnt_succ_neg _ _ h).symm
theorem upto_event {T : Nat → Nat} {n i : Nat} (h : lms T n (i + 1) = true) : upto T n (i + 1) = upto T n i + 1 ∧ upto T n i < many T n ∧ pos T n (upto T n i) = i + 1 :=
  ⟨cnt_succ_pos _ _ h, cnt_lt_of (lms_iff.1 h).2.1 h, nth_of (lms_iff.1 h).2.1 h⟩

/-- How many beginnings lie in the first p pairs of places. -/
def halfTo (T : Nat → Nat) (n p : Nat) : Nat := cnt (lms T n) (2 * p)
theorem halfTo_all {T : Nat → Nat} {n : Nat} : halfTo T n (n / 2 + 1) = many T n := by
  unfold halfTo many
  have h : ∀ d, cnt (lms T n) (n + d) = cnt (lms T n) n := fun d => by
    induction d with
    | zero => rfl
    | succ d ih =>
      rw [show n + (d + 1) = n + d + 1 by omega, cnt_succ_neg _ _ (by simp only [lms, decide_eq_false (show ¬ n + d < n by omega), Bool.and_false, Bool.false_and]), ih]
  rw [show 2 * (n / 2 + 1) = n + (2 * (n / 2 + 1) - n) by omega]
  exact h _
theorem halfTo_none {T : Nat → Nat} {n i : Nat} (h : ∀ j, lms T n j = true → j / 2 ≠ i) : halfTo T n (i + 1) = halfTo T n i := by
  unfold halfTo
  have a : lms T n (2 * i) = false := by
    cases hq : lms T n (2 * i) with
    | false => rfl
    | true => exact (h _ hq (by omega)).elim
  have b : lms T n (2 * i + 1) = false := by
    cases hq : lms T n (2 * i + 1) with
    | false => rfl
    | true => exact (h _ hq (by omega)).elim
  rw [show 2 * (i + 1) = 2 * i + 1 + 1 by omega, cnt_succ_neg _ _ b, cnt_succ_neg _ _ a]
theorem halfTo_one {T : Nat → Nat} {n i j : Nat} (hj : lms T n j = true) (h : j / 2 = i) : halfTo T n (i + 1) = halfTo T n i + 1 ∧ halfTo T n i < many T n ∧ pos T n (halfTo T n i) = j := by
  unfold halfTo
  have hjn := (lms_iff.1 hj).2.1
  by_cases he : j = 2 * i
  · subst he
    have b := lms_next hj
    rw [show 2 * (i + 1) = 2 * i + 1 + 1 by omega, cnt_succ_neg _ _ b, cnt_succ_pos _ _ hj]
    exact ⟨rfl, cnt_lt_of hjn hj, nth_of hjn hj⟩
  · have he' : j = 2 * i + 1 := by omega
    subst he'
    have a : lms T n (2 * i) = false := by
      cases hq : lms T n (2 * i) with
      | false => rfl
      | true => rw [lms_next hq] at hj; simp at hj
    have e := cnt_succ_neg _ _ a
    rw [show 2 * (i + 1) = 2 * i + 1 + 1 by omega, cnt_succ_pos _ _ hj, e]
    refine ⟨rfl, by rw [← e]; exact cnt_lt_of hjn hj, by rw [← e]; exact nth_of hjn hj⟩
theorem half_dec {T : Nat → Nat} {n i : Nat} : (∃ j, lms T n j = true ∧ j / 2 = i) ∨ ∀ j, lms T n j = true → j / 2 ≠ i := by
  by_cases a : lms T n (2 * i) = true
  · exact .inl ⟨_, a, by omega⟩
  · by_cases b : lms T n (2 * i + 1) = true
    · exact .inl ⟨_, b, by omega⟩
    · right
      intro j hj he
      have : j = 2 * i ∨ j = 2 * i + 1 := by omega
      rcases this with rfl | rfl
      · exact a hj
      · exact b hj

end Go.Proofs.YtfpihnfhmefeaaaGreatDoor

