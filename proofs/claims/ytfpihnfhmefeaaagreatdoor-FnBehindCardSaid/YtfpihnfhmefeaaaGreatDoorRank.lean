/-
  The chosen places in the text's order and in another one; the names of the pieces; the text of the names has the order of the ends. No condition.
-/
import Derived.Test.YtfpihnfhmefeaaaGreatDoorName
namespace Go.Proofs.YtfpihnfhmefeaaaGreatDoor

/-- The q-th of the places below n that answer yes. -/
def nth (C : Nat → Bool) : Nat → Nat → Nat
  | 0, _ => 0
  | n + 1, q => if C n = true ∧ cnt C n = q then n else nth C n q
theorem nth_spec (C : Nat → Bool) : ∀ n q, q < cnt C n → nth C n q < n ∧ C (nth C n q) = true ∧ cnt C (nth C n q) = q := by
  intro n
  induction n with
  | zero => intro q h; simp [cnt] at h
  | succ n ih =>
    intro q h
    by_cases hc : C n = true ∧ cnt C n = q
    · rw [nth, if_pos hc]; exact ⟨by omega, hc.1, hc.2⟩
    · rw [nth, if_neg hc]
      have : q < cnt C n := by
        rw [cnt_succ] at h
        by_cases h1 : C n = true
        · have h2 : ¬ cnt C n = q := fun e => hc ⟨h1, e⟩
          simp [h1] at h; omega
        · simp [h1] at h; exact h
      obtain ⟨a, b, c⟩ := ih q this
      exact ⟨by omega, b, c⟩
theorem cnt_lt_of {C : Nat → Bool} {k n : Nat} (hk : k < n) (hc : C k = true) : cnt C k < cnt C n := by
  have h1 := cnt_succ_pos C k hc
  have h2 := cnt_mono_n C (m := k + 1) (n := n) hk
  omega
theorem nth_of {C : Nat → Bool} {n k : Nat} (hk : k < n) (hc : C k = true) : nth C n (cnt C k) = k := by
  obtain ⟨a, b, c⟩ := nth_spec C n (cnt C k) (cnt_lt_of hk hc)
  rcases Nat.lt_trichotomy (nth C n (cnt C k)) k with h | h | h
  · have := cnt_lt_of h b; omega
  · exact h
  · have := cnt_lt_of h hc; omega
theorem nth_mono {C : Nat → Bool} {n q q' : Nat} (h : q < q') (h' : q' < cnt C n) : nth C n q < nth C n q' := by
  obtain ⟨a, b, c⟩ := nth_spec C n q (by omega)
  obtain ⟨a', b', c'⟩ := nth_spec C n q' h'
  rcases Nat.lt_or_ge (nth C n q) (nth C n q') with h1 | h1
  · exact h1
  · have := cnt_mono_n C h1; omega

/-- The m chosen places in an order. -/
structure Srt (C : Nat → Bool) (n : Nat) (lt : Nat → Nat → Bool) (m : Nat) (a : Nat → Nat) : Prop where
  size : m = cnt C n
  mem : ∀ r, r < m → a r < n ∧ C (a r) = true
  inc : ∀ r r', r < r' → r' < m → lt (a r) (a r') = true

theorem Srt.inj {C : Nat → Bool} {n : Nat} {lt : Nat → Nat → Bool} {m : Nat} {a : Nat → Nat} (h : Srt C n lt m a) (hirr : ∀ x, lt x x = false) {r r' : Nat} (hr : r < m) (hr' : r' < m) (he : a r = a r') : r = r' := by
  rcases Nat.lt_trichotomy r r' with h1 | h1 | h1
  · have := h.inc r r' h1 hr'; rw [he, hirr] at this; simp at this
  · exact h1
  · have := h.inc r' r h1 hr; rw [he, hirr] at this; simp at this
theorem Srt.cover {C : Nat → Bool} {n : Nat} {lt : Nat → Nat → Bool} {m : Nat} {a : Nat → Nat} (h : Srt C n lt m a) (hirr : ∀ x, lt x x = false) {k : Nat} (hk : k < n) (hc : C k = true) : ∃ r, r < m ∧ a r = k := by
  have h1 := onto_of_inj m (fun r => cnt C (a r)) (fun r hr => by
    have := cnt_lt_of (h.mem r hr).1 (h.mem r hr).2
    have := h.size; show cnt C (a r) < m; omega) (fun r r' hr hr' he => by
      refine h.inj hirr hr hr' ?_
      have e1 := nth_of (h.mem r hr).1 (h.mem r hr).2
      have e2 := nth_of (h.mem r' hr').1 (h.mem r' hr').2
      rw [← e1, ← e2, he]) (cnt C k) (by have := cnt_lt_of hk hc; have := h.size; omega)
  obtain ⟨r, hr, he⟩ := h1
  refine ⟨r, hr, ?_⟩
  have e1 := nth_of (h.mem r hr).1 (h.mem r hr).2
  have e2 := nth_of hk hc
  rw [← e1, ← e2, he]

/-- The chosen places by how many come behind. -/
theorem ranked {C : Nat → Bool} {n : Nat} {lt : Nat → Nat → Bool} (irr : ∀ x, lt x x = false) (trans : ∀ x y z, lt x y = true → lt y z = true → lt x z = true)
    (total : ∀ x y, x < n → y < n → C x = true → C y = true → x ≠ y → lt x y = true ∨ lt y x = true) :
    (∀ x, x < n → C x = true → cnt (fun k => C k && lt x k) n < cnt C n) ∧
    (∀ x y, x < n → y < n → C x = true → C y = true → lt x y = true → cnt (fun k => C k && lt y k) n < cnt (fun k => C k && lt x k) n) ∧
    ∀ r, r < cnt C n → ∃ x, x < n ∧ C x = true ∧ cnt C n - 1 - cnt (fun k => C k && lt x k) n = r := by
  have h1 : ∀ x, x < n → C x = true → cnt (fun k => C k && lt x k) n < cnt C n := fun x hx hc =>
    cnt_lt (fun i _ hi => by simp at hi; exact hi.1) hx (by simp [irr]) hc
  have h2 : ∀ x y, x < n → y < n → C x = true → C y = true → lt x y = true → cnt (fun k => C k && lt y k) n < cnt (fun k => C k && lt x k) n := fun x y _ hy _ hcy hl =>
    cnt_lt (fun i _ hi => by simp at hi ⊢; exact ⟨hi.1, trans _ _ _ hl hi.2⟩) hy (by simp [irr]) (by simp [hcy, hl])
  refine ⟨h1, h2, fun r hr => ?_⟩
  obtain ⟨q, hq, he⟩ := onto_of_inj (cnt C n) (fun q => cnt C n - 1 - cnt (fun k => C k && lt (nth C n q) k) n) (fun q hq => by
      show cnt C n - 1 - _ < cnt C n
      omega) (fun q q' hq hq' he => by
      obtain ⟨a, b, c⟩ := nth_spec C n q hq
      obtain ⟨a', b', c'⟩ := nth_spec C n q' hq'
      have s1 := h1 _ a b
      have s2 := h1 _ a' b'
      by_cases hne : nth C n q = nth C n q'
      · rw [← c, ← c', hne]
      · rcases total _ _ a a' b b' hne with hl | hl
        · have := h2 _ _ a a' b b' hl; omega
        · have := h2 _ _ a' a b' b hl; omega) r hr
  obtain ⟨a, b, _⟩ := nth_spec C n q hq
  exact ⟨nth C n q, a, b, he⟩

/-! ### The beginnings of the runs in the text's order -/
def pos (T : Nat → Nat) (n q : Nat) : Nat := nth (lms T n) n q
def many (T : Nat → Nat) (n : Nat) : Nat := cnt (lms T n) n
theorem pos_spec {T : Nat → Nat} {n q : Nat} (h : q < many T n) : pos T n q < n ∧ lms T n (pos T n q) = true ∧ cnt (lms T n) (pos T n q) = q := nth_spec _ n q h
theorem pos_next {T : Nat → Nat} {n q : Nat} (h : q < many T n) : nxt T n (pos T n q) = if q + 1 < many T n then pos T n (q + 1) else n := by
  obtain ⟨a, b, c⟩ := pos_spec h
  split
  · rename_i h1
    obtain ⟨a', b', c'⟩ := pos_spec h1
    refine nxt_eq (nth_mono (by omega) h1) (by omega) (by simp [lmz, b']) fun x hx1 hx2 => ?_
    cases hz : lmz T n x with
    | false => rfl
    | true =>
      simp [lmz] at hz
      rcases hz with hz | hz
      · have e1 := cnt_lt_of hx1 b
        have e2 := cnt_lt_of hx2 hz
        omega
      · omega
  · rename_i h1
    refine nxt_eq a (Nat.le_refl _) (lmz_n T n) fun x hx1 hx2 => ?_
    cases hz : lmz T n x with
    | false => rfl
    | true =>
      simp [lmz] at hz
      rcases hz with hz | hz
      · have e1 := cnt_lt_of hx1 b
        have e2 := cnt_lt_of hx2 hz
        unfold many at h1
        omega
      · omega

/-! ### Names -/
def idOf (T : Nat → Nat) (n : Nat) (a : Nat → Nat) : Nat → Nat
  | 0 => 1
  | r + 1 => idOf T n a r + (if subs T n (a r) = subs T n (a (r + 1)) then 0 else 1)
theorem idOf_pos (T : Nat → Nat) (n : Nat) (a : Nat → Nat) (r : Nat) : 1 ≤ idOf T n a r := by
  induction r with
  | zero => simp [idOf]
  | succ r ih => simp only [idOf]; omega
theorem idOf_le_succ (T : Nat → Nat) (n : Nat) (a : Nat → Nat) (r : Nat) : idOf T n a r ≤ r + 1 := by
  induction r with
  | zero => simp [idOf]
  | succ r ih => simp only [idOf]; split <;> omega
theorem idOf_mono (T : Nat → Nat) (n : Nat) (a : Nat → Nat) {r r' : Nat} (h : r ≤ r') : idOf T n a r ≤ idOf T n a r' := by
  induction r' with
  | zero => rw [show r = 0 by omega]; exact Nat.le_refl _
  | succ r' ih =>
    by_cases hr : r = r' + 1
    · rw [hr]; exact Nat.le_refl _
    · have := ih (by omega); simp only [idOf]; omega
/-- The greatest name is the number of the pieces: no two neighbours are equal. -/
theorem idOf_full (T : Nat → Nat) (n : Nat) (a : Nat → Nat) : ∀ m, idOf T n a m = m + 1 → ∀ r, r < m → subs T n (a r) ≠ subs T n (a (r + 1)) := by
  intro m
  induction m with
  | zero => intro _ r hr; omega
  | succ m ih =>
    intro h r hr
    have h1 := idOf_le_succ T n a m
    simp only [idOf] at h
    by_cases he : subs T n (a m) = subs T n (a (m + 1))
    · rw [if_pos he] at h; omega
    · by_cases hrm : r = m
      · rw [hrm]; exact he
      · rw [if_neg he] at h
        exact ih (by omega) r (by omega)

section
variable {T : Nat → Nat} {n m : Nat} {a : Nat → Nat}

theorem Srt.subs_le (h : Srt (lms T n) n (keyLt T n) m a) {r r' : Nat} (hr : r < r') (hr' : r' < m) : subs T n (a r) < subs T n (a r') ∨ subs T n (a r) = subs T n (a r') := by
  have := h.inc r r' hr hr'
  unfold keyLt at this; rw [decide_eq_true_iff] at this
  exact subs_of_key' (h.mem r (by omega)).1 (h.mem r' hr').1 this
theorem Srt.id_same (h : Srt (lms T n) n (keyLt T n) m a) : ∀ r' r, r ≤ r' → r' < m → (idOf T n a r = idOf T n a r' ↔ subs T n (a r) = subs T n (a r')) := by
  intro r'
  induction r' with
  | zero => intro r hr _; rw [show r = 0 by omega]; simp
  | succ r' ih =>
    intro r hr hm
    by_cases he : r = r' + 1
    · rw [he]; simp
    · have hI := ih r (by omega) (by omega)
      have h1 := idOf_mono T n a (r := r) (r' := r') (by omega)
      constructor
      · intro hid
        simp only [idOf] at hid
        by_cases hs : subs T n (a r') = subs T n (a (r' + 1))
        · rw [if_pos hs] at hid
          rw [hI.1 (by omega), hs]
        · rw [if_neg hs] at hid; omega
      · intro hs
        have hmid : subs T n (a r) = subs T n (a r') := by
          by_cases h0 : r = r'
          · rw [h0]
          · rcases h.subs_le (r := r) (r' := r') (by omega) (by omega) with h2 | h2
            · rcases h.subs_le (r := r') (r' := r' + 1) (by omega) hm with h3 | h3
              · rw [← hs] at h3; exact (lex_irrefl _ (lex_trans h2 h3)).elim
              · rw [hs]; exact h3.symm
            · exact h2
        simp only [idOf]
        rw [if_pos (hmid.symm.trans hs), hI.2 hmid]; rfl
theorem Srt.id_lt (h : Srt (lms T n) n (keyLt T n) m a) {r r' : Nat} (_hr : r < m) (hr' : r' < m) (hid : idOf T n a r < idOf T n a r') : subs T n (a r) < subs T n (a r') := by
  have hlt : r < r' := by
    rcases Nat.lt_or_ge r r' with h1 | h1
    · exact h1
    · have := idOf_mono T n a h1; omega
  rcases h.subs_le hlt hr' with h2 | h2
  · exact h2
  · have := (h.id_same r' r (by omega) hr').2 h2; omega
theorem Srt.id_eq (h : Srt (lms T n) n (keyLt T n) m a) {r r' : Nat} (hr : r < m) (hr' : r' < m) (hid : idOf T n a r = idOf T n a r') : subs T n (a r) = subs T n (a r') := by
  rcases Nat.le_total r r' with h1 | h1
  · exact (h.id_same r' r h1 hr').1 hid
  · exact ((h.id_same r r' h1 hr).1 hid.symm).symm

/-- All names are different: the order by key is the order of the ends. -/
theorem Srt.full (h : Srt (lms T n) n (keyLt T n) m a) (hf : idOf T n a (m - 1) = m) : Srt (lms T n) n (sl T n) m a := by
  refine ⟨h.size, h.mem, fun r r' hr hr' => ?_⟩
  refine sl_of_subs' (h.mem r (by omega)).1 (h.mem r' hr').1 ?_
  rcases h.subs_le hr hr' with h1 | h1
  · exact h1
  · have h2 := (h.id_same r' r (by omega) hr').2 h1
    have h3 := idOf_full T n a (m - 1) (by rw [hf]; omega) r (by omega)
    have h4 := idOf_mono T n a (r := r + 1) (r' := r') (by omega)
    have h5 : idOf T n a (r + 1) = idOf T n a r + 1 := by simp only [idOf]; rw [if_neg h3]
    omega

/-- The names in the text's order, from 0 on. -/
theorem Srt.reduced (h : Srt (lms T n) n (keyLt T n) m a) {N T1 : Nat → Nat} (hN : ∀ r, r < m → N (a r) = idOf T n a r) (hT1 : ∀ q, q < m → T1 q + 1 = N (pos T n q)) :
    ∀ d q q', q + d = m → q < m → q' < m → sl T1 m q q' = sl T n (pos T n q) (pos T n q') := by
  have hm : m = many T n := h.size
  have irr : ∀ x, keyLt T n x x = false := fun x => by simp [keyLt, List.lt_irrefl]
  -- a place of the text's order in the order by key
  have place : ∀ q, q < m → ∃ r, r < m ∧ a r = pos T n q ∧ T1 q + 1 = idOf T n a r := fun q hq => by
    obtain ⟨p1, p2, _⟩ := pos_spec (T := T) (n := n) (q := q) (by omega)
    obtain ⟨r, hr, hra⟩ := h.cover irr p1 p2
    exact ⟨r, hr, hra, by rw [hT1 q hq, ← hra, hN r hr]⟩
  intro d
  induction d with
  | zero => intro q q' hd hq; omega
  | succ d ih =>
    intro q q' hd hq hq'
    by_cases hqq : q = q'
    · rw [hqq, sl_irrefl, sl_irrefl]
    · obtain ⟨r, hr, hra, hrn⟩ := place q hq
      obtain ⟨r', hr', hra', hrn'⟩ := place q' hq'
      obtain ⟨p1, p2, p3⟩ := pos_spec (T := T) (n := n) (q := q) (by omega)
      obtain ⟨p1', p2', p3'⟩ := pos_spec (T := T) (n := n) (q := q') (by omega)
      rcases Nat.lt_trichotomy (T1 q) (T1 q') with h1 | h1 | h1
      · have h2 := h.id_lt hr hr' (by omega)
        rw [hra, hra'] at h2
        rw [sl_of_subs' p1 p1' h2, (sl_iff T1 m q q' hq hq').2 (.inl h1)]
      · have h2 := h.id_eq hr hr' (by omega)
        rw [hra, hra'] at h2
        obtain ⟨e1, e2, e3, _⟩ := subs_same' p1 p1' h2
        have hne : pos T n q ≠ pos T n q' := fun e => hqq (by rw [← p3, ← p3', e])
        have hn1 := pos_next (T := T) (n := n) (q := q) (by omega)
        have hn2 := pos_next (T := T) (n := n) (q := q') (by omega)
        by_cases hl : q + 1 < m
        · by_cases hl' : q' + 1 < m
          · rw [if_pos (by omega)] at hn1 hn2
            rw [e1, hn1, hn2, ← ih (q + 1) (q' + 1) (by omega) hl hl', Bool.eq_iff_iff, sl_iff T1 m q q' hq hq']
            simp [h1]
          · rw [if_pos (by omega)] at hn1
            rw [if_neg (by omega)] at hn2
            rw [hn1, hn2, xv_n] at e3
            have := xv_pos (T := T) (pos_spec (T := T) (n := n) (q := q + 1) (by omega)).1
            omega
        · rw [if_neg (by omega)] at hn1
          by_cases hl' : q' + 1 < m
          · rw [if_pos (by omega)] at hn2
            rw [hn1, hn2, xv_n] at e3
            have := xv_pos (T := T) (pos_spec (T := T) (n := n) (q := q' + 1) (by omega)).1
            omega
          · omega
      · have h2 := h.id_lt hr' hr (by omega)
        rw [hra, hra'] at h2
        rw [sl_asymm (sl_of_subs' p1' p1 h2), sl_asymm ((sl_iff T1 m q' q hq' hq).2 (.inl h1))]
end

/-- A list of the places of a text by what stands there up to the end. -/
structure IsSA (T : Nat → Nat) (n : Nat) (g : Nat → Nat) : Prop where
  mem : ∀ r, r < n → g r < n
  inc : ∀ r r', r < r' → r' < n → sl T n (g r) (g r') = true

/-- The reduced text's array, put back into the text. -/
theorem Srt.back {T : Nat → Nat} {n m : Nat} {a : Nat → Nat} (h : Srt (lms T n) n (keyLt T n) m a) {N T1 g : Nat → Nat} (hN : ∀ r, r < m → N (a r) = idOf T n a r) (hT1 : ∀ q, q < m → T1 q + 1 = N (pos T n q))
    (hg : IsSA T1 m g) : Srt (lms T n) n (sl T n) m (fun r => pos T n (g r)) := by
  have hm : m = many T n := h.size
  refine ⟨h.size, fun r hr => ?_, fun r r' hr hr' => ?_⟩
  · have := pos_spec (T := T) (n := n) (q := g r) (by have := hg.mem r hr; omega)
    exact ⟨this.1, this.2.1⟩
  · have h1 := hg.mem r (by omega)
    have h2 := hg.mem r' hr'
    rw [← h.reduced hN hT1 (m - g r) (g r) (g r') (by omega) h1 h2]
    exact hg.inc r r' hr hr'

end Go.Proofs.YtfpihnfhmefeaaaGreatDoor

