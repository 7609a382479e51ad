/-
  The scan from the right, which lays the second kind of places; what it leaves behind it where all is kept, and where only chosen places are packed to the right. No condition.
-/
import Derived.Test.YtfpihnfhmefeaaaGreatDoorOrd
namespace Go.Proofs.YtfpihnfhmefeaaaGreatDoor

structure SP (T : Nat → Nat) (n : Nat) (L S : Nat → Bool) (lt : Nat → Nat → Bool) : Prop extends Two T n L S lt where
  nxt : ∀ k, S k = true → k + 1 < n ∧ (L (k + 1) = true ∨ S (k + 1) = true)
  step : ∀ k k', S k = true → S k' = true → T k = T k' → lt k k' = lt (k + 1) (k' + 1)
  fwd : ∀ k, S k = true → lt k (k + 1) = true

structure IS (T : Nat → Nat) (n : Nat) (L S : Nat → Bool) (lt : Nat → Nat → Bool) (vS vL : Nat → Int) (p : Nat) (s B : Nat → Int) : Prop where
  sset : ∀ k, S k = true → p ≤ rho T n L S lt (k + 1) → rho T n L S lt k < p → s (rho T n L S lt k) = vS k
  lset : ∀ k, L k = true → rho T n L S lt k < p → s (rho T n L S lt k) = vL k
  rest : ∀ x, x < p → (∀ y, (L y = true ∨ S y = true) → rho T n L S lt y ≠ x) → s x = 0
  bkt : ∀ c, B c + (cnt (fun k => S k && T k == c && decide (p ≤ rho T n L S lt (k + 1))) n : Nat) = (lo T n (c + 1) : Nat)

section
variable {T : Nat → Nat} {n : Nat} {L S : Nat → Bool} {lt : Nat → Nat → Bool} {vS vL : Nat → Int} {i : Nat} {s B : Nat → Int}

theorem SP.start (h : SP T n L S lt) (hl : ∀ k, L k = true → s (rho T n L S lt k) = vL k) (hrest : ∀ x, x < n → (∀ y, (L y = true ∨ S y = true) → rho T n L S lt y ≠ x) → s x = 0)
    (hB : ∀ c, B c = (lo T n (c + 1) : Nat)) : IS T n L S lt vS vL n s B := by
  refine ⟨fun k hk hp _ => ?_, fun k hk _ => hl k hk, hrest, fun c => ?_⟩
  · have := (h.bound (h.nxt k hk).2).2.2; omega
  · rw [hB, cnt_false]
    · rfl
    · intro k _
      by_cases hk : S k = true
      · have := (h.bound (h.nxt k hk).2).2.2
        simp; intros; omega
      · simp [hk]

/-- The scan is at an end: the buckets are full. -/
theorem SP.vis_same (h : SP T n L S lt) (hno : ∀ k, S k = true → rho T n L S lt (k + 1) ≠ i) (c : Nat) :
    cnt (fun k => S k && T k == c && decide (i ≤ rho T n L S lt (k + 1))) n = cnt (fun k => S k && T k == c && decide (i + 1 ≤ rho T n L S lt (k + 1))) n := by
  have _ := h
  refine cnt_congr fun k _ => ?_
  by_cases hk : S k = true
  · have := hno k hk
    congr 1; rw [decide_eq_decide]; omega
  · simp [hk]

theorem SP.at_L (_h : SP T n L S lt) (hI : IS T n L S lt vS vL (i + 1) s B) {j : Nat} (hj : L j = true) (hr : rho T n L S lt j = i) : s i = vL j := by
  have := hI.lset j hj (by omega)
  rw [hr] at this; exact this
theorem SP.at_S (h : SP T n L S lt) (hI : IS T n L S lt vS vL (i + 1) s B) {j : Nat} (hj : S j = true) (hr : rho T n L S lt j = i) : s i = vS j := by
  have h1 := h.rho_lt (.inr hj) (h.nxt j hj).2 (h.fwd j hj)
  have := hI.sset j hj (by omega) (by omega)
  rw [hr] at this; exact this
theorem SP.at_none (_h : SP T n L S lt) (hI : IS T n L S lt vS vL (i + 1) s B) (hno : ∀ y, (L y = true ∨ S y = true) → rho T n L S lt y ≠ i) : s i = 0 := hI.rest i (by omega) hno

/-- Nothing is laid for place i: there is nothing, or its predecessor is none of the second kind. -/
theorem SP.skip (h : SP T n L S lt) (hI : IS T n L S lt vS vL (i + 1) s B) {s' : Nat → Int} (hs : ∀ x, x < i → s' x = s x)
    (hp : ∀ j, (L j = true ∨ S j = true) → rho T n L S lt j = i → 0 < j → S (j - 1) = false) : IS T n L S lt vS vL i s' B := by
  have hno : ∀ k, S k = true → rho T n L S lt (k + 1) ≠ i := fun k hk e => by
    have := hp (k + 1) (h.nxt k hk).2 e (by omega)
    rw [Nat.add_sub_cancel, hk] at this; simp at this
  refine ⟨fun k hk h1 h2 => ?_, fun k hk h1 => ?_, fun x hx hy => ?_, fun c => ?_⟩
  · rw [hs _ h2]
    have := hno k hk
    exact hI.sset k hk (by omega) (by omega)
  · rw [hs _ h1]; exact hI.lset k hk (by omega)
  · rw [hs _ hx]; exact hI.rest x (by omega) hy
  · rw [h.vis_same hno c]; exact hI.bkt c

/-- The predecessor is of the second kind: it is laid now, at its bucket's last free place. -/
theorem SP.push (h : SP T n L S lt) (hI : IS T n L S lt vS vL (i + 1) s B) {s' : Nat → Int} (hs : ∀ x, x < i → s' x = s x) {j : Nat} (hj : L j = true ∨ S j = true) (hr : rho T n L S lt j = i) (h0 : 0 < j) (hp : S (j - 1) = true) :
    B (T (j - 1)) = ((rho T n L S lt (j - 1) : Nat) : Int) + 1 ∧ rho T n L S lt (j - 1) < i ∧ rho T n L S lt (j - 1) < n ∧
    IS T n L S lt vS vL i (put s' (rho T n L S lt (j - 1)) (vS (j - 1))) (put B (T (j - 1)) (B (T (j - 1)) - 1)) := by
  obtain ⟨k, rfl⟩ : ∃ k, j = k + 1 := ⟨j - 1, by omega⟩
  simp only [Nat.add_sub_cancel] at hp ⊢
  have hlt := h.rho_lt (.inr hp) hj (h.fwd k hp)
  have hbk := h.bound (.inr hp)
  have hvk : ∀ k', S k' = true → T k' = T k → (decide (i + 1 ≤ rho T n L S lt (k' + 1)) = lt k k') := fun k' hk' hT => by
    rw [Bool.eq_iff_iff, h.step k k' hp hk' hT.symm, ← h.rho_iff hj (h.nxt k' hk').2, hr]
    simp; omega
  have hBk : B (T k) = ((rho T n L S lt k : Nat) : Int) + 1 := by
    have h1 := hI.bkt (T k)
    have h2 := (h.S_bound hp).2.2
    have h3 : cnt (fun k' => S k' && T k' == T k && decide (i + 1 ≤ rho T n L S lt (k' + 1))) n = cnt (fun k' => S k' && T k' == T k && lt k k') n := by
      refine cnt_congr fun k' _ => ?_
      by_cases hc : S k' = true ∧ T k' = T k
      · rw [hvk k' hc.1 hc.2]
      · by_cases h1 : S k' = true
        · have h2 : (T k' == T k) = false := beq_false_of_ne fun e => hc ⟨h1, e⟩
          simp [h2]
        · simp [h1]
    rw [h3] at h1
    omega
  have hnv : decide (i + 1 ≤ rho T n L S lt (k + 1)) = false := by simp; omega
  have hv : ∀ k', S k' = true → decide (i ≤ rho T n L S lt (k' + 1)) = (decide (i + 1 ≤ rho T n L S lt (k' + 1)) || k' == k) := fun k' hk' => by
    by_cases hkk : k' = k
    · subst hkk; simp; omega
    · have hkk' : (k' == k) = false := beq_false_of_ne hkk
      rw [hkk', Bool.or_false, decide_eq_decide]
      have : rho T n L S lt (k' + 1) ≠ i := fun e => hkk (by have := h.rho_inj (h.nxt k' hk').2 hj (by rw [e, hr]); omega)
      omega
  refine ⟨hBk, by omega, hbk.2.2, ⟨fun k' hk' h1 h2 => ?_, fun k' hk' h1 => ?_, fun x hx hno => ?_, fun c => ?_⟩⟩
  · by_cases hkk : k' = k
    · subst hkk; rw [put_same]
    · rw [put_other _ _ _ _ (fun e => hkk (h.rho_inj (.inr hk') (.inr hp) e)), hs _ h2]
      have : rho T n L S lt (k' + 1) ≠ i := fun e => hkk (by have := h.rho_inj (h.nxt k' hk').2 hj (by rw [e, hr]); omega)
      exact hI.sset k' hk' (by omega) (by omega)
  · rw [put_other _ _ _ _ (fun e => h.apart k' hk' (by rw [h.rho_inj (.inl hk') (.inr hp) e]; exact hp)), hs _ h1]
    exact hI.lset k' hk' (by omega)
  · rw [put_other _ _ _ _ (fun e => hno k (.inr hp) e.symm), hs _ hx]; exact hI.rest x (by omega) hno
  · by_cases hc : c = T k
    · subst hc
      rw [put_same]
      have h1 := hI.bkt (T k)
      have : cnt (fun k' => S k' && T k' == T k && decide (i ≤ rho T n L S lt (k' + 1))) n = cnt (fun k' => S k' && T k' == T k && decide (i + 1 ≤ rho T n L S lt (k' + 1))) n + 1 := by
        rw [← cnt_insert (p := fun k' => S k' && T k' == T k && decide (i + 1 ≤ rho T n L S lt (k' + 1))) (k := k) (h.hS k hp) (by rw [hnv]; simp)]
        refine cnt_congr fun k' _ => ?_
        by_cases hk' : S k' = true
        · rw [hv k' hk']
          by_cases hkk : k' = k
          · subst hkk; simp [hk']
          · have hkk' : (k' == k) = false := beq_false_of_ne hkk
            simp [hkk']
        · have : (k' == k) = false := beq_false_of_ne (by rintro rfl; exact hk' hp)
          simp [hk', this]
      rw [this]; omega
    · rw [put_other _ _ _ _ hc, ← hI.bkt c]
      congr 2
      refine cnt_congr fun k' _ => ?_
      by_cases hk' : S k' = true
      · rw [hv k' hk']
        by_cases hkk : k' = k
        · have hcn : (T k' == c) = false := beq_false_of_ne fun e => hc (by rw [← e, hkk])
          simp [hcn]
        · have hkk' : (k' == k) = false := beq_false_of_ne hkk
          simp [hkk']
      · simp [hk']
end

/-! ### What stands behind the scan -/
/-- All is kept. -/
def DoneF (T : Nat → Nat) (n : Nat) (L S : Nat → Bool) (lt : Nat → Nat → Bool) (p : Nat) (s : Nat → Int) : Prop := ∀ y, (L y = true ∨ S y = true) → p ≤ rho T n L S lt y → s (rho T n L S lt y) = (y : Int)

/-- The chosen places are packed to the right, in their order; the rest is 0. -/
structure DoneP (T : Nat → Nat) (n : Nat) (L S : Nat → Bool) (lt : Nat → Nat → Bool) (C : Nat → Bool) (p : Nat) (s : Nat → Int) : Prop where
  room : p + cnt (fun k => C k && decide (p ≤ rho T n L S lt k)) n ≤ n
  packed : ∀ k, C k = true → p ≤ rho T n L S lt k → s (n - 1 - cnt (fun k' => C k' && lt k k') n) = (k : Int)
  zero : ∀ x, p ≤ x → x + cnt (fun k => C k && decide (p ≤ rho T n L S lt k)) n < n → s x = 0

section
variable {T : Nat → Nat} {n : Nat} {L S : Nat → Bool} {lt : Nat → Nat → Bool} {i : Nat} {s : Nat → Int}

theorem doneF_start (h : Two T n L S lt) (s : Nat → Int) : DoneF T n L S lt n s := fun y hy hp => by have := (h.bound hy).2.2; omega
theorem doneF_step (hd : DoneF T n L S lt (i + 1) s) {s' : Nat → Int} (hs : ∀ x, i < x → s' x = s x) (hi : ∀ y, (L y = true ∨ S y = true) → rho T n L S lt y = i → s' i = (y : Int)) : DoneF T n L S lt i s' := by
  intro y hy hp
  by_cases hr : rho T n L S lt y = i
  · rw [hr]; exact hi y hy hr
  · rw [hs _ (by omega)]; exact hd y hy (by omega)

theorem doneP_start (h : Two T n L S lt) {C : Nat → Bool} (hC : ∀ k, C k = true → S k = true) (s : Nat → Int) : DoneP T n L S lt C n s := by
  have h0 : cnt (fun k => C k && decide (n ≤ rho T n L S lt k)) n = 0 := cnt_false fun k _ => by
    by_cases hk : C k = true
    · have := (h.bound (.inr (hC k hk))).2.2
      simp [hk]; omega
    · simp [hk]
  refine ⟨by rw [h0]; omega, fun k hk hp => ?_, fun x hx hn => by omega⟩
  have := (h.bound (.inr (hC k hk))).2.2; omega

theorem chosen_cnt (h : Two T n L S lt) {C : Nat → Bool} (hC : ∀ k, C k = true → S k = true) {j : Nat} (hj : C j = true) :
    cnt (fun k' => C k' && lt j k') n = cnt (fun k => C k && decide (rho T n L S lt j + 1 ≤ rho T n L S lt k)) n := cnt_congr fun k _ => by
  by_cases hk : C k = true
  · have := h.rho_iff (.inr (hC j hj)) (.inr (hC k hk))
    congr 1; rw [Bool.eq_iff_iff, ← this]; simp; omega
  · simp [hk]
theorem chosen_lt (h : Two T n L S lt) {C : Nat → Bool} (hC : ∀ k, C k = true → S k = true) {j p : Nat} (hj : C j = true) (hp : p ≤ rho T n L S lt j) :
    cnt (fun k' => C k' && lt j k') n < cnt (fun k => C k && decide (p ≤ rho T n L S lt k)) n := by
  rw [chosen_cnt h hC hj]
  refine cnt_lt (k := j) (fun k _ hk => ?_) (h.hS j (hC j hj)) (by simp) (by simp [hj, hp])
  simp at hk ⊢
  exact ⟨hk.1, by omega⟩

/-- What is laid at i is no chosen place: 0 is left there. -/
theorem doneP_other (h : Two T n L S lt) {C : Nat → Bool} (hC : ∀ k, C k = true → S k = true) (hd : DoneP T n L S lt C (i + 1) s) {s' : Nat → Int} (hs : ∀ x, i < x → s' x = s x) (hi : s' i = 0)
    (hno : ∀ k, C k = true → rho T n L S lt k ≠ i) : DoneP T n L S lt C i s' := by
  have hc : cnt (fun k => C k && decide (i ≤ rho T n L S lt k)) n = cnt (fun k => C k && decide (i + 1 ≤ rho T n L S lt k)) n := cnt_congr fun k _ => by
    by_cases hk : C k = true
    · have := hno k hk
      congr 1; rw [decide_eq_decide]; omega
    · simp [hk]
  have h1 := hd.room
  refine ⟨by rw [hc]; omega, fun k hk hp => ?_, fun x hx hn => ?_⟩
  · have h2 := hno k hk
    have h3 := chosen_lt h hC hk (p := i + 1) (by omega)
    rw [hs _ (by omega)]
    exact hd.packed k hk (by omega)
  · by_cases hxi : x = i
    · rw [hxi]; exact hi
    · rw [hs x (by omega)]; exact hd.zero x (by omega) (by rw [hc] at hn; exact hn)

/-- A chosen place is laid at i: it goes to the top of what is packed. -/
theorem doneP_chosen (h : Two T n L S lt) {C : Nat → Bool} (hC : ∀ k, C k = true → S k = true) (hd : DoneP T n L S lt C (i + 1) s) {j : Nat} (hj : C j = true) (hr : rho T n L S lt j = i) {top : Nat}
    (ht : top + cnt (fun k => C k && decide (i + 1 ≤ rho T n L S lt k)) n = n) :
    i + 1 ≤ top ∧ (top - 1) + cnt (fun k => C k && decide (i ≤ rho T n L S lt k)) n = n ∧ DoneP T n L S lt C i (put (put s i 0) (top - 1) (j : Int)) := by
  have hc : cnt (fun k => C k && decide (i ≤ rho T n L S lt k)) n = cnt (fun k => C k && decide (i + 1 ≤ rho T n L S lt k)) n + 1 := by
    rw [← cnt_insert (p := fun k => C k && decide (i + 1 ≤ rho T n L S lt k)) (k := j) (h.hS j (hC j hj)) (by simp [hr])]
    refine cnt_congr fun k _ => ?_
    by_cases hk : C k = true
    · by_cases hkj : k = j
      · subst hkj; simp [hk, hr]
      · have hkj' : (k == j) = false := beq_false_of_ne hkj
        have : rho T n L S lt k ≠ i := fun e => hkj (h.rho_inj (.inr (hC k hk)) (.inr (hC j hj)) (by rw [e, hr]))
        rw [hkj', Bool.or_false]
        congr 1; rw [decide_eq_decide]; omega
    · have hkj' : (k == j) = false := beq_false_of_ne (by rintro rfl; exact hk hj)
      simp [hk, hkj']
  have h1 := hd.room
  have hcj := chosen_cnt h hC hj
  rw [hr] at hcj
  refine ⟨by omega, by omega, ⟨by omega, fun k hk hp => ?_, fun x hx hn => ?_⟩⟩
  · by_cases hkj : k = j
    · subst hkj
      rw [hcj, show n - 1 - cnt (fun k => C k && decide (i + 1 ≤ rho T n L S lt k)) n = top - 1 by omega, put_same]
    · have h2 : rho T n L S lt k ≠ i := fun e => hkj (h.rho_inj (.inr (hC k hk)) (.inr (hC j hj)) (by rw [e, hr]))
      have h3 := chosen_lt h hC hk (p := i + 1) (by omega)
      rw [put_other _ _ _ _ (by omega), put_other _ _ _ _ (by omega)]
      exact hd.packed k hk (by omega)
  · rw [put_other _ _ _ _ (by omega)]
    by_cases hxi : x = i
    · rw [hxi, put_same]
    · rw [put_other _ _ _ _ hxi]
      exact hd.zero x (by omega) (by omega)
end

end Go.Proofs.YtfpihnfhmefeaaaGreatDoor

