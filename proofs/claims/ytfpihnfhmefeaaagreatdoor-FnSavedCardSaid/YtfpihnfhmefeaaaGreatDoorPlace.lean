/-
  Laying the beginnings of the runs into their buckets: from behind through the text, and out of a sorted list. No condition.
-/
import Derived.Test.YtfpihnfhmefeaaaGreatDoorRank
namespace Go.Proofs.YtfpihnfhmefeaaaGreatDoor

/-- By number, then by place. -/
def ltP (T : Nat → Nat) (x y : Nat) : Bool := decide (T x < T y) || (T x == T y && decide (x < y))
theorem ltP_iff {T : Nat → Nat} {x y : Nat} : ltP T x y = true ↔ T x < T y ∨ (T x = T y ∧ x < y) := by simp [ltP]
theorem two_P (T : Nat → Nat) (n : Nat) : Two T n (fun _ => false) (lms T n) (ltP T) := by
  refine { hL := fun x hx => by simp at hx, hS := fun x hx => (lms_iff.1 hx).2.1, apart := fun x h1 _ => by simp at h1, irr := fun x => by simp [ltP], trans := fun x y z h1 h2 => ?_, total := fun x y _ _ hne => ?_, num := fun x y _ _ hT => ltP_iff.2 (.inl hT), kind := fun x y h1 _ _ => by simp at h1 }
  · rw [ltP_iff] at *; omega
  · rw [ltP_iff, ltP_iff]; omega
def rhoP (T : Nat → Nat) (n j : Nat) : Nat := rho T n (fun _ => false) (lms T n) (ltP T) j
theorem rhoP_eq {T : Nat → Nat} {n j : Nat} (hj : lms T n j = true) : rhoP T n j + 1 + cnt (fun k => lms T n k && T k == T j && decide (j < k)) n = lo T n (T j + 1) := by
  have h := ((two_P T n).S_bound hj).2.2
  unfold rhoP
  rw [← h]
  congr 1
  refine cnt_congr fun k _ => ?_
  by_cases hT : T k = T j
  · have : ltP T j k = decide (j < k) := by rw [Bool.eq_iff_iff, ltP_iff]; simp [hT]
    rw [this]
  · have : (T k == T j) = false := beq_false_of_ne hT
    simp [this]
theorem rhoP_lt {T : Nat → Nat} {n j : Nat} (hj : lms T n j = true) : rhoP T n j < n := ((two_P T n).bound (.inr hj)).2.2
theorem rhoP_inj {T : Nat → Nat} {n i j : Nat} (hi : lms T n i = true) (hj : lms T n j = true) (h : rhoP T n i = rhoP T n j) : i = j := (two_P T n).rho_inj (.inr hi) (.inr hj) h

/-- The walk through the text from behind: what lies behind p has been laid. -/
structure IPlace (T : Nat → Nat) (n p : Nat) (s B : Nat → Int) (N : Nat) (last : Int) : Prop where
  set : ∀ j, lms T n j = true → p < j → s (rhoP T n j) = (j : Int)
  rest : ∀ x, x < n → (∀ j, lms T n j = true → p < j → rhoP T n j ≠ x) → s x = 0
  bkt : ∀ c, B c + (cnt (fun k => lms T n k && T k == c && decide (p < k)) n : Nat) = (lo T n (c + 1) : Nat)
  num : N = cnt (fun k => lms T n k && decide (p < k)) n
  last : (N = 0 ∧ last = -1) ∨ ∃ f, lms T n f = true ∧ p < f ∧ (∀ j, lms T n j = true → p < j → f ≤ j) ∧ last = (rhoP T n f : Nat)

section
variable {T : Nat → Nat} {n p : Nat} {s B : Nat → Int} {N : Nat} {last : Int}

theorem place_start (hs : ∀ x, x < n → s x = 0) (hB : ∀ c, B c = (lo T n (c + 1) : Nat)) : IPlace T n n s B 0 (-1) := by
  have hz : ∀ q : Nat → Bool, cnt (fun k => q k && decide (n < k)) n = 0 := fun q => cnt_false fun k hk => by simp; omega
  refine ⟨fun j hj hp => ?_, fun x hx _ => hs x hx, fun c => ?_, ?_, .inl ⟨rfl, rfl⟩⟩
  · have := (lms_iff.1 hj).2.1; omega
  · rw [hB, hz (fun k => lms T n k && T k == c)]; rfl
  · rw [hz]
theorem place_vis {q : Nat → Bool} (hp0 : 0 < p) (hp : lms T n p = false) : cnt (fun k => lms T n k && q k && decide (p - 1 < k)) n = cnt (fun k => lms T n k && q k && decide (p < k)) n := by
  refine cnt_congr fun k _ => ?_
  by_cases hk : lms T n k = true
  · have : k ≠ p := by rintro rfl; rw [hk] at hp; simp at hp
    congr 1; rw [decide_eq_decide]; omega
  · simp [hk]
theorem place_stay (h : IPlace T n p s B N last) (hp0 : 0 < p) (hp : lms T n p = false) : IPlace T n (p - 1) s B N last := by
  have hne : ∀ j, lms T n j = true → p - 1 < j → p < j := fun j hj hlt => by
    have : j ≠ p := by rintro rfl; rw [hj] at hp; simp at hp
    omega
  refine ⟨fun j hj hlt => h.set j hj (hne j hj hlt), fun x hx hno => h.rest x hx fun j hj hlt => hno j hj (by omega), fun c => ?_, ?_, ?_⟩
  · rw [place_vis (q := fun k => T k == c) hp0 hp]; exact h.bkt c
  · rw [h.num]
    have := place_vis (T := T) (n := n) (p := p) (q := fun _ => true) hp0 hp
    simp only [Bool.and_true] at this
    exact this.symm
  · rcases h.last with h1 | ⟨f, h1, h2, h3, h4⟩
    · exact .inl h1
    · exact .inr ⟨f, h1, by omega, fun j hj hlt => h3 j hj (hne j hj hlt), h4⟩
theorem place_event (h : IPlace T n p s B N last) (hp : lms T n p = true) :
    B (T p) - 1 = (rhoP T n p : Nat) ∧ rhoP T n p < n ∧ N < n ∧ IPlace T n (p - 1) (put s (rhoP T n p) (p : Int)) (put B (T p) (B (T p) - 1)) (N + 1) (rhoP T n p : Nat) := by
  have hb := lms_bound hp
  have h1 := rhoP_eq hp
  have h2 := h.bkt (T p)
  have hBp : B (T p) - 1 = (rhoP T n p : Nat) := by omega
  have hins : ∀ q : Nat → Bool, q p = true → cnt (fun k => lms T n k && q k && decide (p - 1 < k)) n = cnt (fun k => lms T n k && q k && decide (p < k)) n + 1 := fun q hq => by
    rw [← cnt_insert (p := fun k => lms T n k && q k && decide (p < k)) (k := p) (by omega) (by simp)]
    refine cnt_congr fun k _ => ?_
    by_cases hk : k = p
    · subst hk; simp [hp, hq]; omega
    · have hk' : (k == p) = false := beq_false_of_ne hk
      rw [hk', Bool.or_false]
      congr 1; rw [decide_eq_decide]; omega
  have hN1 := hins (fun _ => true) rfl
  simp only [Bool.and_true] at hN1
  have hN2 : cnt (fun k => lms T n k && decide (p - 1 < k)) n ≤ n := cnt_le _ _
  have hnum := h.num
  refine ⟨hBp, rhoP_lt hp, by omega, ⟨fun j hj hlt => ?_, fun x hx hno => ?_, fun c => ?_, by rw [hN1, ← hnum], .inr ⟨p, hp, by omega, fun j _ hlt => by omega, rfl⟩⟩⟩
  · by_cases hjp : j = p
    · subst hjp; rw [put_same]
    · rw [put_other _ _ _ _ (fun e => hjp (rhoP_inj hj hp e))]; exact h.set j hj (by omega)
  · rw [put_other _ _ _ _ (fun e => hno p hp (by omega) e.symm)]
    exact h.rest x hx fun j hj hlt => hno j hj (by omega)
  · by_cases hc : c = T p
    · subst hc
      rw [put_same, hins (fun k => T k == T p) (by simp)]
      omega
    · rw [put_other _ _ _ _ hc]
      have : cnt (fun k => lms T n k && T k == c && decide (p - 1 < k)) n = cnt (fun k => lms T n k && T k == c && decide (p < k)) n := cnt_congr fun k _ => by
        by_cases hk : k = p
        · have : (T k == c) = false := beq_false_of_ne fun e => hc (by rw [← e, hk])
          simp [this]
        · congr 1; rw [decide_eq_decide]; omega
      rw [this]; exact h.bkt c
end

/-- All beginnings lie at their places by the ends' order; the rest is empty. -/
def PlaceAll (T : Nat → Nat) (n : Nat) (s : Nat → Int) : Prop :=
  (∀ e, lms T n e = true → s (rho T n (allL T n) (lms T n) (sl T n) e) = (e : Int)) ∧ ∀ x, x < n → (∀ y, lms T n y = true → rho T n (allL T n) (lms T n) (sl T n) y ≠ x) → s x = 0
/-- All beginnings but the first lie at their places by number and place; the rest is empty. -/
def PlaceSub (T : Nat → Nat) (n f : Nat) (s : Nat → Int) : Prop :=
  (∀ e, subE T n f e = true → s (rho T n (subL T n f) (subE T n f) (kapLt T n) e) = (e : Int)) ∧ ∀ x, x < n → (∀ y, subE T n f y = true → rho T n (subL T n f) (subE T n f) (kapLt T n) y ≠ x) → s x = 0

theorem rho_sub_P {T : Nat → Nat} {n f e : Nat} (hf : First T n f) (he : subE T n f e = true) : rho T n (subL T n f) (subE T n f) (kapLt T n) e = rhoP T n e := by
  obtain ⟨hl, hlt⟩ := subE_iff.1 he
  have h1 := ((lp_sub hf).toTwo.S_bound he).2.2
  have h2 := rhoP_eq hl
  have : cnt (fun k => subE T n f k && T k == T e && kapLt T n e k) n = cnt (fun k => lms T n k && T k == T e && decide (e < k)) n := cnt_congr fun k _ => by
    by_cases hT : T k = T e
    · by_cases hk : lms T n k = true
      · have e1 := lms_iff.1 hl
        have e2 := lms_iff.1 hk
        have hx : xv T n e = xv T n k := xv_eq e1.2.1 e2.2.1 hT.symm (by rw [e1.2.2.1, e2.2.2.1])
        have hkl : kapLt T n e k = decide (e < k) := by
          unfold kapLt
          rw [decide_eq_decide, kap_z (by simp [lmz, hl]), kap_z (by simp [lmz, hk]), lex_cons, lex_cons, hx]
          simp
        rw [hkl]
        by_cases hek : e < k
        · have : subE T n f k = true := subE_iff.2 ⟨hk, by omega⟩
          simp [this, hk]
        · simp [hek]
      · have h3 : subE T n f k = false := by
          cases hq : subE T n f k with
          | false => rfl
          | true => exact (hk (subE_iff.1 hq).1).elim
        simp [hk, h3]
    · have : (T k == T e) = false := beq_false_of_ne hT
      simp [this]
  omega

theorem place_all {T : Nat → Nat} {n : Nat} {s B : Nat → Int} {N : Nat} {last : Int} (h : IPlace T n 0 s B N last) (hn : 0 < n) (h1 : N ≤ 1) : N = many T n ∧ PlaceAll T n s := by
  have h0 : ∀ j, lms T n j = true → 0 < j := fun j hj => (lms_iff.1 hj).1
  have hN : N = many T n := by
    rw [h.num]; unfold many
    refine cnt_congr fun k _ => ?_
    by_cases hk : lms T n k = true
    · have := h0 k hk; simp [hk, this]
    · simp [hk]
  have huniq : ∀ i j, lms T n i = true → lms T n j = true → i = j := fun i j hi hj => by
    have e1 := cnt_lt_of (lms_iff.1 hi).2.1 hi
    have e2 := cnt_lt_of (lms_iff.1 hj).2.1 hj
    have e3 := nth_of (lms_iff.1 hi).2.1 hi
    have e4 := nth_of (lms_iff.1 hj).2.1 hj
    unfold many at hN
    rw [← e3, ← e4, show cnt (lms T n) i = cnt (lms T n) j by omega]
  have hr : ∀ e, lms T n e = true → rho T n (allL T n) (lms T n) (sl T n) e = rhoP T n e := fun e he => by
    have a := ((lp_all hn).toTwo.S_bound he).2.2
    have b := rhoP_eq he
    have z1 : cnt (fun k => lms T n k && T k == T e && sl T n e k) n = 0 := cnt_false fun k _ => by
      by_cases hk : lms T n k = true
      · rw [huniq k e hk he, sl_irrefl]; simp
      · simp [hk]
    have z2 : cnt (fun k => lms T n k && T k == T e && decide (e < k)) n = 0 := cnt_false fun k _ => by
      by_cases hk : lms T n k = true
      · rw [huniq k e hk he]; simp
      · simp [hk]
    omega
  refine ⟨hN, fun e he => by rw [hr e he]; exact h.set e he (h0 e he), fun x hx hy => h.rest x hx fun j hj _ => by rw [← hr j hj]; exact hy j hj⟩

theorem place_sub {T : Nat → Nat} {n : Nat} {s B : Nat → Int} {N : Nat} {last : Int} (h : IPlace T n 0 s B N last) (h1 : 1 < N) : N = many T n ∧ ∃ f, First T n f ∧ last = (rhoP T n f : Nat) ∧ rhoP T n f < n ∧ PlaceSub T n f (put s (rhoP T n f) 0) := by
  have h0 : ∀ j, lms T n j = true → 0 < j := fun j hj => (lms_iff.1 hj).1
  have hN : N = many T n := by
    rw [h.num]; unfold many
    refine cnt_congr fun k _ => ?_
    by_cases hk : lms T n k = true
    · have := h0 k hk; simp [hk, this]
    · simp [hk]
  rcases h.last with ⟨h2, _⟩ | ⟨f, h2, h3, h4, h5⟩
  · omega
  · have hf : First T n f := ⟨h2, fun j hj => h4 j hj (h0 j hj)⟩
    refine ⟨hN, f, hf, h5, rhoP_lt h2, fun e he => ?_, fun x hx hy => ?_⟩
    · obtain ⟨e1, e2⟩ := subE_iff.1 he
      rw [rho_sub_P hf he, put_other _ _ _ _ (fun q => by have := rhoP_inj e1 h2 q; omega)]
      exact h.set e e1 (h0 e e1)
    · by_cases hxf : x = rhoP T n f
      · rw [hxf, put_same]
      · rw [put_other _ _ _ _ hxf]
        refine h.rest x hx fun j hj _ e => ?_
        by_cases hjf : j = f
        · exact hxf (by rw [← e, hjf])
        · have hje : subE T n f j = true := subE_iff.2 ⟨hj, by have := hf.least j hj; omega⟩
          exact hy j hje (by rw [rho_sub_P hf hje]; exact e)

end Go.Proofs.YtfpihnfhmefeaaaGreatDoor

