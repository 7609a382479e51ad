/-
  The rounds of the four scans, each by what stands in the array; what each scan begins and ends with. No condition.
-/
import Derived.Test.YtfpihnfhmefeaaaGreatDoorPlace
namespace Go.Proofs.YtfpihnfhmefeaaaGreatDoor

theorem put_self (f : Nat → Int) (i : Nat) : put f i (f i) = f := by
  funext j; by_cases h : j = i
  · rw [h, put_same]
  · rw [put_other _ _ _ _ h]

/-! ### The pieces: from the left -/
def vEs (d : Bool) (e : Nat) : Int := if d then 0 else (e : Int)
def vAs (T : Nat → Nat) (d : Bool) (k : Nat) : Int := if T (k - 1) < T k then (if d then (k : Int) else -(k : Int)) else (if d then 0 else (k : Int))
abbrev ILs (T : Nat → Nat) (n f i : Nat) (s B : Nat → Int) : Prop := IL T n (subL T n f) (subE T n f) (kapLt T n) vEs (vAs T) i s B

theorem tyS_prev {T : Nat → Nat} {n j : Nat} (h0 : 0 < j) (hj : j < n) (hL : tyS T n j = false) : tyS T n (j - 1) = decide (T (j - 1) < T j) := by
  rw [tyS_step T n (j - 1) (by omega), show j - 1 + 1 = j by omega, hL]; simp
theorem tyS_prev' {T : Nat → Nat} {n j : Nat} (h0 : 0 < j) (hj : j < n) (hS : tyS T n j = true) : tyS T n (j - 1) = decide (T (j - 1) ≤ T j) := by
  rw [tyS_step T n (j - 1) (by omega), show j - 1 + 1 = j by omega, hS, Bool.eq_iff_iff]; simp; omega

theorem subL_start {T : Nat → Nat} {n f : Nat} {s B : Nat → Int} (hf : First T n f) (hs : PlaceSub T n f s) (hB : ∀ c, B c = (lo T n c : Int)) :
    ∃ r, B (T (n - 1)) = (r : Nat) ∧ r < n ∧ ILs T n f 0 (put s r (if T (n - 2) < T (n - 1) then -((n - 1 : Nat) : Int) else ((n - 1 : Nat) : Int))) (put B (T (n - 1)) ((r : Int) + 1)) := by
  obtain ⟨h1, h2, h3⟩ := (lp_sub hf).start (vE := vEs) (vA := vAs T) (s := s) (B := B) (fun e he => by rw [hs.1 e he]; rfl) hs.2 hB
  refine ⟨_, h1, h2, ?_⟩
  rw [h1] at h3
  have : vAs T false (n - 1) = (if T (n - 2) < T (n - 1) then -((n - 1 : Nat) : Int) else ((n - 1 : Nat) : Int)) := by
    unfold vAs; rw [show n - 1 - 1 = n - 2 by omega]; simp
  rw [this] at h3
  exact h3
theorem subL_round {T : Nat → Nat} {n f i : Nat} {s B : Nat → Int} (hf : First T n f) (h : ILs T n f i s B) (hi : i < n) :
    (s i = 0 ∧ ILs T n f (i + 1) s B) ∨ (∃ j : Nat, 0 < j ∧ j < n ∧ s i = -(j : Int) ∧ ILs T n f (i + 1) (put s i (j : Int)) B) ∨
    (∃ k : Nat, 0 < k ∧ k + 1 < n ∧ s i = (k : Int) + 1 ∧ ∃ r, B (T k) = (r : Nat) ∧ i < r ∧ r < n ∧ ILs T n f (i + 1) (put (put s i 0) r (if T (k - 1) < T k then -(k : Int) else (k : Int))) (put B (T k) ((r : Int) + 1))) := by
  have hp := lp_sub hf
  have push : ∀ j, (subL T n f j = true ∨ subE T n f j = true) → rho T n (subL T n f) (subE T n f) (kapLt T n) j = i → subL T n f (j - 1) = true → s i = (j : Int) → (subL T n f j = true → ¬ T (j - 1) < T j) →
      ∃ k : Nat, 0 < k ∧ k + 1 < n ∧ s i = (k : Int) + 1 ∧ ∃ r, B (T k) = (r : Nat) ∧ i < r ∧ r < n ∧ ILs T n f (i + 1) (put (put s i 0) r (if T (k - 1) < T k then -(k : Int) else (k : Int))) (put B (T k) ((r : Int) + 1)) := fun j hj hr hp1 hs hnl => by
    obtain ⟨a1, a2, a3⟩ := subL_iff.1 hp1
    have hjn : j < n := by
      rcases hj with q | q
      · exact (subL_iff.1 q).1
      · exact (lms_iff.1 (subE_iff.1 q).1).2.1
    obtain ⟨e1, e2, e3, e4⟩ := hp.push h hj hr (x := 0) (by omega) hp1 (fun q => by unfold vAs; rw [if_neg (hnl q)]; rfl) (fun _ => rfl)
    refine ⟨j - 1, by omega, by omega, by rw [hs]; omega, _, e1, e2, e3, ?_⟩
    rw [e1] at e4
    have : vAs T false (j - 1) = (if T (j - 1 - 1) < T (j - 1) then -((j - 1 : Nat) : Int) else ((j - 1 : Nat) : Int)) := by unfold vAs; simp
    rw [this] at e4
    exact e4
  by_cases hL : ∃ j, subL T n f j = true ∧ rho T n (subL T n f) (subE T n f) (kapLt T n) j = i
  · obtain ⟨j, hj, hr⟩ := hL
    have hv := hp.at_L h hj hr
    obtain ⟨a1, a2, a3⟩ := subL_iff.1 hj
    have hfb := lms_bound hf.isLms
    have ht := tyS_prev (by omega) a1 a3
    by_cases hlt : T (j - 1) < T j
    · right; left
      refine ⟨j, by omega, a1, by rw [hv]; unfold vAs; rw [if_pos hlt]; rfl, ?_⟩
      have := hp.skip h hj hr (fun _ => by
        cases hq : subL T n f (j - 1) with
        | false => rfl
        | true => rw [(subL_iff.1 hq).2.2] at ht; simp at ht; omega)
      have e : vAs T true j = (j : Int) := by unfold vAs; rw [if_pos hlt]; rfl
      rw [e] at this
      exact this
    · right; right
      have hfS := (lms_iff.1 hf.isLms).2.2.1
      have ht' : tyS T n (j - 1) = false := by rw [ht]; simpa using hlt
      refine push j (.inl hj) hr (subL_iff.2 ⟨by omega, ?_, ht'⟩) (by rw [hv]; unfold vAs; rw [if_neg hlt]; rfl) (fun _ => hlt)
      rcases Nat.lt_or_ge f (j - 1) with q | q
      · exact q
      · rw [show j - 1 = f by omega, hfS] at ht'; simp at ht'
  · by_cases hE : ∃ j, subE T n f j = true ∧ rho T n (subL T n f) (subE T n f) (kapLt T n) j = i
    · obtain ⟨j, hj, hr⟩ := hE
      have hv := hp.at_S h hj hr
      right; right
      exact push j (.inr hj) hr (hp.prev j hj).2 (by rw [hv]; rfl) (fun q => (hp.apart j q hj).elim)
    · left
      refine hp.none h hi fun y hy e => ?_
      rcases hy with q | q
      · exact hL ⟨y, q, e⟩
      · exact hE ⟨y, q, e⟩
/-- What the first scan leaves: the first places of the runs of type L. -/
def PostLs (T : Nat → Nat) (n f : Nat) (s : Nat → Int) : Prop :=
  (∀ k, subL T n f k = true → s (rho T n (subL T n f) (subS T n f) (keyLt T n) k) = if T (k - 1) < T k then (k : Int) else 0) ∧
  ∀ x, x < n → (∀ y, (subL T n f y = true ∨ subS T n f y = true) → rho T n (subL T n f) (subS T n f) (keyLt T n) y ≠ x) → s x = 0
theorem subL_rho {T : Nat → Nat} {n f k : Nat} (hk : subL T n f k = true) : rho T n (subL T n f) (subS T n f) (keyLt T n) k = rho T n (subL T n f) (subE T n f) (kapLt T n) k := by
  rw [rho_L hk, rho_L hk]
  congr 1
  refine cnt_congr fun x _ => ?_
  by_cases hx : subL T n f x = true
  · have a := subL_iff.1 hx
    have b := subL_iff.1 hk
    have : keyLt T n x k = kapLt T n x k := by unfold keyLt kapLt; rw [kap_key (lmz_L a.1 a.2.2), kap_key (lmz_L b.1 b.2.2)]
    rw [this]
  · simp [hx]
theorem subL_end {T : Nat → Nat} {n f : Nat} {s B : Nat → Int} (hf : First T n f) (h : ILs T n f n s B) : PostLs T n f s := by
  have hp := lp_sub hf
  refine ⟨fun k hk => ?_, fun x hx hno => ?_⟩
  · rw [subL_rho hk, h.body k hk]
    have hb := (hp.bound (.inl hk)).2.2
    have hv : visL T n (subL T n f) (subE T n f) (kapLt T n) n (k + 1) = true := by
      unfold visL
      rcases hp.nxt k hk with h1 | h1
      · simp [h1]
      · have := (hp.bound h1).2.2; simp; right; exact this
    rw [hv, if_pos rfl]
    unfold vAs; simp [hb]
  · by_cases hE : ∃ j, subE T n f j = true ∧ rho T n (subL T n f) (subE T n f) (kapLt T n) j = x
    · obtain ⟨j, hj, hr⟩ := hE
      have := h.ends j hj
      rw [hr] at this
      rw [this]; unfold vEs; simp [hx]
    · refine h.rest x hx fun y hy e => ?_
      rcases hy with q | q
      · exact hno y (.inl q) (by rw [subL_rho q]; exact e)
      · exact hE ⟨y, q, e⟩

/-! ### The pieces: from the right -/
def vLr (T : Nat → Nat) (k : Nat) : Int := if T (k - 1) < T k then (k : Int) else 0
def vSr (T : Nat → Nat) (k : Nat) : Int := if T k < T (k - 1) then -(k : Int) else (k : Int)
abbrev ISs (T : Nat → Nat) (n f p : Nat) (s B : Nat → Int) : Prop := IS T n (subL T n f) (subS T n f) (keyLt T n) (vSr T) (vLr T) p s B
abbrev DPs (T : Nat → Nat) (n f p : Nat) (s : Nat → Int) : Prop := DoneP T n (subL T n f) (subS T n f) (keyLt T n) (lms T n) p s
/-- How many are packed. -/
def packs (T : Nat → Nat) (n f p : Nat) : Nat := cnt (fun k => lms T n k && decide (p ≤ rho T n (subL T n f) (subS T n f) (keyLt T n) k)) n

theorem lms_subS {T : Nat → Nat} {n f : Nat} (hf : First T n f) : ∀ k, lms T n k = true → subS T n f k = true := fun k hk => subS_iff.2 ⟨(lms_iff.1 hk).2.1, hf.least k hk, (lms_iff.1 hk).2.2.1⟩
theorem subS_start {T : Nat → Nat} {n f : Nat} {s B : Nat → Int} (hf : First T n f) (hs : PostLs T n f s) (hB : ∀ c, B c = (lo T n (c + 1) : Int)) : ISs T n f n s B ∧ DPs T n f n s ∧ packs T n f n = 0 := by
  refine ⟨(sp_sub hf).start (fun k hk => hs.1 k hk) hs.2 hB, doneP_start (sp_sub hf).toTwo (lms_subS hf) s, cnt_false fun k _ => ?_⟩
  by_cases hk : lms T n k = true
  · have := ((sp_sub hf).bound (.inr (lms_subS hf k hk))).2.2
    simp [hk]; omega
  · simp [hk]
theorem subS_round {T : Nat → Nat} {n f i top : Nat} {s B : Nat → Int} (hf : First T n f) (h : ISs T n f (i + 1) s B) (hd : DPs T n f (i + 1) s) (ht : top + packs T n f (i + 1) = n) (_hi : i < n) :
    (s i = 0 ∧ ISs T n f i s B ∧ DPs T n f i s ∧ top + packs T n f i = n) ∨
    (∃ j : Nat, 0 < j ∧ j < n ∧ s i = -(j : Int) ∧ i + 1 ≤ top ∧ top ≤ n ∧ ISs T n f i (put (put s i 0) (top - 1) (j : Int)) B ∧ DPs T n f i (put (put s i 0) (top - 1) (j : Int)) ∧ (top - 1) + packs T n f i = n) ∨
    (∃ k : Nat, 0 < k ∧ k + 1 < n ∧ s i = (k : Int) + 1 ∧ ∃ r : Nat, B (T k) = (r : Int) + 1 ∧ r < i ∧ ISs T n f i (put (put s i 0) r (if T k < T (k - 1) then -(k : Int) else (k : Int))) (put B (T k) (r : Int)) ∧
      DPs T n f i (put (put s i 0) r (if T k < T (k - 1) then -(k : Int) else (k : Int))) ∧ top + packs T n f i = n) := by
  have hp := sp_sub hf
  have hfb := lms_bound hf.isLms
  have hpack : (∀ k, lms T n k = true → rho T n (subL T n f) (subS T n f) (keyLt T n) k ≠ i) → packs T n f i = packs T n f (i + 1) := fun hno => cnt_congr fun k _ => by
    by_cases hk : lms T n k = true
    · have := hno k hk
      congr 1; rw [decide_eq_decide]; omega
    · simp [hk]
  have below : ∀ v w : Int, ∀ x, x < i → put s i v x = s x := fun v w x hx => put_other _ _ _ _ (by omega)
  have push : ∀ j, (subL T n f j = true ∨ subS T n f j = true) → rho T n (subL T n f) (subS T n f) (keyLt T n) j = i → 0 < j → subS T n f (j - 1) = true → lms T n j = false → s i = (j : Int) →
      ∃ k : Nat, 0 < k ∧ k + 1 < n ∧ s i = (k : Int) + 1 ∧ ∃ r : Nat, B (T k) = (r : Int) + 1 ∧ r < i ∧ ISs T n f i (put (put s i 0) r (if T k < T (k - 1) then -(k : Int) else (k : Int))) (put B (T k) (r : Int)) ∧
      DPs T n f i (put (put s i 0) r (if T k < T (k - 1) then -(k : Int) else (k : Int))) ∧ top + packs T n f i = n := fun j hj hr h0 hps hnl hs => by
    obtain ⟨a1, a2, a3⟩ := subS_iff.1 hps
    have hjn : j < n := by
      rcases hj with q | q
      · exact (subL_iff.1 q).1
      · exact (subS_iff.1 q).1
    obtain ⟨e1, e2, e3, e4⟩ := hp.push h (s' := put s i 0) (below 0 0) hj hr h0 hps
    have hno : ∀ k, lms T n k = true → rho T n (subL T n f) (subS T n f) (keyLt T n) k ≠ i := fun k hk e => by
      have := hp.rho_inj (.inr (lms_subS hf k hk)) hj (by rw [e, hr])
      rw [← this, hk] at hnl; simp at hnl
    have e5 : B (T (j - 1)) - 1 = ((rho T n (subL T n f) (subS T n f) (keyLt T n) (j - 1) : Nat) : Int) := by omega
    rw [e5] at e4
    refine ⟨j - 1, by omega, by omega, by rw [hs]; omega, _, e1, e2, e4, ?_, by rw [hpack hno]; exact ht⟩
    refine doneP_other hp.toTwo (lms_subS hf) hd (fun x hx => ?_) ?_ hno
    · rw [put_other _ _ _ _ (by omega), put_other _ _ _ _ (by omega)]
    · rw [put_other _ _ _ _ (by omega), put_same]
  by_cases hL : ∃ j, subL T n f j = true ∧ rho T n (subL T n f) (subS T n f) (keyLt T n) j = i
  · obtain ⟨j, hj, hr⟩ := hL
    have hv := hp.at_L h hj hr
    obtain ⟨a1, a2, a3⟩ := subL_iff.1 hj
    have hty := tyS_prev (by omega) a1 a3
    have hnl : lms T n j = false := by
      cases hq : lms T n j with
      | false => rfl
      | true => rw [(lms_iff.1 hq).2.2.1] at a3; simp at a3
    by_cases hlt : T (j - 1) < T j
    · right; right
      exact push j (.inl hj) hr (by omega) (subS_iff.2 ⟨by omega, by omega, by rw [hty]; simpa using hlt⟩) hnl (by rw [hv]; unfold vLr; rw [if_pos hlt])
    · left
      have hs0 : s i = 0 := by rw [hv]; unfold vLr; rw [if_neg hlt]
      have hno : ∀ k, lms T n k = true → rho T n (subL T n f) (subS T n f) (keyLt T n) k ≠ i := fun k hk e => by
        have := hp.rho_inj (.inr (lms_subS hf k hk)) (.inl hj) (by rw [e, hr])
        rw [← this, hk] at hnl; simp at hnl
      refine ⟨hs0, hp.skip h (fun _ _ => rfl) (fun j' hj' hr' _ => ?_), doneP_other hp.toTwo (lms_subS hf) hd (fun _ _ => rfl) hs0 hno, by rw [hpack hno]; exact ht⟩
      have := hp.rho_inj hj' (.inl hj) (by rw [hr', hr])
      subst this
      cases hq : subS T n f (j' - 1) with
      | false => rfl
      | true => rw [(subS_iff.1 hq).2.2] at hty; simp at hty; omega
  · by_cases hS : ∃ j, subS T n f j = true ∧ rho T n (subL T n f) (subS T n f) (keyLt T n) j = i
    · obtain ⟨j, hj, hr⟩ := hS
      have hv := hp.at_S h hj hr
      obtain ⟨a1, a2, a3⟩ := subS_iff.1 hj
      have hty := tyS_prev' (by omega) a1 a3
      by_cases hlt : T j < T (j - 1)
      · right; left
        have hlm : lms T n j = true := lms_iff.2 ⟨by omega, a1, a3, by rw [hty]; simpa using hlt⟩
        obtain ⟨d1, d2, d3⟩ := doneP_chosen hp.toTwo (lms_subS hf) hd hlm hr (top := top) ht
        refine ⟨j, by omega, a1, by rw [hv]; unfold vSr; rw [if_pos hlt], d1, by omega, hp.skip h (fun x hx => ?_) (fun j' hj' hr' _ => ?_), d3, d2⟩
        · rw [put_other _ _ _ _ (by omega), put_other _ _ _ _ (by omega)]
        · have := hp.rho_inj hj' (.inr hj) (by rw [hr', hr])
          subst this
          cases hq : subS T n f (j' - 1) with
          | false => rfl
          | true => rw [(subS_iff.1 hq).2.2] at hty; simp at hty; omega
      · right; right
        have hnl : lms T n j = false := by
          cases hq : lms T n j with
          | false => rfl
          | true => exact (hlt (lms_pred hq)).elim
        have hjf : f ≠ j := by rintro rfl; rw [hf.isLms] at hnl; simp at hnl
        exact push j (.inr hj) hr (by omega) (subS_iff.2 ⟨by omega, by omega, by rw [hty]; simp; omega⟩) hnl (by rw [hv]; unfold vSr; rw [if_neg hlt])
    · left
      have hno : ∀ y, (subL T n f y = true ∨ subS T n f y = true) → rho T n (subL T n f) (subS T n f) (keyLt T n) y ≠ i := fun y hy e => by
        rcases hy with q | q
        · exact hL ⟨y, q, e⟩
        · exact hS ⟨y, q, e⟩
      have hs0 := hp.at_none h hno
      have hno' : ∀ k, lms T n k = true → rho T n (subL T n f) (subS T n f) (keyLt T n) k ≠ i := fun k hk => hno k (.inr (lms_subS hf k hk))
      exact ⟨hs0, hp.skip h (fun _ _ => rfl) (fun j' hj' hr' _ => (hno j' hj' hr').elim), doneP_other hp.toTwo (lms_subS hf) hd (fun _ _ => rfl) hs0 hno', by rw [hpack hno']; exact ht⟩
/-- What the second scan leaves: the beginnings by key at the right, else nothing. -/
def PostSs (T : Nat → Nat) (n : Nat) (s : Nat → Int) : Prop :=
  ∃ a, Srt (lms T n) n (keyLt T n) (many T n) a ∧ (∀ r, r < many T n → s (n - many T n + r) = (a r : Int)) ∧ ∀ x, x + many T n < n → s x = 0
theorem subS_end {T : Nat → Nat} {n f : Nat} {s : Nat → Int} (hf : First T n f) (hd : DPs T n f 0 s) : PostSs T n s := by
  have hp := sp_sub hf
  have hall : cnt (fun k => lms T n k && decide (0 ≤ rho T n (subL T n f) (subS T n f) (keyLt T n) k)) n = many T n := cnt_congr fun k _ => by simp
  have hroom := hd.room
  rw [hall] at hroom
  have hzero := hd.zero
  rw [hall] at hzero
  obtain ⟨r1, r2, r3⟩ := ranked (C := lms T n) (n := n) (lt := keyLt T n) hp.irr hp.trans (fun x y _ _ hx hy hne => hp.total x y (.inr (lms_subS hf x hx)) (.inr (lms_subS hf y hy)) hne)
  have key : ∀ r, r < many T n → ∃ x, x < n ∧ lms T n x = true ∧ many T n - 1 - cnt (fun k => lms T n k && keyLt T n x k) n = r ∧ s (n - many T n + r) = (x : Int) := fun r hr => by
    obtain ⟨x, a, b, c⟩ := r3 r hr
    have h1 := r1 x a b
    have h2 := hd.packed x b (Nat.zero_le _)
    have h3 : cnt (lms T n) n = many T n := rfl
    refine ⟨x, a, b, c, ?_⟩
    rw [← h2]
    congr 1
    omega
  refine ⟨fun r => (s (n - many T n + r)).toNat, ⟨rfl, fun r hr => ?_, fun r r' hr hr' => ?_⟩, fun r hr => ?_, fun x hx => hzero x (Nat.zero_le _) (by omega)⟩
  · obtain ⟨x, a, b, c, d⟩ := key r hr
    show (s (n - many T n + r)).toNat < n ∧ lms T n (s (n - many T n + r)).toNat = true
    rw [d, Int.toNat_natCast]; exact ⟨a, b⟩
  · obtain ⟨x, a, b, c, d⟩ := key r (by omega)
    obtain ⟨x', a', b', c', d'⟩ := key r' hr'
    show keyLt T n (s (n - many T n + r)).toNat (s (n - many T n + r')).toNat = true
    rw [d, d', Int.toNat_natCast, Int.toNat_natCast]
    have hne : x ≠ x' := by rintro rfl; omega
    rcases hp.total x x' (.inr (lms_subS hf x b)) (.inr (lms_subS hf x' b')) hne with h1 | h1
    · exact h1
    · have h2 := r2 x' x a' a b' b h1
      have h3 := r1 x a b
      have h4 := r1 x' a' b'
      have h5 : cnt (lms T n) n = many T n := rfl
      omega
  · obtain ⟨x, a, b, c, d⟩ := key r hr
    show s (n - many T n + r) = ((s (n - many T n + r)).toNat : Int)
    rw [d, Int.toNat_natCast]

/-! ### The ends: from the left -/
def vEl (_ : Bool) (e : Nat) : Int := (e : Int)
def vAl (T : Nat → Nat) (_ : Bool) (k : Nat) : Int := if 0 < k ∧ T (k - 1) < T k then -(k : Int) else (k : Int)
abbrev ILa (T : Nat → Nat) (n i : Nat) (s B : Nat → Int) : Prop := IL T n (allL T n) (lms T n) (sl T n) vEl (vAl T) i s B
theorem allL_start {T : Nat → Nat} {n : Nat} {s B : Nat → Int} (hn : 1 < n) (hs : PlaceAll T n s) (hB : ∀ c, B c = (lo T n c : Int)) :
    ∃ r, B (T (n - 1)) = (r : Nat) ∧ r < n ∧ ILa T n 0 (put s r (if T (n - 2) < T (n - 1) then -((n - 1 : Nat) : Int) else ((n - 1 : Nat) : Int))) (put B (T (n - 1)) ((r : Int) + 1)) := by
  obtain ⟨h1, h2, h3⟩ := (lp_all (T := T) (n := n) (by omega)).start (vE := vEl) (vA := vAl T) (s := s) (B := B) (fun e he => by rw [hs.1 e he]; rfl) hs.2 hB
  refine ⟨_, h1, h2, ?_⟩
  rw [h1] at h3
  have : vAl T false (n - 1) = (if T (n - 2) < T (n - 1) then -((n - 1 : Nat) : Int) else ((n - 1 : Nat) : Int)) := by
    unfold vAl; rw [show n - 1 - 1 = n - 2 by omega]
    have : 0 < n - 1 := by omega
    simp [this]
  rw [this] at h3
  exact h3
theorem allL_round {T : Nat → Nat} {n i : Nat} {s B : Nat → Int} (hn : 1 < n) (h : ILa T n i s B) (hi : i < n) :
    (s i ≤ 0 ∧ -(n : Int) ≤ s i ∧ ILa T n (i + 1) s B) ∨
    (∃ k : Nat, k + 1 < n ∧ s i = (k : Int) + 1 ∧ ∃ r, B (T k) = (r : Nat) ∧ i < r ∧ r < n ∧ ILa T n (i + 1) (put s r (if 0 < k ∧ T (k - 1) < T k then -(k : Int) else (k : Int))) (put B (T k) ((r : Int) + 1))) := by
  have hp := lp_all (T := T) (n := n) (by omega)
  have push : ∀ j, (allL T n j = true ∨ lms T n j = true) → rho T n (allL T n) (lms T n) (sl T n) j = i → 0 < j → allL T n (j - 1) = true → s i = (j : Int) → (allL T n j = true → s i = vAl T true j) →
      ∃ k : Nat, k + 1 < n ∧ s i = (k : Int) + 1 ∧ ∃ r, B (T k) = (r : Nat) ∧ i < r ∧ r < n ∧ ILa T n (i + 1) (put s r (if 0 < k ∧ T (k - 1) < T k then -(k : Int) else (k : Int))) (put B (T k) ((r : Int) + 1)) := fun j hj hr h0 hp1 hs hx => by
    have hjn : j < n := by
      rcases hj with q | q
      · exact (allL_iff.1 q).1
      · exact (lms_iff.1 q).2.1
    obtain ⟨e1, e2, e3, e4⟩ := hp.push h hj hr (x := s i) h0 hp1 hx (fun _ => by rw [hs]; rfl)
    refine ⟨j - 1, by omega, by rw [hs]; omega, _, e1, e2, e3, ?_⟩
    rw [e1, put_self] at e4
    exact e4
  by_cases hL : ∃ j, allL T n j = true ∧ rho T n (allL T n) (lms T n) (sl T n) j = i
  · obtain ⟨j, hj, hr⟩ := hL
    have hv := hp.at_L h hj hr
    obtain ⟨a1, a3⟩ := allL_iff.1 hj
    have skip : (0 < j → allL T n (j - 1) = false) → ILa T n (i + 1) s B := fun hq => by
      have := hp.skip h hj hr hq
      have e : vAl T true j = s i := by rw [hv]; rfl
      rw [e, put_self] at this
      exact this
    by_cases h0 : 0 < j
    · have ht := tyS_prev h0 a1 a3
      by_cases hlt : T (j - 1) < T j
      · left
        refine ⟨by rw [hv]; unfold vAl; rw [if_pos ⟨h0, hlt⟩]; omega, by rw [hv]; unfold vAl; rw [if_pos ⟨h0, hlt⟩]; omega, skip fun _ => ?_⟩
        cases hq : allL T n (j - 1) with
        | false => rfl
        | true => rw [(allL_iff.1 hq).2] at ht; simp at ht; omega
      · right
        have e : s i = (j : Int) := by rw [hv]; unfold vAl; rw [if_neg (fun q => hlt q.2)]
        exact push j (.inl hj) hr h0 (allL_iff.2 ⟨by omega, by rw [ht]; simpa using hlt⟩) e (fun _ => by rw [hv]; rfl)
    · left
      refine ⟨by rw [hv]; unfold vAl; rw [if_neg (fun q => h0 q.1)]; omega, by rw [hv]; unfold vAl; rw [if_neg (fun q => h0 q.1)]; omega, skip fun q => (h0 q).elim⟩
  · by_cases hE : ∃ j, lms T n j = true ∧ rho T n (allL T n) (lms T n) (sl T n) j = i
    · obtain ⟨j, hj, hr⟩ := hE
      have hv := hp.at_S h hj hr
      right
      exact push j (.inr hj) hr (hp.prev j hj).1 (hp.prev j hj).2 (by rw [hv]; rfl) (fun q => (hp.apart j q hj).elim)
    · left
      obtain ⟨e1, e2⟩ := hp.none h hi fun y hy e => by
        rcases hy with q | q
        · exact hL ⟨y, q, e⟩
        · exact hE ⟨y, q, e⟩
      exact ⟨by omega, by omega, e2⟩
/-- What the third scan leaves: all places of type L. -/
def PostLa (T : Nat → Nat) (n : Nat) (s : Nat → Int) : Prop := ∀ k, allL T n k = true → s (rho T n (allL T n) (allS T n) (sl T n) k) = if 0 < k ∧ T (k - 1) < T k then -(k : Int) else (k : Int)
theorem allL_end {T : Nat → Nat} {n : Nat} {s B : Nat → Int} (hn : 1 < n) (h : ILa T n n s B) : PostLa T n s := fun k hk => by
  have hp := lp_all (T := T) (n := n) (by omega)
  have : rho T n (allL T n) (allS T n) (sl T n) k = rho T n (allL T n) (lms T n) (sl T n) k := by rw [rho_L hk, rho_L hk]
  rw [this, h.body k hk]
  have hv : visL T n (allL T n) (lms T n) (sl T n) n (k + 1) = true := by
    unfold visL
    rcases hp.nxt k hk with h1 | h1
    · simp [h1]
    · have := (hp.bound h1).2.2; simp; right; exact this
  rw [hv, if_pos rfl]; rfl

/-! ### The ends: from the right -/
def vLa (T : Nat → Nat) (k : Nat) : Int := if 0 < k ∧ T (k - 1) < T k then -(k : Int) else (k : Int)
def vSa (T : Nat → Nat) (k : Nat) : Int := if 0 < k ∧ T (k - 1) ≤ T k then -(k : Int) else (k : Int)
abbrev ISa (T : Nat → Nat) (n p : Nat) (s B : Nat → Int) : Prop := IS T n (allL T n) (allS T n) (sl T n) (vSa T) (vLa T) p s B
abbrev DFa (T : Nat → Nat) (n p : Nat) (s : Nat → Int) : Prop := DoneF T n (allL T n) (allS T n) (sl T n) p s
theorem all_onto {T : Nat → Nat} {n x : Nat} (hx : x < n) : ∃ y, y < n ∧ rho T n (allL T n) (allS T n) (sl T n) y = x := by
  have hp := sp_all (T := T) (n := n)
  exact onto_of_inj n (rho T n (allL T n) (allS T n) (sl T n)) (fun i hi => (hp.bound (all_in hi)).2.2) (fun i j hi hj e => hp.rho_inj (all_in hi) (all_in hj) e) x hx
theorem allS_start {T : Nat → Nat} {n : Nat} {s B : Nat → Int} (hs : PostLa T n s) (hB : ∀ c, B c = (lo T n (c + 1) : Int)) : ISa T n n s B ∧ DFa T n n s := by
  refine ⟨sp_all.start (fun k hk => hs k hk) (fun x hx hno => ?_) hB, doneF_start sp_all.toTwo s⟩
  obtain ⟨y, hy, he⟩ := all_onto (T := T) hx
  exact (hno y (all_in hy) he).elim
theorem allS_round {T : Nat → Nat} {n i : Nat} {s B : Nat → Int} (h : ISa T n (i + 1) s B) (hd : DFa T n (i + 1) s) (hi : i < n) :
    (0 ≤ s i ∧ s i < (n : Int) ∧ ISa T n i s B ∧ DFa T n i s) ∨
    (∃ k : Nat, k + 1 < n ∧ s i = -((k : Int) + 1) ∧ ∃ r : Nat, B (T k) = (r : Int) + 1 ∧ r < i ∧ ISa T n i (put (put s i ((k : Int) + 1)) r (if 0 < k ∧ T (k - 1) ≤ T k then -(k : Int) else (k : Int))) (put B (T k) (r : Int)) ∧
      DFa T n i (put (put s i ((k : Int) + 1)) r (if 0 < k ∧ T (k - 1) ≤ T k then -(k : Int) else (k : Int)))) := by
  have hp := sp_all (T := T) (n := n)
  obtain ⟨j, hj, hr⟩ := all_onto (T := T) hi
  have uniq : ∀ y, (allL T n y = true ∨ allS T n y = true) → rho T n (allL T n) (allS T n) (sl T n) y = i → y = j := fun y hy e => hp.rho_inj hy (all_in hj) (by rw [e, hr])
  have keep : s i = (j : Int) → (0 < j → allS T n (j - 1) = false) → 0 ≤ s i ∧ s i < (n : Int) ∧ ISa T n i s B ∧ DFa T n i s := fun hs hq => by
    refine ⟨by omega, by omega, hp.skip h (fun _ _ => rfl) (fun y hy hy' h0 => ?_), doneF_step hd (fun _ _ => rfl) (fun y hy hy' => ?_)⟩
    · have := uniq y hy hy'; subst this; exact hq h0
    · have := uniq y hy hy'; subst this; exact hs
  have push : s i = -(j : Int) → 0 < j → allS T n (j - 1) = true → ∃ k : Nat, k + 1 < n ∧ s i = -((k : Int) + 1) ∧ ∃ r : Nat, B (T k) = (r : Int) + 1 ∧ r < i ∧ ISa T n i (put (put s i ((k : Int) + 1)) r (if 0 < k ∧ T (k - 1) ≤ T k then -(k : Int) else (k : Int))) (put B (T k) (r : Int)) ∧
      DFa T n i (put (put s i ((k : Int) + 1)) r (if 0 < k ∧ T (k - 1) ≤ T k then -(k : Int) else (k : Int))) := fun hs h0 hps => by
    obtain ⟨e1, e2, e3, e4⟩ := hp.push h (s' := put s i (j : Int)) (fun x hx => put_other _ _ _ _ (by omega)) (all_in hj) hr h0 hps
    have e5 : B (T (j - 1)) - 1 = ((rho T n (allL T n) (allS T n) (sl T n) (j - 1) : Nat) : Int) := by omega
    have e6 : ((j - 1 : Nat) : Int) + 1 = (j : Int) := by omega
    rw [e5] at e4
    refine ⟨j - 1, by omega, by rw [hs]; omega, _, e1, e2, ?_, ?_⟩
    · rw [e6]; exact e4
    · rw [e6]
      refine doneF_step hd (fun x hx => ?_) (fun y hy hy' => ?_)
      · rw [put_other _ _ _ _ (by omega), put_other _ _ _ _ (by omega)]
      · have := uniq y hy hy'; subst this
        rw [put_other _ _ _ _ (by omega), put_same]
  by_cases hS : tyS T n j = true
  · have hjS : allS T n j = true := allS_iff.2 ⟨hj, hS⟩
    have hv := hp.at_S h hjS hr
    by_cases h0 : 0 < j
    · have hty := tyS_prev' h0 hj hS
      by_cases hle : T (j - 1) ≤ T j
      · right
        exact push (by rw [hv]; unfold vSa; rw [if_pos ⟨h0, hle⟩]) h0 (allS_iff.2 ⟨by omega, by rw [hty]; simpa using hle⟩)
      · left
        refine keep (by rw [hv]; unfold vSa; rw [if_neg (fun q => hle q.2)]) fun _ => ?_
        cases hq : allS T n (j - 1) with
        | false => rfl
        | true => rw [(allS_iff.1 hq).2] at hty; simp at hty; omega
    · left
      exact keep (by rw [hv]; unfold vSa; rw [if_neg (fun q => h0 q.1)]) fun q => (h0 q).elim
  · have hS' : tyS T n j = false := by simpa using hS
    have hjL : allL T n j = true := allL_iff.2 ⟨hj, hS'⟩
    have hv := hp.at_L h hjL hr
    by_cases h0 : 0 < j
    · have hty := tyS_prev h0 hj hS'
      by_cases hlt : T (j - 1) < T j
      · right
        exact push (by rw [hv]; unfold vLa; rw [if_pos ⟨h0, hlt⟩]) h0 (allS_iff.2 ⟨by omega, by rw [hty]; simpa using hlt⟩)
      · left
        refine keep (by rw [hv]; unfold vLa; rw [if_neg (fun q => hlt q.2)]) fun _ => ?_
        cases hq : allS T n (j - 1) with
        | false => rfl
        | true => rw [(allS_iff.1 hq).2] at hty; simp at hty; omega
    · left
      exact keep (by rw [hv]; unfold vLa; rw [if_neg (fun q => h0 q.1)]) fun q => (h0 q).elim
/-- What the fourth scan leaves: the array of the text. -/
def PostSA (T : Nat → Nat) (n : Nat) (s : Nat → Int) : Prop := ∃ g, IsSA T n g ∧ ∀ r, r < n → s r = (g r : Int)
theorem allS_end {T : Nat → Nat} {n : Nat} {s : Nat → Int} (hd : DFa T n 0 s) : PostSA T n s := by
  have hp := sp_all (T := T) (n := n)
  have key : ∀ r, r < n → ∃ y, y < n ∧ rho T n (allL T n) (allS T n) (sl T n) y = r ∧ s r = (y : Int) := fun r hr => by
    obtain ⟨y, hy, he⟩ := all_onto (T := T) hr
    refine ⟨y, hy, he, ?_⟩
    have := hd y (all_in hy) (Nat.zero_le _)
    rw [he] at this; exact this
  refine ⟨fun r => (s r).toNat, ⟨fun r hr => ?_, fun r r' hr hr' => ?_⟩, fun r hr => ?_⟩
  · obtain ⟨y, a, b, c⟩ := key r hr
    show (s r).toNat < n
    rw [c, Int.toNat_natCast]; exact a
  · obtain ⟨y, a, b, c⟩ := key r (by omega)
    obtain ⟨y', a', b', c'⟩ := key r' hr'
    show sl T n (s r).toNat (s r').toNat = true
    rw [c, c', Int.toNat_natCast, Int.toNat_natCast, ← hp.rho_iff (all_in a) (all_in a'), b, b']; exact hr
  · obtain ⟨y, a, b, c⟩ := key r hr
    show s r = ((s r).toNat : Int)
    rw [c, Int.toNat_natCast]

end Go.Proofs.YtfpihnfhmefeaaaGreatDoor

