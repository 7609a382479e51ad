/-
  Places of two kinds, laid into the buckets of a bucket sort: the one kind from the left, the other from the right; the scan from the left, which lays the first kind, and the scan from the right, which lays the second. No condition.
-/
import Derived.Test.YtfpihnfhmefeaaaGreatDoorCnt
namespace Go.Proofs.YtfpihnfhmefeaaaGreatDoor

structure Two (T : Nat → Nat) (n : Nat) (L S : Nat → Bool) (lt : Nat → Nat → Bool) : Prop where
  hL : ∀ x, L x = true → x < n
  hS : ∀ x, S x = true → x < n
  apart : ∀ x, L x = true → S x = true → False
  irr : ∀ x, lt x x = false
  trans : ∀ x y z, lt x y = true → lt y z = true → lt x z = true
  total : ∀ x y, (L x = true ∨ S x = true) → (L y = true ∨ S y = true) → x ≠ y → lt x y = true ∨ lt y x = true
  num : ∀ x y, (L x = true ∨ S x = true) → (L y = true ∨ S y = true) → T x < T y → lt x y = true
  kind : ∀ x y, L x = true → S y = true → T x = T y → lt x y = true

/-- Where a place is laid. -/
def rho (T : Nat → Nat) (n : Nat) (L S : Nat → Bool) (lt : Nat → Nat → Bool) (x : Nat) : Nat :=
  if L x then lo T n (T x) + cnt (fun k => L k && T k == T x && lt k x) n else lo T n (T x + 1) - 1 - cnt (fun k => S k && T k == T x && lt x k) n

section
variable {T : Nat → Nat} {n : Nat} {L S : Nat → Bool} {lt : Nat → Nat → Bool}

theorem Two.asymm (h : Two T n L S lt) {x y : Nat} (hx : lt x y = true) : lt y x = false := by
  cases hq : lt y x with
  | false => rfl
  | true => have := h.trans _ _ _ hx hq; rw [h.irr] at this; simp at this

theorem rho_L {x : Nat} (hx : L x = true) : rho T n L S lt x = lo T n (T x) + cnt (fun k => L k && T k == T x && lt k x) n := by simp [rho, hx]
theorem Two.rho_S (h : Two T n L S lt) {x : Nat} (hx : S x = true) : rho T n L S lt x = lo T n (T x + 1) - 1 - cnt (fun k => S k && T k == T x && lt x k) n := by
  have : L x = false := by
    cases hq : L x with
    | false => rfl
    | true => exact (h.apart x hq hx).elim
  simp [rho, this]

theorem Two.both_le (h : Two T n L S lt) (c : Nat) : cnt (fun k => L k && T k == c) n + cnt (fun k => S k && T k == c) n ≤ occ T n c := by
  rw [← cnt_or]
  · refine cnt_mono fun i _ hi => ?_
    simp at hi ⊢
    rcases hi with hi | hi <;> exact hi.2
  · rintro i _ ⟨a, b⟩
    simp at a b
    exact h.apart i a.1 b.1
theorem Two.L_bound (h : Two T n L S lt) {x : Nat} (hx : L x = true) : lo T n (T x) ≤ rho T n L S lt x ∧ rho T n L S lt x < lo T n (T x) + cnt (fun k => L k && T k == T x) n := by
  rw [rho_L hx]
  refine ⟨by omega, ?_⟩
  have := cnt_lt (p := fun k => L k && T k == T x && lt k x) (q := fun k => L k && T k == T x) (n := n) (fun i _ hi => by simp at hi ⊢; exact hi.1) (h.hL x hx) (by simp [h.irr]) (by simp [hx])
  omega
theorem Two.S_bound (h : Two T n L S lt) {x : Nat} (hx : S x = true) : rho T n L S lt x < lo T n (T x + 1) ∧ lo T n (T x + 1) ≤ rho T n L S lt x + cnt (fun k => S k && T k == T x) n ∧
    rho T n L S lt x + 1 + cnt (fun k => S k && T k == T x && lt x k) n = lo T n (T x + 1) := by
  rw [h.rho_S hx]
  have h1 := cnt_lt (p := fun k => S k && T k == T x && lt x k) (q := fun k => S k && T k == T x) (n := n) (fun i _ hi => by simp at hi ⊢; exact hi.1) (h.hS x hx) (by simp [h.irr]) (by simp [hx])
  have h2 := h.both_le (T x)
  have h3 := lo_succ T n (T x)
  omega
theorem Two.bound (h : Two T n L S lt) {x : Nat} (hx : L x = true ∨ S x = true) : lo T n (T x) ≤ rho T n L S lt x ∧ rho T n L S lt x < lo T n (T x + 1) ∧ rho T n L S lt x < n := by
  have h2 := h.both_le (T x)
  have h3 := lo_succ T n (T x)
  have h4 := lo_le T n (T x + 1)
  rcases hx with hx | hx
  · have := h.L_bound hx; omega
  · have := h.S_bound hx; omega
theorem Two.rho_lt (h : Two T n L S lt) {x y : Nat} (hx : L x = true ∨ S x = true) (hy : L y = true ∨ S y = true) (hxy : lt x y = true) : rho T n L S lt x < rho T n L S lt y := by
  have bx := h.bound hx
  have by' := h.bound hy
  rcases Nat.lt_trichotomy (T x) (T y) with hT | hT | hT
  · have := lo_mono T n (c := T x + 1) (d := T y) hT
    omega
  · rcases hx with hx | hx <;> rcases hy with hy | hy
    · rw [rho_L hx, rho_L hy, hT]
      have := cnt_lt (p := fun k => L k && T k == T y && lt k x) (q := fun k => L k && T k == T y && lt k y) (n := n)
        (fun i _ hi => by simp at hi ⊢; exact ⟨hi.1, h.trans _ _ _ hi.2 hxy⟩) (h.hL x hx) (by simp [h.irr]) (by simp [hx, hT, hxy])
      omega
    · have b1 := h.L_bound hx
      have b2 := h.S_bound hy
      have h2 := h.both_le (T y)
      have h3 := lo_succ T n (T y)
      rw [hT] at b1
      omega
    · have := h.kind y x hy hx hT.symm
      have := h.trans _ _ _ hxy this
      rw [h.irr] at this; simp at this
    · have b1 := h.S_bound hx
      have b2 := h.S_bound hy
      have := cnt_lt (p := fun k => S k && T k == T y && lt y k) (q := fun k => S k && T k == T y && lt x k) (n := n)
        (fun i _ hi => by simp at hi ⊢; exact ⟨hi.1, h.trans _ _ _ hxy hi.2⟩) (h.hS y hy) (by simp [h.irr]) (by simp [hy, hxy])
      rw [hT] at b1
      omega
  · have := h.num y x hy hx hT
    have := h.trans _ _ _ hxy this
    rw [h.irr] at this; simp at this
theorem Two.rho_inj (h : Two T n L S lt) {x y : Nat} (hx : L x = true ∨ S x = true) (hy : L y = true ∨ S y = true) (he : rho T n L S lt x = rho T n L S lt y) : x = y := by
  by_cases hq : x = y
  · exact hq
  · rcases h.total x y hx hy hq with h1 | h1
    · have := h.rho_lt hx hy h1; omega
    · have := h.rho_lt hy hx h1; omega
theorem Two.rho_iff (h : Two T n L S lt) {x y : Nat} (hx : L x = true ∨ S x = true) (hy : L y = true ∨ S y = true) : rho T n L S lt x < rho T n L S lt y ↔ lt x y = true := by
  constructor
  · intro hr
    by_cases hq : x = y
    · subst hq; omega
    · rcases h.total x y hx hy hq with h1 | h1
      · exact h1
      · have := h.rho_lt hy hx h1; omega
  · exact h.rho_lt hx hy
end

/-! ### The scan from the left -/
structure LP (T : Nat → Nat) (n : Nat) (L S : Nat → Bool) (lt : Nat → Nat → Bool) : Prop extends Two T n L S lt where
  nxt : ∀ k, L k = true → k + 1 = n ∨ L (k + 1) = true ∨ S (k + 1) = true
  last : 0 < n ∧ L (n - 1) = true
  step : ∀ k k', L k = true → L k' = true → T k = T k' → k + 1 < n → k' + 1 < n → lt k k' = lt (k + 1) (k' + 1)
  first : ∀ k k', L k = true → L k' = true → k + 1 = n → T k' = T k → k' ≠ k → lt k k' = true
  back : ∀ k, L k = true → k + 1 < n → lt (k + 1) k = true
  prev : ∀ s, S s = true → 0 < s ∧ L (s - 1) = true

/-- Has place j been met when the scan stands at i? (The sentinel has.) -/
def visL (T : Nat → Nat) (n : Nat) (L S : Nat → Bool) (lt : Nat → Nat → Bool) (i j : Nat) : Bool := decide (j = n) || decide (rho T n L S lt j < i)

structure IL (T : Nat → Nat) (n : Nat) (L S : Nat → Bool) (lt : Nat → Nat → Bool) (vE vA : Bool → Nat → Int) (i : Nat) (s B : Nat → Int) : Prop where
  ends : ∀ e, S e = true → s (rho T n L S lt e) = vE (decide (rho T n L S lt e < i)) e
  body : ∀ k, L k = true → s (rho T n L S lt k) = if visL T n L S lt i (k + 1) then vA (decide (rho T n L S lt k < i)) k else 0
  rest : ∀ x, x < n → (∀ y, (L y = true ∨ S y = true) → rho T n L S lt y ≠ x) → s x = 0
  bkt : ∀ c, B c = ((lo T n c + cnt (fun k => L k && T k == c && visL T n L S lt i (k + 1)) n : Nat) : Int)

section
variable {T : Nat → Nat} {n : Nat} {L S : Nat → Bool} {lt : Nat → Nat → Bool} {vE vA : Bool → Nat → Int} {i : Nat} {s B : Nat → Int}

/-- The beginning: the sentinel alone has been met; its neighbour is laid. -/
theorem LP.start (h : LP T n L S lt) (hends : ∀ e, S e = true → s (rho T n L S lt e) = vE false e)
    (hrest : ∀ x, x < n → (∀ y, S y = true → rho T n L S lt y ≠ x) → s x = 0) (hB : ∀ c, B c = (lo T n c : Int)) :
    B (T (n - 1)) = (rho T n L S lt (n - 1) : Nat) ∧ rho T n L S lt (n - 1) < n ∧
    IL T n L S lt vE vA 0 (put s (rho T n L S lt (n - 1)) (vA false (n - 1))) (put B (T (n - 1)) (B (T (n - 1)) + 1)) := by
  obtain ⟨hn, hl⟩ := h.last
  have hz : cnt (fun k => L k && T k == T (n - 1) && lt k (n - 1)) n = 0 := cnt_false fun k hk => by
    by_cases hkn : k = n - 1
    · subst hkn; simp [h.irr]
    · by_cases hc : L k = true ∧ T k = T (n - 1)
      · have := h.asymm (h.first (n - 1) k hl hc.1 (by omega) hc.2 hkn)
        simp [this]
      · by_cases h1 : L k = true
        · have h2 : ¬ T k = T (n - 1) := fun e => hc ⟨h1, e⟩
          simp [h2]
        · simp [h1]
  have hr : rho T n L S lt (n - 1) = lo T n (T (n - 1)) := by rw [rho_L hl, hz]; rfl
  have hb := h.bound (.inl hl)
  refine ⟨by rw [hB, hr], hb.2.2, ⟨fun e he => ?_, fun k hk => ?_, fun x hx hy => ?_, fun c => ?_⟩⟩
  · rw [put_other _ _ _ _ (fun e' => h.apart (n - 1) hl (by rw [← h.rho_inj (.inr he) (.inl hl) e']; exact he))]
    simpa using hends e he
  · by_cases hkn : k = n - 1
    · subst hkn
      rw [put_same]
      have : n - 1 + 1 = n := by omega
      simp [visL, this]
    · rw [put_other _ _ _ _ (fun e' => hkn (h.rho_inj (.inl hk) (.inl hl) e'))]
      have hv : visL T n L S lt 0 (k + 1) = false := by
        have := h.hL k hk
        simp [visL]; omega
      rw [hv]
      exact hrest _ (h.bound (.inl hk)).2.2 fun y hy e => h.apart k hk (by rw [← h.rho_inj (.inr hy) (.inl hk) e]; exact hy)
  · rw [put_other _ _ _ _ (fun e => hy (n - 1) (.inl hl) e.symm)]
    exact hrest x hx fun y hS => hy y (.inr hS)
  · have hv : ∀ k, k < n → visL T n L S lt 0 (k + 1) = (k == n - 1) := fun k hk => by
      rw [Bool.eq_iff_iff]; simp [visL]; omega
    by_cases hc : c = T (n - 1)
    · subst hc
      rw [put_same, hB]
      have : cnt (fun k => L k && T k == T (n - 1) && visL T n L S lt 0 (k + 1)) n = 1 := by
        have h1 := cnt_insert (p := fun _ => false) (n := n) (k := n - 1) (by omega) rfl
        rw [cnt_false (p := fun _ => false) (fun _ _ => rfl)] at h1
        refine Eq.trans ?_ h1
        refine cnt_congr fun k hk => ?_
        rw [hv k hk]
        by_cases hkn : k = n - 1
        · subst hkn; simp [hl]
        · have hkn' : (k == n - 1) = false := beq_false_of_ne hkn
          simp [hkn']
      rw [this]; omega
    · rw [put_other _ _ _ _ hc, hB]
      have : cnt (fun k => L k && T k == c && visL T n L S lt 0 (k + 1)) n = 0 := cnt_false fun k hk => by
        rw [hv k hk]
        by_cases hkn : k = n - 1
        · have hcn : (T k == c) = false := beq_false_of_ne fun e => hc (by rw [← e, hkn])
          simp [hcn]
        · have hkn' : (k == n - 1) = false := beq_false_of_ne hkn
          simp [hkn']
      rw [this]; rfl

theorem LP.vis_next (_h : LP T n L S lt) {j : Nat} (hne : rho T n L S lt j ≠ i) : visL T n L S lt (i + 1) j = visL T n L S lt i j := by
  unfold visL; congr 1; rw [decide_eq_decide]; omega

/-- Nothing is laid at i. -/
theorem LP.none (h : LP T n L S lt) (hI : IL T n L S lt vE vA i s B) (hi : i < n) (hno : ∀ y, (L y = true ∨ S y = true) → rho T n L S lt y ≠ i) :
    s i = 0 ∧ IL T n L S lt vE vA (i + 1) s B := by
  have hv : ∀ k, L k = true → visL T n L S lt (i + 1) (k + 1) = visL T n L S lt i (k + 1) := fun k hk => by
    rcases h.nxt k hk with h1 | h1
    · simp [visL, h1]
    · exact h.vis_next (hno _ h1)
  have hd : ∀ y, (L y = true ∨ S y = true) → decide (rho T n L S lt y < i + 1) = decide (rho T n L S lt y < i) := fun y hy => by
    have := hno y hy; rw [decide_eq_decide]; omega
  refine ⟨hI.rest i hi hno, ⟨fun e he => by rw [hd e (.inr he)]; exact hI.ends e he, fun k hk => by rw [hd k (.inl hk), hv k hk]; exact hI.body k hk, hI.rest, fun c => ?_⟩⟩
  rw [hI.bkt c]
  congr 2
  refine cnt_congr fun k _ => ?_
  by_cases hk : L k = true
  · rw [hv k hk]
  · simp [hk]

/-- What stands at i where a place of the first kind is laid; what has been met by then. -/
theorem LP.at_L (h : LP T n L S lt) (hI : IL T n L S lt vE vA i s B) {j : Nat} (hj : L j = true) (hr : rho T n L S lt j = i) : s i = vA false j := by
  have := hI.body j hj
  rw [hr] at this
  rw [this]
  have hv : visL T n L S lt i (j + 1) = true := by
    unfold visL
    by_cases hn : j + 1 = n
    · simp [hn]
    · have hl := h.hL j hj
      have hin : L (j + 1) = true ∨ S (j + 1) = true := by
        rcases h.nxt j hj with h1 | h1
        · exact (hn h1).elim
        · exact h1
      have := h.rho_lt hin (.inl hj) (h.back j hj (by omega))
      simp; right; omega
  simp [hv]
theorem LP.at_S (_h : LP T n L S lt) (hI : IL T n L S lt vE vA i s B) {j : Nat} (hj : S j = true) (hr : rho T n L S lt j = i) : s i = vE false j := by
  have := hI.ends j hj
  rw [hr] at this
  rw [this]; simp

/-- A place of the first kind is laid at i, and its predecessor is none of that kind. -/
theorem LP.skip (h : LP T n L S lt) (hI : IL T n L S lt vE vA i s B) {j : Nat} (hj : L j = true) (hr : rho T n L S lt j = i) (hp : 0 < j → L (j - 1) = false) :
    IL T n L S lt vE vA (i + 1) (put s i (vA true j)) B := by
  have hv : ∀ k, L k = true → visL T n L S lt (i + 1) (k + 1) = visL T n L S lt i (k + 1) := fun k hk => by
    rcases h.nxt k hk with h1 | h1
    · simp [visL, h1]
    · refine h.vis_next fun e => ?_
      have : k + 1 = j := h.rho_inj h1 (.inl hj) (by rw [e, hr])
      have h2 := hp (by omega)
      rw [show j - 1 = k by omega, hk] at h2; simp at h2
  have hd : ∀ y, (L y = true ∨ S y = true) → y ≠ j → rho T n L S lt y ≠ i := fun y hy hne e => hne (h.rho_inj hy (.inl hj) (by rw [e, hr]))
  have hd' : ∀ y, (L y = true ∨ S y = true) → y ≠ j → decide (rho T n L S lt y < i + 1) = decide (rho T n L S lt y < i) := fun y hy hne => by
    have := hd y hy hne; rw [decide_eq_decide]; omega
  refine ⟨fun e he => ?_, fun k hk => ?_, fun x hx hy => ?_, fun c => ?_⟩
  · have hne : e ≠ j := fun e' => h.apart j hj (by rw [← e']; exact he)
    rw [put_other _ _ _ _ (hd e (.inr he) hne), hd' e (.inr he) hne]; exact hI.ends e he
  · by_cases hkj : k = j
    · subst hkj
      have h0 := h.at_L hI hj hr
      have h1 := hI.body k hj
      rw [hr] at h1
      rw [hr, put_same, hv k hj]
      have hvis : visL T n L S lt i (k + 1) = true := by
        rcases h.nxt k hj with hn | hin
        · simp [visL, hn]
        · have h5 : k + 1 < n := by
            rcases hin with q | q
            · exact h.hL _ q
            · exact h.hS _ q
          have := h.rho_lt hin (.inl hj) (h.back k hj h5)
          unfold visL; simp; right; omega
      simp [hvis]
    · rw [put_other _ _ _ _ (hd k (.inl hk) hkj), hd' k (.inl hk) hkj, hv k hk]; exact hI.body k hk
  · rw [put_other _ _ _ _ (fun e => hy j (.inl hj) (by rw [hr, e]))]; exact hI.rest x hx hy
  · rw [hI.bkt c]
    congr 2
    refine cnt_congr fun k _ => ?_
    by_cases hk : L k = true
    · rw [hv k hk]
    · simp [hk]

/-- A place is laid at i, and its predecessor is of the first kind: it is laid now, at its bucket's next place. -/
theorem LP.push (h : LP T n L S lt) (hI : IL T n L S lt vE vA i s B) {j : Nat} (hj : L j = true ∨ S j = true) (hr : rho T n L S lt j = i) (h0 : 0 < j) (hp : L (j - 1) = true) {x : Int}
    (hxL : L j = true → x = vA true j) (hxS : S j = true → x = vE true j) :
    B (T (j - 1)) = (rho T n L S lt (j - 1) : Nat) ∧ i < rho T n L S lt (j - 1) ∧ rho T n L S lt (j - 1) < n ∧
    IL T n L S lt vE vA (i + 1) (put (put s i x) (rho T n L S lt (j - 1)) (vA false (j - 1))) (put B (T (j - 1)) (B (T (j - 1)) + 1)) := by
  obtain ⟨k, rfl⟩ : ∃ k, j = k + 1 := ⟨j - 1, by omega⟩
  simp only [Nat.add_sub_cancel] at hp ⊢
  have hk1 : k + 1 < n := by
    rcases hj with q | q
    · exact h.hL _ q
    · exact h.hS _ q
  have hlt := h.rho_lt hj (.inl hp) (h.back k hp hk1)
  have hbk := h.bound (.inl hp)
  have hvk : ∀ k', L k' = true → T k' = T k → (visL T n L S lt i (k' + 1) = lt k' k) := fun k' hk' hT => by
    rw [Bool.eq_iff_iff]
    by_cases hn : k' + 1 = n
    · have := h.first k' k hk' hp hn hT.symm (by omega)
      simp [visL, hn, this]
    · have hl := h.hL k' hk'
      have hin : L (k' + 1) = true ∨ S (k' + 1) = true := by
        rcases h.nxt k' hk' with h1 | h1
        · exact (hn h1).elim
        · exact h1
      rw [h.step k' k hk' hp hT (by omega) hk1, ← h.rho_iff hin hj, hr]
      simp [visL, hn]
  have hBk : B (T k) = (rho T n L S lt k : Nat) := by
    rw [hI.bkt, rho_L hp]
    congr 2
    refine cnt_congr fun k' _ => ?_
    by_cases hc : L k' = true ∧ T k' = T k
    · rw [hvk k' hc.1 hc.2]
    · by_cases h1 : L k' = true
      · have h2 : (T k' == T k) = false := beq_false_of_ne fun e => hc ⟨h1, e⟩
        simp [h2]
      · simp [h1]
  have hnv : visL T n L S lt i (k + 1) = false := by rw [hvk k hp rfl]; exact h.irr k
  have hv : ∀ k', L k' = true → visL T n L S lt (i + 1) (k' + 1) = (visL T n L S lt i (k' + 1) || k' == k) := fun k' hk' => by
    by_cases hkk : k' = k
    · subst hkk; simp [visL, hr]
    · rcases h.nxt k' hk' with h1 | h1
      · simp [visL, h1]
      · rw [h.vis_next fun e => hkk (by have := h.rho_inj h1 hj (by rw [e, hr]); omega)]
        simp [hkk]
  have hd : ∀ y, (L y = true ∨ S y = true) → y ≠ k + 1 → rho T n L S lt y ≠ i := fun y hy hne e => hne (h.rho_inj hy hj (by rw [e, hr]))
  have hd' : ∀ y, (L y = true ∨ S y = true) → y ≠ k + 1 → decide (rho T n L S lt y < i + 1) = decide (rho T n L S lt y < i) := fun y hy hne => by
    have := hd y hy hne; rw [decide_eq_decide]; omega
  refine ⟨hBk, by omega, hbk.2.2, ⟨fun e he => ?_, fun k' hk' => ?_, fun y hy hno => ?_, fun c => ?_⟩⟩
  · rw [put_other _ _ _ _ (fun e' => h.apart k hp (by rw [← h.rho_inj (.inr he) (.inl hp) e']; exact he))]
    by_cases hek : e = k + 1
    · subst hek
      rw [hr, put_same, hxS he]; simp
    · rw [put_other _ _ _ _ (hd e (.inr he) hek), hd' e (.inr he) hek]; exact hI.ends e he
  · by_cases hkk : k' = k
    · subst hkk
      rw [put_same, hv _ hk']
      have : decide (rho T n L S lt k' < i + 1) = false := by simp; omega
      rw [this]; simp
    · rw [put_other _ _ _ _ (fun e' => hkk (h.rho_inj (.inl hk') (.inl hp) e')), hv _ hk']
      by_cases hek : k' = k + 1
      · subst hek
        rw [hr, put_same, hxL hk']
        have hvis : visL T n L S lt i (k + 1 + 1) = true := by
          rcases h.nxt _ hk' with hn | hin
          · simp [visL, hn]
          · have h5 : k + 1 + 1 < n := by
              rcases hin with q | q
              · exact h.hL _ q
              · exact h.hS _ q
            have := h.rho_lt hin (.inl hk') (h.back _ hk' h5)
            unfold visL; simp; right; omega
        simp [hvis]
      · rw [put_other _ _ _ _ (hd k' (.inl hk') hek), hd' k' (.inl hk') hek]
        have : (k' == k) = false := by simp [hkk]
        rw [this, Bool.or_false]
        exact hI.body k' hk'
  · rw [put_other _ _ _ _ (fun e => hno k (.inl hp) e.symm), put_other _ _ _ _ (fun e => hno (k + 1) hj (by rw [hr, e]))]
    exact hI.rest y hy hno
  · by_cases hc : c = T k
    · subst hc
      rw [put_same, hI.bkt]
      have : cnt (fun k' => L k' && T k' == T k && visL T n L S lt (i + 1) (k' + 1)) n = cnt (fun k' => L k' && T k' == T k && visL T n L S lt i (k' + 1)) n + 1 := by
        rw [← cnt_insert (p := fun k' => L k' && T k' == T k && visL T n L S lt i (k' + 1)) (k := k) (h.hL k hp) (by simp [hnv])]
        refine cnt_congr fun k' _ => ?_
        by_cases hk' : L k' = true
        · rw [hv k' hk']
          by_cases hkk : k' = k
          · subst hkk; simp [hk']
          · have hkk' : (k' == k) = false := beq_false_of_ne hkk
            simp [hkk']
        · have : (k' == k) = false := by
            simp; rintro rfl; exact hk' hp
          simp [hk', this]
      rw [this]; omega
    · rw [put_other _ _ _ _ hc, hI.bkt c]
      congr 2
      refine cnt_congr fun k' _ => ?_
      by_cases hk' : L k' = true
      · rw [hv k' hk']
        by_cases hkk : k' = k
        · have hcn : (T k' == c) = false := beq_false_of_ne fun e => hc (by rw [← e, hkk])
          simp [hcn]
        · have hkk' : (k' == k) = false := beq_false_of_ne hkk
          simp [hkk']
      · simp [hk']
end

end Go.Proofs.YtfpihnfhmefeaaaGreatDoor

