/-
  Plain arithmetic: how many numbers below n answer yes, buckets of a bucket sort, and that one-to-one maps of the first n numbers meet each. No condition.
-/

namespace Go.Proofs.YtfpihnfhmefeaaaGreatDoor

/-- One place of a list turned. -/
def put (f : Nat → Int) (i : Nat) (v : Int) : Nat → Int := fun j => if j = i then v else f j
theorem put_same (f : Nat → Int) (i : Nat) (v : Int) : put f i v i = v := by simp [put]
theorem put_other (f : Nat → Int) (i j : Nat) (v : Int) (h : j ≠ i) : put f i v j = f j := by simp [put, h]

/-- How many i < n answer yes. -/
def cnt (p : Nat → Bool) : Nat → Nat
  | 0 => 0
  | n + 1 => cnt p n + (if p n then 1 else 0)

theorem cnt_zero (p : Nat → Bool) : cnt p 0 = 0 := rfl
theorem cnt_succ (p : Nat → Bool) (n : Nat) : cnt p (n + 1) = cnt p n + (if p n then 1 else 0) := rfl
theorem cnt_succ_pos (p : Nat → Bool) (n : Nat) (h : p n = true) : cnt p (n + 1) = cnt p n + 1 := by simp [cnt, h]
theorem cnt_succ_neg (p : Nat → Bool) (n : Nat) (h : p n = false) : cnt p (n + 1) = cnt p n := by simp [cnt, h]
theorem cnt_le (p : Nat → Bool) (n : Nat) : cnt p n ≤ n := by
  induction n with
  | zero => simp [cnt]
  | succ n ih => simp only [cnt]; split <;> omega
theorem cnt_congr {p q : Nat → Bool} {n : Nat} (h : ∀ i, i < n → p i = q i) : cnt p n = cnt q n := by
  induction n with
  | zero => rfl
  | succ n ih => simp only [cnt]; rw [ih fun i hi => h i (by omega), h n (by omega)]
theorem cnt_mono {p q : Nat → Bool} {n : Nat} (h : ∀ i, i < n → p i = true → q i = true) : cnt p n ≤ cnt q n := by
  induction n with
  | zero => simp [cnt]
  | succ n ih =>
    have h1 := ih fun i hi => h i (by omega)
    have h2 := h n (by omega)
    simp only [cnt]
    cases hp : p n <;> cases hq : q n <;> simp_all <;> omega
theorem cnt_mono_n (p : Nat → Bool) {m n : Nat} (h : m ≤ n) : cnt p m ≤ cnt p n := by
  induction n with
  | zero => have : m = 0 := by omega
            subst this; exact Nat.le_refl _
  | succ n ih =>
    by_cases hm : m = n + 1
    · subst hm; exact Nat.le_refl _
    · have := ih (by omega); simp only [cnt]; omega
theorem cnt_lt {p q : Nat → Bool} {n : Nat} (h : ∀ i, i < n → p i = true → q i = true) {k : Nat} (hk : k < n) (hp : p k = false) (hq : q k = true) : cnt p n < cnt q n := by
  induction n with
  | zero => omega
  | succ n ih =>
    have h1 := cnt_mono (p := p) (q := q) (n := n) fun i hi => h i (by omega)
    have h2 := h n (by omega)
    by_cases hkn : k = n
    · subst hkn; simp only [cnt, hp, hq]; simp; omega
    · have h3 := ih (fun i hi => h i (by omega)) (by omega)
      simp only [cnt]
      cases hp' : p n <;> cases hq' : q n <;> simp_all <;> omega
theorem cnt_false {p : Nat → Bool} {n : Nat} (h : ∀ i, i < n → p i = false) : cnt p n = 0 := by
  induction n with
  | zero => rfl
  | succ n ih => simp only [cnt]; rw [ih fun i hi => h i (by omega), h n (by omega)]; rfl
theorem cnt_true {p : Nat → Bool} {n : Nat} (h : ∀ i, i < n → p i = true) : cnt p n = n := by
  induction n with
  | zero => rfl
  | succ n ih => simp only [cnt]; rw [ih fun i hi => h i (by omega), h n (by omega)]; rfl
theorem cnt_pos {p : Nat → Bool} {n k : Nat} (hk : k < n) (hp : p k = true) : 0 < cnt p n := by
  have h0 : cnt (fun _ => false) n = 0 := cnt_false fun _ _ => rfl
  have := cnt_lt (p := fun _ => false) (q := p) (n := n) (fun _ _ h => by simp at h) hk rfl hp
  omega
theorem cnt_eq_zero {p : Nat → Bool} {n : Nat} (h : cnt p n = 0) : ∀ i, i < n → p i = false := by
  intro i hi
  cases hp : p i with
  | false => rfl
  | true => have := cnt_pos hi hp; omega
/-- Two questions that no number answers both with yes. -/
theorem cnt_or {p q : Nat → Bool} {n : Nat} (h : ∀ i, i < n → ¬ (p i = true ∧ q i = true)) : cnt (fun i => p i || q i) n = cnt p n + cnt q n := by
  induction n with
  | zero => rfl
  | succ n ih =>
    have h1 := ih fun i hi => h i (by omega)
    have h2 := h n (by omega)
    simp only [cnt, h1]
    by_cases hp : p n = true <;> by_cases hq : q n = true
    · exact (h2 ⟨hp, hq⟩).elim
    all_goals simp [hp, hq] <;> omega
/-- One number more answers yes. -/
theorem cnt_insert {p : Nat → Bool} {n k : Nat} (hk : k < n) (hp : p k = false) : cnt (fun i => p i || i == k) n = cnt p n + 1 := by
  have h1 : cnt (fun i => i == k) n = 1 := by
    induction n with
    | zero => omega
    | succ n ih =>
      by_cases hkn : k = n
      · subst hkn
        rw [cnt_succ_pos _ _ (by simp), cnt_false]
        intro i hi; simp; omega
      · rw [cnt_succ_neg _ _ (by simp; omega)]
        exact ih (by omega)
  rw [cnt_or, h1]
  rintro i _ ⟨a, b⟩
  have : i = k := by simpa using b
  subst this; simp [hp] at a
theorem cnt_and_not {p q : Nat → Bool} {n : Nat} : cnt p n = cnt (fun i => p i && q i) n + cnt (fun i => p i && !q i) n := by
  rw [← cnt_or]
  · exact cnt_congr fun i _ => by cases p i <;> cases q i <;> rfl
  · rintro i _ ⟨a, b⟩; cases hq : q i <;> simp_all

/-- How many of the first n have a number below c in T: where c's bucket begins. -/
def lo (T : Nat → Nat) (n c : Nat) : Nat := cnt (fun i => decide (T i < c)) n
/-- How many of the first n have c in T. -/
def occ (T : Nat → Nat) (n c : Nat) : Nat := cnt (fun i => T i == c) n
theorem lo_succ (T : Nat → Nat) (n c : Nat) : lo T n (c + 1) = lo T n c + occ T n c := by
  unfold lo occ
  rw [← cnt_or]
  · exact cnt_congr fun i _ => by rw [Bool.eq_iff_iff]; simp; omega
  · rintro i _ ⟨a, b⟩; simp at a b; omega
theorem lo_zero (T : Nat → Nat) (n : Nat) : lo T n 0 = 0 := cnt_false fun i _ => by simp
theorem lo_le (T : Nat → Nat) (n c : Nat) : lo T n c ≤ n := cnt_le _ _
theorem occ_le (T : Nat → Nat) (n c : Nat) : occ T n c ≤ n := cnt_le _ _
theorem lo_mono (T : Nat → Nat) (n : Nat) {c d : Nat} (h : c ≤ d) : lo T n c ≤ lo T n d := cnt_mono fun i _ hi => by simp at *; omega
theorem lo_all (T : Nat → Nat) (n c : Nat) (h : ∀ i, i < n → T i < c) : lo T n c = n := cnt_true fun i hi => by simp; exact h i hi
theorem occ_step (T : Nat → Nat) (i c : Nat) : occ T (i + 1) c = occ T i c + (if T i = c then 1 else 0) := by
  unfold occ; rw [cnt_succ]; congr 1; by_cases h : T i = c <;> simp [h]
theorem occ_same (T : Nat → Nat) (i : Nat) : occ T (i + 1) (T i) = occ T i (T i) + 1 := by rw [occ_step, if_pos rfl]
theorem occ_other (T : Nat → Nat) (i c : Nat) (h : c ≠ T i) : occ T (i + 1) c = occ T i c := by rw [occ_step, if_neg (fun e => h e.symm)]; rfl

/-- A one-to-one map of the first n numbers into themselves meets each. -/
theorem onto_of_inj : ∀ (n : Nat) (f : Nat → Nat), (∀ i, i < n → f i < n) → (∀ i j, i < n → j < n → f i = f j → i = j) → ∀ p, p < n → ∃ i, i < n ∧ f i = p := by
  intro n
  induction n with
  | zero => intro f _ _ p hp; omega
  | succ n ih =>
    intro f hf hi p hp
    -- the map with n's value laid on whoever had n
    let v := f n
    by_cases hv : v = n
    · by_cases hpn : p = n
      · exact ⟨n, by omega, by rw [hpn]; exact hv⟩
      · obtain ⟨i, hin, hip⟩ := ih f (fun i hin => by
            have h1 := hf i (by omega)
            have h2 : f i ≠ n := fun e => by
              have := hi i n (by omega) (by omega) (by rw [e]; exact hv.symm)
              omega
            omega) (fun i j a b => hi i j (by omega) (by omega)) p (by omega)
        exact ⟨i, by omega, hip⟩
    · by_cases hpv : p = v
      · exact ⟨n, by omega, hpv.symm⟩
      · let g : Nat → Nat := fun i => if f i = n then v else f i
        have hg : ∀ i, i < n → g i < n := by
          intro i hin
          have h1 := hf i (by omega)
          have h2 := hf n (by omega)
          show (if f i = n then v else f i) < n
          split <;> omega
        have hgi : ∀ i j, i < n → j < n → g i = g j → i = j := by
          intro i j hin hjn e
          have a : f i ≠ v := fun e' => by have := hi i n (by omega) (by omega) e'; omega
          have b : f j ≠ v := fun e' => by have := hi j n (by omega) (by omega) e'; omega
          simp only [g] at e
          split at e <;> split at e
          · exact hi i j (by omega) (by omega) (by omega)
          · omega
          · omega
          · exact hi i j (by omega) (by omega) e
        by_cases hpn : p = n
        · -- somebody below n has n: else f maps the first n into the first n but v
          by_cases hex : ∃ i, i < n ∧ f i = n
          · obtain ⟨i, hin, hfi⟩ := hex
            exact ⟨i, by omega, by rw [hfi, hpn]⟩
          · exfalso
            have hge : ∀ i, i < n → g i = f i := fun i hin => by
              show (if f i = n then v else f i) = f i
              rw [if_neg fun e => hex ⟨i, hin, e⟩]
            have hvn : v < n := by have := hf n (by omega); omega
            obtain ⟨i, hin, hiv⟩ := ih g hg hgi v hvn
            rw [hge i hin] at hiv
            have := hi i n (by omega) (by omega) hiv
            omega
        · obtain ⟨i, hin, hip⟩ := ih g hg hgi p (by omega)
          have hfi : f i = p := by
            simp only [g] at hip
            split at hip
            · omega
            · exact hip
          exact ⟨i, by omega, hfi⟩

end Go.Proofs.YtfpihnfhmefeaaaGreatDoor

