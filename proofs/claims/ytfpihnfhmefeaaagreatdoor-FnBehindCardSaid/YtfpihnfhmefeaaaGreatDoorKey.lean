/-
  The order that the first two scans make of the places of a text: by number and type up to the next beginning of a run of type S, ties by where that lies; and what it tells of the ends' order. No condition.
-/
import Derived.Test.YtfpihnfhmefeaaaGreatDoorTy
import Derived.Test.YtfpihnfhmefeaaaGreatDoorScan
namespace Go.Proofs.YtfpihnfhmefeaaaGreatDoor

/-- A run of type S begins here, or here is the sentinel. -/
def lmz (T : Nat → Nat) (n i : Nat) : Bool := lms T n i || i == n
/-- The number and the type of a place as one number; the sentinel's is 0. -/
def xv (T : Nat → Nat) (n i : Nat) : Nat := if i < n then 2 * (T i + 1) + (if tyS T n i then 1 else 0) else 0
theorem xv_n (T : Nat → Nat) (n : Nat) : xv T n n = 0 := by simp [xv]
theorem xv_pos {T : Nat → Nat} {n i : Nat} (h : i < n) : 0 < xv T n i := by simp [xv, h]; omega
theorem xv_num {T : Nat → Nat} {n i j : Nat} (hi : i < n) (hj : j < n) (h : T i < T j) : xv T n i < xv T n j := by
  simp only [xv, hi, hj, if_true]; split <;> split <;> omega
theorem xv_kind {T : Nat → Nat} {n i j : Nat} (hi : i < n) (hj : j < n) (h : T i = T j) (h1 : tyS T n i = false) (h2 : tyS T n j = true) : xv T n i < xv T n j := by
  simp [xv, hi, hj, h1, h2]; omega
theorem xv_eq {T : Nat → Nat} {n i j : Nat} (hi : i < n) (hj : j < n) (h : T i = T j) (h1 : tyS T n i = tyS T n j) : xv T n i = xv T n j := by simp [xv, hi, hj, h1, h]
theorem xv_eq' {T : Nat → Nat} {n i j : Nat} (hi : i < n) (hj : j < n) (h : xv T n i = xv T n j) : T i = T j ∧ tyS T n i = tyS T n j := by
  simp only [xv, hi, hj, if_true] at h
  cases h1 : tyS T n i <;> cases h2 : tyS T n j <;> simp [h1, h2] at h ⊢ <;> omega
theorem xv_lt' {T : Nat → Nat} {n i j : Nat} (hi : i < n) (hj : j < n) (h : xv T n i < xv T n j) : T i < T j ∨ (T i = T j ∧ tyS T n i = false ∧ tyS T n j = true) := by
  simp only [xv, hi, hj, if_true] at h
  cases h1 : tyS T n i <;> cases h2 : tyS T n j <;> simp [h1, h2] at h ⊢ <;> omega
theorem xv_sl {T : Nat → Nat} {n i j : Nat} (hi : i ≤ n) (hj : j ≤ n) (h : xv T n i < xv T n j) : sl T n i j = true := by
  have hjn : j < n := by
    rcases Nat.lt_or_ge j n with h' | h'
    · exact h'
    · rw [show j = n by omega, xv_n] at h; omega
  rcases Nat.lt_or_ge i n with hin | hin
  · rcases xv_lt' hin hjn h with h1 | ⟨h1, h2, h3⟩
    · rw [sl_iff T n i j hin hjn]; exact .inl h1
    · exact sl_LS' hin hjn h2 h3 h1
  · rw [show i = n by omega]; exact sl_n T n j hjn

theorem lmz_prev {T : Nat → Nat} {n i : Nat} (_h : i < n) (hz : lmz T n (i + 1) = true) : tyS T n i = false := by
  simp [lmz] at hz
  rcases hz with hz | hz
  · simpa using (lms_iff.1 hz).2.2.2
  · exact tyS_last T n i hz
theorem lmz_not_S {T : Nat → Nat} {n i : Nat} (h : i < n) (hs : tyS T n i = true) : lmz T n (i + 1) = false := by
  cases hq : lmz T n (i + 1) with
  | false => rfl
  | true => rw [lmz_prev h hq] at hs; simp at hs
theorem lmz_L {T : Nat → Nat} {n i : Nat} (_h : i < n) (hs : tyS T n i = false) : lmz T n i = false := by
  cases hq : lmz T n i with
  | false => rfl
  | true =>
    simp [lmz] at hq
    rcases hq with hq | hq
    · rw [(lms_iff.1 hq).2.2.1] at hs; simp at hs
    · omega
/-- Where numbers and types are one, here and at the next places, a run begins at both or at none. -/
theorem lmz_mixed {T : Nat → Nat} {n a b : Nat} (ha : a < n) (hb : b < n) (hx : xv T n a = xv T n b) (hy : xv T n (a + 1) = xv T n (b + 1)) (hz : lmz T n (a + 1) = true) : lmz T n (b + 1) = true := by
  have h1 := lmz_prev ha hz
  have h2 := (xv_eq' ha hb hx).2
  simp [lmz] at hz ⊢
  rcases hz with hz | hz
  · obtain ⟨_, h4, h5, _⟩ := lms_iff.1 hz
    have hb1 : b + 1 < n := by
      rcases Nat.lt_or_ge (b + 1) n with h' | h'
      · exact h'
      · rw [show b + 1 = n by omega, xv_n] at hy
        have := xv_pos (T := T) h4; omega
    have h6 := (xv_eq' h4 hb1 hy).2
    exact .inl (lms_iff.2 ⟨by omega, hb1, by rw [← h6]; exact h5, by rw [Nat.add_sub_cancel, ← h2]; exact h1⟩)
  · right
    rcases Nat.lt_or_ge (b + 1) n with h' | h'
    · rw [hz, xv_n] at hy
      have := xv_pos (T := T) h'; omega
    · omega

/-! ### The key -/
def keyAux (T : Nat → Nat) (n : Nat) : Nat → List Nat
  | 0 => []
  | d + 1 => xv T n (n - (d + 1)) :: (if lmz T n (n - d) then [xv T n (n - d), n - d] else keyAux T n d)
def key (T : Nat → Nat) (n i : Nat) : List Nat := keyAux T n (n - i)
def kap (T : Nat → Nat) (n i : Nat) : List Nat := if lmz T n i then [xv T n i, i] else key T n i
theorem key_step {T : Nat → Nat} {n i : Nat} (h : i < n) : key T n i = xv T n i :: kap T n (i + 1) := by
  unfold key kap key
  obtain ⟨d, hd⟩ : ∃ d, n - i = d + 1 := ⟨n - i - 1, by omega⟩
  rw [hd, keyAux, show n - (d + 1) = i by omega, show n - d = i + 1 by omega, show n - (i + 1) = d by omega]
theorem kap_z {T : Nat → Nat} {n i : Nat} (h : lmz T n i = true) : kap T n i = [xv T n i, i] := by simp [kap, h]
theorem kap_key {T : Nat → Nat} {n i : Nat} (h : lmz T n i = false) : kap T n i = key T n i := by simp [kap, h]
theorem lmz_n (T : Nat → Nat) (n : Nat) : lmz T n n = true := by simp [lmz]
theorem kap_n (T : Nat → Nat) (n : Nat) : kap T n n = [0, n] := by rw [kap_z (lmz_n T n), xv_n]
theorem kap_head {T : Nat → Nat} {n i : Nat} (h : i ≤ n) : ∃ r, r ≠ [] ∧ kap T n i = xv T n i :: r := by
  by_cases hz : lmz T n i = true
  · exact ⟨_, by simp, kap_z hz⟩
  · have hz' : lmz T n i = false := by simpa using hz
    have hlt : i < n := by
      rcases Nat.lt_or_ge i n with h' | h'
      · exact h'
      · rw [show i = n by omega, lmz_n] at hz'; simp at hz'
    rw [kap_key hz', key_step hlt]
    refine ⟨_, ?_, rfl⟩
    by_cases h1 : lmz T n (i + 1) = true
    · rw [kap_z h1]; simp
    · have h1' : lmz T n (i + 1) = false := by simpa using h1
      have : i + 1 < n := by
        rcases Nat.lt_or_ge (i + 1) n with h' | h'
        · exact h'
        · rw [show i + 1 = n by omega, lmz_n] at h1'; simp at h1'
      rw [kap_key h1', key_step this]; simp
theorem kap_lt {T : Nat → Nat} {n i j : Nat} (hi : i ≤ n) (hj : j ≤ n) (h : xv T n i < xv T n j) : kap T n i < kap T n j := by
  obtain ⟨r, _, hr⟩ := kap_head (T := T) hi
  obtain ⟨q, _, hq⟩ := kap_head (T := T) hj
  rw [hr, hq, lex_cons]; exact .inl h
theorem key_lt_iff {T : Nat → Nat} {n i j : Nat} (hi : i < n) (hj : j < n) : key T n i < key T n j ↔ xv T n i < xv T n j ∨ (xv T n i = xv T n j ∧ kap T n (i + 1) < kap T n (j + 1)) := by
  rw [key_step hi, key_step hj, lex_cons]
theorem kap_inj (T : Nat → Nat) (n : Nat) : ∀ d i j, d = n - i → i ≤ n → j ≤ n → kap T n i = kap T n j → i = j := by
  intro d
  induction d with
  | zero =>
    intro i j hd hi hj he
    have hin : i = n := by omega
    subst hin
    rcases Nat.lt_or_ge j i with h | h
    · obtain ⟨r, _, hr⟩ := kap_head (T := T) hj
      rw [kap_n, hr] at he
      have := xv_pos (T := T) h
      simp at he; omega
    · omega
  | succ d ih =>
    intro i j hd hi hj he
    obtain ⟨r, hr0, hr⟩ := kap_head (T := T) (i := i + 1) (n := n) (by omega)
    have hin : i < n := by omega
    rcases Nat.lt_or_ge j n with hjn | hjn
    · obtain ⟨q, hq0, hq⟩ := kap_head (T := T) (i := j + 1) (n := n) (by omega)
      by_cases h1 : lmz T n i = true <;> by_cases h2 : lmz T n j = true
      · rw [kap_z h1, kap_z h2] at he; simp at he; exact he.2
      · have h2' : lmz T n j = false := by simpa using h2
        rw [kap_z h1, kap_key h2', key_step hjn, hq] at he; simp at he
        first | exact (hq0 he.2.2).elim | exact (hq0 he.2.2.symm).elim
      · have h1' : lmz T n i = false := by simpa using h1
        rw [kap_z h2, kap_key h1', key_step hin, hr] at he; simp at he
        exact (hr0 he.2.2).elim
      · have h1' : lmz T n i = false := by simpa using h1
        have h2' : lmz T n j = false := by simpa using h2
        rw [kap_key h1', kap_key h2', key_step hin, key_step hjn] at he
        simp only [List.cons.injEq] at he
        have := ih (i + 1) (j + 1) (by omega) (by omega) (by omega) he.2
        omega
    · have hjn : j = n := by omega
      subst hjn
      obtain ⟨q, _, hq⟩ := kap_head (T := T) hi
      rw [kap_n, hq] at he
      have := xv_pos (T := T) hin
      simp at he; omega
theorem kap_inj' {T : Nat → Nat} {n i j : Nat} (hi : i ≤ n) (hj : j ≤ n) (h : kap T n i = kap T n j) : i = j := kap_inj T n _ i j rfl hi hj h
theorem key_inj {T : Nat → Nat} {n i j : Nat} (hi : i < n) (hj : j < n) (h : key T n i = key T n j) : i = j := by
  rw [key_step hi, key_step hj] at h
  simp only [List.cons.injEq] at h
  have := kap_inj' (i := i + 1) (j := j + 1) (by omega) (by omega) h.2
  omega

/-- At a place of type L the next place comes ahead. -/
theorem kap_back (T : Nat → Nat) (n : Nat) : ∀ d i, n = i + 1 + d → tyS T n i = false → kap T n (i + 1) < kap T n i := by
  intro d
  induction d with
  | zero =>
    intro i hd _
    refine kap_lt (by omega) (by omega) ?_
    rw [show i + 1 = n by omega, xv_n]; exact xv_pos (by omega)
  | succ d ih =>
    intro i hd hL
    have hge := tyL_ge (i := i) (by omega) hL
    by_cases hx : xv T n (i + 1) < xv T n i
    · exact kap_lt (by omega) (by omega) hx
    · have he : T i = T (i + 1) := by
        rcases Nat.lt_or_ge (T (i + 1)) (T i) with h | h
        · exact (hx (xv_num (by omega) (by omega) h)).elim
        · omega
      have hL' : tyS T n (i + 1) = false := by rw [← tyS_eq T n i (by omega) he]; exact hL
      rw [kap_key (lmz_L (by omega) hL), kap_key (lmz_L (i := i + 1) (by omega) hL'), key_lt_iff (by omega) (by omega)]
      exact .inr ⟨xv_eq (by omega) (by omega) he.symm (by rw [hL, hL']), ih (i + 1) (by omega) hL'⟩
/-- At a place of type S it comes behind. -/
theorem key_fwd (T : Nat → Nat) (n : Nat) : ∀ d i, n = i + 1 + d → tyS T n i = true → key T n i < key T n (i + 1) := by
  intro d
  induction d with
  | zero => intro i hd hS; rw [tyS_last T n i (by omega)] at hS; simp at hS
  | succ d ih =>
    intro i hd hS
    obtain ⟨_, hle⟩ := tyS_le (i := i) (by omega) hS
    rw [key_lt_iff (by omega) (by omega)]
    rcases Nat.lt_or_ge (T i) (T (i + 1)) with h | h
    · exact .inl (xv_num (by omega) (by omega) h)
    · have he : T i = T (i + 1) := by omega
      have hS' : tyS T n (i + 1) = true := by rw [← tyS_eq T n i (by omega) he]; exact hS
      refine .inr ⟨xv_eq (by omega) (by omega) he (by rw [hS, hS']), ?_⟩
      rw [kap_key (lmz_not_S (by omega) hS), kap_key (lmz_not_S (i := i + 1) (by omega) hS')]
      exact ih (i + 1) (by omega) hS'

/-! ### The two scans' settings: the substrings' -/
/-- f is the first place at which a run of type S begins. -/
structure First (T : Nat → Nat) (n f : Nat) : Prop where
  isLms : lms T n f = true
  least : ∀ j, lms T n j = true → f ≤ j

def subL (T : Nat → Nat) (n f x : Nat) : Bool := decide (x < n) && decide (f < x) && !tyS T n x
def subE (T : Nat → Nat) (n f x : Nat) : Bool := lms T n x && decide (f < x)
def subS (T : Nat → Nat) (n f x : Nat) : Bool := decide (x < n) && decide (f ≤ x) && tyS T n x
def kapLt (T : Nat → Nat) (n x y : Nat) : Bool := decide (kap T n x < kap T n y)
def keyLt (T : Nat → Nat) (n x y : Nat) : Bool := decide (key T n x < key T n y)
theorem subL_iff {T : Nat → Nat} {n f x : Nat} : subL T n f x = true ↔ x < n ∧ f < x ∧ tyS T n x = false := by simp [subL, and_assoc]
theorem subE_iff {T : Nat → Nat} {n f x : Nat} : subE T n f x = true ↔ lms T n x = true ∧ f < x := by simp [subE]
theorem subS_iff {T : Nat → Nat} {n f x : Nat} : subS T n f x = true ↔ x < n ∧ f ≤ x ∧ tyS T n x = true := by simp [subS, and_assoc]

theorem lp_sub {T : Nat → Nat} {n f : Nat} (hf : First T n f) : LP T n (subL T n f) (subE T n f) (kapLt T n) := by
  have hfb := lms_bound hf.isLms
  have hfS := (lms_iff.1 hf.isLms).2.2.1
  have lt_of : ∀ x, (subL T n f x = true ∨ subE T n f x = true) → x < n ∧ f < x := fun x hx => by
    rcases hx with hx | hx
    · have := subL_iff.1 hx; exact ⟨this.1, this.2.1⟩
    · have := subE_iff.1 hx; exact ⟨(lms_iff.1 this.1).2.1, this.2⟩
  refine { hL := fun x hx => (subL_iff.1 hx).1, hS := fun x hx => (lms_iff.1 (subE_iff.1 hx).1).2.1, apart := fun x h1 h2 => ?_, irr := fun x => by simp [kapLt, List.lt_irrefl], trans := fun x y z h1 h2 => ?_, total := fun x y hx hy hne => ?_, num := fun x y hx hy hT => ?_, kind := fun x y hx hy hT => ?_, nxt := fun k hk => ?_, last := ?_, step := fun k k' hk hk' hT h1 h2 => ?_, first := fun k k' hk hk' hn hT hne => ?_, back := fun k hk h1 => ?_, prev := fun s hs => ?_ }
  · have a := (subL_iff.1 h1).2.2
    have b := (lms_iff.1 (subE_iff.1 h2).1).2.2.1
    rw [a] at b; simp at b
  · unfold kapLt at *; rw [decide_eq_true_iff] at *; exact lex_trans h1 h2
  · unfold kapLt; rw [decide_eq_true_iff, decide_eq_true_iff]
    exact lex_total fun e => hne (kap_inj' (Nat.le_of_lt (lt_of x hx).1) (Nat.le_of_lt (lt_of y hy).1) e)
  · unfold kapLt; rw [decide_eq_true_iff]
    exact kap_lt (Nat.le_of_lt (lt_of x hx).1) (Nat.le_of_lt (lt_of y hy).1) (xv_num (lt_of x hx).1 (lt_of y hy).1 hT)
  · unfold kapLt; rw [decide_eq_true_iff]
    have a := lt_of x (.inl hx)
    have b := lt_of y (.inr hy)
    exact kap_lt (by omega) (by omega) (xv_kind a.1 b.1 hT (subL_iff.1 hx).2.2 (lms_iff.1 (subE_iff.1 hy).1).2.2.1)
  · obtain ⟨h1, h2, h3⟩ := subL_iff.1 hk
    by_cases hn : k + 1 = n
    · exact .inl hn
    · right
      by_cases ht : tyS T n (k + 1) = true
      · exact .inr (subE_iff.2 ⟨lms_iff.2 ⟨by omega, by omega, ht, by simpa using h3⟩, by omega⟩)
      · exact .inl (subL_iff.2 ⟨by omega, by omega, by simpa using ht⟩)
  · exact ⟨by omega, subL_iff.2 ⟨by omega, by omega, tyS_last T n _ (by omega)⟩⟩
  · obtain ⟨a1, a2, a3⟩ := subL_iff.1 hk
    obtain ⟨b1, b2, b3⟩ := subL_iff.1 hk'
    unfold kapLt
    rw [decide_eq_decide, kap_key (lmz_L a1 a3), kap_key (lmz_L b1 b3), key_lt_iff a1 b1, xv_eq a1 b1 hT (by rw [a3, b3])]
    simp
  · obtain ⟨a1, a2, a3⟩ := subL_iff.1 hk
    obtain ⟨b1, b2, b3⟩ := subL_iff.1 hk'
    unfold kapLt
    rw [decide_eq_true_iff, kap_key (lmz_L a1 a3), kap_key (lmz_L b1 b3), key_lt_iff a1 b1]
    refine .inr ⟨xv_eq a1 b1 hT.symm (by rw [a3, b3]), ?_⟩
    rw [hn]
    refine kap_lt (by omega) (by omega) ?_
    rw [xv_n]; exact xv_pos (by omega)
  · obtain ⟨a1, a2, a3⟩ := subL_iff.1 hk
    unfold kapLt
    rw [decide_eq_true_iff]
    exact kap_back T n (n - 1 - k) k (by omega) a3
  · obtain ⟨a1, a2⟩ := subE_iff.1 hs
    obtain ⟨c1, c2, c3, c4⟩ := lms_iff.1 a1
    refine ⟨by omega, subL_iff.2 ⟨by omega, ?_, c4⟩⟩
    rcases Nat.lt_or_ge f (s - 1) with h | h
    · exact h
    · rw [show s - 1 = f by omega, hfS] at c4; simp at c4

theorem sp_sub {T : Nat → Nat} {n f : Nat} (hf : First T n f) : SP T n (subL T n f) (subS T n f) (keyLt T n) := by
  have hfb := lms_bound hf.isLms
  have lt_of : ∀ x, (subL T n f x = true ∨ subS T n f x = true) → x < n ∧ f ≤ x := fun x hx => by
    rcases hx with hx | hx
    · have := subL_iff.1 hx; exact ⟨this.1, by omega⟩
    · have := subS_iff.1 hx; exact ⟨this.1, this.2.1⟩
  refine { hL := fun x hx => (subL_iff.1 hx).1, hS := fun x hx => (subS_iff.1 hx).1, apart := fun x h1 h2 => ?_, irr := fun x => by simp [keyLt, List.lt_irrefl], trans := fun x y z h1 h2 => ?_, total := fun x y hx hy hne => ?_, num := fun x y hx hy hT => ?_, kind := fun x y hx hy hT => ?_, nxt := fun k hk => ?_, step := fun k k' hk hk' hT => ?_, fwd := fun k hk => ?_ }
  · have a := (subL_iff.1 h1).2.2
    have b := (subS_iff.1 h2).2.2
    rw [a] at b; simp at b
  · unfold keyLt at *; rw [decide_eq_true_iff] at *; exact lex_trans h1 h2
  · unfold keyLt; rw [decide_eq_true_iff, decide_eq_true_iff]
    exact lex_total fun e => hne (key_inj (lt_of x hx).1 (lt_of y hy).1 e)
  · unfold keyLt; rw [decide_eq_true_iff, key_lt_iff (lt_of x hx).1 (lt_of y hy).1]
    exact .inl (xv_num (lt_of x hx).1 (lt_of y hy).1 hT)
  · unfold keyLt; rw [decide_eq_true_iff, key_lt_iff (subL_iff.1 hx).1 (subS_iff.1 hy).1]
    exact .inl (xv_kind (subL_iff.1 hx).1 (subS_iff.1 hy).1 hT (subL_iff.1 hx).2.2 (subS_iff.1 hy).2.2)
  · obtain ⟨h1, h2, h3⟩ := subS_iff.1 hk
    obtain ⟨h4, _⟩ := tyS_le h1 h3
    refine ⟨h4, ?_⟩
    by_cases ht : tyS T n (k + 1) = true
    · exact .inr (subS_iff.2 ⟨h4, by omega, ht⟩)
    · exact .inl (subL_iff.2 ⟨h4, by omega, by simpa using ht⟩)
  · obtain ⟨a1, a2, a3⟩ := subS_iff.1 hk
    obtain ⟨b1, b2, b3⟩ := subS_iff.1 hk'
    unfold keyLt
    rw [decide_eq_decide, key_lt_iff a1 b1, xv_eq a1 b1 hT (by rw [a3, b3]), kap_key (lmz_not_S a1 a3), kap_key (lmz_not_S b1 b3)]
    simp
  · obtain ⟨a1, a2, a3⟩ := subS_iff.1 hk
    unfold keyLt
    rw [decide_eq_true_iff]
    exact key_fwd T n (n - 1 - k) k (by omega) a3

/-! ### The two scans' settings: the ends' -/
def allL (T : Nat → Nat) (n x : Nat) : Bool := decide (x < n) && !tyS T n x
def allS (T : Nat → Nat) (n x : Nat) : Bool := decide (x < n) && tyS T n x
theorem allL_iff {T : Nat → Nat} {n x : Nat} : allL T n x = true ↔ x < n ∧ tyS T n x = false := by simp [allL]
theorem allS_iff {T : Nat → Nat} {n x : Nat} : allS T n x = true ↔ x < n ∧ tyS T n x = true := by simp [allS]
theorem lp_all {T : Nat → Nat} {n : Nat} (hn : 0 < n) : LP T n (allL T n) (lms T n) (sl T n) := by
  have lt_of : ∀ x, (allL T n x = true ∨ lms T n x = true) → x < n := fun x hx => by
    rcases hx with hx | hx
    · exact (allL_iff.1 hx).1
    · exact (lms_iff.1 hx).2.1
  refine { hL := fun x hx => (allL_iff.1 hx).1, hS := fun x hx => (lms_iff.1 hx).2.1, apart := fun x h1 h2 => ?_, irr := fun x => sl_irrefl T n x, trans := fun x y z h1 h2 => sl_trans h1 h2, total := fun x y hx hy hne => sl_total (Nat.le_of_lt (lt_of x hx)) (Nat.le_of_lt (lt_of y hy)) hne, num := fun x y hx hy hT => (sl_iff T n x y (lt_of x hx) (lt_of y hy)).2 (.inl hT), kind := fun x y hx hy hT => sl_LS' (allL_iff.1 hx).1 (lms_iff.1 hy).2.1 (allL_iff.1 hx).2 (lms_iff.1 hy).2.2.1 hT, nxt := fun k hk => ?_, last := ⟨hn, allL_iff.2 ⟨by omega, tyS_last T n _ (by omega)⟩⟩, step := fun k k' hk hk' hT h1 h2 => ?_, first := fun k k' hk hk' hn hT hne => ?_, back := fun k hk h1 => sl_L (allL_iff.1 hk).1 (allL_iff.1 hk).2, prev := fun s hs => ⟨(lms_iff.1 hs).1, allL_iff.2 ⟨by have := (lms_iff.1 hs).2.1; omega, (lms_iff.1 hs).2.2.2⟩⟩ }
  · have a := (allL_iff.1 h1).2
    have b := (lms_iff.1 h2).2.2.1
    rw [a] at b; simp at b
  · obtain ⟨h1, h3⟩ := allL_iff.1 hk
    by_cases hn : k + 1 = n
    · exact .inl hn
    · right
      by_cases ht : tyS T n (k + 1) = true
      · exact .inr (lms_iff.2 ⟨by omega, by omega, ht, by simpa using h3⟩)
      · exact .inl (allL_iff.2 ⟨by omega, by simpa using ht⟩)
  · rw [Bool.eq_iff_iff, sl_iff T n k k' (allL_iff.1 hk).1 (allL_iff.1 hk').1]; simp [hT]
  · have a := (allL_iff.1 hk').1
    rw [sl_iff T n k k' (allL_iff.1 hk).1 a, hn]
    exact .inr ⟨hT.symm, sl_n T n _ (by omega)⟩
theorem sp_all {T : Nat → Nat} {n : Nat} : SP T n (allL T n) (allS T n) (sl T n) := by
  have lt_of : ∀ x, (allL T n x = true ∨ allS T n x = true) → x < n := fun x hx => by
    rcases hx with hx | hx
    · exact (allL_iff.1 hx).1
    · exact (allS_iff.1 hx).1
  refine { hL := fun x hx => (allL_iff.1 hx).1, hS := fun x hx => (allS_iff.1 hx).1, apart := fun x h1 h2 => ?_, irr := fun x => sl_irrefl T n x, trans := fun x y z h1 h2 => sl_trans h1 h2, total := fun x y hx hy hne => sl_total (Nat.le_of_lt (lt_of x hx)) (Nat.le_of_lt (lt_of y hy)) hne, num := fun x y hx hy hT => (sl_iff T n x y (lt_of x hx) (lt_of y hy)).2 (.inl hT), kind := fun x y hx hy hT => sl_LS' (allL_iff.1 hx).1 (allS_iff.1 hy).1 (allL_iff.1 hx).2 (allS_iff.1 hy).2 hT, nxt := fun k hk => ?_, step := fun k k' hk hk' hT => ?_, fwd := fun k hk => sl_S (allS_iff.1 hk).1 (allS_iff.1 hk).2 }
  · have a := (allL_iff.1 h1).2
    have b := (allS_iff.1 h2).2
    rw [a] at b; simp at b
  · obtain ⟨h1, h3⟩ := allS_iff.1 hk
    obtain ⟨h4, _⟩ := tyS_le h1 h3
    refine ⟨h4, ?_⟩
    by_cases ht : tyS T n (k + 1) = true
    · exact .inr (allS_iff.2 ⟨h4, ht⟩)
    · exact .inl (allL_iff.2 ⟨h4, by simpa using ht⟩)
  · rw [Bool.eq_iff_iff, sl_iff T n k k' (allS_iff.1 hk).1 (allS_iff.1 hk').1]; simp [hT]
theorem all_in {T : Nat → Nat} {n x : Nat} (h : x < n) : allL T n x = true ∨ allS T n x = true := by
  cases ht : tyS T n x with
  | true => exact .inr (allS_iff.2 ⟨h, ht⟩)
  | false => exact .inl (allL_iff.2 ⟨h, ht⟩)

end Go.Proofs.YtfpihnfhmefeaaaGreatDoor

