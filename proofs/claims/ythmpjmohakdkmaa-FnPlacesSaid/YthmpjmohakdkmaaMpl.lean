/-
  The order of a text's ends and of the turned text's; two arrays of one text are one. No condition.
  The comparison of what stands at two places of a text, as bytes. No condition.
  Where a piece stands: a stretch of the array. No condition.
  The places of a piece: what two searches find, and what stands there, sorted. No condition.
  What is found of a piece: its places, each once; how many; sorted, the places ascending. No condition.
  An append of one number to a slice of the call's own, and whose block it then lies in. No condition.
  Walks over slices.Clone, slices.Sort (by its contract) and the sorted copy of some numbers. No condition but those typed.
-/
import Derived.Test.YthmpjmohakdkmaaRound
import Derived.Test.YthmpjmohakdkmaaIn
import Derived.Test.YthmpjmohakdkmaaLayM
import Derived.Lib.BytesEntry
namespace Go.Proofs.Ythmpjmohakdkmaa

/-- The text whose bytes are below 255 and above 0, a 0 at the end; the same taken from 255. -/
def lowT (T : Nat → Nat) (n i : Nat) : Nat := if i < n then 1 + T i % 254 else 0
def highT (T : Nat → Nat) (n i : Nat) : Nat := if i < n then 255 - (1 + T i % 254) else 255
theorem low_le (T : Nat → Nat) (n i : Nat) : lowT T n i ≤ 254 := by
  unfold lowT
  have := Nat.mod_lt (T i) (show 0 < 254 by omega)
  split <;> omega
theorem high_low (T : Nat → Nat) (n i : Nat) : highT T n i = 255 - lowT T n i := by
  unfold lowT highT
  split <;> omega
theorem low_end (T : Nat → Nat) (n i : Nat) (h : i < n) : lowT T n n < lowT T n i := by
  unfold lowT
  rw [if_neg (by omega), if_pos h]; omega

/-- The order turned. -/
theorem turn_sl (T : Nat → Nat) (n : Nat) : ∀ d x y, d = n + 1 - x → x < n + 1 → y < n + 1 → x ≠ y → sl (highT T n) (n + 1) x y = sl (lowT T n) (n + 1) y x := by
  intro d
  induction d with
  | zero => intro x y hd hx; omega
  | succ d ih =>
    intro x y hd hx hy hne
    have key : sl (highT T n) (n + 1) x y = true ↔ sl (lowT T n) (n + 1) y x = true := by
      rw [sl_iff _ _ x y hx hy, sl_iff _ _ y x hy hx, high_low, high_low]
      have h1 := low_le T n x
      have h2 := low_le T n y
      by_cases he : lowT T n x = lowT T n y
      · have hxn : x < n := by
          rcases Nat.lt_or_ge x n with h | h
          · exact h
          · have e1 : x = n := by omega
            have e2 : y < n := by omega
            have := low_end T n y e2
            rw [e1] at he; omega
        have hyn : y < n := by
          rcases Nat.lt_or_ge y n with h | h
          · exact h
          · have e1 : y = n := by omega
            have := low_end T n x hxn
            rw [e1] at he; omega
        rw [ih (x + 1) (y + 1) (by omega) (by omega) (by omega) (by omega)]
        constructor
        · rintro (h | ⟨_, h⟩)
          · omega
          · exact .inr ⟨he.symm, h⟩
        · rintro (h | ⟨_, h⟩)
          · omega
          · exact .inr ⟨by omega, h⟩
      · constructor
        · rintro (h | ⟨h, _⟩)
          · left; omega
          · omega
        · rintro (h | ⟨h, _⟩)
          · left; omega
          · omega
    rw [Bool.eq_iff_iff]; exact key

theorem up_id {n : Nat} {h : Nat → Nat} (hm : ∀ r, r < n → h r < n) (hi : ∀ r r', r < r' → r' < n → h r < h r') : ∀ r, r < n → h r = r := by
  have lo : ∀ r, r < n → r ≤ h r := fun r => by
    induction r with
    | zero => intro _; omega
    | succ r ih => intro hr; have := hi r (r + 1) (by omega) hr; have := ih (by omega); omega
  have up : ∀ d r, r + d + 1 = n → h r ≤ r := fun d => by
    induction d with
    | zero => intro r hr; have := hm r (by omega); omega
    | succ d ih => intro r hr; have := ih (r + 1) (by omega); have := hi r (r + 1) (by omega) (by omega); omega
  intro r hr
  have := lo r hr
  have := up (n - 1 - r) r (by omega)
  omega

/-- Two arrays of one text are one. -/
theorem IsSA.same {T : Nat → Nat} {n : Nat} {g g' : Nat → Nat} (hg : IsSA T n g) (hg' : IsSA T n g') : ∀ r, r < n → g r = g' r := by
  have inj : ∀ r r', r < n → r' < n → g' r = g' r' → r = r' := fun r r' hr hr' he => by
    rcases Nat.lt_trichotomy r r' with h1 | h1 | h1
    · have := hg'.inc r r' h1 hr'; rw [he, sl_irrefl] at this; simp at this
    · exact h1
    · have := hg'.inc r' r h1 hr; rw [he, sl_irrefl] at this; simp at this
  have onto : ∀ x, x < n → ∃ r, r < n ∧ g' r = x := onto_of_inj n g' hg'.mem inj
  have hex : ∀ r, ∃ q, r < n → q < n ∧ g' q = g r := fun r => by
    by_cases hr : r < n
    · obtain ⟨q, h1, h2⟩ := onto (g r) (hg.mem r hr)
      exact ⟨q, fun _ => ⟨h1, h2⟩⟩
    · exact ⟨0, fun h => absurd h hr⟩
  obtain ⟨h, hh⟩ := Classical.axiomOfChoice hex
  have hid := up_id (n := n) (h := h) (fun r hr => (hh r hr).1) fun r r' hlt hr' => by
    have h1 := hg.inc r r' hlt hr'
    have h2 := hh r (by omega)
    have h3 := hh r' hr'
    rw [← h2.2, ← h3.2] at h1
    rcases Nat.lt_trichotomy (h r) (h r') with h4 | h4 | h4
    · exact h4
    · rw [h4, sl_irrefl] at h1; simp at h1
    · rw [sl_asymm (hg'.inc _ _ h4 h2.1)] at h1; simp at h1
  intro r hr
  have := (hh r hr).2
  rw [hid r hr] at this
  exact this.symm

/-- The arrays of the text and of the turned one. -/
theorem turn_sa {T : Nat → Nat} {n : Nat} {g g' : Nat → Nat} (hg : IsSA (lowT T n) (n + 1) g) (hg' : IsSA (highT T n) (n + 1) g') : ∀ r, r < n + 1 → g r = g' (n - r) := by
  refine hg.same ⟨fun r _ => hg'.mem _ (by omega), fun r r' h1 h2 => ?_⟩
  have h3 := hg'.inc (n - r') (n - r) (by omega) (by omega)
  have hne : g' (n - r') ≠ g' (n - r) := fun e => by rw [e, sl_irrefl] at h3; simp at h3
  rw [turn_sl T n _ _ _ rfl (hg'.mem _ (by omega)) (hg'.mem _ (by omega)) hne] at h3
  exact h3

end Go.Proofs.Ythmpjmohakdkmaa


namespace Go.Proofs.Ythmpjmohakdkmaa
open Go.RowKit

/-- What stands at a place, up to the end. -/
def seg (T : Nat → Nat) (n i : Nat) : List Int := (List.range (n - i)).map fun x => (T (i + x) : Int)
theorem seg_n (T : Nat → Nat) (n : Nat) : seg T n n = [] := by simp [seg]
theorem seg_step (T : Nat → Nat) (n i : Nat) (h : i < n) : seg T n i = (T i : Int) :: seg T n (i + 1) := by
  unfold seg
  obtain ⟨d, hd⟩ : ∃ d, n - i = d + 1 := ⟨n - i - 1, by omega⟩
  rw [hd, List.range_succ_eq_map, show n - (i + 1) = d by omega]
  simp only [List.map_cons, Nat.add_zero, List.map_map, List.cons.injEq, true_and]
  exact List.map_congr_left fun x _ => by simp only [Function.comp]; rw [show i + x.succ = i + 1 + x by omega]
theorem seg_length (T : Nat → Nat) (n i : Nat) : (seg T n i).length = n - i := by simp [seg]
theorem seg_get (T : Nat → Nat) (n i x : Nat) (h : x < n - i) : (seg T n i).getD x 0 = (T (i + x) : Int) := by simp [seg, List.getD, h]

theorem byte_lt {x y : Nat} (hx : x < 256) (hy : y < 256) : ((x : Int).toNat.toUInt8 < (y : Int).toNat.toUInt8) ↔ x < y := by
  rw [UInt8.lt_iff_toNat_lt]
  simp only [Int.toNat_natCast, Nat.toUInt8, UInt8.toNat_ofNat']
  rw [Nat.mod_eq_of_lt (by omega), Nat.mod_eq_of_lt (by omega)]

/-- The comparison's answer. -/
def cmpT (T : Nat → Nat) (n i j : Nat) : Int := if i = j then 0 else if sl T n i j = true then -1 else 1
/-- Bytes are compared as the ends of the text are. -/
theorem cmp_sl {T : Nat → Nat} {n : Nat} (hT : ∀ i, i < n → T i < 256) : ∀ d i j, d = n - i → i ≤ n → j ≤ n →
    Lib.compareBytes (Lib.bytesOf (seg T n i)) (Lib.bytesOf (seg T n j)) = cmpT T n i j := by
  unfold cmpT
  intro d
  induction d with
  | zero =>
    intro i j hd hi hj
    have : i = n := by omega
    subst this
    rw [seg_n]
    by_cases e : j = i
    · subst e; rw [seg_n]; simp [Lib.bytesOf, Lib.compareBytes]
    · rw [seg_step T i j (by omega), sl_n T i j (by omega), if_neg (by omega)]
      simp [Lib.bytesOf, Lib.compareBytes]
  | succ d ih =>
    intro i j hd hi hj
    rw [seg_step T n i (by omega)]
    by_cases e : j = n
    · subst e
      rw [seg_n, if_neg (by omega), sl_asymm (sl_n T j i (by omega))]
      simp [Lib.bytesOf, Lib.compareBytes]
    · rw [seg_step T n j (by omega)]
      have hi' := hT i (by omega)
      have hj' := hT j (by omega)
      have hih := ih (i + 1) (j + 1) (by omega) (by omega) (by omega)
      have hsl := sl_iff T n i j (by omega) (by omega)
      simp only [Lib.bytesOf, List.map_cons, Lib.compareBytes]
      simp only [Lib.bytesOf] at hih
      by_cases h1 : T i < T j
      · rw [if_pos ((byte_lt hi' hj').2 h1), if_neg (by intro q; subst q; omega), if_pos (hsl.2 (.inl h1))]
      · rw [if_neg (fun q => h1 ((byte_lt hi' hj').1 q))]
        by_cases h2 : T j < T i
        · rw [if_pos ((byte_lt hj' hi').2 h2), if_neg (by intro q; subst q; omega), if_neg (fun q => by rcases hsl.1 q with q | ⟨q, _⟩ <;> omega)]
        · rw [if_neg (fun q => h2 ((byte_lt hj' hi').1 q)), hih]
          by_cases h3 : i = j
          · subst h3; simp
          · rw [if_neg (by omega), if_neg h3]
            by_cases h4 : sl T n (i + 1) (j + 1) = true
            · rw [if_pos h4, if_pos (hsl.2 (.inr ⟨by omega, h4⟩))]
            · rw [if_neg h4, if_neg (fun q => by
                rcases hsl.1 q with q | ⟨_, q⟩
                · omega
                · exact h4 q)]

/-- The entry, at two stretches of bytes. -/
theorem run_compareSlices {P : Program} {w : World} (b o n c b' o' n' c' : Nat) (xs ys : List Int) (hx : xs.length = n) (hy : ys.length = n') (hc : ∀ i, i < n → w.cell? ⟨b, o + i, none⟩ = some (.int .u8 (xs.getD i 0)))
    (hc' : ∀ i, i < n' → w.cell? ⟨b', o' + i, none⟩ = some (.int .u8 (ys.getD i 0))) :
    (Extern.BytealgCompare.compare #[.slice (some ⟨b, o, none⟩) n c, .slice (some ⟨b', o', none⟩) n' c']).run P w = .ok (.int .i64 (Lib.compareBytes (Lib.bytesOf xs) (Lib.bytesOf ys))) w := by
  have key : ∀ (b o n c : Nat) (xs : List Int), xs.length = n → (∀ i, i < n → w.cell? ⟨b, o + i, none⟩ = some (.int .u8 (xs.getD i 0))) → (Extern.Bytes.bytesOf (.slice (some ⟨b, o, none⟩) n c)).run P w = .ok ⟨(Lib.bytesOf xs).toArray⟩ w := fun b o n c xs hx hc => by
    have hl := Lib.run_loadBytesX (P := P) w xs ⟨b, o, none⟩ .empty (fun j x hj => by
      have hjl : j < xs.length := (List.getElem?_eq_some_iff.1 hj).1
      rw [Addr.add_lit, hc j (by omega), List.getD_eq_getElem?_getD, hj]
      rfl)
    rw [hx] at hl
    have he : (⟨ByteArray.empty.data ++ (Lib.bytesOf xs).toArray⟩ : ByteArray) = ⟨(Lib.bytesOf xs).toArray⟩ := by
      apply ByteArray.ext
      show (#[] : Array UInt8) ++ (Lib.bytesOf xs).toArray = (Lib.bytesOf xs).toArray
      simp
    rw [he] at hl
    exact hl
  change Sem.run P (do pure (goInt (Extern.BytealgCompare.cmp (← Extern.Bytes.bytesOf (.slice (some ⟨b, o, none⟩) n c)) (← Extern.Bytes.bytesOf (.slice (some ⟨b', o', none⟩) n' c'))))) w = _
  simp only [Sem.run_bind, Sem.run_pure, key b o n c xs hx hc, key b' o' n' c' ys hy hc', Result.andThen]
  rw [Lib.cmp_eq]
  rfl

set_option maxHeartbeats 1000000 in
set_option maxRecDepth 100000 in
/-- The comparison of two ends of a text. -/
theorem compare_any (b o n i j ci cj : Nat) (T : Nat → Nat) (w : World) (hc : ∀ x, x < n → w.cell? ⟨b, o + x, none⟩ = some (.int .u8 (T x : Int))) (hTK : ∀ i, i < n → T i < 256) (hi : i < n) (hj : j < n) :
    Calls Try.prog 19 #[.slice (some ⟨b, o + i, none⟩) (n - i) ci, .slice (some ⟨b, o + j, none⟩) (n - j) cj] w fun e w' => e = .returned (.int .i64 (cmpT T n i j)) ∧ w' = w := by
  have hrun := run_compareSlices (P := Try.prog) (w := w) b (o + i) (n - i) ci b (o + j) (n - j) cj (seg T n i) (seg T n j) (seg_length _ _ _) (seg_length _ _ _)
    (fun x hx => by rw [seg_get T n i x hx, Nat.add_assoc]; exact hc (i + x) (by omega)) (fun x hx => by rw [seg_get T n j x hx, Nat.add_assoc]; exact hc (j + x) (by omega))
  rw [cmp_sl hTK _ i j rfl (by omega) (by omega)] at hrun
  clear hc hTK
  go_enter Try.func19, Try.ntmps19
  go_wp2
  rw [run_callFunc_extern Try.func26 (by kernel_rfl) (by kernel_rfl) (by kernel_rfl) (e := Extern.BytealgCompare.compare) (by kernel_rfl), hrun]
  simp only [Result.andThen]
  rw [Oper.upon_value]
  go_wp2
  go_ret
  exact ⟨rfl, rfl⟩

end Go.Proofs.Ythmpjmohakdkmaa


namespace Go.Proofs.Ythmpjmohakdkmaa

/-- The bytes from a place on. -/
def sg (T : Nat → Nat) (n i : Nat) : List UInt8 := Lib.bytesOf (seg T n i)

theorem cb_trans : ∀ (a b c : List UInt8), Lib.compareBytes a b < 0 → Lib.compareBytes b c < 0 → Lib.compareBytes a c < 0
  | [], [], _, h, _ => by simp [Lib.compareBytes] at h
  | _ :: _, [], _, h, _ => by simp [Lib.compareBytes] at h
  | [], y :: b, [], _, g => by simp [Lib.compareBytes] at g
  | [], y :: b, z :: c, _, _ => by simp [Lib.compareBytes]
  | x :: a, y :: b, [], _, g => by simp [Lib.compareBytes] at g
  | x :: a, y :: b, z :: c, h, g => by
    have ih := cb_trans a b c
    simp only [Lib.compareBytes] at h g ⊢
    simp only [UInt8.lt_iff_toNat_lt] at h g ⊢
    by_cases h1 : x.toNat < y.toNat
    · by_cases h2 : y.toNat < z.toNat
      · rw [if_pos (by omega)]; omega
      · rw [if_neg h2] at g
        by_cases h3 : z.toNat < y.toNat
        · rw [if_pos h3] at g; omega
        · rw [if_pos (by omega)]; omega
    · rw [if_neg h1] at h
      by_cases h3 : y.toNat < x.toNat
      · rw [if_pos h3] at h; omega
      · rw [if_neg h3] at h
        by_cases h2 : y.toNat < z.toNat
        · rw [if_pos (by omega)]; omega
        · rw [if_neg h2] at g
          by_cases h4 : z.toNat < y.toNat
          · rw [if_pos h4] at g; omega
          · rw [if_neg h4] at g
            rw [if_neg (by omega), if_neg (by omega)]
            exact ih h g

/-- What lies between a piece and what begins with it begins with it. -/
theorem cb_prefix : ∀ (s a b : List UInt8), Lib.compareBytes a b < 0 → 0 ≤ Lib.compareBytes a s → s.isPrefixOf b = true → s.isPrefixOf a = true
  | [], _, _, _, _, _ => by simp
  | x :: s, _, [], _, _, h => by simp at h
  | x :: s, [], y :: b, _, h, _ => by simp [Lib.compareBytes] at h
  | x :: s, z :: a, y :: b, h, g, p => by
    have ih := cb_prefix s a b
    simp only [List.isPrefixOf, Bool.and_eq_true, beq_iff_eq] at p ⊢
    obtain ⟨rfl, p⟩ := p
    simp only [Lib.compareBytes] at h g
    simp only [UInt8.lt_iff_toNat_lt] at h g
    by_cases h1 : z.toNat < x.toNat
    · rw [if_pos h1] at g; omega
    · rw [if_neg h1] at h g
      by_cases h2 : x.toNat < z.toNat
      · rw [if_pos h2] at h; omega
      · rw [if_neg h2] at h g
        exact ⟨UInt8.toNat_inj.1 (by omega), ih h g p⟩

theorem cb_of_prefix : ∀ (s a : List UInt8), s.isPrefixOf a = true → 0 ≤ Lib.compareBytes a s
  | [], [], _ => by simp [Lib.compareBytes]
  | [], _ :: _, _ => by simp [Lib.compareBytes]
  | x :: s, [], h => by simp at h
  | x :: s, y :: a, h => by
    simp only [List.isPrefixOf, Bool.and_eq_true, beq_iff_eq] at h
    obtain ⟨rfl, h⟩ := h
    have := cb_of_prefix s a h
    simp only [Lib.compareBytes]
    simp only [UInt8.lt_iff_toNat_lt]
    rw [if_neg (by omega), if_neg (by omega)]; exact this

/-- The array's order, as the bytes' own. -/
theorem cb_inc {T : Nat → Nat} {n : Nat} {g : Nat → Nat} (hg : IsSA T n g) (hT : ∀ i, i < n → T i < 256) {r r' : Nat} (h : r < r') (h' : r' < n) : Lib.compareBytes (sg T n (g r)) (sg T n (g r')) < 0 := by
  have h1 := hg.inc r r' h h'
  have h2 := hg.mem r (by omega)
  have h3 := hg.mem r' h'
  unfold sg
  rw [cmp_sl hT _ _ _ rfl (by omega) (by omega)]
  unfold cmpT
  rw [if_neg (fun e => by rw [e, sl_irrefl] at h1; simp at h1), if_pos h1]
  omega

/-- Not less than the piece. -/
def atLeast (T : Nat → Nat) (n : Nat) (g : Nat → Nat) (s : List UInt8) (r : Nat) : Bool := decide (0 ≤ Lib.compareBytes (sg T n (g r)) s)
/-- The piece stands there. -/
def begins (T : Nat → Nat) (n : Nat) (g : Nat → Nat) (s : List UInt8) (r : Nat) : Bool := s.isPrefixOf (sg T n (g r))

section
variable {T : Nat → Nat} {n : Nat} {g : Nat → Nat} (hg : IsSA T n g) (hT : ∀ i, i < n → T i < 256) (s : List UInt8)
include hg hT
theorem atLeast_mono {r r' : Nat} (h : r ≤ r') (h' : r' < n) (hp : atLeast T n g s r = true) : atLeast T n g s r' = true := by
  rcases Nat.lt_or_ge r r' with h1 | h1
  · unfold atLeast at *
    rw [decide_eq_true_eq] at *
    have h2 := cb_inc hg hT h1 h'
    rcases Int.lt_or_le (Lib.compareBytes (sg T n (g r')) s) 0 with h3 | h3
    · have := cb_trans _ _ _ h2 h3; omega
    · exact h3
  · have : r = r' := by omega
    subst this; exact hp
theorem begins_mono {r r' : Nat} (h : r ≤ r') (h' : r' < n) (hp : atLeast T n g s r = true) (hb : begins T n g s r = false) : begins T n g s r' = false := by
  rcases Nat.lt_or_ge r r' with h1 | h1
  · unfold begins atLeast at *
    rw [decide_eq_true_eq] at hp
    have h2 := cb_inc hg hT h1 h'
    rw [← Bool.not_eq_true]
    intro h3
    rw [cb_prefix _ _ _ h2 hp h3] at hb
    simp at hb
  · have : r = r' := by omega
    subst this; exact hb
end
theorem begins_atLeast {T : Nat → Nat} {n : Nat} {g : Nat → Nat} {s : List UInt8} {r : Nat} (h : begins T n g s r = true) : atLeast T n g s r = true := by
  unfold begins atLeast at *
  rw [decide_eq_true_eq]
  exact cb_of_prefix _ _ h

theorem sg_n (T : Nat → Nat) (n : Nat) : sg T n n = [] := by unfold sg; rw [seg_n]; rfl
theorem sg_step (T : Nat → Nat) (n i : Nat) (h : i < n) : sg T n i = (T i).toUInt8 :: sg T n (i + 1) := by
  unfold sg
  rw [seg_step T n i h]
  simp [Lib.bytesOf]
theorem byte_eq {x y : Nat} (hx : x < 256) (hy : y < 256) : (x.toUInt8 == y.toUInt8) = decide (x = y) := by
  rw [Bool.eq_iff_iff]
  simp only [beq_iff_eq, decide_eq_true_eq]
  constructor
  · intro h
    have h2 := congrArg UInt8.toNat h
    simp only [Nat.toUInt8, UInt8.toNat_ofNat'] at h2
    rw [Nat.mod_eq_of_lt (by omega), Nat.mod_eq_of_lt (by omega)] at h2
    exact h2
  · intro h; rw [h]

/-- Where the piece stands: its bytes stand there. -/
theorem prefix_iff {T S : Nat → Nat} {n m : Nat} (hT : ∀ i, i < n → T i < 256) (hS : ∀ i, i < m → S i < 256) : ∀ d a i, d = m - a → a ≤ m → i ≤ n →
    ((sg S m a).isPrefixOf (sg T n i) = true ↔ i + (m - a) ≤ n ∧ ∀ k, k < m - a → T (i + k) = S (a + k)) := by
  intro d
  induction d with
  | zero =>
    intro a i hd ha hi
    have : a = m := by omega
    subst this
    rw [sg_n]
    simp only [List.isPrefixOf_nil_left, Nat.sub_self, Nat.add_zero, true_iff]
    exact ⟨hi, fun k hk => by omega⟩
  | succ d ih =>
    intro a i hd ha hi
    rw [sg_step S m a (by omega)]
    rcases Nat.lt_or_ge i n with h | h
    · rw [sg_step T n i h, List.isPrefixOf, Bool.and_eq_true, byte_eq (hS a (by omega)) (hT i h), decide_eq_true_eq, ih (a + 1) (i + 1) (by omega) (by omega) (by omega)]
      constructor
      · rintro ⟨h1, h2, h3⟩
        refine ⟨by omega, fun k hk => ?_⟩
        cases k with
        | zero => simpa using h1.symm
        | succ k =>
          have := h3 k (by omega)
          rw [show i + (k + 1) = i + 1 + k by omega, show a + (k + 1) = a + 1 + k by omega]; exact this
      · rintro ⟨h1, h2⟩
        refine ⟨by have := h2 0 (by omega); simpa using this.symm, by omega, fun k hk => ?_⟩
        have := h2 (k + 1) (by omega)
        rw [show i + 1 + k = i + (k + 1) by omega, show a + 1 + k = a + (k + 1) by omega]; exact this
    · have : i = n := by omega
      subst this
      rw [sg_n]
      simp only [List.isPrefixOf_cons_nil, Bool.false_eq_true, false_iff]
      intro h; omega

end Go.Proofs.Ythmpjmohakdkmaa


namespace Go.Proofs.Ythmpjmohakdkmaa

/-- How many are false, ahead of the first that is true. -/
theorem count_mono {p : Nat → Bool} : ∀ n, (∀ a b, a ≤ b → b < n → p a = true → p b = true) → (List.range n).countP (fun i => !p i) ≤ n ∧ ∀ r, r < n → (p r = true ↔ (List.range n).countP (fun i => !p i) ≤ r)
  | 0, _ => ⟨by simp, fun r h => absurd h (Nat.not_lt_zero _)⟩
  | n + 1, h => by
    obtain ⟨h1, h2⟩ := count_mono n fun a b hab hb => h a b hab (by omega)
    have hc : (List.range (n + 1)).countP (fun i => !p i) = (List.range n).countP (fun i => !p i) + if p n = true then 0 else 1 := by
      rw [List.range_succ, List.countP_append]
      congr 1
      cases hp : p n <;> simp [hp]
    rw [hc]
    by_cases hp : p n = true
    · rw [if_pos hp]
      refine ⟨by omega, fun r hr => ?_⟩
      rcases Nat.lt_or_ge r n with h3 | h3
      · exact h2 r h3
      · have : r = n := by omega
        subst this
        exact ⟨fun _ => h1, fun _ => hp⟩
    · rw [if_neg hp]
      have hall : ∀ r, r < n + 1 → ¬ p r = true := fun r hr h3 => hp (h r n (by omega) (by omega) h3)
      have hn : (List.range n).countP (fun i => !p i) = n := by
        rcases Nat.lt_or_ge ((List.range n).countP (fun i => !p i)) n with h3 | h3
        · exact absurd ((h2 _ h3).2 (Nat.le_refl _)) (hall _ (by omega))
        · omega
      rw [hn]
      exact ⟨Nat.le_refl _, fun r hr => ⟨fun h3 => absurd h3 (hall r hr), fun h3 => by omega⟩⟩

section
variable {T : Nat → Nat} {n : Nat} {g : Nat → Nat}
/-- The first place whose text is not less than the piece; how many from there on begin with it. -/
def lowOf (T : Nat → Nat) (n : Nat) (g : Nat → Nat) (s : List UInt8) : Nat := (List.range n).countP fun i => !atLeast T n g s i
def manyOf (T : Nat → Nat) (n : Nat) (g : Nat → Nat) (s : List UInt8) (i : Nat) : Nat := (List.range (n - i)).countP fun t => !!begins T n g s (t + i)

theorem stretch (hg : IsSA T n g) (hT : ∀ i, i < n → T i < 256) (s : List UInt8) :
    lowOf T n g s ≤ n ∧ lowOf T n g s + manyOf T n g s (lowOf T n g s) ≤ n ∧ ∀ r, r < n → (begins T n g s r = true ↔ lowOf T n g s ≤ r ∧ r < lowOf T n g s + manyOf T n g s (lowOf T n g s)) := by
  obtain ⟨h1, h2⟩ := count_mono (p := atLeast T n g s) n fun a b hab hb hp => atLeast_mono hg hT s hab hb hp
  have hlow : lowOf T n g s = (List.range n).countP fun i => !atLeast T n g s i := rfl
  rw [← hlow] at h1 h2
  obtain ⟨h3, h4⟩ := count_mono (p := fun t => !begins T n g s (t + lowOf T n g s)) (n - lowOf T n g s) fun a b hab hb hp => by
    simp only [Bool.not_eq_true'] at hp ⊢
    exact begins_mono hg hT s (by omega) (by omega) ((h2 _ (by omega)).2 (by omega)) hp
  have hmany : manyOf T n g s (lowOf T n g s) = (List.range (n - lowOf T n g s)).countP fun t => !!begins T n g s (t + lowOf T n g s) := rfl
  rw [← hmany] at h3 h4
  refine ⟨h1, by omega, fun r hr => ⟨fun hb => ?_, fun ⟨a, b⟩ => ?_⟩⟩
  · have h5 := (h2 r hr).1 (begins_atLeast hb)
    refine ⟨h5, ?_⟩
    have h6 := h4 (r - lowOf T n g s) (by omega)
    rw [show r - lowOf T n g s + lowOf T n g s = r by omega, hb] at h6
    simp at h6
    omega
  · have h6 := h4 (r - lowOf T n g s) (by omega)
    rw [show r - lowOf T n g s + lowOf T n g s = r by omega] at h6
    cases hb : begins T n g s r with
    | true => rfl
    | false =>
      rw [hb] at h6
      simp at h6
      omega

/-- What is found, sorted: the places where the piece stands, ascending. -/
theorem found_sorted (hg : IsSA T n g) (s : List UInt8) {i c : Nat} (hic : i + c ≤ n) (h : ∀ r, r < n → (begins T n g s r = true ↔ i ≤ r ∧ r < i + c)) :
    ((List.range c).map fun t => (g (i + t) : Int)).mergeSort (fun x y => decide (x ≤ y)) = ((List.range n).filter fun x => s.isPrefixOf (sg T n x)).map fun (x : Nat) => (x : Int) := by
  refine List.Perm.eq_of_pairwise (le := fun a b : Int => decide (a ≤ b) = true) (fun a b _ _ h1 h2 => by simp at h1 h2; omega) (List.pairwise_mergeSort (fun a b c h1 h2 => by simp at *; omega) (fun a b => by simp; omega) _) ?_ ((List.mergeSort_perm _ _).trans ?_)
  · refine List.pairwise_map.2 ((List.pairwise_lt_range.filter _).imp fun h1 => decide_eq_true (by omega))
  · rw [List.perm_ext_iff_of_nodup]
    · intro a
      simp only [List.mem_map, List.mem_range, List.mem_filter]
      constructor
      · rintro ⟨t, ht, rfl⟩
        exact ⟨g (i + t), ⟨hg.mem _ (by omega), (h (i + t) (by omega)).2 ⟨by omega, by omega⟩⟩, rfl⟩
      · rintro ⟨x, ⟨hx, hp⟩, rfl⟩
        obtain ⟨r, hr, rfl⟩ := onto_of_inj n g hg.mem (fun r r' h1 h2 he => by
          rcases Nat.lt_trichotomy r r' with h3 | h3 | h3
          · have := hg.inc r r' h3 h2; rw [he, sl_irrefl] at this; simp at this
          · exact h3
          · have := hg.inc r' r h3 h1; rw [he, sl_irrefl] at this; simp at this) x hx
        have := (h r hr).1 hp
        exact ⟨r - i, by omega, by rw [show i + (r - i) = r by omega]⟩
    · refine List.pairwise_map.2 (List.pairwise_lt_range.imp_of_mem fun {a b} ha hb hlt he => ?_)
      have ha' := List.mem_range.1 ha
      have hb' := List.mem_range.1 hb
      have h3 := hg.inc (i + a) (i + b) (by omega) (by omega)
      have he' : g (i + a) = g (i + b) := by omega
      rw [he', sl_irrefl] at h3
      simp at h3
    · refine List.pairwise_map.2 ((List.pairwise_lt_range.filter _).imp fun h1 he => by omega)
end

theorem filter_cut {p : Nat → Bool} {k : Nat} : ∀ n, k ≤ n → (∀ x, k ≤ x → x < n → p x = false) → (List.range n).filter p = (List.range k).filter p
  | 0, hk, _ => by rw [show k = 0 by omega]
  | n + 1, hk, h => by
    rcases Nat.lt_or_ge n k with h1 | h1
    · rw [show k = n + 1 by omega]
    · rw [List.range_succ, List.filter_append, filter_cut n h1 fun x a b => h x a (by omega)]
      simp [h n h1 (by omega)]

/-- The places where a piece of m bytes stands: none behind the last that leaves room for it. -/
theorem places_cut {T S : Nat → Nat} {n m : Nat} (hT : ∀ i, i < n → T i < 256) (hS : ∀ i, i < m → S i < 256) (hm : 0 < m) :
    ((List.range n).filter fun x => (sg S m 0).isPrefixOf (sg T n x)) = (List.range (n + 1 - m)).filter fun x => (sg S m 0).isPrefixOf (sg T n x) := by
  refine filter_cut n (by omega) fun x h1 h2 => ?_
  rw [← Bool.not_eq_true, prefix_iff hT hS m 0 x rfl (by omega) (by omega)]
  intro h
  have := h.1
  omega

end Go.Proofs.Ythmpjmohakdkmaa


namespace Go.Proofs.Ythmpjmohakdkmaa

/-- A text's array, sorted. -/
theorem sorted_all {T : Nat → Nat} {n : Nat} {g : Nat → Nat} (hg : IsSA T n g) :
    ((List.range n).map fun t => (g t : Int)).mergeSort (fun x y => decide (x ≤ y)) = (List.range n).map fun (x : Nat) => (x : Int) := by
  have h := found_sorted hg [] (i := 0) (c := n) (by omega) (fun r hr => by simp [begins]; exact hr)
  simp only [Nat.zero_add] at h
  rw [h, List.filter_eq_self.2 (fun _ _ => by simp)]

/-- The places where a piece stands, ascending; none of a piece of nothing. -/
def plcs (T : Nat → Nat) (n : Nat) (s : List UInt8) : List Nat := if s = [] then [] else (List.range n).filter fun x => s.isPrefixOf (sg T n x)

theorem plcs_nil (T : Nat → Nat) (n : Nat) : plcs T n [] = [] := by simp [plcs]
theorem mem_plcs {T : Nat → Nat} {n : Nat} {s : List UInt8} {x : Nat} : x ∈ plcs T n s ↔ s ≠ [] ∧ x < n ∧ s.isPrefixOf (sg T n x) = true := by
  unfold plcs
  split
  · rename_i h; simp [h]
  · rename_i h; simp [h]
theorem plcs_inc (T : Nat → Nat) (n : Nat) (s : List UInt8) : (plcs T n s).Pairwise (· < ·) := by
  unfold plcs
  split
  · exact List.Pairwise.nil
  · exact List.pairwise_lt_range.filter _
theorem plcs_len (T : Nat → Nat) (n : Nat) (s : List UInt8) : (plcs T n s).length ≤ n := by
  unfold plcs
  split
  · simp
  · exact Nat.le_trans (List.length_filter_le _ _) (by simp)

/-- What is told of a piece where k places are asked for, all where k is below 0. -/
structure Found (T : Nat → Nat) (n : Nat) (s : List UInt8) (k : Int) (c : Nat) (f : Nat → Nat) : Prop where
  mem : ∀ t, t < c → f t ∈ plcs T n s
  inj : ∀ t t', t < c → t' < c → f t = f t' → t = t'
  all : k < 0 → ∀ x, x ∈ plcs T n s → ∃ t, t < c ∧ f t = x
  cnt : c = if k < 0 then (plcs T n s).length else min k.toNat (plcs T n s).length

theorem Found.lt {T : Nat → Nat} {n : Nat} {s : List UInt8} {k : Int} {c : Nat} {f : Nat → Nat} (h : Found T n s k c f) {t : Nat} (ht : t < c) : f t < n := (mem_plcs.1 (h.mem t ht)).2.1
theorem Found.le {T : Nat → Nat} {n : Nat} {s : List UInt8} {k : Int} {c : Nat} {f : Nat → Nat} (h : Found T n s k c f) : c ≤ n := by
  have h1 := plcs_len T n s
  have h2 := h.cnt
  split at h2
  · omega
  · have := Nat.min_le_right k.toNat (plcs T n s).length
    omega
theorem found_none (T : Nat → Nat) (n : Nat) (k : Int) (f : Nat → Nat) : Found T n [] k 0 f :=
  ⟨fun _ h => absurd h (Nat.not_lt_zero _), fun _ _ h => absurd h (Nat.not_lt_zero _), fun _ x h => by simp [plcs_nil] at h, by simp [plcs_nil]⟩
theorem found_none_asked (T : Nat → Nat) (n : Nat) (s : List UInt8) (f : Nat → Nat) : Found T n s 0 0 f :=
  ⟨fun _ h => absurd h (Nat.not_lt_zero _), fun _ _ h => absurd h (Nat.not_lt_zero _), fun h => absurd h (by omega), by simp⟩

/-- What the index finds. -/
theorem found_of {T : Nat → Nat} {n : Nat} {g : Nat → Nat} (hg : IsSA T n g) (hT : ∀ i, i < n → T i < 256) {s : List UInt8} (hs : s ≠ []) (k : Int) {c : Nat}
    (hc : c = if k < 0 then manyOf T n g s (lowOf T n g s) else min k.toNat (manyOf T n g s (lowOf T n g s))) : Found T n s k c (fun t => g (lowOf T n g s + t)) := by
  obtain ⟨h1, h2, h3⟩ := stretch hg hT s
  have hp : plcs T n s = (List.range n).filter fun x => s.isPrefixOf (sg T n x) := if_neg hs
  have hf := found_sorted hg s h2 h3
  rw [← hp] at hf
  have hl : manyOf T n g s (lowOf T n g s) = (plcs T n s).length := by
    have := congrArg List.length hf
    simpa using this
  have hcl : c ≤ manyOf T n g s (lowOf T n g s) := by
    rw [hc]; split
    · exact Nat.le_refl _
    · exact Nat.min_le_right _ _
  refine ⟨fun t ht => mem_plcs.2 ⟨hs, hg.mem _ (by omega), (h3 _ (by omega)).2 ⟨by omega, by omega⟩⟩, fun t t' ht ht' he => ?_, fun hk x hx => ?_, by rw [hc, hl]⟩
  · have := hg.inj (by omega) (by omega) he; omega
  · have hm : (x : Int) ∈ (plcs T n s).map fun (x : Nat) => (x : Int) := List.mem_map.2 ⟨x, hx, rfl⟩
    rw [← hf, List.mem_mergeSort, List.mem_map] at hm
    obtain ⟨t, ht, he⟩ := hm
    rw [if_pos hk] at hc
    exact ⟨t, by rw [hc]; simpa using ht, by omega⟩

/-- What is told, as whole numbers; sorted. -/
def told (c : Nat) (f : Nat → Nat) : List Int := (List.range c).map fun t => (f t : Int)
def up (l : List Int) : List Int := l.mergeSort fun x y => decide (x ≤ y)
theorem up_length (l : List Int) : (up l).length = l.length := by simp [up]
theorem mem_up {l : List Int} {x : Int} : x ∈ up l ↔ x ∈ l := by simp [up]
theorem up_sorted (l : List Int) : (up l).Pairwise (· ≤ ·) :=
  (List.pairwise_mergeSort (fun a b c h1 h2 => by simp at *; omega) (fun a b => by simp; omega) l).imp fun h => by simpa using h
theorem told_nodup {T : Nat → Nat} {n : Nat} {s : List UInt8} {k : Int} {c : Nat} {f : Nat → Nat} (h : Found T n s k c f) : (told c f).Nodup := by
  unfold told
  refine List.pairwise_map.2 (List.pairwise_lt_range.imp_of_mem fun {a b} ha hb hlt he => ?_)
  have := h.inj a b (List.mem_range.1 ha) (List.mem_range.1 hb) (by omega)
  omega
theorem up_inc {T : Nat → Nat} {n : Nat} {s : List UInt8} {k : Int} {c : Nat} {f : Nat → Nat} (h : Found T n s k c f) : (up (told c f)).Pairwise (· < ·) := by
  have h1 : (up (told c f)).Nodup := (List.mergeSort_perm _ _).nodup_iff.2 (told_nodup h)
  exact (List.Pairwise.and (up_sorted _) h1).imp fun h2 => by have := h2.1; have := h2.2; omega
theorem up_all {T : Nat → Nat} {n : Nat} {s : List UInt8} {k : Int} {c : Nat} {f : Nat → Nat} (h : Found T n s k c f) (hk : k < 0) : up (told c f) = (plcs T n s).map fun (x : Nat) => (x : Int) := by
  refine List.Perm.eq_of_pairwise (le := fun a b : Int => a < b) (fun a b _ _ h1 h2 => by omega) (up_inc h) (List.pairwise_map.2 ((plcs_inc T n s).imp fun h1 => by omega)) ((List.mergeSort_perm _ _).trans ?_)
  rw [List.perm_ext_iff_of_nodup (told_nodup h) (List.pairwise_map.2 ((plcs_inc T n s).imp fun h1 he => by omega))]
  intro a
  simp only [told, List.mem_map, List.mem_range]
  constructor
  · rintro ⟨t, ht, rfl⟩; exact ⟨f t, h.mem t ht, rfl⟩
  · rintro ⟨x, hx, rfl⟩
    obtain ⟨t, ht, rfl⟩ := h.all hk x hx
    exact ⟨t, ht, rfl⟩
theorem mem_up_told {T : Nat → Nat} {n : Nat} {s : List UInt8} {k : Int} {c : Nat} {f : Nat → Nat} (h : Found T n s k c f) {x : Int} (hx : x ∈ up (told c f)) : x ∈ (plcs T n s).map fun (x : Nat) => (x : Int) := by
  rw [mem_up] at hx
  simp only [told, List.mem_map, List.mem_range] at hx
  obtain ⟨t, ht, rfl⟩ := hx
  exact List.mem_map.2 ⟨f t, h.mem t ht, rfl⟩

theorem prefix_app : ∀ (s m a : List UInt8), (s ++ m).isPrefixOf a = true → s.isPrefixOf a = true
  | [], _, _, _ => by simp
  | x :: s, m, [], h => by simp at h
  | x :: s, m, y :: a, h => by
    simp only [List.cons_append, List.isPrefixOf_cons_cons, Bool.and_eq_true] at h ⊢
    exact ⟨h.1, prefix_app s m a h.2⟩
/-- Where a longer piece stands its beginning stands. -/
theorem plcs_app {T : Nat → Nat} {n : Nat} {s m : List UInt8} (hs : s ≠ []) {x : Nat} (h : x ∈ plcs T n (s ++ m)) : x ∈ plcs T n s := by
  obtain ⟨_, h2, h3⟩ := mem_plcs.1 h
  exact mem_plcs.2 ⟨hs, h2, prefix_app s m _ h3⟩

end Go.Proofs.Ythmpjmohakdkmaa


namespace Go.Proofs.Ythmpjmohakdkmaa
open Go.RowKit

/-- A slice of n numbers that the call owns. -/
def OwnL (w : World) (B : Nat) (e : TypeId) (k : IntKind) (v : Value) (n : Nat) (f : Nat → Int) : Prop := w.ownsRow B e 1 v n ((List.range n).map fun x => Value.int k (f x))
/-- Two slices of the call's own lie in two blocks. -/
def TwoBlocks (v u : Value) : Prop := ∀ g, v.ownBlock = some g → u.ownBlock ≠ some g

section
variable {w w' : World} {B : Nat} {e : TypeId} {k : IntKind} {v u : Value} {n : Nat} {f g : Nat → Int}
theorem OwnL.congr (h : OwnL w B e k v n f) (he : ∀ j, j < n → f j = g j) : OwnL w B e k v n g := by
  have : ((List.range n).map fun x => Value.int k (f x)) = (List.range n).map fun x => Value.int k (g x) := List.map_congr_left fun x hx => by rw [he x (by simpa using hx)]
  unfold OwnL at *
  rw [← this]; exact h
theorem OwnL.kept (h : OwnL w B e k v n f) (hg : w.grownBy w' u.ownBlock) (h2 : TwoBlocks v u) : OwnL w' B e k v n f := by
  refine World.ownsRow.kept h hg ?_
  cases hv : v.ownBlock with
  | none => exact .inl rfl
  | some x => exact .inr fun e => h2 x hv e.symm
theorem OwnL.keptAll (h : OwnL w B e k v n f) (hk : Kept (fun _ _ => False) w w') : OwnL w' B e k v n f :=
  World.ownsRow.kept (row := none) h ⟨hk.os, hk.tape, hk.output, hk.size, fun y hy _ => hk.block y hy fun _ hf => hf⟩ (by
    cases hv : v.ownBlock with
    | none => exact .inl rfl
    | some x => exact .inr fun e => by cases e)
theorem OwnL.below (h : OwnL w B e k v n f) : ∀ x, v.ownBlock = some x → B ≤ x ∧ x < w.heap.size := World.ownsRow.lt h
theorem TwoBlocks.symm (h : TwoBlocks v u) : TwoBlocks u v := fun x h1 h2 => h x h2 h1

/-- An append of one number. -/
theorem append_one {P : Program} (t ty : TypeId) (i : TypeInfo) (ht : P.underlying t = some (.slice e)) (hi : P.info? e = some i) (hz : i.zero = some (.int k 0)) (hsz : i.size = 1) (hby : i.bytes ≤ 8)
    (h : OwnL w B e k v n f) (hn : n < 1073741824) (hB : B ≤ w.heap.size) (x : Int) :
    ∃ v' w', (Builtin.append_ #[t, t] ty #[v, .slice (some ⟨w.heap.size, 0, none⟩) 1 1]).run P (w.alloc (.cells #[.int k x] e)) = .ok v' w' ∧ OwnL w' B e k v' (n + 1) (fun j => if j < n then f j else x) ∧ w.grownBy w' v.ownBlock ∧
      (v'.ownBlock = v.ownBlock ∨ ∃ b, v'.ownBlock = some b ∧ w.heap.size ≤ b) := by
  have hal : OwnL (w.alloc (.cells #[.int k x] e)) B e k v n f := World.ownsRow.alloc h _
  have hnews : ∀ j u, [Value.int k x][j]? = some u → (w.alloc (.cells #[.int k x] e)).cell? ((⟨w.heap.size, 0, none⟩ : Addr).add j) = some u := fun j u hj => by
    match j, hj with
    | 0, hj => simp at hj; subst hj; simp [Addr.add]
  have h1 : ∀ u ∈ [Value.int k x], u.oneCell' = true := fun u hu => by simp at hu; subst hu; rfl
  have hbytes : (n + 1) * i.bytes ≤ 140737488355328 := by
    have : (n + 1) * i.bytes ≤ 1073741824 * 8 := Nat.mul_le_mul (by omega) hby
    omega
  obtain ⟨v', w', hr, hown, hg, _⟩ := run_append_own (P := P) (w.alloc (.cells #[.int k x] e)) B t ty e i (.int k 0) 1 i.bytes ht hi hz hsz rfl rfl (by omega) v n _ hal ⟨w.heap.size, 0, none⟩ 1 1 [.int k x] rfl hnews h1 (by unfold maxLen; omega) hbytes (by simp; omega)
  have hsize : (w.alloc (.cells #[.int k x] e)).heap.size = w.heap.size + 1 := by simp
  refine ⟨v', w', hr, ?_, ⟨hg.os, hg.tape, hg.output, by have := hg.size; omega, fun y hy hne => (hg.block y (by omega) hne).trans (Below.heap_alloc w _ y hy)⟩, ?_⟩
  · unfold OwnL
    have : ((List.range n).map fun y => Value.int k (f y)) ++ [Value.int k x] = (List.range (n + 1)).map fun y => Value.int k (if y < n then f y else x) := by
      rw [List.range_succ, List.map_append]
      congr 1
      · exact List.map_congr_left fun y hy => by rw [if_pos (by simpa using hy)]
      · simp
    rw [← this]; exact hown
  · rcases hal.2 with ⟨rfl, rfl⟩ | ⟨b, cap, cur, rfl, hb, hbb, hnc, hcm, hcs, htake⟩
    · have := run_append_nil (P := P) (w.alloc (.cells #[.int k x] e)) t ty e i (.int k 0) ht hi hz ⟨w.heap.size, 0, none⟩ 1 1 [.int k x] (by rw [hsz]; rfl) hnews (by omega) (by omega) (by omega)
      rw [hr] at this
      simp only [Result.ok.injEq] at this
      rw [this.1]
      exact .inr ⟨_, rfl, by show w.heap.size ≤ (w.alloc _).heap.size; rw [hsize]; omega⟩
    · by_cases hroom : n + 1 ≤ cap
      · have := run_append_room (P := P) (w.alloc (.cells #[.int k x] e)) t ty e i ht hi b n cap cur hbb ⟨w.heap.size, 0, none⟩ 1 1 [.int k x] (by rw [hsz]; rfl) hnews h1 hroom (by rw [hsz, hcs]; simp; omega)
        rw [hr] at this
        simp only [Result.ok.injEq] at this
        rw [this.1]
        exact .inl rfl
      · have := run_append_grow (P := P) (w.alloc (.cells #[.int k x] e)) t ty e i (.int k 0) ht hi hz ⟨b, 0, none⟩ n cap _ (by rw [hsz]; exact hal.1) (fun j u hj => World.ownsRow.cells hal (g := b) rfl j u hj) ⟨w.heap.size, 0, none⟩ 1 1 [.int k x] (by rw [hsz]; rfl) hnews (by omega) (by omega) (growslice_fits (by omega) hbytes)
        rw [hr] at this
        simp only [Result.ok.injEq] at this
        rw [this.1]
        exact .inr ⟨_, rfl, by show w.heap.size ≤ (w.alloc _).heap.size; rw [hsize]; omega⟩

/-- Behind an append: the other slice lies elsewhere still. -/
theorem TwoBlocks.appended {v' : Value} (h : TwoBlocks u v) (hu : ∀ x, u.ownBlock = some x → x < w.heap.size) (hb : v'.ownBlock = v.ownBlock ∨ ∃ b, v'.ownBlock = some b ∧ w.heap.size ≤ b) : TwoBlocks u v' := fun x h1 h2 => by
  rcases hb with hb | ⟨b, hb, hle⟩
  · rw [hb] at h2; exact h x h1 h2
  · rw [hb] at h2
    have := hu x h1
    simp at h2; omega
end

end Go.Proofs.Ythmpjmohakdkmaa


namespace Go.Proofs.Ythmpjmohakdkmaa
open Go.RowKit

/-- Numbers as a list. -/
def ints (f : Nat → Int) (n : Nat) : List Int := (List.range n).map f
theorem ints_len (f : Nat → Int) (n : Nat) : (ints f n).length = n := by simp [ints]
theorem ints_get (f : Nat → Int) {n x : Nat} (h : x < n) : (ints f n)[x]? = some (f x) := by simp [ints, h]

set_option maxHeartbeats 1000000 in
set_option maxRecDepth 100000 in
/-- slices.Clone at some numbers. -/
theorem clone_row (b o n c : Nat) (f : Nat → Int) (w : World) (hR : Row w .i64 b o n f) (h0 : 0 < n) (hn : n ≤ 1073741824) :
    Calls Try.prog 22 #[.slice (some ⟨b, o, none⟩) n c] w fun e w' =>
      ∃ g cap, e = .returned (.slice (some ⟨g, 0, none⟩) n cap) ∧ w.heap.size ≤ g ∧ Row w' .i64 g 0 n f ∧ Kept (fun _ _ => False) w w' := by
  obtain ⟨i0, hi, hz0, hz1, hz2⟩ := info_parts info_int
  have hb : b < w.heap.size := hR.lt h0
  have h2 := World.ownsRow_made (base := w.heap.size) (e := 3) (size := 1) w #[] 0 (by simp) (by unfold maxLen; omega) rfl
  have hsize : (w.alloc (.cells #[] 3)).heap.size = w.heap.size + 1 := by simp
  obtain ⟨v', w', hr, hown, hg, _⟩ := run_append_own (P := Try.prog) (w.alloc (.cells #[] 3)) w.heap.size 24 24 3 i0 (.int .i64 0) 1 i0.bytes Try.underlying24 hi hz0 hz1 rfl rfl (by omega) (.slice (some ⟨w.heap.size, 0, none⟩) 0 0) 0 [] h2 ⟨b, o, none⟩ n c ((List.range n).map fun x => Value.int .i64 (f x)) (by simp)
    (fun j u hj => by
      have hjn : j < n := by have := (List.getElem?_eq_some_iff.1 hj).1; simpa using this
      have e1 : ((List.range n).map fun x => Value.int .i64 (f x))[j]? = some (.int .i64 (f j)) := by simp [hjn]
      rw [e1] at hj
      rw [Addr.add_lit, World.cell?_alloc_past _ _ _ (by exact hb), hR.cell j hjn]; exact hj)
    (fun u hu => by simp only [List.mem_map] at hu; obtain ⟨x, _, rfl⟩ := hu; rfl) (by unfold maxLen; omega) (by rw [hz2]; omega) (by rw [hsize]; omega)
  have hk : Kept (fun _ _ => False) w w' := below_kept (((Below.refl _ _).alloc (Nat.le_refl _) _).grown hg (by rw [hsize]; omega) fun x hx => by simp [Value.ownBlock] at hx; omega)
  rw [List.nil_append, Nat.zero_add] at hown
  obtain ⟨g, cap, rfl, hgb, _, hR'⟩ := own_row hown h0
  have HR := Lib.hid hR'
  have HK := Lib.hid hk
  clear hi hz0 hz1 hz2 hR hown hg h2 hR' hk
  have q1 : ∀ (w : World) (a : Option Addr) (n c n' c' : Nat), (binOp .eql 24 (.slice a n c) (.slice none n' c')).run Try.prog w = .ok (.bool a.isNone) w := fun w a n c n' c' => Lib.run_eql_slice_nil w _ _ a n c n' c' Try.underlying24
  go_enter Try.func22, Try.ntmps22
  go_wp2_with (at_builtin; refine Lib.wpList_append_run_sl _ rfl _ _ _ rfl _ _ rfl rfl hr ?_)
  go_ret
  exact ⟨g, cap, rfl, hgb, HR.out, HK.out⟩

set_option maxHeartbeats 1000000 in
set_option maxRecDepth 100000 in
/-- slices.Clone at no number. -/
theorem clone_zero (a : Option Addr) (c : Nat) (w : World) :
    Calls Try.prog 22 #[.slice a 0 c] w fun e w' => ∃ a' c', e = .returned (.slice a' 0 c') ∧ Kept (fun _ _ => False) w w' := by
  obtain ⟨i0, hi, hz0, hz1, hz2⟩ := info_parts info_int
  have q1 : ∀ (w : World) (a : Option Addr) (n c n' c' : Nat), (binOp .eql 24 (.slice a n c) (.slice none n' c')).run Try.prog w = .ok (.bool a.isNone) w := fun w a n c n' c' => Lib.run_eql_slice_nil w _ _ a n c n' c' Try.underlying24
  cases a with
  | none =>
    go_enter Try.func22, Try.ntmps22
    go_wp2_with fail
    go_ret
    exact ⟨_, _, rfl, Kept.refl _ _⟩
  | some a =>
    have h2 := World.ownsRow_made (base := w.heap.size) (e := 3) (size := 1) w #[] 0 (by simp) (by unfold maxLen; omega) rfl
    have hsize : (w.alloc (.cells #[] 3)).heap.size = w.heap.size + 1 := by simp
    obtain ⟨v', w', hr, hown, hg, _⟩ := run_append_own (P := Try.prog) (w.alloc (.cells #[] 3)) w.heap.size 24 24 3 i0 (.int .i64 0) 1 i0.bytes Try.underlying24 hi hz0 hz1 rfl rfl (by omega) (.slice (some ⟨w.heap.size, 0, none⟩) 0 0) 0 [] h2 a 0 c [] (by simp)
      (fun j u hj => by simp at hj) (fun u hu => by simp at hu) (by unfold maxLen; omega) (by rw [hz2]; omega) (by rw [hsize]; omega)
    have hk : Kept (fun _ _ => False) w w' := below_kept (((Below.refl _ _).alloc (Nat.le_refl _) _).grown hg (by rw [hsize]; omega) fun x hx => by simp [Value.ownBlock] at hx; omega)
    obtain ⟨a', cap, rfl⟩ := own_zero hown
    have HK := Lib.hid hk
    clear hi hz0 hz1 hz2 hown hg h2 hk
    go_enter Try.func22, Try.ntmps22
    go_wp2_with (at_builtin; refine Lib.wpList_append_run_sl _ rfl _ _ _ rfl _ _ rfl rfl hr ?_)
    go_ret
    exact ⟨⟨a', cap, rfl⟩, HK.out⟩

/-- slices.Sort at some numbers. -/
theorem sort_row (g n cap : Nat) (f : Nat → Int) (w : World) (h0 : 0 < n) (hn : n ≤ 1073741824) (hR : Row w .i64 g 0 n f) :
    Calls Try.prog 23 #[.slice (some ⟨g, 0, none⟩) n cap] w fun e w' =>
      e = .returned (.tuple #[]) ∧ Row w' .i64 g 0 n (fun x => (up (ints f n)).getD x 0) ∧ Kept (reg g 0 n) w w' := by
  have hgl : g < w.heap.size := hR.lt h0
  have hH : Go.Sort.Holds (Value.int .i64) w g 0 (ints f n).toArray := fun j hj => by
    have hj' : j < n := by simpa [ints] using hj
    have : (ints f n).toArray[j]! = f j := by rw [getElem!_pos (ints f n).toArray j hj]; simp [ints]
    rw [this]
    exact ⟨hR.cell j hj', hR.free j hj'⟩
  have hS := AnyM.slices_Sort_int Try.srtL g 0 cap (ints f n) w hH hgl (by rw [ints_len]; omega)
  rw [ints_len] at hS
  change Calls Try.prog 23 _ _ _ at hS
  refine hS.mono ?_
  rintro e w' ⟨rfl, m, os, rfl⟩
  have hlen : (up (ints f n)).length = n := by rw [up_length, ints_len]
  have hsz : ((up (ints f n)).toArray).size = n := by simpa using hlen
  refine ⟨rfl, ?_, ?_⟩
  · have h1 := Go.Sort.holds_grow _ _ os g 0 (up (ints f n)).toArray (by simpa using hgl) (Go.Sort.holds_putRow (Value.int .i64) (Go.Sort.ahead w m) g 0 (ints f n).toArray (up (ints f n)).toArray hH (by rw [hsz]; simp [ints]))
    refine ⟨fun j hj => ?_, fun j hj => (h1 j (by omega)).2⟩
    have h2 := (h1 j (by omega)).1
    rw [getElem!_pos (up (ints f n)).toArray j (by omega)] at h2
    rw [show (up (ints f n)).getD j 0 = (up (ints f n)).toArray[j]'(by omega) by simp [List.getD, show j < (up (ints f n)).length by omega]]
    exact h2
  · have k1 : Kept (reg g 0 n) w (Go.Sort.putRow (Value.int .i64) (Go.Sort.ahead w m) g 0 (up (ints f n)).toArray) := by
      refine ⟨rfl, rfl, rfl, by simp, fun x hx hr => ?_, fun x y hx hr => ?_, fun x y hx => by rw [Go.Sort.frozen?_putRow]; rfl⟩
      · have hne : x ≠ g := fun e => hr 0 ⟨e, Nat.zero_le _, by omega⟩
        unfold Go.Sort.putRow Go.Sort.mapBlock
        simp [Array.getElem?_modify, Ne.symm hne]
      · rw [Go.Sort.cell?_putRow_other _ _ _ _ _ _ (by
          by_cases e : x = g
          · right; right
            unfold reg at hr
            show 0 + (up (ints f n)).toArray.size ≤ y
            omega
          · left; exact e)]
        rfl
    refine k1.trans ⟨rfl, rfl, rfl, by simp, fun x hx _ => Go.Sort.heap_grow_old _ os hx, fun x y hx _ => Go.Sort.cell?_grow _ os _ hx, fun x y hx => Go.Sort.frozen?_grow _ os _ hx⟩

set_option maxHeartbeats 1000000 in
set_option maxRecDepth 100000 in
/-- The sorted copy of some numbers. -/
theorem sorted_row (b o n c : Nat) (f : Nat → Int) (w : World) (hR : Row w .i64 b o n f) (h0 : 0 < n) (hn : n ≤ 1073741824) :
    Calls Try.prog 13 #[.slice (some ⟨b, o, none⟩) n c] w fun e w' =>
      ∃ g cap, e = .returned (.slice (some ⟨g, 0, none⟩) n cap) ∧ Row w' .i64 g 0 n (fun x => (up (ints f n)).getD x 0) ∧ Kept (fun _ _ => False) w w' := by
  go_enter Try.func13, Try.ntmps13
  go_wp2_with fail
  refine (clone_row b o n c f w hR h0 hn).mono ?_
  rintro e w1 ⟨g, cap, rfl, hg, hR1, hk1⟩
  go_wp2_with fail
  refine (sort_row g n cap f w1 h0 hn hR1).mono ?_
  rintro e w2 ⟨rfl, hR2, hk2⟩
  go_wp2_with fail
  go_ret
  exact ⟨g, cap, rfl, hR2, hk1.fresh hk2 fun x y hr => by have := hr.1; omega⟩

set_option maxHeartbeats 1000000 in
set_option maxRecDepth 100000 in
/-- The sorted copy of no number. -/
theorem sorted_zero (a : Option Addr) (c : Nat) (w : World) :
    Calls Try.prog 13 #[.slice a 0 c] w fun e w' => ∃ a' c', e = .returned (.slice a' 0 c') ∧ Kept (fun _ _ => False) w w' := by
  have hS := fun a c W => AnyM.slices_Sort_int_none (P := Try.prog) (ρ := Try.srtL_ren) { Try.srtL with } a c W
  change ∀ a c W, Calls Try.prog 23 _ _ _ at hS
  go_enter Try.func13, Try.ntmps13
  go_wp2_with fail
  refine (clone_zero a c w).mono ?_
  rintro e w1 ⟨a1, c1, rfl, hk1⟩
  go_wp2_with fail
  refine (hS a1 c1 w1).mono ?_
  rintro e w2 ⟨rfl, rfl⟩
  go_wp2_with fail
  go_ret
  exact ⟨a1, c1, rfl, hk1⟩

end Go.Proofs.Ythmpjmohakdkmaa
