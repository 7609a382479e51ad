/-
  The order of a text's ends and of the turned text's; two arrays of one text are one. No condition.
  The comparison of what stands at two places of a text, as bytes. No condition.
  An append of one number to a slice of the call's own, and whose block it then lies in. No condition.
  Walks over the comparison of two slices. No condition but those typed.
  The sorted places of a text: the order is strict, and what is sorted is the text's array. No condition.
  Walks over the array of a text as the specification makes it, by a sort of the places. No condition but those typed.
-/
import Derived.Test.YthmpjmohakdkmaaRound
import Derived.Test.YthmpjmohakdkmaaIn
import Derived.Test.YthmpjmohakdkmaaLayF
import Derived.Lib.BytesEntry
import Derived.Deep.QuietTactic
import Derived.BigQuiet
import Derived.Shelf.SlSortCmp.Insertion
namespace Go.Proofs.Ythmpjmohakdkmaa

/-- The text whose bytes are below 255 and above 0, a 0 at the end; the same taken from 255. -/
def lowT (T : Nat → Nat) (n i : Nat) : Nat := if i < n then 1 + T i % 254 else 0
def highT (T : Nat → Nat) (n i : Nat) : Nat := if i < n then 255 - (1 + T i % 254) else 255
theorem low_le (T : Nat → Nat) (n i : Nat) : lowT T n i ≤ 254 := by
  unfold lowT
  have := Nat.mod_lt (T i) (show 0 < 254 by omega)
  split <;> omega
theorem high_low (T : Nat → Nat) (n i : Nat) : highT T n i = 255 - lowT T n i := by
  unfold lowT highT
  split <;> omega
theorem low_end (T : Nat → Nat) (n i : Nat) (h : i < n) : lowT T n n < lowT T n i := by
  unfold lowT
  rw [if_neg (by omega), if_pos h]; omega

/-- The order turned. -/
theorem turn_sl (T : Nat → Nat) (n : Nat) : ∀ d x y, d = n + 1 - x → x < n + 1 → y < n + 1 → x ≠ y → sl (highT T n) (n + 1) x y = sl (lowT T n) (n + 1) y x := by
  intro d
  induction d with
  | zero => intro x y hd hx; omega
  | succ d ih =>
    intro x y hd hx hy hne
    have key : sl (highT T n) (n + 1) x y = true ↔ sl (lowT T n) (n + 1) y x = true := by
      rw [sl_iff _ _ x y hx hy, sl_iff _ _ y x hy hx, high_low, high_low]
      have h1 := low_le T n x
      have h2 := low_le T n y
      by_cases he : lowT T n x = lowT T n y
      · have hxn : x < n := by
          rcases Nat.lt_or_ge x n with h | h
          · exact h
          · have e1 : x = n := by omega
            have e2 : y < n := by omega
            have := low_end T n y e2
            rw [e1] at he; omega
        have hyn : y < n := by
          rcases Nat.lt_or_ge y n with h | h
          · exact h
          · have e1 : y = n := by omega
            have := low_end T n x hxn
            rw [e1] at he; omega
        rw [ih (x + 1) (y + 1) (by omega) (by omega) (by omega) (by omega)]
        constructor
        · rintro (h | ⟨_, h⟩)
          · omega
          · exact .inr ⟨he.symm, h⟩
        · rintro (h | ⟨_, h⟩)
          · omega
          · exact .inr ⟨by omega, h⟩
      · constructor
        · rintro (h | ⟨h, _⟩)
          · left; omega
          · omega
        · rintro (h | ⟨h, _⟩)
          · left; omega
          · omega
    rw [Bool.eq_iff_iff]; exact key

theorem up_id {n : Nat} {h : Nat → Nat} (hm : ∀ r, r < n → h r < n) (hi : ∀ r r', r < r' → r' < n → h r < h r') : ∀ r, r < n → h r = r := by
  have lo : ∀ r, r < n → r ≤ h r := fun r => by
    induction r with
    | zero => intro _; omega
    | succ r ih => intro hr; have := hi r (r + 1) (by omega) hr; have := ih (by omega); omega
  have up : ∀ d r, r + d + 1 = n → h r ≤ r := fun d => by
    induction d with
    | zero => intro r hr; have := hm r (by omega); omega
    | succ d ih => intro r hr; have := ih (r + 1) (by omega); have := hi r (r + 1) (by omega) (by omega); omega
  intro r hr
  have := lo r hr
  have := up (n - 1 - r) r (by omega)
  omega

/-- Two arrays of one text are one. -/
theorem IsSA.same {T : Nat → Nat} {n : Nat} {g g' : Nat → Nat} (hg : IsSA T n g) (hg' : IsSA T n g') : ∀ r, r < n → g r = g' r := by
  have inj : ∀ r r', r < n → r' < n → g' r = g' r' → r = r' := fun r r' hr hr' he => by
    rcases Nat.lt_trichotomy r r' with h1 | h1 | h1
    · have := hg'.inc r r' h1 hr'; rw [he, sl_irrefl] at this; simp at this
    · exact h1
    · have := hg'.inc r' r h1 hr; rw [he, sl_irrefl] at this; simp at this
  have onto : ∀ x, x < n → ∃ r, r < n ∧ g' r = x := onto_of_inj n g' hg'.mem inj
  have hex : ∀ r, ∃ q, r < n → q < n ∧ g' q = g r := fun r => by
    by_cases hr : r < n
    · obtain ⟨q, h1, h2⟩ := onto (g r) (hg.mem r hr)
      exact ⟨q, fun _ => ⟨h1, h2⟩⟩
    · exact ⟨0, fun h => absurd h hr⟩
  obtain ⟨h, hh⟩ := Classical.axiomOfChoice hex
  have hid := up_id (n := n) (h := h) (fun r hr => (hh r hr).1) fun r r' hlt hr' => by
    have h1 := hg.inc r r' hlt hr'
    have h2 := hh r (by omega)
    have h3 := hh r' hr'
    rw [← h2.2, ← h3.2] at h1
    rcases Nat.lt_trichotomy (h r) (h r') with h4 | h4 | h4
    · exact h4
    · rw [h4, sl_irrefl] at h1; simp at h1
    · rw [sl_asymm (hg'.inc _ _ h4 h2.1)] at h1; simp at h1
  intro r hr
  have := (hh r hr).2
  rw [hid r hr] at this
  exact this.symm

/-- The arrays of the text and of the turned one. -/
theorem turn_sa {T : Nat → Nat} {n : Nat} {g g' : Nat → Nat} (hg : IsSA (lowT T n) (n + 1) g) (hg' : IsSA (highT T n) (n + 1) g') : ∀ r, r < n + 1 → g r = g' (n - r) := by
  refine hg.same ⟨fun r _ => hg'.mem _ (by omega), fun r r' h1 h2 => ?_⟩
  have h3 := hg'.inc (n - r') (n - r) (by omega) (by omega)
  have hne : g' (n - r') ≠ g' (n - r) := fun e => by rw [e, sl_irrefl] at h3; simp at h3
  rw [turn_sl T n _ _ _ rfl (hg'.mem _ (by omega)) (hg'.mem _ (by omega)) hne] at h3
  exact h3

end Go.Proofs.Ythmpjmohakdkmaa


namespace Go.Proofs.Ythmpjmohakdkmaa
open Go.RowKit

/-- What stands at a place, up to the end. -/
def seg (T : Nat → Nat) (n i : Nat) : List Int := (List.range (n - i)).map fun x => (T (i + x) : Int)
theorem seg_n (T : Nat → Nat) (n : Nat) : seg T n n = [] := by simp [seg]
theorem seg_step (T : Nat → Nat) (n i : Nat) (h : i < n) : seg T n i = (T i : Int) :: seg T n (i + 1) := by
  unfold seg
  obtain ⟨d, hd⟩ : ∃ d, n - i = d + 1 := ⟨n - i - 1, by omega⟩
  rw [hd, List.range_succ_eq_map, show n - (i + 1) = d by omega]
  simp only [List.map_cons, Nat.add_zero, List.map_map, List.cons.injEq, true_and]
  exact List.map_congr_left fun x _ => by simp only [Function.comp]; rw [show i + x.succ = i + 1 + x by omega]
theorem seg_length (T : Nat → Nat) (n i : Nat) : (seg T n i).length = n - i := by simp [seg]
theorem seg_get (T : Nat → Nat) (n i x : Nat) (h : x < n - i) : (seg T n i).getD x 0 = (T (i + x) : Int) := by simp [seg, List.getD, h]

theorem byte_lt {x y : Nat} (hx : x < 256) (hy : y < 256) : ((x : Int).toNat.toUInt8 < (y : Int).toNat.toUInt8) ↔ x < y := by
  rw [UInt8.lt_iff_toNat_lt]
  simp only [Int.toNat_natCast, Nat.toUInt8, UInt8.toNat_ofNat']
  rw [Nat.mod_eq_of_lt (by omega), Nat.mod_eq_of_lt (by omega)]

/-- The comparison's answer. -/
def cmpT (T : Nat → Nat) (n i j : Nat) : Int := if i = j then 0 else if sl T n i j = true then -1 else 1
/-- Bytes are compared as the ends of the text are. -/
theorem cmp_sl {T : Nat → Nat} {n : Nat} (hT : ∀ i, i < n → T i < 256) : ∀ d i j, d = n - i → i ≤ n → j ≤ n →
    Lib.compareBytes (Lib.bytesOf (seg T n i)) (Lib.bytesOf (seg T n j)) = cmpT T n i j := by
  unfold cmpT
  intro d
  induction d with
  | zero =>
    intro i j hd hi hj
    have : i = n := by omega
    subst this
    rw [seg_n]
    by_cases e : j = i
    · subst e; rw [seg_n]; simp [Lib.bytesOf, Lib.compareBytes]
    · rw [seg_step T i j (by omega), sl_n T i j (by omega), if_neg (by omega)]
      simp [Lib.bytesOf, Lib.compareBytes]
  | succ d ih =>
    intro i j hd hi hj
    rw [seg_step T n i (by omega)]
    by_cases e : j = n
    · subst e
      rw [seg_n, if_neg (by omega), sl_asymm (sl_n T j i (by omega))]
      simp [Lib.bytesOf, Lib.compareBytes]
    · rw [seg_step T n j (by omega)]
      have hi' := hT i (by omega)
      have hj' := hT j (by omega)
      have hih := ih (i + 1) (j + 1) (by omega) (by omega) (by omega)
      have hsl := sl_iff T n i j (by omega) (by omega)
      simp only [Lib.bytesOf, List.map_cons, Lib.compareBytes]
      simp only [Lib.bytesOf] at hih
      by_cases h1 : T i < T j
      · rw [if_pos ((byte_lt hi' hj').2 h1), if_neg (by intro q; subst q; omega), if_pos (hsl.2 (.inl h1))]
      · rw [if_neg (fun q => h1 ((byte_lt hi' hj').1 q))]
        by_cases h2 : T j < T i
        · rw [if_pos ((byte_lt hj' hi').2 h2), if_neg (by intro q; subst q; omega), if_neg (fun q => by rcases hsl.1 q with q | ⟨q, _⟩ <;> omega)]
        · rw [if_neg (fun q => h2 ((byte_lt hj' hi').1 q)), hih]
          by_cases h3 : i = j
          · subst h3; simp
          · rw [if_neg (by omega), if_neg h3]
            by_cases h4 : sl T n (i + 1) (j + 1) = true
            · rw [if_pos h4, if_pos (hsl.2 (.inr ⟨by omega, h4⟩))]
            · rw [if_neg h4, if_neg (fun q => by
                rcases hsl.1 q with q | ⟨_, q⟩
                · omega
                · exact h4 q)]

/-- The entry, at two stretches of bytes. -/
theorem run_compareSlices {P : Program} {w : World} (b o n c b' o' n' c' : Nat) (xs ys : List Int) (hx : xs.length = n) (hy : ys.length = n') (hc : ∀ i, i < n → w.cell? ⟨b, o + i, none⟩ = some (.int .u8 (xs.getD i 0)))
    (hc' : ∀ i, i < n' → w.cell? ⟨b', o' + i, none⟩ = some (.int .u8 (ys.getD i 0))) :
    (Extern.BytealgCompare.compare #[.slice (some ⟨b, o, none⟩) n c, .slice (some ⟨b', o', none⟩) n' c']).run P w = .ok (.int .i64 (Lib.compareBytes (Lib.bytesOf xs) (Lib.bytesOf ys))) w := by
  have key : ∀ (b o n c : Nat) (xs : List Int), xs.length = n → (∀ i, i < n → w.cell? ⟨b, o + i, none⟩ = some (.int .u8 (xs.getD i 0))) → (Extern.Bytes.bytesOf (.slice (some ⟨b, o, none⟩) n c)).run P w = .ok ⟨(Lib.bytesOf xs).toArray⟩ w := fun b o n c xs hx hc => by
    have hl := Lib.run_loadBytesX (P := P) w xs ⟨b, o, none⟩ .empty (fun j x hj => by
      have hjl : j < xs.length := (List.getElem?_eq_some_iff.1 hj).1
      rw [Addr.add_lit, hc j (by omega), List.getD_eq_getElem?_getD, hj]
      rfl)
    rw [hx] at hl
    have he : (⟨ByteArray.empty.data ++ (Lib.bytesOf xs).toArray⟩ : ByteArray) = ⟨(Lib.bytesOf xs).toArray⟩ := by
      apply ByteArray.ext
      show (#[] : Array UInt8) ++ (Lib.bytesOf xs).toArray = (Lib.bytesOf xs).toArray
      simp
    rw [he] at hl
    exact hl
  change Sem.run P (do pure (goInt (Extern.BytealgCompare.cmp (← Extern.Bytes.bytesOf (.slice (some ⟨b, o, none⟩) n c)) (← Extern.Bytes.bytesOf (.slice (some ⟨b', o', none⟩) n' c'))))) w = _
  simp only [Sem.run_bind, Sem.run_pure, key b o n c xs hx hc, key b' o' n' c' ys hy hc', Result.andThen]
  rw [Lib.cmp_eq]
  rfl

set_option maxHeartbeats 1000000 in
set_option maxRecDepth 100000 in
/-- The comparison of two ends of a text. -/
theorem compare_any (b o n i j ci cj : Nat) (T : Nat → Nat) (w : World) (hc : ∀ x, x < n → w.cell? ⟨b, o + x, none⟩ = some (.int .u8 (T x : Int))) (hTK : ∀ i, i < n → T i < 256) (hi : i < n) (hj : j < n) :
    Calls Try.prog 19 #[.slice (some ⟨b, o + i, none⟩) (n - i) ci, .slice (some ⟨b, o + j, none⟩) (n - j) cj] w fun e w' => e = .returned (.int .i64 (cmpT T n i j)) ∧ w' = w := by
  have hrun := run_compareSlices (P := Try.prog) (w := w) b (o + i) (n - i) ci b (o + j) (n - j) cj (seg T n i) (seg T n j) (seg_length _ _ _) (seg_length _ _ _)
    (fun x hx => by rw [seg_get T n i x hx, Nat.add_assoc]; exact hc (i + x) (by omega)) (fun x hx => by rw [seg_get T n j x hx, Nat.add_assoc]; exact hc (j + x) (by omega))
  rw [cmp_sl hTK _ i j rfl (by omega) (by omega)] at hrun
  clear hc hTK
  go_enter Try.func19, Try.ntmps19
  go_wp2
  rw [run_callFunc_extern Try.func26 (by kernel_rfl) (by kernel_rfl) (by kernel_rfl) (e := Extern.BytealgCompare.compare) (by kernel_rfl), hrun]
  simp only [Result.andThen]
  rw [Oper.upon_value]
  go_wp2
  go_ret
  exact ⟨rfl, rfl⟩

end Go.Proofs.Ythmpjmohakdkmaa


namespace Go.Proofs.Ythmpjmohakdkmaa
open Go.RowKit

/-- A slice of n numbers that the call owns. -/
def OwnL (w : World) (B : Nat) (e : TypeId) (k : IntKind) (v : Value) (n : Nat) (f : Nat → Int) : Prop := w.ownsRow B e 1 v n ((List.range n).map fun x => Value.int k (f x))
/-- Two slices of the call's own lie in two blocks. -/
def TwoBlocks (v u : Value) : Prop := ∀ g, v.ownBlock = some g → u.ownBlock ≠ some g

section
variable {w w' : World} {B : Nat} {e : TypeId} {k : IntKind} {v u : Value} {n : Nat} {f g : Nat → Int}
theorem OwnL.congr (h : OwnL w B e k v n f) (he : ∀ j, j < n → f j = g j) : OwnL w B e k v n g := by
  have : ((List.range n).map fun x => Value.int k (f x)) = (List.range n).map fun x => Value.int k (g x) := List.map_congr_left fun x hx => by rw [he x (by simpa using hx)]
  unfold OwnL at *
  rw [← this]; exact h
theorem OwnL.kept (h : OwnL w B e k v n f) (hg : w.grownBy w' u.ownBlock) (h2 : TwoBlocks v u) : OwnL w' B e k v n f := by
  refine World.ownsRow.kept h hg ?_
  cases hv : v.ownBlock with
  | none => exact .inl rfl
  | some x => exact .inr fun e => h2 x hv e.symm
theorem OwnL.keptAll (h : OwnL w B e k v n f) (hk : Kept (fun _ _ => False) w w') : OwnL w' B e k v n f :=
  World.ownsRow.kept (row := none) h ⟨hk.os, hk.tape, hk.output, hk.size, fun y hy _ => hk.block y hy fun _ hf => hf⟩ (by
    cases hv : v.ownBlock with
    | none => exact .inl rfl
    | some x => exact .inr fun e => by cases e)
theorem OwnL.below (h : OwnL w B e k v n f) : ∀ x, v.ownBlock = some x → B ≤ x ∧ x < w.heap.size := World.ownsRow.lt h
theorem TwoBlocks.symm (h : TwoBlocks v u) : TwoBlocks u v := fun x h1 h2 => h x h2 h1

/-- An append of one number. -/
theorem append_one {P : Program} (t ty : TypeId) (i : TypeInfo) (ht : P.underlying t = some (.slice e)) (hi : P.info? e = some i) (hz : i.zero = some (.int k 0)) (hsz : i.size = 1) (hby : i.bytes ≤ 8)
    (h : OwnL w B e k v n f) (hn : n < 1073741824) (hB : B ≤ w.heap.size) (x : Int) :
    ∃ v' w', (Builtin.append_ #[t, t] ty #[v, .slice (some ⟨w.heap.size, 0, none⟩) 1 1]).run P (w.alloc (.cells #[.int k x] e)) = .ok v' w' ∧ OwnL w' B e k v' (n + 1) (fun j => if j < n then f j else x) ∧ w.grownBy w' v.ownBlock ∧
      (v'.ownBlock = v.ownBlock ∨ ∃ b, v'.ownBlock = some b ∧ w.heap.size ≤ b) := by
  have hal : OwnL (w.alloc (.cells #[.int k x] e)) B e k v n f := World.ownsRow.alloc h _
  have hnews : ∀ j u, [Value.int k x][j]? = some u → (w.alloc (.cells #[.int k x] e)).cell? ((⟨w.heap.size, 0, none⟩ : Addr).add j) = some u := fun j u hj => by
    match j, hj with
    | 0, hj => simp at hj; subst hj; simp [Addr.add]
  have h1 : ∀ u ∈ [Value.int k x], u.oneCell' = true := fun u hu => by simp at hu; subst hu; rfl
  have hbytes : (n + 1) * i.bytes ≤ 140737488355328 := by
    have : (n + 1) * i.bytes ≤ 1073741824 * 8 := Nat.mul_le_mul (by omega) hby
    omega
  obtain ⟨v', w', hr, hown, hg, _⟩ := run_append_own (P := P) (w.alloc (.cells #[.int k x] e)) B t ty e i (.int k 0) 1 i.bytes ht hi hz hsz rfl rfl (by omega) v n _ hal ⟨w.heap.size, 0, none⟩ 1 1 [.int k x] rfl hnews h1 (by unfold maxLen; omega) hbytes (by simp; omega)
  have hsize : (w.alloc (.cells #[.int k x] e)).heap.size = w.heap.size + 1 := by simp
  refine ⟨v', w', hr, ?_, ⟨hg.os, hg.tape, hg.output, by have := hg.size; omega, fun y hy hne => (hg.block y (by omega) hne).trans (Below.heap_alloc w _ y hy)⟩, ?_⟩
  · unfold OwnL
    have : ((List.range n).map fun y => Value.int k (f y)) ++ [Value.int k x] = (List.range (n + 1)).map fun y => Value.int k (if y < n then f y else x) := by
      rw [List.range_succ, List.map_append]
      congr 1
      · exact List.map_congr_left fun y hy => by rw [if_pos (by simpa using hy)]
      · simp
    rw [← this]; exact hown
  · rcases hal.2 with ⟨rfl, rfl⟩ | ⟨b, cap, cur, rfl, hb, hbb, hnc, hcm, hcs, htake⟩
    · have := run_append_nil (P := P) (w.alloc (.cells #[.int k x] e)) t ty e i (.int k 0) ht hi hz ⟨w.heap.size, 0, none⟩ 1 1 [.int k x] (by rw [hsz]; rfl) hnews (by omega) (by omega) (by omega)
      rw [hr] at this
      simp only [Result.ok.injEq] at this
      rw [this.1]
      exact .inr ⟨_, rfl, by show w.heap.size ≤ (w.alloc _).heap.size; rw [hsize]; omega⟩
    · by_cases hroom : n + 1 ≤ cap
      · have := run_append_room (P := P) (w.alloc (.cells #[.int k x] e)) t ty e i ht hi b n cap cur hbb ⟨w.heap.size, 0, none⟩ 1 1 [.int k x] (by rw [hsz]; rfl) hnews h1 hroom (by rw [hsz, hcs]; simp; omega)
        rw [hr] at this
        simp only [Result.ok.injEq] at this
        rw [this.1]
        exact .inl rfl
      · have := run_append_grow (P := P) (w.alloc (.cells #[.int k x] e)) t ty e i (.int k 0) ht hi hz ⟨b, 0, none⟩ n cap _ (by rw [hsz]; exact hal.1) (fun j u hj => World.ownsRow.cells hal (g := b) rfl j u hj) ⟨w.heap.size, 0, none⟩ 1 1 [.int k x] (by rw [hsz]; rfl) hnews (by omega) (by omega) (growslice_fits (by omega) hbytes)
        rw [hr] at this
        simp only [Result.ok.injEq] at this
        rw [this.1]
        exact .inr ⟨_, rfl, by show w.heap.size ≤ (w.alloc _).heap.size; rw [hsize]; omega⟩

/-- Behind an append: the other slice lies elsewhere still. -/
theorem TwoBlocks.appended {v' : Value} (h : TwoBlocks u v) (hu : ∀ x, u.ownBlock = some x → x < w.heap.size) (hb : v'.ownBlock = v.ownBlock ∨ ∃ b, v'.ownBlock = some b ∧ w.heap.size ≤ b) : TwoBlocks u v' := fun x h1 h2 => by
  rcases hb with hb | ⟨b, hb, hle⟩
  · rw [hb] at h2; exact h x h1 h2
  · rw [hb] at h2
    have := hu x h1
    simp at h2; omega
end

end Go.Proofs.Ythmpjmohakdkmaa


namespace Go.Proofs.Ythmpjmohakdkmaa
open Go.RowKit

set_option maxHeartbeats 1600000 in
set_option maxRecDepth 100000 in
/-- Two slices that hold the same numbers. -/
theorem equal_same (b o n c b' o' c' : Nat) (f : Nat → Int) (w : World) (hR : Row w .i64 b o n f) (hR' : Row w .i64 b' o' n f) (hn : n ≤ 1073741824) :
    Calls Try.prog 11 #[.slice (some ⟨b, o, none⟩) n c, .slice (some ⟨b', o', none⟩) n c'] w fun e w' => e = .returned (.bool true) ∧ ∃ m, w' = w.drewN m := by
  go_enter Try.func11, Try.ntmps11
  go_wp2_with fail
  go_loopw [13] (fun i wr => ∃ k : Nat, k ≤ n ∧ i = .int .i64 k ∧ Row wr .i64 b o n f ∧ Row wr .i64 b' o' n f ∧ ∃ m, wr = w.drewN m)
    (fun i _ => n - (intOf i).toNat)
  case atStart => exact ⟨0, Nat.zero_le _, rfl, hR, hR', 0, rfl⟩
  case round =>
    obtain ⟨k, hk, rfl, hA, hB, hm⟩ := hrel
    have HM := Lib.hid hm
    clear hm
    by_cases hkn : k < n
    · have hc1 := hA.cell k hkn
      have hc2 := hB.cell k hkn
      go_wp2_with fail
      go_quiet (fail)
      go_wp2_with fail
      go_roundw
      case rel =>
        obtain ⟨m, hm⟩ := HM.out
        exact ⟨k + 1, by omega, by simp, hA.drewN _, hB.drewN _, m + nq, by rw [hm, World.drewN_drewN]⟩
      case measure => simp [intOf]; omega
    · have hkn : k = n := by omega
      subst hkn
      go_wp2_with fail
      go_ret
      exact ⟨rfl, HM.out⟩

set_option maxHeartbeats 1600000 in
set_option maxRecDepth 100000 in
theorem equal_zero (a a' : Option Addr) (c c' : Nat) (w : World) :
    Calls Try.prog 11 #[.slice a 0 c, .slice a' 0 c'] w fun e w' => e = .returned (.bool true) ∧ w' = w := by
  go_enter Try.func11, Try.ntmps11
  go_wp2_with fail
  refine wp_loop_rounds 1 ?_
  rw [rounds_succ]
  go_wp2_with fail
  go_ret
  exact ⟨rfl, rfl⟩

end Go.Proofs.Ythmpjmohakdkmaa


namespace Go.Proofs.Ythmpjmohakdkmaa
open Go.RowKit

/-- The comparison of two places of a text. -/
def cfT (T : Nat → Nat) (n : Nat) (x y : Fin n) : Int := cmpT T n x.val y.val
theorem lt_cfT (T : Nat → Nat) (n : Nat) (x y : Fin n) : ltOf (cfT T n) x y = sl T n x.val y.val := by
  unfold ltOf cfT cmpT
  by_cases e : x.val = y.val
  · rw [if_pos e, e, sl_irrefl]; rfl
  · rw [if_neg e]
    by_cases h : sl T n x.val y.val = true
    · rw [if_pos h, h]; rfl
    · rw [if_neg h]
      rw [Bool.not_eq_true] at h
      rw [h]; rfl
theorem swoT (T : Nat → Nat) (n : Nat) : Go.Sort.SWO (ltOf (cfT T n)) where
  irrefl x := by rw [lt_cfT, sl_irrefl]
  trans x y z h1 h2 := by rw [lt_cfT] at *; exact sl_trans h1 h2
  ntrans x y z h1 h2 := by
    rw [lt_cfT] at *
    by_cases e : x.val = z.val
    · rw [e, sl_irrefl]
    · rcases sl_total (T := T) (Nat.le_of_lt x.isLt) (Nat.le_of_lt z.isLt) e with h | h
      · exfalso
        by_cases e1 : x.val = y.val
        · rw [← e1, h] at h2; simp at h2
        · by_cases e2 : y.val = z.val
          · rw [← e2, h1] at h; simp at h
          · have h3 := (sl_total (T := T) (Nat.le_of_lt x.isLt) (Nat.le_of_lt y.isLt) e1).resolve_left (by rw [h1]; simp)
            have h4 := (sl_total (T := T) (Nat.le_of_lt y.isLt) (Nat.le_of_lt z.isLt) e2).resolve_left (by rw [h2]; simp)
            have h5 := sl_trans h4 h3
            rw [sl_asymm h] at h5; simp at h5
      · exact sl_asymm h

/-- All places of a text, as they stand. -/
def places (n : Nat) : Array (Fin n) := Array.ofFn fun i => i
theorem places_size (n : Nat) : (places n).size = n := by simp [places]
theorem places_at (n : Nat) [Inhabited (Fin n)] (j : Nat) (h : j < n) : (places n)[j]! = ⟨j, h⟩ := by
  rw [getElem!_pos _ j (by rw [places_size]; exact h)]
  simp [places]

theorem extract_all {α : Type} (a : Array α) (m : Nat) (h : a.size = m) : a.extract 0 m = a := by subst h; simp
/-- What is sorted is the array. -/
theorem sorted_sa {T : Nat → Nat} {n : Nat} [Inhabited (Fin n)] {d : Array (Fin n)} (hp : Go.Sort.PermIn 0 n (places n) d) (hs : Go.Sort.SortedIn (ltOf (cfT T n)) 0 n d) : d.size = n ∧ IsSA T n (fun r => (d[r]!).val) := by
  obtain ⟨h1, _, h3⟩ := hp
  rw [places_size] at h1
  refine ⟨h1, fun r _ => (d[r]!).isLt, fun r r' hlt hr' => ?_⟩
  rw [extract_all d n h1, extract_all (places n) n (places_size n)] at h3
  have onto : ∀ x, ∃ r, x < n → r < n ∧ (d[r]!).val = x := fun x => by
    by_cases hx : x < n
    · have hm : (⟨x, hx⟩ : Fin n) ∈ d.toList := by
        rw [h3.mem_iff]
        simp [places]
      rw [List.mem_iff_getElem] at hm
      obtain ⟨r, hr, he⟩ := hm
      have hr2 : r < d.size := by simpa using hr
      refine ⟨r, fun _ => ⟨by omega, ?_⟩⟩
      rw [getElem!_pos _ r hr2]
      have : d[r] = ⟨x, hx⟩ := by simpa using he
      rw [this]
    · exact ⟨0, fun h => absurd h hx⟩
  obtain ⟨h, hh⟩ := Classical.axiomOfChoice onto
  have onto2 := onto_of_inj n h (fun x hx => (hh x hx).1) fun x x' hx hx' he => by
    have a1 := (hh x hx).2
    have a2 := (hh x' hx').2
    rw [he] at a1; omega
  have hne : (d[r]!).val ≠ (d[r']!).val := fun e => by
    obtain ⟨x, hx, rfl⟩ := onto2 r (by omega)
    obtain ⟨x', hx', rfl⟩ := onto2 r' hr'
    have a1 := (hh x hx).2
    have a2 := (hh x' hx').2
    have : x = x' := by omega
    subst this
    omega
  have hf := hs r r' (Nat.zero_le _) hlt hr'
  rw [lt_cfT] at hf
  exact (sl_total (T := T) (Nat.le_of_lt (d[r]!).isLt) (Nat.le_of_lt (d[r']!).isLt) hne).resolve_right (by rw [hf]; simp)

end Go.Proofs.Ythmpjmohakdkmaa


namespace Go.Proofs.Ythmpjmohakdkmaa
open Go.RowKit

set_option maxHeartbeats 1000000 in
set_option maxRecDepth 100000 in
/-- The comparison that the sort is handed. -/
theorem closure_any (pb b o n i j c : Nat) (T : Nat → Nat) (w : World) (hp : w.cell? ⟨pb, 0, none⟩ = some (.slice (some ⟨b, o, none⟩) n c)) (hc : ∀ x, x < n → w.cell? ⟨b, o + x, none⟩ = some (.int .u8 (T x : Int))) (hTK : ∀ i, i < n → T i < 256) (hi : i < n) (hj : j < n) (hn : n ≤ c) :
    Calls Try.prog 21 #[.int .i64 i, .int .i64 j, .pointer (some ⟨pb, 0, none⟩)] w fun e w' => e = .returned (.int .i64 (cmpT T n i j)) ∧ ∃ m, w' = w.drewN m := by
  have hcmp : ∀ (w : World), (∀ x, x < n → w.cell? ⟨b, o + x, none⟩ = some (.int .u8 (T x : Int))) → ∀ ci cj, Calls Try.prog 19 #[.slice (some ⟨b, o + i, none⟩) (n - i) ci, .slice (some ⟨b, o + j, none⟩) (n - j) cj] w fun e w' => e = .returned (.int .i64 (cmpT T n i j)) ∧ w' = w := fun w hc ci cj => compare_any b o n i j ci cj T w hc hTK hi hj
  have HC := Lib.hid hc
  have HCMP := Lib.hid hcmp
  clear hc hTK hcmp
  have q1 : (i : Int) ≤ (n : Int) := by omega
  have q2 : (j : Int) ≤ (n : Int) := by omega
  have q3 : ¬ c = i := by omega
  have q4 : ¬ c = j := by omega
  have q5 : i ≤ n := by omega
  have q6 : j ≤ n := by omega
  go_enter Try.func21, Try.ntmps21
  go_wp2_with fail
  go_quiet ((refine Calls.quiet_of_same (HCMP.out (w.drewN _) ?_ _ _); exact HC.out))
  go_wp2_with fail
  go_ret
  exact ⟨rfl, nq, rfl⟩

/-- The sort of the places. -/
theorem sort_any (pb b o n c g cap : Nat) (T : Nat → Nat) (w : World) (h0 : 0 < n) (hn : n ≤ 1073741824) (hp : w.cell? ⟨pb, 0, none⟩ = some (.slice (some ⟨b, o, none⟩) n c)) (hc : ∀ x, x < n → w.cell? ⟨b, o + x, none⟩ = some (.int .u8 (T x : Int))) (hTK : ∀ i, i < n → T i < 256) (hnc : n ≤ c)
    (hgp : pb ≠ g) (hgb : b ≠ g) (hR : Row w .i64 g 0 n (fun x => (x : Int))) :
    Calls Try.prog 20 #[.slice (some ⟨g, 0, none⟩) n cap, .func (.func 21) #[] #[.pointer (some ⟨pb, 0, none⟩)]] w fun e w' =>
      e = .returned (.tuple #[]) ∧ ∃ f, IsSA T n f ∧ Row w' .i64 g 0 n (fun x => (f x : Int)) ∧ Kept (reg g 0 n) w w' := by
  have : Inhabited (Fin n) := ⟨⟨0, h0⟩⟩
  have eg : ∀ args w, (callFunc 21 args).run Try.prog w = .ok (.enter 21 args) w := enters_of Try.func21 (by kernel_rfl) rfl
  have hgl : g < w.heap.size := hR.lt h0
  have hH : Go.Sort.Holds (fun x : Fin n => Value.int .i64 (x.val : Int)) w g 0 (places n) := fun j hj => by
    rw [places_size] at hj
    rw [places_at n j hj]
    exact ⟨hR.cell j hj, hR.free j hj⟩
  have hcmp : CmpReads Try.prog 21 #[.pointer (some ⟨pb, 0, none⟩)] (fun x : Fin n => Value.int .i64 (x.val : Int)) (cfT T n) g 0 (places n).size w := fun m os dk hdk x y => by
    have cellK : ∀ bx ox v, bx ≠ g → w.cell? ⟨bx, ox, none⟩ = some v → (sortWorld (fun x : Fin n => Value.int .i64 (x.val : Int)) w g 0 m dk os).cell? ⟨bx, ox, none⟩ = some v := fun bx ox v hb hv => by
      unfold sortWorld
      rw [Go.Sort.cell?_grow _ _ _ (by simpa using cell_lt hv), Go.Sort.cell?_putRow_other _ _ _ _ _ _ (.inl hb)]
      exact hv
    exact closure_any pb b o n x.val y.val c T _ (cellK _ _ _ hgp hp) (fun z hz => cellK _ _ _ hgb (hc z hz)) hTK x.isLt y.isLt hnc
  have hS := Any.slices_SortFunc Try.sortL (fun x : Fin n => Value.int .i64 (x.val : Int)) (fun _ => rfl) (cfT T n) (swoT T n) 21 #[.pointer (some ⟨pb, 0, none⟩)] g 0 cap (places n) w eg hcmp.lays hH hgl (by rw [places_size]; omega)
  rw [places_size] at hS
  change Calls Try.prog 20 _ _ _ at hS
  refine hS.mono ?_
  rintro e w' ⟨rfl, d', m, os, hp', hs', rfl⟩
  obtain ⟨hds, hsa⟩ := sorted_sa hp' hs'
  refine ⟨rfl, _, hsa, ?_, ?_⟩
  · have h1 := Go.Sort.holds_grow _ _ os g 0 d' (by simpa using hgl) (Go.Sort.holds_putRow (fun x : Fin n => Value.int .i64 (x.val : Int)) (Go.Sort.ahead w m) g 0 (places n) d' hH (by rw [hds, places_size]))
    exact ⟨fun j hj => (h1 j (by omega)).1, fun j hj => (h1 j (by omega)).2⟩
  · have k1 : Kept (reg g 0 n) w (Go.Sort.putRow (fun x : Fin n => Value.int .i64 (x.val : Int)) (Go.Sort.ahead w m) g 0 d') := by
      refine ⟨rfl, rfl, rfl, by simp, fun x hx hr => ?_, fun x y hx hr => ?_, fun x y hx => by rw [Go.Sort.frozen?_putRow]; rfl⟩
      · have hne : x ≠ g := fun e => hr 0 ⟨e, Nat.zero_le _, by omega⟩
        unfold Go.Sort.putRow Go.Sort.mapBlock
        simp [Array.getElem?_modify, Ne.symm hne]
      · rw [Go.Sort.cell?_putRow_other _ _ _ _ _ _ (by
          by_cases e : x = g
          · right; right
            unfold reg at hr
            show 0 + d'.size ≤ y
            omega
          · left; exact e)]
        rfl
    refine k1.trans ⟨rfl, rfl, rfl, by simp [sortWorld], fun x hx _ => Go.Sort.heap_grow_old _ os hx, fun x y hx _ => Go.Sort.cell?_grow _ os _ hx, fun x y hx => Go.Sort.frozen?_grow _ os _ hx⟩

set_option maxHeartbeats 4000000 in
set_option maxRecDepth 100000 in
/-- The array of a text of some bytes, as the specification makes it. -/
theorem specArray_row (b o n c : Nat) (T : Nat → Nat) (w : World) (h0 : 0 < n) (hn : n ≤ 1048576) (hc : ∀ x, x < n → w.cell? ⟨b, o + x, none⟩ = some (.int .u8 (T x : Int))) (hTK : ∀ i, i < n → T i < 256) (hnc : n ≤ c) :
    Calls Try.prog 12 #[.slice (some ⟨b, o, none⟩) n c] w fun e w' =>
      ∃ g cap f, e = .returned (.slice (some ⟨g, 0, none⟩) n cap) ∧ IsSA T n f ∧ Row w' .i64 g 0 n (fun x => (f x : Int)) ∧ Kept (fun _ _ => False) w w' := by
  obtain ⟨i0, hi, hz0, hz1, hz2⟩ := info_parts info_int
  have hmf : ∀ (fn : Fn) (first cap : Array Value) (w : World), (Instr.makeFunc fn first cap).run Try.prog w = .ok (.func fn first cap) w := fun _ _ _ _ => rfl
  have HC := Lib.hid hc
  have HTK := Lib.hid hTK
  have HI := Lib.hid (And.intro hi (And.intro hz0 (And.intro hz1 hz2)))
  have hb : b < w.heap.size := cell_lt (hc 0 h0)
  clear hc hTK hi hz0 hz1 hz2
  have hbx : (w.alloc (.cells #[.slice (some ⟨b, o, none⟩) n c] 22)).cell? ⟨w.heap.size, 0, none⟩ = some (.slice (some ⟨b, o, none⟩) n c) := by
    rw [World.cell?_alloc_at _ _ _ _ rfl]; rfl
  have hbx2 : ((w.alloc (.cells #[.slice (some ⟨b, o, none⟩) n c] 22)).alloc (.cells #[] 3)).cell? ⟨w.heap.size, 0, none⟩ = some (.slice (some ⟨b, o, none⟩) n c) := by
    rw [World.cell?_alloc_past _ _ _ (by simp)]; exact hbx
  go_enter Try.func12, Try.ntmps12
  go_wp2
  go_loopw [3, 8] (fun v i wr => ∃ k : Nat, k ≤ n ∧ i = .int .i64 k ∧ OwnL wr (w.heap.size + 1) 3 .i64 v k (fun x => (x : Int)) ∧ wr.cell? ⟨w.heap.size, 0, none⟩ = some (.slice (some ⟨b, o, none⟩) n c) ∧ w.heap.size + 1 ≤ wr.heap.size ∧ Below w.heap.size w wr)
    (fun _ i _ => n - (intOf i).toNat)
  case atStart =>
    have h2 := World.ownsRow_made (base := w.heap.size + 1) (e := 3) (size := 1) (w.alloc (.cells #[.slice (some ⟨b, o, none⟩) n c] 22)) #[] 0 (by simp) (by unfold maxLen; omega) rfl
    rw [show (w.alloc (.cells #[.slice (some ⟨b, o, none⟩) n c] 22)).heap.size = w.heap.size + 1 by simp] at h2
    exact ⟨0, Nat.zero_le _, rfl, h2, hbx2, by simp, ((Below.refl _ _).alloc (Nat.le_refl _) _).alloc (by simp) _⟩
  case round =>
    obtain ⟨k, hk, rfl, ho, hbox, hsz, hnx⟩ := hrel
    by_cases hkn : k < n
    · obtain ⟨v', w1, hr1, hn1, hg1, _⟩ := append_one (P := Try.prog) 24 24 i0 Try.underlying24 HI.out.1 HI.out.2.1 HI.out.2.2.1 (by rw [HI.out.2.2.2]; omega) ho (by omega) hsz (k : Int)
      have hs1 := hg1.size
      have hbox' := hg1.cell hbox (fun e => by have := (ho.below _ e.symm).1; show False; simp at this; omega)
      have hnx' : Below w.heap.size w w1 := hnx.grown hg1 (by omega) fun x hx => by have := (ho.below x hx).1; omega
      have hN1 := Lib.hid (hn1.congr (g := fun x => (x : Int)) fun j hj => by
        by_cases e : j < k
        · simp [e]
        · have : j = k := by omega
          subst this; simp)
      have hNX := Lib.hid hnx'
      have hBX := Lib.hid hbox'
      clear hn1 hnx' hg1 hnx ho hbox hbox' hbx hbx2
      go_wp2_with (first
        | (at_builtin; refine Lib.wpList_append_run_sl _ rfl _ _ _ rfl _ _ rfl rfl hr1 ?_)
        | go_in)
      go_roundw
      case rel => exact ⟨k + 1, by omega, by simp, hN1.out, hBX.out, by omega, hNX.out⟩
      case measure => simp [intOf]; omega
    · have hkn : k = n := by omega
      subst hkn
      obtain ⟨g, cap, rfl, hgb, _, hR⟩ := own_row ho h0
      clear hbx hbx2 ho
      go_wp2_with fail
      refine (sort_any w.heap.size b o k c g cap T wr h0 (by omega) hbox (fun x hx => (hnx.cell (p := ⟨b, o + x, none⟩) hb).trans (HC.out x hx)) HTK.out hnc (by omega) (by omega) hR).mono ?_
      rintro e w2 ⟨rfl, f, hf, hRf, hk2⟩
      go_wp2_with fail
      go_ret
      exact ⟨g, cap, f, rfl, hf, hRf, (below_kept hnx).fresh hk2 fun x y hr => by have := hr.1; omega⟩

set_option maxHeartbeats 4000000 in
set_option maxRecDepth 100000 in
/-- The array of a text of no byte, as the specification makes it. -/
theorem specArray_zero (a : Option Addr) (c : Nat) (w : World) :
    Calls Try.prog 12 #[.slice a 0 c] w fun e w' => ∃ a' c', e = .returned (.slice a' 0 c') ∧ Kept (fun _ _ => False) w w' := by
  have hmf : ∀ (fn : Fn) (first cap : Array Value) (w : World), (Instr.makeFunc fn first cap).run Try.prog w = .ok (.func fn first cap) w := fun _ _ _ _ => rfl
  have hS := fun fv W => AnyF.slices_SortFunc_none (P := Try.prog) (ρ := Try.sortL_ren) { Try.sortL with } (some ⟨w.heap.size + 1, 0, none⟩) 0 fv W
  change ∀ fv W, Calls Try.prog 20 _ _ _ at hS
  have hbx : (w.alloc (.cells #[.slice a 0 c] 22)).cell? ⟨w.heap.size, 0, none⟩ = some (.slice a 0 c) := by
    rw [World.cell?_alloc_at _ _ _ _ rfl]; rfl
  have hbx2 : ((w.alloc (.cells #[.slice a 0 c] 22)).alloc (.cells #[] 3)).cell? ⟨w.heap.size, 0, none⟩ = some (.slice a 0 c) := by
    rw [World.cell?_alloc_past _ _ _ (by simp)]; exact hbx
  have HS := Lib.hid hS
  clear hS
  go_enter Try.func12, Try.ntmps12
  go_wp2
  refine wp_loop_rounds 1 ?_
  rw [rounds_succ]
  go_wp2_with fail
  refine (HS.out _ _).mono ?_
  rintro e w2 ⟨rfl, rfl⟩
  go_wp2_with fail
  go_ret
  exact ⟨_, _, rfl, (Kept.alloc _ _).trans (Kept.alloc _ _)⟩

end Go.Proofs.Ythmpjmohakdkmaa
