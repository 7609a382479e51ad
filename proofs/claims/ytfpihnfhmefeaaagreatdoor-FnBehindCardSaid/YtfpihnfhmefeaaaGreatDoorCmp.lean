/-
  The comparison of what stands at two places of a text, as bytes. No condition.
-/
import Derived.Test.YtfpihnfhmefeaaaGreatDoorIn
import Derived.Lib.BytesEntry
namespace Go.Proofs.YtfpihnfhmefeaaaGreatDoor
open Go.RowKit

/-- What stands at a place, up to the end. -/
def seg (T : Nat → Nat) (n i : Nat) : List Int := (List.range (n - i)).map fun x => (T (i + x) : Int)
theorem seg_n (T : Nat → Nat) (n : Nat) : seg T n n = [] := by simp [seg]
theorem seg_step (T : Nat → Nat) (n i : Nat) (h : i < n) : seg T n i = (T i : Int) :: seg T n (i + 1) := by
  unfold seg
  obtain ⟨d, hd⟩ : ∃ d, n - i = d + 1 := ⟨n - i - 1, by omega⟩
  rw [hd, List.range_succ_eq_map, show n - (i + 1) = d by omega]
  simp only [List.map_cons, Nat.add_zero, List.map_map, List.cons.injEq, true_and]
  exact List.map_congr_left fun x _ => by simp only [Function.comp]; rw [show i + x.succ = i + 1 + x by omega]
theorem seg_length (T : Nat → Nat) (n i : Nat) : (seg T n i).length = n - i := by simp [seg]
theorem seg_get (T : Nat → Nat) (n i x : Nat) (h : x < n - i) : (seg T n i).getD x 0 = (T (i + x) : Int) := by simp [seg, List.getD, h]

theorem byte_lt {x y : Nat} (hx : x < 256) (hy : y < 256) : ((x : Int).toNat.toUInt8 < (y : Int).toNat.toUInt8) ↔ x < y := by
  rw [UInt8.lt_iff_toNat_lt]
  simp only [Int.toNat_natCast, Nat.toUInt8, UInt8.toNat_ofNat']
  rw [Nat.mod_eq_of_lt (by omega), Nat.mod_eq_of_lt (by omega)]

/-- The comparison's answer. -/
def cmpT (T : Nat → Nat) (n i j : Nat) : Int := if i = j then 0 else if sl T n i j = true then -1 else 1
/-- Bytes are compared as the ends of the text are. -/
theorem cmp_sl {T : Nat → Nat} {n : Nat} (hT : ∀ i, i < n → T i < 256) : ∀ d i j, d = n - i → i ≤ n → j ≤ n →
    Lib.compareBytes (Lib.bytesOf (seg T n i)) (Lib.bytesOf (seg T n j)) = cmpT T n i j := by
  unfold cmpT
  intro d
  induction d with
  | zero =>
    intro i j hd hi hj
    have : i = n := by omega
    subst this
    rw [seg_n]
    by_cases e : j = i
    · subst e; rw [seg_n]; simp [Lib.bytesOf, Lib.compareBytes]
    · rw [seg_step T i j (by omega), sl_n T i j (by omega), if_neg (by omega)]
      simp [Lib.bytesOf, Lib.compareBytes]
  | succ d ih =>
    intro i j hd hi hj
    rw [seg_step T n i (by omega)]
    by_cases e : j = n
    · subst e
      rw [seg_n, if_neg (by omega), sl_asymm (sl_n T j i (by omega))]
      simp [Lib.bytesOf, Lib.compareBytes]
    · rw [seg_step T n j (by omega)]
      have hi' := hT i (by omega)
      have hj' := hT j (by omega)
      have hih := ih (i + 1) (j + 1) (by omega) (by omega) (by omega)
      have hsl := sl_iff T n i j (by omega) (by omega)
      simp only [Lib.bytesOf, List.map_cons, Lib.compareBytes]
      simp only [Lib.bytesOf] at hih
      by_cases h1 : T i < T j
      · rw [if_pos ((byte_lt hi' hj').2 h1), if_neg (by intro q; subst q; omega), if_pos (hsl.2 (.inl h1))]
      · rw [if_neg (fun q => h1 ((byte_lt hi' hj').1 q))]
        by_cases h2 : T j < T i
        · rw [if_pos ((byte_lt hj' hi').2 h2), if_neg (by intro q; subst q; omega), if_neg (fun q => by rcases hsl.1 q with q | ⟨q, _⟩ <;> omega)]
        · rw [if_neg (fun q => h2 ((byte_lt hj' hi').1 q)), hih]
          by_cases h3 : i = j
          · subst h3; simp
          · rw [if_neg (by omega), if_neg h3]
            by_cases h4 : sl T n (i + 1) (j + 1) = true
            · rw [if_pos h4, if_pos (hsl.2 (.inr ⟨by omega, h4⟩))]
            · rw [if_neg h4, if_neg (fun q => by
                rcases hsl.1 q with q | ⟨_, q⟩
                · omega
                · exact h4 q)]

/-- The entry, at two stretches of bytes. -/
theorem run_compareSlices {P : Program} {w : World} (b o n c b' o' n' c' : Nat) (xs ys : List Int) (hx : xs.length = n) (hy : ys.length = n') (hc : ∀ i, i < n → w.cell? ⟨b, o + i, none⟩ = some (.int .u8 (xs.getD i 0)))
    (hc' : ∀ i, i < n' → w.cell? ⟨b', o' + i, none⟩ = some (.int .u8 (ys.getD i 0))) :
    (Extern.BytealgCompare.compare #[.slice (some ⟨b, o, none⟩) n c, .slice (some ⟨b', o', none⟩) n' c']).run P w = .ok (.int .i64 (Lib.compareBytes (Lib.bytesOf xs) (Lib.bytesOf ys))) w := by
  have key : ∀ (b o n c : Nat) (xs : List Int), xs.length = n → (∀ i, i < n → w.cell? ⟨b, o + i, none⟩ = some (.int .u8 (xs.getD i 0))) → (Extern.Bytes.bytesOf (.slice (some ⟨b, o, none⟩) n c)).run P w = .ok ⟨(Lib.bytesOf xs).toArray⟩ w := fun b o n c xs hx hc => by
    have hl := Lib.run_loadBytesX (P := P) w xs ⟨b, o, none⟩ .empty (fun j x hj => by
      have hjl : j < xs.length := (List.getElem?_eq_some_iff.1 hj).1
      rw [Addr.add_lit, hc j (by omega), List.getD_eq_getElem?_getD, hj]
      rfl)
    rw [hx] at hl
    have he : (⟨ByteArray.empty.data ++ (Lib.bytesOf xs).toArray⟩ : ByteArray) = ⟨(Lib.bytesOf xs).toArray⟩ := by
      apply ByteArray.ext
      show (#[] : Array UInt8) ++ (Lib.bytesOf xs).toArray = (Lib.bytesOf xs).toArray
      simp
    rw [he] at hl
    exact hl
  change Sem.run P (do pure (goInt (Extern.BytealgCompare.cmp (← Extern.Bytes.bytesOf (.slice (some ⟨b, o, none⟩) n c)) (← Extern.Bytes.bytesOf (.slice (some ⟨b', o', none⟩) n' c'))))) w = _
  simp only [Sem.run_bind, Sem.run_pure, key b o n c xs hx hc, key b' o' n' c' ys hy hc', Result.andThen]
  rw [Lib.cmp_eq]
  rfl

set_option maxHeartbeats 1000000 in
set_option maxRecDepth 100000 in
/-- The comparison of two ends of a text. -/
theorem compare_any (b o n i j ci cj : Nat) (T : Nat → Nat) (w : World) (hc : ∀ x, x < n → w.cell? ⟨b, o + x, none⟩ = some (.int .u8 (T x : Int))) (hTK : ∀ i, i < n → T i < 256) (hi : i < n) (hj : j < n) :
    Calls Tryz.prog 51 #[.slice (some ⟨b, o + i, none⟩) (n - i) ci, .slice (some ⟨b, o + j, none⟩) (n - j) cj] w fun e w' => e = .returned (.int .i64 (cmpT T n i j)) ∧ w' = w := by
  have hrun := run_compareSlices (P := Tryz.prog) (w := w) b (o + i) (n - i) ci b (o + j) (n - j) cj (seg T n i) (seg T n j) (seg_length _ _ _) (seg_length _ _ _)
    (fun x hx => by rw [seg_get T n i x hx, Nat.add_assoc]; exact hc (i + x) (by omega)) (fun x hx => by rw [seg_get T n j x hx, Nat.add_assoc]; exact hc (j + x) (by omega))
  rw [cmp_sl hTK _ i j rfl (by omega) (by omega)] at hrun
  clear hc hTK
  go_enter Tryz.func51, Tryz.ntmps51
  go_wp2
  rw [run_callFunc_extern Tryz.func88 (by kernel_rfl) (by kernel_rfl) (by kernel_rfl) (e := Extern.BytealgCompare.compare) (by kernel_rfl), hrun]
  simp only [Result.andThen]
  rw [Oper.upon_value]
  go_wp2
  go_ret
  exact ⟨rfl, rfl⟩

end Go.Proofs.YtfpihnfhmefeaaaGreatDoor

