/-
  Walks over bytes.Equal, bytes.HasPrefix and bytes.Compare at a stretch of a text and at a piece. No condition but those typed.
-/
import Derived.Test.YtfpihnfhmefeaaaGreatDoorFound
import Derived.Laws.BytesArg
import Derived.Lib.BytesEntry
namespace Go.Proofs.YtfpihnfhmefeaaaGreatDoor
open Go.RowKit

/-- The bytes of a stretch. -/
def lst (f : Nat → Nat) (n : Nat) : List Int := (List.range n).map fun x => (f x : Int)
theorem lst_len (f : Nat → Nat) (n : Nat) : (lst f n).length = n := by simp [lst]
theorem lst_get (f : Nat → Nat) (n x : Nat) (h : x < n) : (lst f n).getD x 0 = (f x : Int) := by simp [lst, List.getD, h]
theorem lst_seg (T : Nat → Nat) (n i : Nat) : lst (fun x => T (i + x)) (n - i) = seg T n i := rfl
theorem lst_zero (S : Nat → Nat) (m : Nat) : Lib.bytesOf (lst S m) = sg S m 0 := by
  unfold sg seg lst
  simp only [Nat.sub_zero, Nat.zero_add]
theorem lst_at (T : Nat → Nat) (n i : Nat) : Lib.bytesOf (lst (fun x => T (i + x)) (n - i)) = sg T n i := rfl
theorem lst_take (f : Nat → Nat) (n m : Nat) (h : m ≤ n) : (lst f n).take m = lst f m := by
  unfold lst
  rw [← List.map_take, List.take_range, Nat.min_eq_left h]
theorem bytes_take (f : Nat → Nat) (n m : Nat) (h : m ≤ n) : (Lib.bytesOf (lst f n)).take m = Lib.bytesOf (lst f m) := by
  rw [← lst_take f n m h]
  simp [Lib.bytesOf, List.map_take]
theorem bytes_len (f : Nat → Nat) (n : Nat) : (Lib.bytesOf (lst f n)).length = n := by simp [Lib.bytesOf, lst]

/-- A piece stands there: it is no longer than what is left, and the same bytes. -/
theorem pre_iff (f S : Nat → Nat) (n m : Nat) : (Lib.bytesOf (lst S m)).isPrefixOf (Lib.bytesOf (lst f n)) = (decide (m ≤ n) && (Lib.bytesOf (lst f m) == Lib.bytesOf (lst S m))) := by
  rw [Bool.eq_iff_iff, List.isPrefixOf_iff_prefix, List.prefix_iff_eq_take, bytes_len]
  simp only [Bool.and_eq_true, decide_eq_true_eq, beq_iff_eq]
  constructor
  · intro h
    have hl := congrArg List.length h
    rw [bytes_len, List.length_take, bytes_len] at hl
    have hm : m ≤ n := by omega
    rw [bytes_take f n m hm] at h
    exact ⟨hm, h.symm⟩
  · rintro ⟨hm, h⟩
    rw [bytes_take f n m hm]
    exact h.symm

/-- 'string(..)' of a stretch of bytes. -/
theorem conv_bytes (b o n c : Nat) (f : Nat → Nat) (w : World) (hc : ∀ j, j < n → w.cell? ⟨b, o + j, none⟩ = some (.int .u8 (f j : Int))) :
    (convert 22 9 (.slice (some ⟨b, o, none⟩) n c)).run Tryz.prog w = .ok (.string (strOfNums (lst f n))) w :=
  run_convert_bytes_arg (P := Tryz.prog) w 22 5 Tryz.underlying22 Tryz.underlying5 b o n c (lst f n) (lst_len f n) (fun i hi => by rw [hc i hi, lst_get f n i hi]) 9 Tryz.underlying9

set_option maxHeartbeats 1000000 in
set_option maxRecDepth 100000 in
/-- bytes.Equal at two stretches of bytes. -/
theorem equal_two (b o n c b' o' n' c' : Nat) (f f' : Nat → Nat) (w : World) (hc : ∀ j, j < n → w.cell? ⟨b, o + j, none⟩ = some (.int .u8 (f j : Int))) (hc' : ∀ j, j < n' → w.cell? ⟨b', o' + j, none⟩ = some (.int .u8 (f' j : Int))) :
    Calls Tryz.prog 27 #[.slice (some ⟨b, o, none⟩) n c, .slice (some ⟨b', o', none⟩) n' c'] w fun e w' => e = .returned (.bool (Lib.bytesOf (lst f n) == Lib.bytesOf (lst f' n'))) ∧ w' = w := by
  have h1 := conv_bytes b o n c f w hc
  have h2 := conv_bytes b' o' n' c' f' w hc'
  rw [← Lib.strOfNums_toList, ← Lib.strOfNums_toList]
  clear hc hc'
  generalize lst f n = xs at *
  generalize lst f' n' = ys at *
  go_enter Tryz.func27, Tryz.ntmps27
  go_wp2
  go_ret
  exact ⟨rfl, rfl⟩

set_option maxHeartbeats 1000000 in
set_option maxRecDepth 100000 in
/-- bytes.HasPrefix at two stretches of bytes. -/
theorem prefix_two (b o n c b' o' m c' : Nat) (f S : Nat → Nat) (w : World) (hc : ∀ j, j < n → w.cell? ⟨b, o + j, none⟩ = some (.int .u8 (f j : Int))) (hc' : ∀ j, j < m → w.cell? ⟨b', o' + j, none⟩ = some (.int .u8 (S j : Int))) (hnc : n ≤ c) :
    Calls Tryz.prog 54 #[.slice (some ⟨b, o, none⟩) n c, .slice (some ⟨b', o', none⟩) m c'] w fun e w' => e = .returned (.bool ((Lib.bytesOf (lst S m)).isPrefixOf (Lib.bytesOf (lst f n)))) ∧ w' = w := by
  rw [pre_iff]
  by_cases h : m ≤ n
  · have HE := Lib.hid (equal_two b o m c b' o' m c' f S w (fun j hj => hc j (by omega)) hc')
    have hm : (m : Int) ≤ (n : Int) := by omega
    have hmc : (m : Int) ≤ (c : Int) := by omega
    clear hc hc'
    rw [decide_eq_true h, Bool.true_and]
    generalize (Lib.bytesOf (lst f m) == Lib.bytesOf (lst S m)) = r at HE ⊢
    go_enter Tryz.func54, Tryz.ntmps54
    go_wp2_with fail
    refine HE.out.mono ?_
    rintro e w' ⟨rfl, rfl⟩
    go_wp2_with fail
    go_ret
    exact ⟨rfl, rfl⟩
  · have hm : ¬ (m : Int) ≤ (n : Int) := by omega
    clear hc hc'
    rw [decide_eq_false h, Bool.false_and]
    go_enter Tryz.func54, Tryz.ntmps54
    go_wp2_with fail
    go_ret
    exact ⟨rfl, rfl⟩

set_option maxHeartbeats 1000000 in
set_option maxRecDepth 100000 in
/-- bytes.Compare at two stretches of bytes. -/
theorem compare_two (b o n c b' o' m c' : Nat) (f S : Nat → Nat) (w : World) (hc : ∀ j, j < n → w.cell? ⟨b, o + j, none⟩ = some (.int .u8 (f j : Int))) (hc' : ∀ j, j < m → w.cell? ⟨b', o' + j, none⟩ = some (.int .u8 (S j : Int))) :
    Calls Tryz.prog 51 #[.slice (some ⟨b, o, none⟩) n c, .slice (some ⟨b', o', none⟩) m c'] w fun e w' => e = .returned (.int .i64 (Lib.compareBytes (Lib.bytesOf (lst f n)) (Lib.bytesOf (lst S m)))) ∧ w' = w := by
  have hrun := run_compareSlices (P := Tryz.prog) (w := w) b o n c b' o' m c' (lst f n) (lst S m) (lst_len _ _) (lst_len _ _)
    (fun x hx => by rw [lst_get f n x hx]; exact hc x hx) (fun x hx => by rw [lst_get S m x hx]; exact hc' x hx)
  clear hc hc'
  generalize Lib.compareBytes (Lib.bytesOf (lst f n)) (Lib.bytesOf (lst S m)) = r at hrun ⊢
  go_enter Tryz.func51, Tryz.ntmps51
  go_wp2
  rw [run_callFunc_extern Tryz.func88 (by kernel_rfl) (by kernel_rfl) (by kernel_rfl) (e := Extern.BytealgCompare.compare) (by kernel_rfl), hrun]
  simp only [Result.andThen]
  rw [Oper.upon_value]
  go_wp2
  go_ret
  exact ⟨rfl, rfl⟩

end Go.Proofs.YtfpihnfhmefeaaaGreatDoor

