/-
  Walks over the binary search and over the two questions that the index puts to it. No condition but those typed.
-/
import Derived.Test.YtfpihnfhmefeaaaGreatDoorIdx
import Derived.Test.YtfpihnfhmefeaaaGreatDoorByt
import Derived.Lib.LazyBuf
namespace Go.Proofs.YtfpihnfhmefeaaaGreatDoor
open Go.RowKit

set_option maxHeartbeats 1600000 in
set_option maxRecDepth 100000 in
/-- The binary search, with a question that only reads. -/
theorem search_any (q : Nat) (cb : Array Value) (n : Nat) (p : Nat → Bool) (w : World) (eg : ∀ args w, (callFunc q args).run Tryz.prog w = .ok (.enter q args) w) (hn : n ≤ 1073741824)
    (hf : ∀ (m : Nat) (i : Nat), i < n → Calls Tryz.prog q (#[.int .i64 i] ++ cb) (w.drewN m) fun e w' => e = .returned (.bool (p i)) ∧ ∃ m', w' = (w.drewN m).drewN m')
    (hmono : ∀ a b, a ≤ b → b < n → p a = true → p b = true) :
    Calls Tryz.prog 49 #[.int .i64 n, .func (.func q) #[] cb] w fun e w' => e = .returned (.int .i64 ((List.range n).countP (fun i => !p i) : Nat)) ∧ ∃ m, w' = w.drewN m := by
  obtain ⟨c1, c2⟩ := count_mono n hmono
  have HF := Lib.hid hf
  generalize (List.range n).countP (fun i => !p i) = cnt at c1 c2 ⊢
  have HC := Lib.hid c2
  clear hf hmono c2
  go_enter Tryz.func49, Tryz.ntmps49
  go_wp2
  go_loopw [5, 6] (fun u v wr => ∃ (lo hi m : Nat), u = .int .i64 lo ∧ v = .int .i64 hi ∧ lo ≤ cnt ∧ cnt ≤ hi ∧ hi ≤ n ∧ wr = w.drewN m)
    (fun u v _ => (intOf v).toNat - (intOf u).toNat)
  case atStart => exact ⟨0, n, 0, rfl, rfl, Nat.zero_le _, c1, Nat.le_refl _, rfl⟩
  case round =>
    obtain ⟨lo, hi, m, rfl, rfl, h1, h2, h3, rfl⟩ := hrel
    by_cases hlt : lo < hi
    · have hc := HF.out m ((lo + hi) / 2) (by omega)
      have hp2 := HC.out ((lo + hi) / 2) (by omega)
      rw [show (((lo + hi) / 2 : Nat) : Int) = ((lo : Int) + (hi : Int)) / 2 by omega] at hc
      cases hp : p ((lo + hi) / 2) <;> rw [hp] at hc hp2
      · have h4 : ¬ cnt ≤ (lo + hi) / 2 := fun h => by simpa using hp2.2 h
        clear hp hp2
        go_wp2_with (go_at_fn q; refine hc.mono ?_; rintro e w' ⟨rfl, m', rfl⟩)
        go_roundw
        case rel => exact ⟨(lo + hi) / 2 + 1, hi, m + m', by rw [show ((lo : Int) + (hi : Int)) / 2 + 1 = (((lo + hi) / 2 + 1 : Nat) : Int) by omega], rfl, by omega, h2, h3, by first | rfl | rw [World.drewN_drewN]⟩
        case measure => simp [intOf]; omega
      · have h4 : cnt ≤ (lo + hi) / 2 := hp2.1 rfl
        clear hp hp2
        go_wp2_with (go_at_fn q; refine hc.mono ?_; rintro e w' ⟨rfl, m', rfl⟩)
        go_roundw
        case rel => exact ⟨lo, (lo + hi) / 2, m + m', rfl, by rw [show ((lo : Int) + (hi : Int)) / 2 = (((lo + hi) / 2 : Nat) : Int) by omega], h1, h4, by omega, by first | rfl | rw [World.drewN_drewN]⟩
        case measure => simp [intOf]; omega
    · obtain rfl : lo = cnt := by omega
      go_wp2
      go_ret
      exact ⟨rfl, m, rfl⟩

/-- A piece: its bytes. -/
def Pc (w : World) (pb m : Nat) (a : Option Addr) (qc : Nat) (S : Nat → Nat) : Prop :=
  w.cell? ⟨pb, 0, none⟩ = some (.slice a m qc) ∧ ∃ qb qo, a = some ⟨qb, qo, none⟩ ∧ ∀ j, j < m → w.cell? ⟨qb, qo + j, none⟩ = some (.int .u8 (S j : Int))

set_option maxHeartbeats 1600000 in
set_option maxRecDepth 100000 in
/-- The question of the first search: is the text at that place not less than the piece? -/
theorem first_any (xb pb ib tb tc sb n r qb qo m qc : Nat) (da : Option Addr) (T g S : Nat → Nat) (w : World) (h : Ix w ib da tb tc sb n T g) (hx : w.cell? ⟨xb, 0, none⟩ = some (.pointer (some ⟨ib, 0, none⟩))) (hp : w.cell? ⟨pb, 0, none⟩ = some (.slice (some ⟨qb, qo, none⟩) m qc))
    (hq : ∀ j, j < m → w.cell? ⟨qb, qo + j, none⟩ = some (.int .u8 (S j : Int))) (hr : r < n) (hg : g r < n) (hn : n ≤ 1073741824) :
    Calls Tryz.prog 50 (#[.int .i64 r] ++ #[.pointer (some ⟨xb, 0, none⟩), .pointer (some ⟨pb, 0, none⟩)]) w fun e w' => e = .returned (.bool (atLeast T n g (sg S m 0) r)) ∧ ∃ k, w' = w.drewN k := by
  have HA := Lib.hid (fun k => at_any ib tb tc sb n r da T g (w.drewN k) (h.drewN k) hr hg hn)
  have HC := Lib.hid (fun k cc => compare_two tb (g r) (n - g r) cc qb qo m qc (fun x => T (g r + x)) S (World.drewN w k) (fun j hj => by have := h.text (g r + j) (by omega); rw [Nat.zero_add] at this; exact this) hq)
  clear h hq
  unfold atLeast
  rw [← lst_zero, ← lst_at]
  generalize Lib.compareBytes (Lib.bytesOf (lst (fun x => T (g r + x)) (n - g r))) (Lib.bytesOf (lst S m)) = cv at HC ⊢
  go_enter Tryz.func50, Tryz.ntmps50
  go_wp2_with fail
  go_quiet (first
    | (refine Calls.quiet_of_same (HC.out _ _))
    | (refine Calls.quiet_of (HA.out _)))
  go_wp2_with fail
  go_ret
  exact ⟨by simp, nq, rfl⟩

set_option maxHeartbeats 1600000 in
set_option maxRecDepth 100000 in
/-- The question of the second search: is the piece no beginning of the text at that place? -/
theorem second_any (xb eb pb ib tb tc sb n r i qb qo m qc : Nat) (da : Option Addr) (T g S : Nat → Nat) (w : World) (h : Ix w ib da tb tc sb n T g) (hx : w.cell? ⟨xb, 0, none⟩ = some (.pointer (some ⟨ib, 0, none⟩))) (he : w.cell? ⟨eb, 0, none⟩ = some (.int .i64 i)) (hp : w.cell? ⟨pb, 0, none⟩ = some (.slice (some ⟨qb, qo, none⟩) m qc))
    (hq : ∀ j, j < m → w.cell? ⟨qb, qo + j, none⟩ = some (.int .u8 (S j : Int))) (hr : r + i < n) (hg : g (r + i) < n) (hn : n ≤ 1073741824) :
    Calls Tryz.prog 53 (#[.int .i64 r] ++ #[.pointer (some ⟨xb, 0, none⟩), .pointer (some ⟨eb, 0, none⟩), .pointer (some ⟨pb, 0, none⟩)]) w fun e w' => e = .returned (.bool (!begins T n g (sg S m 0) (r + i))) ∧ ∃ k, w' = w.drewN k := by
  have HA := Lib.hid (fun k => at_any ib tb tc sb n (r + i) da T g (w.drewN k) (h.drewN k) hr hg hn)
  have HC := Lib.hid (fun k cc hcc => prefix_two tb (g (r + i)) (n - g (r + i)) cc qb qo m qc (fun x => T (g (r + i) + x)) S (World.drewN w k) (fun j hj => by have := h.text (g (r + i) + j) (by omega); rw [Nat.zero_add] at this; exact this) hq hcc)
  have hcap := h.cap
  have q1 : n - g (r + i) ≤ tc - g (r + i) := by omega
  clear h hq
  unfold begins
  rw [← lst_zero, ← lst_at]
  generalize (Lib.bytesOf (lst S m)).isPrefixOf (Lib.bytesOf (lst (fun x => T (g (r + i) + x)) (n - g (r + i)))) = cv at HC ⊢
  go_enter Tryz.func53, Tryz.ntmps53
  go_wp2_with fail
  go_quiet (first
    | (refine Calls.quiet_of_same (HC.out _ _ (by assumption)))
    | (refine Calls.quiet_of (HA.out _)))
  go_wp2_with fail
  go_ret
  exact ⟨by simp, nq, rfl⟩

end Go.Proofs.YtfpihnfhmefeaaaGreatDoor

