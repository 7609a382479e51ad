/-
  Walks over the looking up of a piece in an index, the numbers handed on, and the index's own text. No condition but those typed.
-/
import Derived.Test.YtfpihnfhmefeaaaGreatDoorLka
import Derived.Test.YtfpihnfhmefeaaaGreatDoorNew
namespace Go.Proofs.YtfpihnfhmefeaaaGreatDoor
open Go.RowKit

/-- What is told of a piece: nothing, or a new stretch of its places. -/
def LookPost (T : Nat → Nat) (n : Nat) (s : List UInt8) (k : Int) (w : World) (e : Ending) (w' : World) : Prop :=
  ∃ v c f, e = .returned v ∧ Found T n s k c f ∧ (c = 0 → v = .slice none 0 0) ∧ (0 < c → ∃ rb, v = .slice (some ⟨rb, 0, none⟩) c c ∧ Row w' .i64 rb 0 c (fun x => (f x : Int))) ∧ Kept (fun _ _ => False) w w'

set_option maxHeartbeats 1000000 in
set_option maxRecDepth 100000 in
/-- A piece of nothing. -/
theorem look_none (ib c : Nat) (a : Option Addr) (k : Int) (T : Nat → Nat) (n : Nat) (w : World) :
    Calls Tryz.prog 24 #[.pointer (some ⟨ib, 0, none⟩), .slice a 0 c, .int .i64 k] w (LookPost T n [] k w) := by
  go_enter Tryz.func24, Tryz.ntmps24
  go_wp2_with fail
  go_ret
  exact ⟨_, 0, fun _ => 0, rfl, found_none T n k _, fun _ => rfl, fun h => absurd h (Nat.not_lt_zero _), Kept.refl _ _⟩

set_option maxHeartbeats 1000000 in
set_option maxRecDepth 100000 in
/-- No place is asked for. -/
theorem look_zero (ib m c : Nat) (a : Option Addr) (s : List UInt8) (T : Nat → Nat) (n : Nat) (w : World) (hm : 0 < m) :
    Calls Tryz.prog 24 #[.pointer (some ⟨ib, 0, none⟩), .slice a m c, .int .i64 0] w (LookPost T n s 0 w) := by
  have q1 : (0 : Int) < (m : Int) := by omega
  go_enter Tryz.func24, Tryz.ntmps24
  go_wp2_with fail
  go_ret
  exact ⟨_, 0, fun _ => 0, rfl, found_none_asked T n s _, fun _ => rfl, fun h => absurd h (Nat.not_lt_zero _), Kept.refl _ _⟩

set_option maxHeartbeats 4000000 in
set_option maxRecDepth 100000 in
/-- A piece of some bytes. -/
theorem look_some (ib tb tc sb n qb qo m qc : Nat) (da : Option Addr) (k : Int) (T g S : Nat → Nat) (w : World) (h : Ix w ib da tb tc sb n T g) (hsa : IsSA T n g) (hT : ∀ i, i < n → T i < 256)
    (hq : ∀ j, j < m → w.cell? ⟨qb, qo + j, none⟩ = some (.int .u8 (S j : Int))) (hn : n ≤ 1073741824) (hm : 0 < m) (hk : k ≠ 0) :
    Calls Tryz.prog 24 #[.pointer (some ⟨ib, 0, none⟩), .slice (some ⟨qb, qo, none⟩) m qc, .int .i64 k] w (LookPost T n (sg S m 0) k w) := by
  have hsne : sg S m 0 ≠ [] := by rw [sg_step S m 0 hm]; simp
  obtain ⟨hlo, hmany, _⟩ := stretch hsa hT (sg S m 0)
  have HFO := Lib.hid (fun c hc => found_of hsa hT hsne k (c := c) hc)
  have HA := Lib.hid (all_any ib tb tc sb n qb qo m qc da T g S w h hsa hT hq hn)
  have HN := Lib.hid h.nums
  have HM := Lib.hid hsa.mem
  obtain ⟨i0, hi, hz0, hz1, hz2⟩ := info_parts info_int
  have HI := Lib.hid (And.intro hi (And.intro hz0 (And.intro hz1 hz2)))
  have q1 : (0 : Int) < (m : Int) := by omega
  have qn : ∀ (w : World) (a : Option Addr) (n c n' c' : Nat), (binOp .neq 51 (.slice a n c) (.slice none n' c')).run Tryz.prog w = .ok (.bool !a.isNone) w := fun w a n c n' c' => run_neq_slice_nil_any w _ _ a n c n' c' Tryz.underlying51
  clear hi hz0 hz1 hz2 h hsa hT hq hsne
  generalize manyOf T n g (sg S m 0) (lowOf T n g (sg S m 0)) = mn at *
  generalize lowOf T n g (sg S m 0) = lo at *
  -- how many are told
  obtain ⟨c, hc⟩ : ∃ c : Nat, c = if k < 0 then mn else min k.toNat mn := ⟨_, rfl⟩
  have hF := HFO.out c hc
  have hcmn : c ≤ mn := by rw [hc]; split <;> omega
  have hcn : c ≤ 1073741824 := by omega
  have HF := Lib.hid hF
  clear hF
  by_cases h0 : c = 0
  · -- nothing
    have hmn0 : mn = 0 := by
      rw [h0] at hc
      split at hc <;> omega
    subst hmn0
    subst h0
    clear hc hcmn hcn
    have HLN := Lib.hid hn
    clear hn
    by_cases hk0 : k < 0
    · go_enter Tryz.func24, Tryz.ntmps24
      go_wp2_with fail
      refine HA.out.mono ?_
      rintro e w1 ⟨a', c', rfl, ha, hk1⟩
      have hm0 : (w1.alloc (.cells #[.slice a' 0 c', .slice none 0 0] 54)).cell? ⟨w1.heap.size, 0, none⟩ = some (.slice a' 0 c') := by rw [World.cell?_alloc_at _ _ _ _ rfl]; rfl
      have hm1 : (w1.alloc (.cells #[.slice a' 0 c', .slice none 0 0] 54)).cell? ⟨w1.heap.size, 1, none⟩ = some (.slice none 0 0) := by rw [World.cell?_alloc_at _ _ _ _ rfl]; rfl
      go_wp2_with fail
      refine (len_of w1.heap.size 0 0 c' a' _ hm0 hm1 (by omega)).mono ?_
      rintro e w2 ⟨rfl, q, rfl⟩
      go_wp2_with fail
      go_ret
      exact ⟨_, 0, _, rfl, HF.out, fun _ => rfl, fun h => absurd h (Nat.not_lt_zero _), (hk1.trans (Kept.alloc _ _)).drewN _⟩
    · go_enter Tryz.func24, Tryz.ntmps24
      go_wp2_with fail
      refine HA.out.mono ?_
      rintro e w1 ⟨a', c', rfl, ha, hk1⟩
      have hm0 : (w1.alloc (.cells #[.slice a' 0 c', .slice none 0 0] 54)).cell? ⟨w1.heap.size, 0, none⟩ = some (.slice a' 0 c') := by rw [World.cell?_alloc_at _ _ _ _ rfl]; rfl
      have hm1 : (w1.alloc (.cells #[.slice a' 0 c', .slice none 0 0] 54)).cell? ⟨w1.heap.size, 1, none⟩ = some (.slice none 0 0) := by rw [World.cell?_alloc_at _ _ _ _ rfl]; rfl
      have hkp : (0 : Int) < k := by omega
      go_wp2_with fail
      refine (len_of w1.heap.size 0 0 c' a' _ hm0 hm1 (by omega)).mono ?_
      rintro e w2 ⟨rfl, q, rfl⟩
      go_wp2_with fail
      go_ret
      exact ⟨_, 0, _, rfl, HF.out, fun _ => rfl, fun h => absurd h (Nat.not_lt_zero _), (hk1.trans (Kept.alloc _ _)).drewN _⟩
  · by_cases hk0 : k < 0
    · rw [if_pos hk0] at hc
      obtain rfl : c = mn := hc
      have HLN := Lib.hid (And.intro hn (And.intro hcn (And.intro hlo (And.intro hmany hcmn))))
      have hc0 : (0 : Int) < (c : Int) := by omega
      have hkn : ¬ 0 ≤ k := by omega
      clear hn hcn hlo hmany
      go_enter Tryz.func24, Tryz.ntmps24
      go_wp2_with fail
      refine HA.out.mono ?_
      rintro e w1 ⟨a', c', rfl, ha, hk1⟩
      obtain rfl : a' = some ⟨sb, lo, none⟩ := ha (by omega)
      have hm0 : (w1.alloc (.cells #[.slice (some ⟨sb, lo, none⟩) c c', .slice none 0 0] 54)).cell? ⟨w1.heap.size, 0, none⟩ = some (.slice (some ⟨sb, lo, none⟩) c c') := by rw [World.cell?_alloc_at _ _ _ _ rfl]; rfl
      have hm1 : (w1.alloc (.cells #[.slice (some ⟨sb, lo, none⟩) c c', .slice none 0 0] 54)).cell? ⟨w1.heap.size, 1, none⟩ = some (.slice none 0 0) := by rw [World.cell?_alloc_at _ _ _ _ rfl]; rfl
      have hkA := hk1.trans (Kept.alloc w1 (.cells #[.slice (some ⟨sb, lo, none⟩) c c', .slice none 0 0] 54))
      clear ha hk1
      go_wp2_with fail
      refine (len_of w1.heap.size 0 c c' _ _ hm0 hm1 (by have := HLN.out; omega)).mono ?_
      rintro e w2 ⟨rfl, q, rfl⟩
      obtain ⟨W2, hW2⟩ : ∃ W2, W2 = (w1.alloc (.cells #[.slice (some ⟨sb, lo, none⟩) c c', .slice none 0 0] 54)).drewN q := ⟨_, rfl⟩
      have hx0 : W2.cell? ⟨w1.heap.size, 0, none⟩ = some (.slice (some ⟨sb, lo, none⟩) c c') := by rw [hW2]; exact hm0
      have hkW : Kept (fun _ _ => False) w W2 := by rw [hW2]; exact hkA.drewN q
      rw [← hW2]
      clear hm0 hm1 hkA
      clear hW2
      obtain ⟨w5, hmk, hF5, hk5, hlt⟩ := make_row (P := Tryz.prog) W2 27 3 .i64 i0 Tryz.underlying27 HI.out.1 HI.out.2.1 HI.out.2.2.1 (by rw [HI.out.2.2.2]; omega) c HLN.out.2.1
      have hx5 : w5.cell? ⟨w1.heap.size, 0, none⟩ = some (.slice (some ⟨sb, lo, none⟩) c c') := by rw [hk5.cell _ _ (cell_lt hx0) (fun hf => hf)]; exact hx0
      go_wp2_with fail
      go_loopw [39] (fun i wr => ∃ x : Nat, x ≤ c ∧ i = .int .i64 x ∧ Row wr .i64 W2.heap.size 0 c (fun y => if y < x then (g (lo + y) : Int) else 0) ∧ Kept (fun _ _ => False) W2 wr)
        (fun i _ => c - (intOf i).toNat)
      case atStart => exact ⟨0, Nat.zero_le _, rfl, hF5.congr fun j hj => by simp, hk5⟩
      case round =>
        obtain ⟨x, hx, rfl, hR, hK⟩ := hrel
        by_cases hxc : x < c
        · have hll := HLN.out
          have hgx := HM.out (lo + x) (by omega)
          have c1 : wr.cell? ⟨w1.heap.size, 0, none⟩ = some (.slice (some ⟨sb, lo, none⟩) c c') := by rw [hK.cell _ _ (cell_lt hx0) (fun hf => hf)]; exact hx0
          have c2 : wr.cell? ⟨sb, lo + x, none⟩ = some (.int .i32 (g (lo + x) : Int)) := by
            have h7 := HN.out (lo + x) (by omega)
            rw [Nat.zero_add] at h7
            rw [(hkW.trans hK).cell _ _ (cell_lt h7) (fun hf => hf)]; exact h7
          have c3 := hR.cell x hxc
          have c4 := hR.free x hxc
          rw [Nat.zero_add] at c3 c4
          have q2 : (x : Int) < (c : Int) := by omega
          have q3 : x < c := by omega
          have hgx2 : g (lo + x) < 1073741824 := by omega
          have hx9 : x < 1073741824 := by omega
          have HH := Lib.hid hll
          clear hll
          go_wp2_with fail
          go_roundw
          case rel =>
            refine ⟨x + 1, by omega, by simp, ?_, hK.fresh (R := reg W2.heap.size x 1) (Kept.setCell ⟨rfl, by omega, by omega⟩) fun y z hr => by have := hr.1; omega⟩
            have h8 := hR.set hxc (g (lo + x) : Int)
            rw [Nat.zero_add] at h8
            refine h8.congr fun j hj => ?_
            unfold put
            by_cases e : j = x
            · subst e; simp
            · by_cases e2 : j < x
              · simp [e, e2, show j < x + 1 by omega]
              · simp [e, e2, show ¬ j < x + 1 by omega]
          case measure => simp [intOf]; omega
        · have hxc : x = c := by omega
          subst hxc
          go_wp2_with fail
          go_ret
          exact ⟨_, x, _, rfl, HF.out, fun h => absurd h h0, fun _ => ⟨W2.heap.size, rfl, hR.congr fun j hj => by simp [hj]⟩, hkW.trans hK⟩
    · rw [if_neg hk0] at hc
      by_cases hkm : (mn : Int) < k
      · obtain rfl : c = mn := by omega
        have HLN := Lib.hid (And.intro hn (And.intro hcn (And.intro hlo (And.intro hmany hcmn))))
        have hc0 : (0 : Int) < (c : Int) := by omega
        have hkn : 0 ≤ k := by omega
        clear hn hcn hlo hmany hc
        go_enter Tryz.func24, Tryz.ntmps24
        go_wp2_with fail
        refine HA.out.mono ?_
        rintro e w1 ⟨a', c', rfl, ha, hk1⟩
        obtain rfl : a' = some ⟨sb, lo, none⟩ := ha (by omega)
        have hm0 : (w1.alloc (.cells #[.slice (some ⟨sb, lo, none⟩) c c', .slice none 0 0] 54)).cell? ⟨w1.heap.size, 0, none⟩ = some (.slice (some ⟨sb, lo, none⟩) c c') := by rw [World.cell?_alloc_at _ _ _ _ rfl]; rfl
        have hm1 : (w1.alloc (.cells #[.slice (some ⟨sb, lo, none⟩) c c', .slice none 0 0] 54)).cell? ⟨w1.heap.size, 1, none⟩ = some (.slice none 0 0) := by rw [World.cell?_alloc_at _ _ _ _ rfl]; rfl
        have hkA := hk1.trans (Kept.alloc w1 (.cells #[.slice (some ⟨sb, lo, none⟩) c c', .slice none 0 0] 54))
        clear ha hk1
        go_wp2_with fail
        refine (len_of w1.heap.size 0 c c' _ _ hm0 hm1 (by have := HLN.out; omega)).mono ?_
        rintro e w2 ⟨rfl, q, rfl⟩
        obtain ⟨W2, hW2⟩ : ∃ W2, W2 = (w1.alloc (.cells #[.slice (some ⟨sb, lo, none⟩) c c', .slice none 0 0] 54)).drewN q := ⟨_, rfl⟩
        have hx0 : W2.cell? ⟨w1.heap.size, 0, none⟩ = some (.slice (some ⟨sb, lo, none⟩) c c') := by rw [hW2]; exact hm0
        have hkW : Kept (fun _ _ => False) w W2 := by rw [hW2]; exact hkA.drewN q
        rw [← hW2]
        clear hm0 hm1 hkA
        clear hW2
        obtain ⟨w5, hmk, hF5, hk5, hlt⟩ := make_row (P := Tryz.prog) W2 27 3 .i64 i0 Tryz.underlying27 HI.out.1 HI.out.2.1 HI.out.2.2.1 (by rw [HI.out.2.2.2]; omega) c HLN.out.2.1
        have hx5 : w5.cell? ⟨w1.heap.size, 0, none⟩ = some (.slice (some ⟨sb, lo, none⟩) c c') := by rw [hk5.cell _ _ (cell_lt hx0) (fun hf => hf)]; exact hx0
        go_wp2_with fail
        go_loopw [39] (fun i wr => ∃ x : Nat, x ≤ c ∧ i = .int .i64 x ∧ Row wr .i64 W2.heap.size 0 c (fun y => if y < x then (g (lo + y) : Int) else 0) ∧ Kept (fun _ _ => False) W2 wr)
          (fun i _ => c - (intOf i).toNat)
        case atStart => exact ⟨0, Nat.zero_le _, rfl, hF5.congr fun j hj => by simp, hk5⟩
        case round =>
          obtain ⟨x, hx, rfl, hR, hK⟩ := hrel
          by_cases hxc : x < c
          · have hll := HLN.out
            have hgx := HM.out (lo + x) (by omega)
            have c1 : wr.cell? ⟨w1.heap.size, 0, none⟩ = some (.slice (some ⟨sb, lo, none⟩) c c') := by rw [hK.cell _ _ (cell_lt hx0) (fun hf => hf)]; exact hx0
            have c2 : wr.cell? ⟨sb, lo + x, none⟩ = some (.int .i32 (g (lo + x) : Int)) := by
              have h7 := HN.out (lo + x) (by omega)
              rw [Nat.zero_add] at h7
              rw [(hkW.trans hK).cell _ _ (cell_lt h7) (fun hf => hf)]; exact h7
            have c3 := hR.cell x hxc
            have c4 := hR.free x hxc
            rw [Nat.zero_add] at c3 c4
            have q2 : (x : Int) < (c : Int) := by omega
            have q3 : x < c := by omega
            have hgx2 : g (lo + x) < 1073741824 := by omega
            have hx9 : x < 1073741824 := by omega
            have HH := Lib.hid hll
            clear hll
            go_wp2_with fail
            go_roundw
            case rel =>
              refine ⟨x + 1, by omega, by simp, ?_, hK.fresh (R := reg W2.heap.size x 1) (Kept.setCell ⟨rfl, by omega, by omega⟩) fun y z hr => by have := hr.1; omega⟩
              have h8 := hR.set hxc (g (lo + x) : Int)
              rw [Nat.zero_add] at h8
              refine h8.congr fun j hj => ?_
              unfold put
              by_cases e : j = x
              · subst e; simp
              · by_cases e2 : j < x
                · simp [e, e2, show j < x + 1 by omega]
                · simp [e, e2, show ¬ j < x + 1 by omega]
            case measure => simp [intOf]; omega
          · have hxc : x = c := by omega
            subst hxc
            go_wp2_with fail
            go_ret
            exact ⟨_, x, _, rfl, HF.out, fun h => absurd h h0, fun _ => ⟨W2.heap.size, rfl, hR.congr fun j hj => by simp [hj]⟩, hkW.trans hK⟩
      · obtain rfl : k = (c : Int) := by omega
        have HLN := Lib.hid (And.intro hn (And.intro hcn (And.intro hlo (And.intro hmany hcmn))))
        have hc0 : (0 : Int) < (c : Int) := by omega
        have hkn : (c : Int) ≤ (mn : Int) := by omega
        clear hn hcn hlo hmany hc
        go_enter Tryz.func24, Tryz.ntmps24
        go_wp2_with fail
        refine HA.out.mono ?_
        rintro e w1 ⟨a', c', rfl, ha, hk1⟩
        obtain rfl : a' = some ⟨sb, lo, none⟩ := ha (by omega)
        have hm0 : (w1.alloc (.cells #[.slice (some ⟨sb, lo, none⟩) mn c', .slice none 0 0] 54)).cell? ⟨w1.heap.size, 0, none⟩ = some (.slice (some ⟨sb, lo, none⟩) mn c') := by rw [World.cell?_alloc_at _ _ _ _ rfl]; rfl
        have hm1 : (w1.alloc (.cells #[.slice (some ⟨sb, lo, none⟩) mn c', .slice none 0 0] 54)).cell? ⟨w1.heap.size, 1, none⟩ = some (.slice none 0 0) := by rw [World.cell?_alloc_at _ _ _ _ rfl]; rfl
        have hkA := hk1.trans (Kept.alloc w1 (.cells #[.slice (some ⟨sb, lo, none⟩) mn c', .slice none 0 0] 54))
        clear ha hk1
        go_wp2_with fail
        refine (len_of w1.heap.size 0 mn c' _ _ hm0 hm1 (by have := HLN.out; omega)).mono ?_
        rintro e w2 ⟨rfl, q, rfl⟩
        obtain ⟨W2, hW2⟩ : ∃ W2, W2 = (w1.alloc (.cells #[.slice (some ⟨sb, lo, none⟩) mn c', .slice none 0 0] 54)).drewN q := ⟨_, rfl⟩
        have hx0 : W2.cell? ⟨w1.heap.size, 0, none⟩ = some (.slice (some ⟨sb, lo, none⟩) mn c') := by rw [hW2]; exact hm0
        have hkW : Kept (fun _ _ => False) w W2 := by rw [hW2]; exact hkA.drewN q
        rw [← hW2]
        clear hm0 hm1 hkA
        clear hW2
        obtain ⟨w5, hmk, hF5, hk5, hlt⟩ := make_row (P := Tryz.prog) W2 27 3 .i64 i0 Tryz.underlying27 HI.out.1 HI.out.2.1 HI.out.2.2.1 (by rw [HI.out.2.2.2]; omega) c HLN.out.2.1
        have hx5 : w5.cell? ⟨w1.heap.size, 0, none⟩ = some (.slice (some ⟨sb, lo, none⟩) mn c') := by rw [hk5.cell _ _ (cell_lt hx0) (fun hf => hf)]; exact hx0
        go_wp2_with fail
        go_loopw [39] (fun i wr => ∃ x : Nat, x ≤ c ∧ i = .int .i64 x ∧ Row wr .i64 W2.heap.size 0 c (fun y => if y < x then (g (lo + y) : Int) else 0) ∧ Kept (fun _ _ => False) W2 wr)
          (fun i _ => c - (intOf i).toNat)
        case atStart => exact ⟨0, Nat.zero_le _, rfl, hF5.congr fun j hj => by simp, hk5⟩
        case round =>
          obtain ⟨x, hx, rfl, hR, hK⟩ := hrel
          by_cases hxc : x < c
          · have hll := HLN.out
            have hgx := HM.out (lo + x) (by omega)
            have c1 : wr.cell? ⟨w1.heap.size, 0, none⟩ = some (.slice (some ⟨sb, lo, none⟩) mn c') := by rw [hK.cell _ _ (cell_lt hx0) (fun hf => hf)]; exact hx0
            have c2 : wr.cell? ⟨sb, lo + x, none⟩ = some (.int .i32 (g (lo + x) : Int)) := by
              have h7 := HN.out (lo + x) (by omega)
              rw [Nat.zero_add] at h7
              rw [(hkW.trans hK).cell _ _ (cell_lt h7) (fun hf => hf)]; exact h7
            have c3 := hR.cell x hxc
            have c4 := hR.free x hxc
            rw [Nat.zero_add] at c3 c4
            have q2 : (x : Int) < (mn : Int) := by omega
            have q3 : x < mn := by omega
            have hgx2 : g (lo + x) < 1073741824 := by omega
            have hx9 : x < 1073741824 := by omega
            have HH := Lib.hid hll
            clear hll
            go_wp2_with fail
            go_roundw
            case rel =>
              refine ⟨x + 1, by omega, by simp, ?_, hK.fresh (R := reg W2.heap.size x 1) (Kept.setCell ⟨rfl, by omega, by omega⟩) fun y z hr => by have := hr.1; omega⟩
              have h8 := hR.set hxc (g (lo + x) : Int)
              rw [Nat.zero_add] at h8
              refine h8.congr fun j hj => ?_
              unfold put
              by_cases e : j = x
              · subst e; simp
              · by_cases e2 : j < x
                · simp [e, e2, show j < x + 1 by omega]
                · simp [e, e2, show ¬ j < x + 1 by omega]
            case measure => simp [intOf]; omega
          · have hxc : x = c := by omega
            subst hxc
            go_wp2_with fail
            go_ret
            exact ⟨_, x, _, rfl, HF.out, fun h => absurd h h0, fun _ => ⟨W2.heap.size, rfl, hR.congr fun j hj => by simp [hj]⟩, hkW.trans hK⟩

set_option maxHeartbeats 1600000 in
set_option maxRecDepth 100000 in
/-- Numbers, as numbers of the widest kind. -/
theorem numbers_i (B b o n c : Nat) (f : Nat → Nat) (w : World) (hR : Row w .i64 b o n (fun x => (f x : Int))) (hf : ∀ x, x < n → f x < 1073741824) (hn : n ≤ 1073741824) (hB : B ≤ w.heap.size) :
    Calls Tryz.prog 23 #[.slice (some ⟨b, o, none⟩) n c] w fun e w' =>
      ∃ v, e = .returned v ∧ w'.ownsRow B 3 1 v n ((List.range n).map fun x => Value.int .i64 (f x : Int)) ∧ Kept (fun _ _ => False) w w' := by
  obtain ⟨i0, hi, hz0, hz1, hz2⟩ := info_parts info_int
  have HF := Lib.hid hf
  clear hf
  go_enter Tryz.func23, Tryz.ntmps23
  go_wp2
  go_loopw [3, 8] (fun v i wr => ∃ k : Nat, k ≤ n ∧ i = .int .i64 k ∧ wr.ownsRow w.heap.size 3 1 v k ((List.range k).map fun x => Value.int .i64 (f x : Int)) ∧ Below w.heap.size w wr)
    (fun _ i _ => n - (intOf i).toNat)
  case atStart => exact ⟨0, Nat.zero_le _, rfl, World.ownsRow_nil _ _ _ _, Below.refl _ _⟩
  case round =>
    obtain ⟨k, hk, rfl, hown, hnx⟩ := hrel
    by_cases hlt : k < n
    · have hfk := HF.out k hlt
      have hb : b < w.heap.size := hR.lt (by omega)
      have hcx : wr.cell? ⟨b, o + k, none⟩ = some (.int .i64 (f k : Int)) := (hnx.cell hb).trans (hR.cell k hlt)
      go_wp2_with (first
        | (at_builtin; refine wpList_append_own _ rfl _ _ 27 rfl w.heap.size 3 i0 (.int .i64 0) 1 8 Tryz.underlying27 hi hz0 hz1 hz2 rfl (by decide) _ _ _ rfl (hown.alloc _) ⟨wr.heap.size, 0, none⟩ 1 1 [.int .i64 (f k : Int)] rfl rfl ?c1 ?c2 ?c3 ?c4 ?c5 ?_)
        | go_in)
      case c1 =>
        intro j u hj
        match j, hj with
        | 0, hj => simp at hj; subst hj; simp [Addr.add]
      case c2 => intro u hu; simp at hu; subst hu; rfl
      case c3 => unfold maxLen; omega
      case c4 => omega
      case c5 => have := hnx.size; simp; omega
      · intro v' w1 hown' hgrow _
        have hlv := (hown.alloc (.cells #[.int .i64 (f k : Int)] 3)).lt
        have hnx' : Below w.heap.size w w1 := (hnx.alloc hnx.size _).grown hgrow (by have := hnx.size; simp; omega) fun x hx => (hlv x hx).1
        rw [show ((List.range k).map fun x => Value.int .i64 (f x : Int)) ++ [.int .i64 (f k : Int)] = (List.range (k + 1)).map fun x => Value.int .i64 (f x : Int) by rw [List.range_succ, List.map_append]; rfl] at hown'
        clear hgrow hown hnx hlv hcx
        go_wp2
        go_roundw
        case rel => exact ⟨k + 1, by omega, by simp, hown', hnx'⟩
        case measure => simp [intOf]; omega
    · have hkn : k = n := by omega
      subst hkn
      go_wp2
      go_ret
      obtain ⟨h1, h2⟩ := hown
      refine ⟨_, rfl, ⟨h1, h2.imp id ?_⟩, below_kept hnx⟩
      rintro ⟨g, cap, cur, e1, e2, e3⟩
      exact ⟨g, cap, cur, e1, by omega, e3⟩

set_option maxHeartbeats 1000000 in
set_option maxRecDepth 100000 in
theorem numbers_i_zero (a : Option Addr) (c : Nat) (w : World) :
    Calls Tryz.prog 23 #[.slice a 0 c] w fun e w' => e = .returned (.slice none 0 0) ∧ w' = w := by
  go_enter Tryz.func23, Tryz.ntmps23
  go_wp2
  refine wp_loop_rounds 1 ?_
  rw [rounds_succ]
  go_wp2
  go_ret
  exact ⟨rfl, rfl⟩

end Go.Proofs.YtfpihnfhmefeaaaGreatDoor

