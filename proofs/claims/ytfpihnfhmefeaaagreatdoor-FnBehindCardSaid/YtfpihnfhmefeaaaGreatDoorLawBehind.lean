/-
  The law FnBehind: what stands behind an index that was written changes nothing: for every three slices of bytes the call returns true and the arguments read as they did; the library's errors and the greatest length for numbers of 32 bits are as their packages lay them (tied). No further condition.
-/
import Derived.Test.YtfpihnfhmefeaaaGreatDoorMD
import Derived.Test.YtfpihnfhmefeaaaGreatDoorRows
import Derived.Test.YtfpihnfhmefeaaaGreatDoorCards
import Derived.Test.YtfpihnfhmefeaaaGreatDoorTie
import Derived.WalkKit
import Derived.ProofKit
import Derived.OpenShut
import Derived.ShutString
import Derived.ChangeOld
import Derived.Below
import Derived.ChangeVars
import Derived.OpenVars
import Derived.Deep.DeepHandedRow
import Derived.Lib.LaidTab
namespace Go.Proofs.YtfpihnfhmefeaaaGreatDoor
open Go.RowKit Go.ChangeShapes Go.WideShapes Go.ChangeAt

/-- Two pieces, one behind the other. -/
def two (S M : Nat → Nat) (m : Nat) : Nat → Nat := fun x => if x < m then S x else M (x - m)
theorem lst_two (S M : Nat → Nat) (m l : Nat) : lst (two S M m) (m + l) = lst S m ++ lst M l := by
  unfold lst
  rw [List.range_add, List.map_append, List.map_map]
  congr 1
  · exact List.map_congr_left fun x hx => by simp [two, List.mem_range.1 hx]
  · exact List.map_congr_left fun x _ => by simp [two, show ¬ m + x < m by omega]
set_option maxHeartbeats 1000000 in
set_option maxRecDepth 100000 in
/-- slices.Clone at some bytes. -/
theorem cloneb_row (b o n c : Nat) (f : Nat → Nat) (w : World) (hc : ∀ j, j < n → w.cell? ⟨b, o + j, none⟩ = some (.int .u8 (f j : Int))) (h0 : 0 < n) (hn : n ≤ 4294967296) :
    Calls Tryz.prog 10 #[.slice (some ⟨b, o, none⟩) n c] w fun e w' =>
      ∃ v, e = .returned v ∧ OwnL w' w.heap.size 5 .u8 v n (fun i => (f i : Int)) ∧ Kept (fun _ _ => False) w w' := by
  obtain ⟨i0, hi, hz0, hz1, hz2⟩ := info_parts info_u8
  have hb : b < w.heap.size := cell_lt (hc 0 h0)
  have h2 := World.ownsRow_made (base := w.heap.size) (e := 5) (size := 1) w #[] 0 (by simp) (by unfold maxLen; omega) rfl
  have hsize : (w.alloc (.cells #[] 5)).heap.size = w.heap.size + 1 := by simp
  obtain ⟨v', w', hr, hown, hg, _⟩ := run_append_own (P := Tryz.prog) (w.alloc (.cells #[] 5)) w.heap.size 22 22 5 i0 (.int .u8 0) 1 i0.bytes Tryz.underlying22 hi hz0 hz1 rfl rfl (by omega) (.slice (some ⟨w.heap.size, 0, none⟩) 0 0) 0 [] h2 ⟨b, o, none⟩ n c ((List.range n).map fun x => Value.int .u8 (f x : Int)) (by simp)
    (fun j u hj => by
      have hjn : j < n := by have := (List.getElem?_eq_some_iff.1 hj).1; simpa using this
      have e1 : ((List.range n).map fun x => Value.int .u8 (f x : Int))[j]? = some (.int .u8 (f j : Int)) := by simp [hjn]
      rw [e1] at hj
      rw [Addr.add_lit, World.cell?_alloc_past _ _ _ (by exact hb), hc j hjn]; exact hj)
    (fun u hu => by simp only [List.mem_map] at hu; obtain ⟨x, _, rfl⟩ := hu; rfl) (by unfold maxLen; omega) (by rw [hz2]; omega) (by rw [hsize]; omega)
  have hk : Kept (fun _ _ => False) w w' := below_kept (((Below.refl _ _).alloc (Nat.le_refl _) _).grown hg (by rw [hsize]; omega) fun x hx => by simp [Value.ownBlock] at hx; omega)
  rw [List.nil_append, Nat.zero_add] at hown
  have HO := Lib.hid hown
  have HK := Lib.hid hk
  clear hi hz0 hz1 hz2 hown hg h2 hk hc
  have q1 : ∀ (w : World) (a : Option Addr) (n c n' c' : Nat), (binOp .eql 22 (.slice a n c) (.slice none n' c')).run Tryz.prog w = .ok (.bool a.isNone) w := fun w a n c n' c' => Lib.run_eql_slice_nil w _ _ a n c n' c' Tryz.underlying22
  go_enter Tryz.func10, Tryz.ntmps10
  go_wp2_with (at_builtin; refine Lib.wpList_append_run_sl _ rfl _ _ _ rfl _ _ rfl rfl hr ?_)
  go_ret
  exact ⟨v', rfl, HO.out, HK.out⟩

/-- An append of bytes that came in onto bytes of the call's own. -/
theorem append_bytes (w : World) (B : Nat) (v : Value) (m : Nat) (S : Nat → Nat) (a : Option Addr) (l d : Nat) (M : Nat → Nat) (h : OwnL w B 5 .u8 v m (fun i => (S i : Int))) (hq : Came w a l M) (hm0 : 0 < m) (hm : m ≤ 4294967296) (hl : l ≤ 4294967296) (hB : B ≤ w.heap.size) :
    ∃ v' w', (Builtin.append_ #[22, 22] 22 #[v, .slice a l d]).run Tryz.prog w = .ok v' w' ∧ OwnL w' B 5 .u8 v' (m + l) (fun i => (two S M m i : Int)) ∧ w.grownBy w' v.ownBlock := by
  obtain ⟨i0, hi, hz0, hz1, hz2⟩ := info_parts info_u8
  by_cases h0 : l = 0
  · subst h0
    obtain ⟨g, cap, rfl, _, hcap, _⟩ := own_row h hm0
    refine ⟨_, w, ?_, h.congr fun j hj => by simp [two, hj], ⟨rfl, rfl, rfl, Nat.le_refl _, fun _ _ _ => rfl⟩⟩
    cases a <;> simp [Builtin.append_, run_underlying Tryz.underlying22, sizeOf, typeInfo, hi, Builtin.lenOf, Builtin.firstCells, loadCells, loadCellsFrom, storeCells, hcap]
  · obtain ⟨qb, qo, rfl, hc⟩ := hq (by omega)
    obtain ⟨v', w', hr, hown, hg, _⟩ := run_append_own (P := Tryz.prog) w B 22 22 5 i0 (.int .u8 0) 1 i0.bytes Tryz.underlying22 hi hz0 hz1 rfl rfl (by omega) v m _ h ⟨qb, qo, none⟩ l d ((List.range l).map fun x => Value.int .u8 (M x : Int)) (by simp)
      (fun j u hj => by
        have hjn : j < l := by have := (List.getElem?_eq_some_iff.1 hj).1; simpa using this
        have e1 : ((List.range l).map fun x => Value.int .u8 (M x : Int))[j]? = some (.int .u8 (M j : Int)) := by simp [hjn]
        rw [e1] at hj
        rw [Addr.add_lit, hc j hjn]; exact hj)
      (fun u hu => by simp only [List.mem_map] at hu; obtain ⟨x, _, rfl⟩ := hu; rfl) (by unfold maxLen; omega) (by rw [hz2]; omega) hB
    refine ⟨v', w', hr, ?_, hg⟩
    unfold OwnL
    have : ((List.range m).map fun x => Value.int .u8 (S x : Int)) ++ ((List.range l).map fun x => Value.int .u8 (M x : Int)) = (List.range (m + l)).map fun x => Value.int .u8 (two S M m x : Int) := by
      rw [List.range_add, List.map_append, List.map_map]
      refine congr (congrArg HAppend.hAppend ?_) ?_
      · exact List.map_congr_left fun x hx => by simp [two, List.mem_range.1 hx]
      · exact List.map_congr_left fun x _ => by simp [two, show ¬ m + x < m by omega]
    rw [← this]
    exact hown

set_option maxHeartbeats 1600000 in
set_option maxRecDepth 100000 in
/-- The check of two sizes: the first is too great. -/
theorem beyond_first (b m : Nat) (w : World) (hc : w.cell? ⟨b, 0, none⟩ = some (.int .i64 m)) (hm : 1048576 < m) :
    Calls Tryz.prog 6 #[.slice (some ⟨b, 0, none⟩) 2 2] w fun e w' => e = .returned (.bool true) ∧ w' = w := by
  have q1 : (1048576 : Int) < (m : Int) := by omega
  go_enter Tryz.func6, Tryz.ntmps6
  go_wp2
  refine wp_loop_rounds 1 ?_
  rw [rounds_succ]
  go_wp2_with fail
  go_ret
  exact ⟨rfl, rfl⟩
set_option maxHeartbeats 1600000 in
set_option maxRecDepth 100000 in
/-- The check of two sizes: the second is too great. -/
theorem beyond_second (b m l : Nat) (w : World) (hc : w.cell? ⟨b, 0, none⟩ = some (.int .i64 m)) (hc1 : w.cell? ⟨b, 1, none⟩ = some (.int .i64 l)) (hm : ¬ 1048576 < m) (hl : 1048576 < l) :
    Calls Tryz.prog 6 #[.slice (some ⟨b, 0, none⟩) 2 2] w fun e w' => e = .returned (.bool true) ∧ w' = w := by
  have q1 : ¬ (1048576 : Int) < (m : Int) := by omega
  have q2 : (1048576 : Int) < (l : Int) := by omega
  go_enter Tryz.func6, Tryz.ntmps6
  go_wp2
  refine wp_loop_rounds 2 ?_
  rw [rounds_succ]
  go_wp2_with fail
  rw [rounds_succ]
  go_wp2_with fail
  go_ret
  exact ⟨rfl, rfl⟩
set_option maxHeartbeats 1600000 in
set_option maxRecDepth 100000 in
/-- The check of two sizes: neither is too great. -/
theorem beyond_not (b m l : Nat) (w : World) (hc : w.cell? ⟨b, 0, none⟩ = some (.int .i64 m)) (hc1 : w.cell? ⟨b, 1, none⟩ = some (.int .i64 l)) (hm : ¬ 1048576 < m) (hl : ¬ 1048576 < l) :
    Calls Tryz.prog 6 #[.slice (some ⟨b, 0, none⟩) 2 2] w fun e w' => e = .returned (.bool false) ∧ w' = w := by
  have q1 : ¬ (1048576 : Int) < (m : Int) := by omega
  have q2 : ¬ (1048576 : Int) < (l : Int) := by omega
  go_enter Tryz.func6, Tryz.ntmps6
  go_wp2
  refine wp_loop_rounds 3 ?_
  rw [rounds_succ]
  go_wp2_with fail
  rw [rounds_succ]
  go_wp2_with fail
  rw [rounds_succ]
  go_wp2_with fail
  go_ret
  exact ⟨rfl, rfl⟩

set_option maxHeartbeats 4000000 in
set_option maxRecDepth 100000 in
/-- What stands behind an index that was written changes nothing. -/
theorem fnBehind_walk (a : Option Addr) (n c : Nat) (T : Nat → Nat) (r : Option Addr) (l u : Nat) (M : Nat → Nat) (b : Option Addr) (m d : Nat) (S : Nat → Nat) (w : World) (hin : Came w a n T) (hT : ∀ i, i < n → T i < 256) (hnc : n ≤ c) (hr : Came w r l M) (hMr : ∀ i, i < l → M i < 256) (_hlu : l ≤ u) (hq : Came w b m S) (hS : ∀ i, i < m → S i < 256) (_hmd : m ≤ d) (hM : ∃ q1 q2, Laid q1 q2 w) :
    Calls Tryz.prog 3 #[.slice a n c, .slice r l u, .slice b m d] w fun e w' => e = .returned (.bool true) ∧ Kept (fun _ _ => False) w w' := by
  obtain ⟨q1, q2, hM⟩ := hM
  have HIN := Lib.hid hin
  have HT := Lib.hid hT
  have HR := Lib.hid hr
  have HMR := Lib.hid hMr
  have HQ := Lib.hid hq
  have HS := Lib.hid hS
  have HM := Lib.hid hM
  clear hin hT hq hS hM hr hMr
  by_cases h1 : 2147483647 < n
  · go_enter Tryz.func3, Tryz.ntmps3
    go_wp2_with fail
    go_ret
    exact ⟨rfl, Kept.refl _ _⟩
  by_cases h1b : 2147483647 < l
  · go_enter Tryz.func3, Tryz.ntmps3
    go_wp2_with fail
    go_ret
    exact ⟨rfl, Kept.refl _ _⟩
  by_cases h1c : 2147483647 < m
  · go_enter Tryz.func3, Tryz.ntmps3
    go_wp2_with fail
    go_ret
    exact ⟨rfl, Kept.refl _ _⟩
  obtain ⟨W1, hW⟩ : ∃ W1, W1 = w.alloc (.cells #[.int .i64 (l : Int), .int .i64 (m : Int)] 3) := ⟨_, rfl⟩
  have hkW1 : Kept (fun _ _ => False) w W1 := by rw [hW]; exact Kept.alloc _ _
  have hbx0 : W1.cell? ⟨w.heap.size, 0, none⟩ = some (.int .i64 (l : Int)) := by rw [hW, World.cell?_alloc_at _ _ _ _ rfl]; rfl
  have hbx1 : W1.cell? ⟨w.heap.size, 1, none⟩ = some (.int .i64 (m : Int)) := by rw [hW, World.cell?_alloc_at _ _ _ _ rfl]; rfl
  have HW := Lib.hid hW
  have HK1 := Lib.hid hkW1
  have HBX := Lib.hid (And.intro hbx0 hbx1)
  clear hW hkW1 hbx0 hbx1
  by_cases h3 : 1048576 < l
  · have HBY := Lib.hid (beyond_first w.heap.size l W1 HBX.out.1 h3)
    go_enter Tryz.func3, Tryz.ntmps3
    go_wp2_with fail
    rw [← HW.out]
    refine HBY.out.mono ?_
    rintro e w2 ⟨rfl, rfl⟩
    go_wp2_with fail
    go_ret
    exact ⟨rfl, HK1.out⟩
  by_cases h4 : 1048576 < m
  · have HBY := Lib.hid (beyond_second w.heap.size l m W1 HBX.out.1 HBX.out.2 h3 h4)
    go_enter Tryz.func3, Tryz.ntmps3
    go_wp2_with fail
    rw [← HW.out]
    refine HBY.out.mono ?_
    rintro e w2 ⟨rfl, rfl⟩
    go_wp2_with fail
    go_ret
    exact ⟨rfl, HK1.out⟩
  have HBY := Lib.hid (beyond_not w.heap.size l m W1 HBX.out.1 HBX.out.2 h3 h4)
  by_cases h2 : 1048576 < n
  · go_enter Tryz.func3, Tryz.ntmps3
    go_wp2_with fail
    rw [← HW.out]
    refine HBY.out.mono ?_
    rintro e w2 ⟨rfl, rfl⟩
    go_wp2_with fail
    refine (long_any a n c w2).mono ?_
    rintro e w1 ⟨rfl, rfl⟩
    rw [decide_eq_true h2]
    go_wp2_with fail
    go_ret
    exact ⟨rfl, HK1.out⟩
  have HSV := Lib.hid (saved_any a n c T W1 (HIN.out.kept HK1.out) HT.out (by omega) (HM.out.most.kept HK1.out))
  go_enter Tryz.func3, Tryz.ntmps3
  go_wp2_with fail
  rw [← HW.out]
  refine HBY.out.mono ?_
  rintro e w1 ⟨rfl, rfl⟩
  go_wp2_with fail
  refine (long_any a n c w1).mono ?_
  rintro e w2 ⟨rfl, rfl⟩
  rw [decide_eq_false h2]
  go_wp2_with fail
  refine HSV.out.mono ?_
  rintro e w3 ⟨a2, c2, L, f, rfl, hsa, hfl, hL, hcame, hcap, hk2⟩
  have hlen := hL.len hfl
  rw [textOf_len] at hlen
  have hk3 := HK1.out.trans hk2
  obtain ⟨qb, qo, rfl, hqc⟩ := hcame (by omega)
  have HCL := Lib.hid (cloneb_row qb qo L.length c2 (fun j => (L.getD j 0).toNat) w3 hqc (by omega) (by omega))
  have HL := Lib.hid (And.intro hL (And.intro hsa hfl))
  have HK3 := Lib.hid hk3
  clear hqc hcame hcap hk2 hk3 hL hsa hfl
  go_wp2_with fail
  refine HCL.out.mono ?_
  rintro e w5 ⟨v5, rfl, ho5, hk5⟩
  have hs5 := hk5.size
  obtain ⟨v6, w6, hr6, ho6, hg6⟩ := append_bytes w5 w3.heap.size v5 L.length (fun j => (L.getD j 0).toNat) r l u M ho5 ((HR.out.kept HK3.out).kept hk5) (by omega) (by omega) (by omega) hs5
  have hs6 := hg6.size
  have hk6 : Kept (fun _ _ => False) w3 w6 := below_kept (hk5.nothing.grown hg6 (by omega) fun x hx => (ho5.below x hx).1)
  obtain ⟨b6, c6, rfl, _, _, hR6⟩ := own_row ho6 (by omega)
  have hlr : (L ++ textOf M l).length = L.length + l := by rw [List.length_append, textOf_len]
  have hcm : Came w6 (some ⟨b6, 0, none⟩) (L ++ textOf M l).length (fun j => ((L ++ textOf M l).getD j 0).toNat) := fun _ => ⟨b6, 0, rfl, fun j hj => by
    rw [hlr] at hj
    rw [hR6.cell j hj]
    congr 2
    show ((two (fun j => (L.getD j 0).toNat) M L.length j : Nat) : Int) = (((L ++ textOf M l).getD j 0).toNat : Int)
    unfold two
    by_cases e : j < L.length
    · rw [if_pos e]
      simp [List.getD, List.getElem?_append_left e]
    · rw [if_neg e]
      have h9 := textOf_get M l (j - L.length) (by omega) (HMR.out _ (by omega))
      rw [← h9]
      simp [List.getD, List.getElem?_append_right (show L.length ≤ j by omega)]⟩
  have HLO := Lib.hid (loaded_ok (some ⟨b6, 0, none⟩) c6 T n L (textOf M l) f b m d S (-1) q1 q2 w6 HL.out.1 HT.out (by omega) HL.out.2.1 hcm (by omega) (HQ.out.kept (HK3.out.trans hk6)) (by omega) (HM.out.kept (HK3.out.trans hk6) (fun _ _ _ h => h)))
  rw [hlr] at HLO
  have HK6 := Lib.hid (HK3.out.trans hk6)
  clear ho5 ho6 hg6 hk5 hR6 hk6 hcm hlr
  go_wp2_with (at_builtin; refine Lib.wpList_append_run_sl _ rfl _ _ _ rfl _ _ rfl rfl hr6 ?_)
  refine HLO.out.mono ?_
  rintro e w3 ⟨a3, c3, v, cc, ff, rfl, hc3, hF, hz, hs, hk3⟩
  have hkk := HK6.out.trans hk3
  have hcv1 := conv_any a3 n c3 T w3 hc3
  have hcv2 := conv_any a n c T w3 (HIN.out.kept hkk)
  have hle := hF.le
  have HF := Lib.hid hF
  have HKK := Lib.hid hkk
  clear hF hc3 hk3 hkk hr6
  have hcnt := HF.out.cnt
  rw [if_pos (by omega)] at hcnt
  have HCN := Lib.hid hcnt
  have HU := Lib.hid (up_all HF.out (by omega))
  clear hcnt
  by_cases h0 : cc = 0
  · obtain ⟨a4, c4, rfl⟩ := hz h0
    subst h0
    clear hz hs
    go_wp2_with fail
    refine (sorted_zero a4 c4 w3).mono ?_
    rintro e w4 ⟨a5, c5, rfl, hk4⟩
    have HP := Lib.hid (places_any a n c T b m d S w4 (HIN.out.kept (HKK.out.trans hk4)) HT.out (HQ.out.kept (HKK.out.trans hk4)) HS.out (by omega) (by omega) hnc)
    have HK4 := Lib.hid hk4
    clear hk4
    go_wp2_with fail
    refine HP.out.mono ?_
    rintro e w5 ⟨v5, rfl, hz5, _, hk5⟩
    obtain ⟨a6, c6, rfl⟩ := hz5 HCN.out.symm
    clear hz5
    go_wp2_with fail
    refine (equal_zero a5 a6 c5 c6 w5).mono ?_
    rintro e w6 ⟨rfl, rfl⟩
    go_wp2_with fail
    go_ret
    exact ⟨rfl, HKK.out.trans (HK4.out.trans hk5)⟩
  · obtain ⟨rb, cap, rfl, hR⟩ := hs (by omega)
    clear hz hs
    go_wp2_with fail
    refine (sorted_row rb 0 cc cap (fun x => (ff x : Int)) w3 hR (by omega) (by omega)).mono ?_
    rintro e w4 ⟨g4, cap4, rfl, hR4, hk4⟩
    have hR5 : Row w4 .i64 g4 0 cc (fun x => ((plcs T n (sg S m 0)).getD x 0 : Int)) := hR4.congr fun x hx => by
      rw [show up (ints (fun x => (ff x : Int)) cc) = (plcs T n (sg S m 0)).map fun (x : Nat) => (x : Int) from HU.out]
      have hx' : x < (plcs T n (sg S m 0)).length := by have := HCN.out; omega
      simp [List.getD, hx']
    have HP := Lib.hid (places_any a n c T b m d S w4 (HIN.out.kept (HKK.out.trans hk4)) HT.out (HQ.out.kept (HKK.out.trans hk4)) HS.out (by omega) (by omega) hnc)
    have HK4 := Lib.hid (And.intro hk4 hR5)
    clear hR hR4 hk4 hR5
    go_wp2_with fail
    refine HP.out.mono ?_
    rintro e w5 ⟨v5, rfl, _, hs5, hk5⟩
    obtain ⟨g5, cap5, rfl, hR6⟩ := hs5 (by have := HCN.out; omega)
    clear hs5
    rw [← HCN.out] at hR6 ⊢
    have HE := Lib.hid (equal_same g4 0 cc cap4 g5 0 cap5 _ w5 (HK4.out.2.keptAll hk5) hR6 (by omega))
    have HK5 := Lib.hid hk5
    clear hR6 hk5
    go_wp2_with fail
    refine HE.out.mono ?_
    rintro e w6 ⟨rfl, q, rfl⟩
    go_wp2_with fail
    go_ret
    exact ⟨rfl, (HKK.out.trans (HK4.out.1.trans HK5.out)).drewN q⟩



/-- What came in: the text's bytes. -/
theorem bytes_in {w : World} {a : Option Addr} {len cap : Nat} {zs : List Int} (hl : len ≤ cap) (hz : zs.length = cap) (hcell : ∀ x, a = some x → ∀ i, i < zs.length → w.cell? (x.add i) = some (.int .u8 (zs.getD i 0))) (hn : 0 < len → a ≠ none) (hwz : ∀ n ∈ zs, (Lit.int .u8 n).wf = true) :
    (0 < len → ∃ b o, a = some ⟨b, o, none⟩ ∧ ∀ j, j < len → w.cell? ⟨b, o + j, none⟩ = some (.int .u8 (((fun i => (zs.getD i 0).toNat) j : Nat) : Int))) ∧ ∀ i, i < len → (fun i => (zs.getD i 0).toNat) i < 256 := by
  have hb : ∀ i, i < len → 0 ≤ zs.getD i 0 ∧ zs.getD i 0 < 256 := fun i hi => by
    have hm : zs.getD i 0 ∈ zs := by
      have hi' : i < zs.length := by omega
      rw [show zs.getD i 0 = zs[i] by simp [List.getD, hi']]; exact List.getElem_mem _
    have h := hwz _ hm
    have h1 : IntKind.u8.min = 0 := rfl
    have h2 : IntKind.u8.max = 255 := rfl
    simp only [Lit.wf, Bool.and_eq_true, decide_eq_true_eq] at h
    omega
  refine ⟨fun h0 => ?_, fun i hi => by have := hb i hi; show (zs.getD i 0).toNat < 256; omega⟩
  cases a with
  | none => exact absurd rfl (hn h0)
  | some x =>
    obtain ⟨b, o, spot⟩ := x
    have hc := hcell _ rfl
    have hspot : spot = none := by have := World.cell?_spot (hc 0 (by omega)); simpa [Addr.add] using this
    subst hspot
    refine ⟨b, o, rfl, fun j hj => ?_⟩
    have := hc j (by omega)
    rw [Addr.add_lit] at this
    rw [this]
    have := hb j hj
    show _ = some (Value.int .u8 ((zs.getD j 0).toNat : Int))
    rw [Int.toNat_of_nonneg this.1]

theorem own : ownKnob Tryz.prog.godebug = none := by kernel_rfl
theorem laidOut : laidOutB Tryz.prog = true := by kernel_rfl

set_option maxRecDepth 100000 in
theorem fnBehind_contract (H : Type) (enc : TypeId × Value → H) (W : World) (base : Nat) (args : Array Value) (ds gs : List (DataW H)) (before : List MemPlace)
    (hval : ∀ (j : Nat) t v, Tryz.f3.params[j]? = some t → args[j]? = some v → Value.okWide Tryz.prog W .any base t v)
    (hW : DataW.Whole enc Tryz.prog Tryz.f3.params.toList Rows.fnBehindSpec.vars false W args.toList ds gs before) (hL : laidMetH Tryz.prog Rows.fnBehindRow.laid W) :
    Calls Tryz.prog 3 args W fun e W' => ∃ v, e = .returned v ∧ Rows.fnBehindSpec.post enc Tryz.prog Tryz.f3 false true false false W args v W' := by
  have hM := laid_of hL
  have hW' := hW
  obtain ⟨p, q, hA0, hV, rfl, _hfz, _hnd⟩ := hW
  have hA : DataW.TrodAll enc Tryz.prog W 0 (fun _ => true) true Tryz.f3.params.toList args.toList ds p := hA0
  rw [Tryz.params3] at hA hval
  obtain ⟨v0, vs0, d0, ds0, p0, q0, _hargs, rfl, rfl, h0, r0⟩ := trodAll_cons hA
  obtain ⟨v1, vs1, d1, ds1, p1, q1, rfl, rfl, rfl, h1, r1⟩ := trodAll_cons r0
  obtain ⟨v2, vs2, d2, ds2, p2, q2, rfl, rfl, rfl, h2, r2⟩ := trodAll_cons r1
  obtain ⟨rfl, rfl, rfl⟩ := trodAll_nil r2
  obtain rfl : args = #[v0, v1, v2] := by cases args; simp_all
  obtain ⟨_g0, _t0, _cs0, _fu0, dv0, _p0, _g1, _t1, _cs1, _fu1, dv1, _p1, rfl, _, _, _, _, _, _, _, _, _⟩ := trodVars_two hV
  obtain ⟨a0, len0, cap0, rfl⟩ := okWide_slice Tryz.underlying22 (hval 0 22 v0 rfl rfl)
  have k0 := h0
  have lt0 : ∀ x ∈ p0, x.block < W.heap.size := by obtain ⟨m, hm⟩ := k0; exact DataW.trod_lt m _ _ _ hm
  obtain ⟨T0, w0⟩ : ∃ T : Nat → Nat, (0 < len0 → ∃ b o, a0 = some ⟨b, o, none⟩ ∧ ∀ j, j < len0 → W.cell? ⟨b, o + j, none⟩ = some (.int .u8 (T j : Int))) ∧ (∀ i, i < len0 → T i < 256) ∧ len0 ≤ cap0 := by
    obtain ⟨fuel, hf⟩ := h0
    rcases open_ints Tryz.underlying22 Tryz.underlying5 (by kernel_rfl) hf with ⟨hcs, _⟩ | ⟨x, l, c, zs, hcs, _, hl, hm, hz, _, hcell, hwz⟩
    · simp [Value.cells] at hcs
      obtain ⟨rfl, rfl, rfl⟩ := hcs
      exact ⟨fun _ => 0, fun h => by omega, fun _ h => by omega, Nat.le_refl _⟩
    · simp [Value.cells] at hcs
      obtain ⟨rfl, rfl, rfl⟩ := hcs
      have hb := bytes_in (w := W) (a := some x) hl (by simpa using hz) (fun y hy => by cases hy; exact hcell) (fun _ h => by simp at h) hwz
      exact ⟨_, hb.1, hb.2, hl⟩
  obtain ⟨a1, len1, cap1, rfl⟩ := okWide_slice Tryz.underlying22 (hval 1 22 v1 rfl rfl)
  have k1 := h1
  have lt1 : ∀ x ∈ p1, x.block < W.heap.size := by obtain ⟨m, hm⟩ := k1; exact DataW.trod_lt m _ _ _ hm
  obtain ⟨T1, w1⟩ : ∃ T : Nat → Nat, (0 < len1 → ∃ b o, a1 = some ⟨b, o, none⟩ ∧ ∀ j, j < len1 → W.cell? ⟨b, o + j, none⟩ = some (.int .u8 (T j : Int))) ∧ (∀ i, i < len1 → T i < 256) ∧ len1 ≤ cap1 := by
    obtain ⟨fuel, hf⟩ := h1
    rcases open_ints Tryz.underlying22 Tryz.underlying5 (by kernel_rfl) hf with ⟨hcs, _⟩ | ⟨x, l, c, zs, hcs, _, hl, hm, hz, _, hcell, hwz⟩
    · simp [Value.cells] at hcs
      obtain ⟨rfl, rfl, rfl⟩ := hcs
      exact ⟨fun _ => 0, fun h => by omega, fun _ h => by omega, Nat.le_refl _⟩
    · simp [Value.cells] at hcs
      obtain ⟨rfl, rfl, rfl⟩ := hcs
      have hb := bytes_in (w := W) (a := some x) hl (by simpa using hz) (fun y hy => by cases hy; exact hcell) (fun _ h => by simp at h) hwz
      exact ⟨_, hb.1, hb.2, hl⟩
  obtain ⟨a2, len2, cap2, rfl⟩ := okWide_slice Tryz.underlying22 (hval 2 22 v2 rfl rfl)
  have k2 := h2
  have lt2 : ∀ x ∈ p2, x.block < W.heap.size := by obtain ⟨m, hm⟩ := k2; exact DataW.trod_lt m _ _ _ hm
  obtain ⟨T2, w2⟩ : ∃ T : Nat → Nat, (0 < len2 → ∃ b o, a2 = some ⟨b, o, none⟩ ∧ ∀ j, j < len2 → W.cell? ⟨b, o + j, none⟩ = some (.int .u8 (T j : Int))) ∧ (∀ i, i < len2 → T i < 256) ∧ len2 ≤ cap2 := by
    obtain ⟨fuel, hf⟩ := h2
    rcases open_ints Tryz.underlying22 Tryz.underlying5 (by kernel_rfl) hf with ⟨hcs, _⟩ | ⟨x, l, c, zs, hcs, _, hl, hm, hz, _, hcell, hwz⟩
    · simp [Value.cells] at hcs
      obtain ⟨rfl, rfl, rfl⟩ := hcs
      exact ⟨fun _ => 0, fun h => by omega, fun _ h => by omega, Nat.le_refl _⟩
    · simp [Value.cells] at hcs
      obtain ⟨rfl, rfl, rfl⟩ := hcs
      have hb := bytes_in (w := W) (a := some x) hl (by simpa using hz) (fun y hy => by cases hy; exact hcell) (fun _ h => by simp at h) hwz
      exact ⟨_, hb.1, hb.2, hl⟩
  clear hA0
  refine (fnBehind_walk a0 len0 cap0 T0 a1 len1 cap1 T1 a2 len2 cap2 T2 W w0.1 w0.2.1 w0.2.2 w1.1 w1.2.1 w1.2.2 w2.1 w2.2.1 w2.2.2 hM).mono fun e W' ⟨he, hk⟩ => ?_
  have bel := hk.nothing
  subst he
  exact ⟨_, rfl, _, _, _, [], _, _, hW', trodAll_mk1 (shut_bool Tryz.underlying4 _), (trodAll_cons_mk (Below.trod laidOut (by kernel_rfl) (of_decide_eq_true (by kernel_rfl)) k0 bel lt0) (trodAll_cons_mk (Below.trod laidOut (by kernel_rfl) (of_decide_eq_true (by kernel_rfl)) k1 bel lt1) (trodAll_cons_mk (Below.trod laidOut (by kernel_rfl) (of_decide_eq_true (by kernel_rfl)) k2 bel lt2) trodAll_mk0))), Below.trodVars laidOut bel (by kernel_rfl) hV, bel.frame _, fun h => by cases h⟩

theorem reads (os : Os) {H : Type} (enc : TypeId × Value → H) : ∃ places, DataW.whole enc Tryz.prog ((laidWorld os).forCall (fun _ _ => 0) ⟨#[], #[.slice none 0 0, .slice none 0 0, .slice none 0 0], []⟩).memory Tryz.f3.params.toList Rows.fnBehindSpec.vars false (#[.slice none 0 0, .slice none 0 0, .slice none 0 0] : Array Value).toList 8 = some ([.nil, .nil, .nil], [.lit (.int .i64 2147483647), tok enc (.iface 157 (.pointer (some ⟨low + 3, 0, none⟩)))], places) :=
  ⟨[MemPlace.cell 0 0, MemPlace.cell 1 0], by kernel_rfl⟩

set_option maxRecDepth 100000 in
theorem fnBehind_lifted (os : Os) (started : os.Started) (H : Type) (enc : TypeId × Value → H) (F : Stop.Interp) :
    ReturnsInHanded {} Tryz.checked os 3 .any ((OpenSpec.ofChange Rows.fnBehindSpec).preRow enc Tryz.prog Tryz.f3 Rows.fnBehindRow.domain false Rows.fnBehindRow.laid) (((OpenSpec.ofChange Rows.fnBehindSpec).at F).post enc Tryz.prog Tryz.f3 false true false false) := by
  obtain ⟨places, hx⟩ := reads os enc
  refine returnsInHanded_of_row (C := Tryz.checked) (s := OpenSpec.ofChange Rows.fnBehindSpec) own started (by kernel_rfl) Tryz.func3
    (witness_row_at (enc := enc) (C := Tryz.checked) false (laidWorld os) #[.slice none 0 0, .slice none 0 0, .slice none 0 0] rfl (by kernel_rfl) (by kernel_rfl) (by kernel_rfl)
      (OpenSpec.preRow_of_cond 8 hx (by kernel_rfl) (fun k hk => by cases hk) (by kernel_rfl) (laid_metH os _))) ?_
  intro W base args ds gs before hval hW _ _ _ hL _ _
  exact fnBehind_contract H enc W base args ds gs before hval hW hL

theorem fnBehind_said : Rows.FnBehindSaid :=
  OpenClaim.holds_of_cond 3 Tryz.f3 rfl rfl rfl rfl rfl rfl rfl ⟨rfl, rfl, rfl, rfl, rfl⟩ rfl rfl rfl rfl rfl (by kernel_rfl) Tryz.func3 (by kernel_rfl)
    (of_decide_eq_true (by kernel_rfl)) (by unfold Func.isWrapper; first | (rw [if_pos (by decide +kernel)]; kernel_rfl) | (rw [if_neg (by decide +kernel)]; exact ⟨rfl, rfl⟩))
    (fun os started H enc _ F => by rw [OpenClaim.pre_eq_preRow]; exact fnBehind_lifted os started H enc F)

/-- No parameter wants a stand-in; the program's own looks are off. -/
theorem plain (f : FuncId) (fn : Func) (hf : Tryz.pinned.checked.prog.funcNamed "loop.example/pub-g03124/laws.FnBehind" = some f) (hfn : Tryz.pinned.checked.prog.funcs[f]? = some fn) :
    true = Tryz.pinned.checked.prog.looks [] ∧ ∀ (j : Nat) t, fn.params[j]? = some t → Tryz.pinned.checked.prog.wantsStandIn t = false := by
  obtain rfl : f = 3 := Option.some.inj ((show Tryz.prog.funcNamed "loop.example/pub-g03124/laws.FnBehind" = some 3 by kernel_rfl).symm.trans hf) |>.symm
  obtain rfl : fn = Tryz.f3 := (Option.some.inj (Tryz.func3.symm.trans hfn)).symm
  refine ⟨by kernel_rfl, fun j t ht => ?_⟩
  rw [Tryz.params3] at ht
  have hm : t ∈ [22, 22, 22] := by simpa using Array.mem_of_getElem? ht
  have hall : ([22, 22, 22].all fun u => !Tryz.prog.wantsStandIn u) = true := by kernel_rfl
  exact (show Tryz.prog.wantsStandIn t = false by simpa using List.all_eq_true.1 hall t hm)

/-- The statement: the tied card. -/
theorem fnBehind_holds : Rows.FnBehindCardSaid :=
  Claim7.holds_tied_plain_at .later [] _ _ _ _ fnBehind_said (fun _ h => by cases h) (by kernel_rfl) (fun _ h => by cases h) fnBehind_row_tie rfl ⟨rfl, rfl⟩ (by kernel_rfl) rfl plain (by kernel_rfl)
#print axioms fnBehind_holds
end Go.Proofs.YtfpihnfhmefeaaaGreatDoor

