/-
  The law FnLonger: where a longer piece stands its beginning stands, too: for every three slices of bytes the call returns true and the arguments read as they did; the greatest length for numbers of 32 bits is as the package lays it (tied). No further condition.
-/
import Derived.Test.YthmpjmohakdkmaaDoorCon
import Derived.Test.YthmpjmohakdkmaaDoorRows
import Derived.Test.YthmpjmohakdkmaaDoorCards
import Derived.Test.YthmpjmohakdkmaaDoorTie
import Derived.WalkKit
import Derived.ProofKit
import Derived.OpenShut
import Derived.ShutString
import Derived.ChangeOld
import Derived.Below
import Derived.ChangeVars
import Derived.OpenVars
import Derived.Deep.DeepHandedRow
import Derived.Lib.LaidTab
import Derived.Lib.SlBytesConst
namespace Go.Proofs.YthmpjmohakdkmaaDoor
open Go.RowKit Go.ChangeShapes Go.WideShapes Go.ChangeAt

/-- A text of one letter, and the piece of that letter. -/
theorem plcs_one (x : Nat) : (plcs (fun _ => x) 1 (sg (fun _ => x) 1 0)).length = 1 := by
  have h1 : sg (fun _ => x) 1 0 = [x.toUInt8] := by rw [sg_step _ 1 0 (by omega), sg_n]
  have h2 : (0 : Nat) ∈ plcs (fun _ => x) 1 (sg (fun _ => x) 1 0) := by
    refine mem_plcs.2 ⟨by rw [h1]; simp, by omega, ?_⟩
    rw [h1]; simp
  have h3 := plcs_len (fun _ => x) 1 (sg (fun _ => x) 1 0)
  have h4 := List.length_pos_of_mem h2
  omega

/-- Two pieces, one behind the other. -/
def two (S M : Nat → Nat) (m : Nat) : Nat → Nat := fun x => if x < m then S x else M (x - m)
theorem lst_two (S M : Nat → Nat) (m l : Nat) : lst (two S M m) (m + l) = lst S m ++ lst M l := by
  unfold lst
  rw [List.range_add, List.map_append, List.map_map]
  congr 1
  · exact List.map_congr_left fun x hx => by simp [two, List.mem_range.1 hx]
  · exact List.map_congr_left fun x _ => by simp [two, show ¬ m + x < m by omega]
theorem sg_two (S M : Nat → Nat) (m l : Nat) : sg (two S M m) (m + l) 0 = sg S m 0 ++ sg M l 0 := by
  rw [← lst_zero, ← lst_zero, ← lst_zero, lst_two]
  simp [Lib.bytesOf]

set_option maxHeartbeats 1000000 in
set_option maxRecDepth 100000 in
/-- slices.Clone at some bytes. -/
theorem cloneb_row (b o n c : Nat) (f : Nat → Nat) (w : World) (hc : ∀ j, j < n → w.cell? ⟨b, o + j, none⟩ = some (.int .u8 (f j : Int))) (h0 : 0 < n) (hn : n ≤ 4294967296) :
    Calls Tryd.prog 11 #[.slice (some ⟨b, o, none⟩) n c] w fun e w' =>
      ∃ v, e = .returned v ∧ OwnL w' w.heap.size 5 .u8 v n (fun i => (f i : Int)) ∧ Kept (fun _ _ => False) w w' := by
  obtain ⟨i0, hi, hz0, hz1, hz2⟩ := info_parts info_u8
  have hb : b < w.heap.size := cell_lt (hc 0 h0)
  have h2 := World.ownsRow_made (base := w.heap.size) (e := 5) (size := 1) w #[] 0 (by simp) (by unfold maxLen; omega) rfl
  have hsize : (w.alloc (.cells #[] 5)).heap.size = w.heap.size + 1 := by simp
  obtain ⟨v', w', hr, hown, hg, _⟩ := run_append_own (P := Tryd.prog) (w.alloc (.cells #[] 5)) w.heap.size 22 22 5 i0 (.int .u8 0) 1 i0.bytes Tryd.underlying22 hi hz0 hz1 rfl rfl (by omega) (.slice (some ⟨w.heap.size, 0, none⟩) 0 0) 0 [] h2 ⟨b, o, none⟩ n c ((List.range n).map fun x => Value.int .u8 (f x : Int)) (by simp)
    (fun j u hj => by
      have hjn : j < n := by have := (List.getElem?_eq_some_iff.1 hj).1; simpa using this
      have e1 : ((List.range n).map fun x => Value.int .u8 (f x : Int))[j]? = some (.int .u8 (f j : Int)) := by simp [hjn]
      rw [e1] at hj
      rw [Addr.add_lit, World.cell?_alloc_past _ _ _ (by exact hb), hc j hjn]; exact hj)
    (fun u hu => by simp only [List.mem_map] at hu; obtain ⟨x, _, rfl⟩ := hu; rfl) (by unfold maxLen; omega) (by rw [hz2]; omega) (by rw [hsize]; omega)
  have hk : Kept (fun _ _ => False) w w' := below_kept (((Below.refl _ _).alloc (Nat.le_refl _) _).grown hg (by rw [hsize]; omega) fun x hx => by simp [Value.ownBlock] at hx; omega)
  rw [List.nil_append, Nat.zero_add] at hown
  have HO := Lib.hid hown
  have HK := Lib.hid hk
  clear hi hz0 hz1 hz2 hown hg h2 hk hc
  have q1 : ∀ (w : World) (a : Option Addr) (n c n' c' : Nat), (binOp .eql 22 (.slice a n c) (.slice none n' c')).run Tryd.prog w = .ok (.bool a.isNone) w := fun w a n c n' c' => Lib.run_eql_slice_nil w _ _ a n c n' c' Tryd.underlying22
  go_enter Tryd.func11, Tryd.ntmps11
  go_wp2_with (at_builtin; refine Lib.wpList_append_run_sl _ rfl _ _ _ rfl _ _ rfl rfl hr ?_)
  go_ret
  exact ⟨v', rfl, HO.out, HK.out⟩

/-- An append of bytes that came in onto bytes of the call's own. -/
theorem append_bytes (w : World) (B : Nat) (v : Value) (m : Nat) (S : Nat → Nat) (a : Option Addr) (l d : Nat) (M : Nat → Nat) (h : OwnL w B 5 .u8 v m (fun i => (S i : Int))) (hq : Came w a l M) (hm0 : 0 < m) (hm : m ≤ 4294967296) (hl : l ≤ 4294967296) (hB : B ≤ w.heap.size) :
    ∃ v' w', (Builtin.append_ #[22, 22] 22 #[v, .slice a l d]).run Tryd.prog w = .ok v' w' ∧ OwnL w' B 5 .u8 v' (m + l) (fun i => (two S M m i : Int)) ∧ w.grownBy w' v.ownBlock := by
  obtain ⟨i0, hi, hz0, hz1, hz2⟩ := info_parts info_u8
  by_cases h0 : l = 0
  · subst h0
    obtain ⟨g, cap, rfl, _, hcap, _⟩ := own_row h hm0
    refine ⟨_, w, ?_, h.congr fun j hj => by simp [two, hj], ⟨rfl, rfl, rfl, Nat.le_refl _, fun _ _ _ => rfl⟩⟩
    cases a <;> simp [Builtin.append_, run_underlying Tryd.underlying22, sizeOf, typeInfo, hi, Builtin.lenOf, Builtin.firstCells, loadCells, loadCellsFrom, storeCells, hcap]
  · obtain ⟨qb, qo, rfl, hc⟩ := hq (by omega)
    obtain ⟨v', w', hr, hown, hg, _⟩ := run_append_own (P := Tryd.prog) w B 22 22 5 i0 (.int .u8 0) 1 i0.bytes Tryd.underlying22 hi hz0 hz1 rfl rfl (by omega) v m _ h ⟨qb, qo, none⟩ l d ((List.range l).map fun x => Value.int .u8 (M x : Int)) (by simp)
      (fun j u hj => by
        have hjn : j < l := by have := (List.getElem?_eq_some_iff.1 hj).1; simpa using this
        have e1 : ((List.range l).map fun x => Value.int .u8 (M x : Int))[j]? = some (.int .u8 (M j : Int)) := by simp [hjn]
        rw [e1] at hj
        rw [Addr.add_lit, hc j hjn]; exact hj)
      (fun u hu => by simp only [List.mem_map] at hu; obtain ⟨x, _, rfl⟩ := hu; rfl) (by unfold maxLen; omega) (by rw [hz2]; omega) hB
    refine ⟨v', w', hr, ?_, hg⟩
    unfold OwnL
    have : ((List.range m).map fun x => Value.int .u8 (S x : Int)) ++ ((List.range l).map fun x => Value.int .u8 (M x : Int)) = (List.range (m + l)).map fun x => Value.int .u8 (two S M m x : Int) := by
      rw [List.range_add, List.map_append, List.map_map]
      congr 1
      · exact List.map_congr_left fun x hx => by simp [two, List.mem_range.1 hx]
      · exact List.map_congr_left fun x _ => by simp [two, show ¬ m + x < m by omega]
    rw [← this]
    exact hown

/-- A list that is told, as a slice. -/
theorem list_slice {l : List Nat} {w w' : World} {e : Ending} (h : ListPost l w e w') : ∃ a' c', e = .returned (.slice a' l.length c') ∧ Kept (fun _ _ => False) w w' := by
  obtain ⟨v, rfl, hz, hs, hk⟩ := h
  by_cases h0 : l.length = 0
  · obtain ⟨a', c', rfl⟩ := hz h0
    exact ⟨a', c', by rw [h0], hk⟩
  · obtain ⟨rb, cap, rfl, _⟩ := hs (by omega)
    exact ⟨_, cap, rfl, hk⟩

set_option maxHeartbeats 4000000 in
set_option maxRecDepth 100000 in
/-- Where a longer piece stands its beginning stands, too. -/
theorem fnLonger_walk (a : Option Addr) (n c : Nat) (T : Nat → Nat) (b : Option Addr) (m d : Nat) (S : Nat → Nat) (r : Option Addr) (l u : Nat) (M : Nat → Nat) (w : World) (hin : Came w a n T) (hT : ∀ i, i < n → T i < 256) (hnc : n ≤ c) (hq : Came w b m S) (hS : ∀ i, i < m → S i < 256) (_hmd : m ≤ d) (hr : Came w r l M) (_hM2 : ∀ i, i < l → M i < 256) (_hlu : l ≤ u) (hM : Most w) :
    Calls Tryd.prog 5 #[.slice a n c, .slice b m d, .slice r l u] w fun e w' => e = .returned (.bool true) ∧ Kept (fun _ _ => False) w w' := by
  have HIN := Lib.hid hin
  have HT := Lib.hid hT
  have HQ := Lib.hid hq
  have HS := Lib.hid hS
  have HR := Lib.hid hr
  have HM := Lib.hid hM
  clear hin hT hq hS hM hr
  by_cases h1 : 2147483647 < n
  · go_enter Tryd.func5, Tryd.ntmps5
    go_wp2_with fail
    go_ret
    exact ⟨rfl, Kept.refl _ _⟩
  by_cases h1b : 2147483647 < m
  · go_enter Tryd.func5, Tryd.ntmps5
    go_wp2_with fail
    go_ret
    exact ⟨rfl, Kept.refl _ _⟩
  by_cases h1c : 2147483647 < l
  · go_enter Tryd.func5, Tryd.ntmps5
    go_wp2_with fail
    go_ret
    exact ⟨rfl, Kept.refl _ _⟩
  have hbx : (w.alloc (.cells #[.int .i64 (l : Int)] 3)).cell? ⟨w.heap.size, 0, none⟩ = some (.int .i64 (l : Int)) := by rw [World.cell?_alloc_at _ _ _ _ rfl]; rfl
  have HBY := Lib.hid (beyond_one w.heap.size l _ hbx)
  obtain ⟨W1, hW⟩ : ∃ W1, W1 = w.alloc (.cells #[.int .i64 (l : Int)] 3) := ⟨_, rfl⟩
  have hkW1 : Kept (fun _ _ => False) w W1 := by rw [hW]; exact Kept.alloc _ _
  have HW := Lib.hid hW
  rw [← HW.out] at HBY
  clear hbx hW
  by_cases h2b : 1048576 < l
  · go_enter Tryd.func5, Tryd.ntmps5
    go_wp2_with fail
    rw [← HW.out]
    refine HBY.out.mono ?_
    rintro e w1 ⟨rfl, rfl⟩
    rw [decide_eq_true h2b]
    go_wp2_with fail
    go_ret
    exact ⟨rfl, hkW1⟩
  by_cases h2 : 1048576 < n
  · go_enter Tryd.func5, Tryd.ntmps5
    go_wp2_with fail
    rw [← HW.out]
    refine HBY.out.mono ?_
    rintro e w1 ⟨rfl, rfl⟩
    rw [decide_eq_false h2b]
    go_wp2_with fail
    refine (long_any a n c w1).mono ?_
    rintro e w2 ⟨rfl, rfl⟩
    rw [decide_eq_true h2]
    go_wp2_with fail
    go_ret
    exact ⟨rfl, hkW1⟩
  by_cases h0 : m = 0
  · subst h0
    have HM1 := Lib.hid (HM.out.kept hkW1)
    obtain ⟨w0, hw0⟩ : ∃ w0, w0 = W1.alloc (.cells #[.int .u8 97] 5 (1, 2)) := ⟨_, rfl⟩
    obtain ⟨W, hW⟩ : ∃ W, W = w0.alloc (.cells #[.int .u8 97] 5 (1, 2)) := ⟨_, rfl⟩
    have hs0 : w0.heap.size = W1.heap.size + 1 := by rw [hw0]; simp
    have hcv1 : (convert 22 22 (.slice (some ⟨W1.heap.size, 0, none⟩) 1 1)).run Tryd.prog (W1.alloc (.cells #[.int .u8 97] 5)) = .ok (.slice (some ⟨W1.heap.size, 0, none⟩) 1 1) w0 := by
      rw [hw0]; exact Lib.run_convert_bytes_const (P := Tryd.prog) W1 22 5 #[.int .u8 97] 1 1 Tryd.underlying22 Tryd.underlying5
    have hcv2 : (convert 22 22 (.slice (some ⟨W1.heap.size + 1, 0, none⟩) 1 1)).run Tryd.prog (w0.alloc (.cells #[.int .u8 97] 5)) = .ok (.slice (some ⟨W1.heap.size + 1, 0, none⟩) 1 1) W := by
      have := Lib.run_convert_bytes_const (P := Tryd.prog) w0 22 5 #[.int .u8 97] 1 1 Tryd.underlying22 Tryd.underlying5
      rw [hs0] at this
      rw [hW]; exact this
    have hk0 : Kept (fun _ _ => False) W1 w0 := by rw [hw0]; exact Kept.alloc _ _
    have hk1 : Kept (fun _ _ => False) w0 W := by rw [hW]; exact Kept.alloc _ _
    have hkW := hk0.trans hk1
    have hc0 : W.cell? ⟨W1.heap.size, 0, none⟩ = some (.int .u8 97) := by
      rw [hk1.cell _ _ (by omega) (fun hf => hf), cell_of_row w0 W1.heap.size 0 #[.int .u8 97] 5 (1, 2) (by rw [hw0]; exact heap_alloc_new W1 _)]
      rfl
    have hc1 : W.cell? ⟨W1.heap.size + 1, 0, none⟩ = some (.int .u8 97) := by
      rw [cell_of_row W (W1.heap.size + 1) 0 #[.int .u8 97] 5 (1, 2) (by rw [hW, ← hs0]; exact heap_alloc_new w0 _)]
      rfl
    have HLK := Lib.hid (lookup_any (some ⟨W1.heap.size, 0, none⟩) 1 1 (fun _ => 97) (some ⟨W1.heap.size + 1, 0, none⟩) 1 1 (fun _ => 97) (-1) W
      (fun _ => ⟨_, 0, rfl, fun j hj => by have : j = 0 := (by omega); subst this; exact hc0⟩) (fun _ _ => by omega) (fun _ => ⟨_, 0, rfl, fun j hj => by have : j = 0 := (by omega); subst this; exact hc1⟩) (by omega) (by omega) (HM1.out.kept hkW))
    clear hW hw0 hc0 hc1 hk0 hk1
    go_enter Tryd.func5, Tryd.ntmps5
    go_wp2_with fail
    rw [← HW.out]
    refine HBY.out.mono ?_
    rintro e w2 ⟨rfl, rfl⟩
    rw [decide_eq_false h2b]
    go_wp2_with fail
    refine (long_any a n c w2).mono ?_
    rintro e w3 ⟨rfl, rfl⟩
    rw [decide_eq_false h2]
    go_wp2_with fail
    refine HLK.out.mono ?_
    rintro e w4 ⟨v, cc, f, rfl, hF, _, hs, hk2⟩
    have hcnt := hF.cnt
    rw [if_pos (by omega), plcs_one] at hcnt
    subst hcnt
    obtain ⟨rb, cap, rfl, _⟩ := hs (by omega)
    clear hF hs
    go_wp2_with fail
    go_ret
    exact ⟨rfl, (hkW1.trans hkW).trans hk2⟩
  have HLK := Lib.hid (lookup_any a n c T b m d S (-1) W1 (HIN.out.kept hkW1) HT.out (HQ.out.kept hkW1) (by omega) (by omega) (HM.out.kept hkW1))
  have hmz : ¬ (m : Int) = 0 := by omega
  go_enter Tryd.func5, Tryd.ntmps5
  go_wp2_with fail
  rw [← HW.out]
  refine HBY.out.mono ?_
  rintro e w2 ⟨rfl, rfl⟩
  rw [decide_eq_false h2b]
  go_wp2_with fail
  refine (long_any a n c w2).mono ?_
  rintro e w3 ⟨rfl, rfl⟩
  rw [decide_eq_false h2]
  go_wp2_with fail
  refine HLK.out.mono ?_
  rintro e w4 ⟨v, cc, f, rfl, hF, hz, hs, hk4⟩
  have hle := hF.le
  have hcnt := hF.cnt
  rw [if_pos (by omega)] at hcnt
  have hkk := hkW1.trans hk4
  have HF := Lib.hid hF
  have HCN := Lib.hid hcnt
  clear hF hcnt
  -- what was found, as a slice
  obtain ⟨sa, sc, rfl, hsr⟩ : ∃ sa sc, v = .slice sa cc sc ∧ (0 < cc → ∃ rb, sa = some ⟨rb, 0, none⟩ ∧ Row w4 .i64 rb 0 cc (fun x => (f x : Int))) := by
    by_cases hc0 : cc = 0
    · obtain ⟨a', c', rfl⟩ := hz hc0
      exact ⟨a', c', by rw [hc0], fun h => by omega⟩
    · obtain ⟨rb, cap, rfl, hR⟩ := hs (by omega)
      exact ⟨_, cap, rfl, fun _ => ⟨rb, rfl, hR⟩⟩
  have HSR := Lib.hid hsr
  clear hz hs hsr
  obtain ⟨qb, qo, rfl, hqc⟩ := (HQ.out.kept hkk) (by omega)
  have HCL := Lib.hid (cloneb_row qb qo m d S w4 hqc (by omega) (by omega))
  clear hqc
  go_wp2_with fail
  refine HCL.out.mono ?_
  rintro e w5 ⟨v5, rfl, ho5, hk5⟩
  have hs5 := hk5.size
  obtain ⟨v6, w6, hr6, ho6, hg6⟩ := append_bytes w5 w4.heap.size v5 m S r l u M ho5 ((HR.out.kept hkk).kept hk5) (by omega) (by omega) (by omega) hs5
  have hs6 := hg6.size
  have hk6 : Kept (fun _ _ => False) w4 w6 := below_kept (hk5.nothing.grown hg6 (by omega) fun x hx => (ho5.below x hx).1)
  obtain ⟨b6, c6, rfl, _, _, hR6⟩ := own_row ho6 (by omega)
  have HLK2 := Lib.hid (lookup_any a n c T (some ⟨b6, 0, none⟩) (m + l) c6 (two S M m) (-1) w6 (HIN.out.kept (hkk.trans hk6)) HT.out (fun _ => ⟨b6, 0, rfl, hR6.cell⟩) (by omega) (by omega) (HM.out.kept (hkk.trans hk6)))
  rw [sg_two] at HLK2
  have HK6 := Lib.hid hk6
  clear ho5 ho6 hg6 hk5 hR6 hk6
  go_wp2_with (at_builtin; refine Lib.wpList_append_run_sl _ rfl _ _ _ rfl _ _ rfl rfl hr6 ?_)
  refine HLK2.out.mono ?_
  rintro e w7 ⟨v7, cc7, f7, rfl, hF7, hz7, hs7, hk7⟩
  have hle7 := hF7.le
  have hk47 := HK6.out.trans hk7
  have HP := Lib.hid (places_any a n c T (some ⟨qb, qo, none⟩) m d S w7 (HIN.out.kept (hkk.trans hk47)) HT.out (HQ.out.kept (hkk.trans hk47)) HS.out (by omega) (by omega) hnc)
  have HF7 := Lib.hid hF7
  clear hF7
  by_cases hc7 : cc7 = 0
  · obtain ⟨a8, c8, rfl⟩ := hz7 hc7
    subst hc7
    clear hz7 hs7 hr6
    go_wp2_with fail
    refine wp_loop_rounds 1 ?_
    rw [rounds_succ]
    go_wp2_with fail
    refine HP.out.mono ?_
    rintro e w9 hl9
    obtain ⟨a9, c9, rfl, hk9⟩ := list_slice hl9
    clear hl9
    rw [← HCN.out]
    go_wp2_with fail
    go_ret
    exact ⟨rfl, (hkk.trans hk47).trans hk9⟩
  · obtain ⟨rb7, cap7, rfl, hR7⟩ := hs7 (by omega)
    have hsub : ∀ t, t < cc7 → ∃ j, j < cc ∧ (f j : Int) = (f7 t : Int) := fun t ht => by
      obtain ⟨j, hj, hje⟩ := HF.out.all (by omega) _ (plcs_app (by rw [sg_step S m 0 (by omega)]; simp) (HF7.out.mem t ht))
      exact ⟨j, hj, by rw [hje]⟩
    have hcpos : 0 < cc := by obtain ⟨j, hj, _⟩ := hsub 0 (by omega); omega
    obtain ⟨rb, rfl, hRs⟩ := HSR.out hcpos
    have hRs7 := hRs.keptAll hk47
    have HSUB := Lib.hid hsub
    clear hz7 hs7 hsub hRs hr6
    go_wp2_with fail
    go_loopw [49] (fun i wr => ∃ x : Nat, x ≤ cc7 ∧ i = .int .i64 x ∧ wr = w7)
      (fun i _ => cc7 - (intOf i).toNat)
    case atStart => exact ⟨0, Nat.zero_le _, rfl, rfl⟩
    case round =>
      obtain ⟨x, hx, rfl, rfl⟩ := hrel
      by_cases hxc : x < cc7
      · have hd := hR7.cell x hxc
        rw [Nat.zero_add] at hd
        have HC := Lib.hid (contains_row rb 0 cc sc (fun x => (f x : Int)) (f7 x : Int) wr hRs7 (HSUB.out x hxc) (by omega))
        go_wp2_with fail
        refine HC.out.mono ?_
        rintro e w8 ⟨rfl, rfl⟩
        go_wp2_with fail
        go_roundw
        case rel => exact ⟨x + 1, by omega, by simp, by trivial⟩
        case measure => simp [intOf]; omega
      · have hxc : x = cc7 := by omega
        subst hxc
        go_wp2_with fail
        refine HP.out.mono ?_
        rintro e w9 hl9
        obtain ⟨a9, c9, rfl, hk9⟩ := list_slice hl9
        clear hl9
        rw [← HCN.out]
        go_wp2_with fail
        go_ret
        exact ⟨rfl, (hkk.trans hk47).trans hk9⟩



/-- What came in: the text's bytes. -/
theorem bytes_in {w : World} {a : Option Addr} {len cap : Nat} {zs : List Int} (hl : len ≤ cap) (hz : zs.length = cap) (hcell : ∀ x, a = some x → ∀ i, i < zs.length → w.cell? (x.add i) = some (.int .u8 (zs.getD i 0))) (hn : 0 < len → a ≠ none) (hwz : ∀ n ∈ zs, (Lit.int .u8 n).wf = true) :
    (0 < len → ∃ b o, a = some ⟨b, o, none⟩ ∧ ∀ j, j < len → w.cell? ⟨b, o + j, none⟩ = some (.int .u8 (((fun i => (zs.getD i 0).toNat) j : Nat) : Int))) ∧ ∀ i, i < len → (fun i => (zs.getD i 0).toNat) i < 256 := by
  have hb : ∀ i, i < len → 0 ≤ zs.getD i 0 ∧ zs.getD i 0 < 256 := fun i hi => by
    have hm : zs.getD i 0 ∈ zs := by
      have hi' : i < zs.length := by omega
      rw [show zs.getD i 0 = zs[i] by simp [List.getD, hi']]; exact List.getElem_mem _
    have h := hwz _ hm
    have h1 : IntKind.u8.min = 0 := rfl
    have h2 : IntKind.u8.max = 255 := rfl
    simp only [Lit.wf, Bool.and_eq_true, decide_eq_true_eq] at h
    omega
  refine ⟨fun h0 => ?_, fun i hi => by have := hb i hi; show (zs.getD i 0).toNat < 256; omega⟩
  cases a with
  | none => exact absurd rfl (hn h0)
  | some x =>
    obtain ⟨b, o, spot⟩ := x
    have hc := hcell _ rfl
    have hspot : spot = none := by have := World.cell?_spot (hc 0 (by omega)); simpa [Addr.add] using this
    subst hspot
    refine ⟨b, o, rfl, fun j hj => ?_⟩
    have := hc j (by omega)
    rw [Addr.add_lit] at this
    rw [this]
    have := hb j hj
    show _ = some (Value.int .u8 ((zs.getD j 0).toNat : Int))
    rw [Int.toNat_of_nonneg this.1]

theorem own : ownKnob Tryd.prog.godebug = none := by kernel_rfl
theorem laidOut : laidOutB Tryd.prog = true := by kernel_rfl

theorem gMost : Tryd.prog.globalNamed "loop.example/pub-g03124/pub/suffixarray.maxData32" = some 0 := by kernel_rfl
theorem gMostType : (Tryd.prog.globals[0]?).map (·.type) = some 3 := by kernel_rfl

/-- What the row's list gives: the variable's cell. -/
theorem most_of {W : World} (h : laidMetH Tryd.prog Rows.fnLongerRow.laid W) : Most W := by
  obtain ⟨ps, ⟨g', t', cs, fuel, p, q, hg', ht', hvar, hd, _, _⟩, _⟩ := h
  obtain rfl := Option.some.inj (gMost.symm.trans hg')
  obtain rfl := Option.some.inj (gMostType.symm.trans ht')
  obtain ⟨k, e1, e2, _⟩ := DataW.trod_int Tryd.underlying3 hd
  have hk : k = 2147483647 := by
    simp only [Rows.laid_loop_example_pub_g03124_pub_suffixarray_maxData32, Prod.mk.injEq, DataW.lit.injEq, Lit.int.injEq, true_and] at e2
    exact e2.1.symm
  have := World.var?_cell gMost hvar 0
  rw [Array.eq_one_of_toList e1] at this
  subst hk
  exact this

set_option maxRecDepth 100000 in
theorem fnLonger_contract (H : Type) (enc : TypeId × Value → H) (W : World) (base : Nat) (args : Array Value) (ds gs : List (DataW H)) (before : List MemPlace)
    (hval : ∀ (j : Nat) t v, Tryd.f5.params[j]? = some t → args[j]? = some v → Value.okWide Tryd.prog W .any base t v)
    (hW : DataW.Whole enc Tryd.prog Tryd.f5.params.toList Rows.fnLongerSpec.vars false W args.toList ds gs before) (hL : laidMetH Tryd.prog Rows.fnLongerRow.laid W) :
    Calls Tryd.prog 5 args W fun e W' => ∃ v, e = .returned v ∧ Rows.fnLongerSpec.post enc Tryd.prog Tryd.f5 false true false false W args v W' := by
  have hM := most_of hL
  have hW' := hW
  obtain ⟨p, q, hA0, hV, rfl, _hfz, _hnd⟩ := hW
  have hA : DataW.TrodAll enc Tryd.prog W 0 (fun _ => true) true Tryd.f5.params.toList args.toList ds p := hA0
  rw [Tryd.params5] at hA hval
  obtain ⟨v0, vs0, d0, ds0, p0, q0, _hargs, rfl, rfl, h0, r0⟩ := trodAll_cons hA
  obtain ⟨v1, vs1, d1, ds1, p1, q1, rfl, rfl, rfl, h1, r1⟩ := trodAll_cons r0
  obtain ⟨v2, vs2, d2, ds2, p2, q2, rfl, rfl, rfl, h2, r2⟩ := trodAll_cons r1
  obtain ⟨rfl, rfl, rfl⟩ := trodAll_nil r2
  obtain rfl : args = #[v0, v1, v2] := by cases args; simp_all
  obtain ⟨_g, _t, _cs, _fu, dv, pv, rfl, _, _, _, _, _⟩ := trodVars_one hV
  obtain ⟨a0, len0, cap0, rfl⟩ := okWide_slice Tryd.underlying22 (hval 0 22 v0 rfl rfl)
  have k0 := h0
  have lt0 : ∀ x ∈ p0, x.block < W.heap.size := by obtain ⟨m, hm⟩ := k0; exact DataW.trod_lt m _ _ _ hm
  obtain ⟨T0, w0⟩ : ∃ T : Nat → Nat, (0 < len0 → ∃ b o, a0 = some ⟨b, o, none⟩ ∧ ∀ j, j < len0 → W.cell? ⟨b, o + j, none⟩ = some (.int .u8 (T j : Int))) ∧ (∀ i, i < len0 → T i < 256) ∧ len0 ≤ cap0 := by
    obtain ⟨fuel, hf⟩ := h0
    rcases open_ints Tryd.underlying22 Tryd.underlying5 (by kernel_rfl) hf with ⟨hcs, _⟩ | ⟨x, l, c, zs, hcs, _, hl, hm, hz, _, hcell, hwz⟩
    · simp [Value.cells] at hcs
      obtain ⟨rfl, rfl, rfl⟩ := hcs
      exact ⟨fun _ => 0, fun h => by omega, fun _ h => by omega, Nat.le_refl _⟩
    · simp [Value.cells] at hcs
      obtain ⟨rfl, rfl, rfl⟩ := hcs
      have hb := bytes_in (w := W) (a := some x) hl (by simpa using hz) (fun y hy => by cases hy; exact hcell) (fun _ h => by simp at h) hwz
      exact ⟨_, hb.1, hb.2, hl⟩
  obtain ⟨a1, len1, cap1, rfl⟩ := okWide_slice Tryd.underlying22 (hval 1 22 v1 rfl rfl)
  have k1 := h1
  have lt1 : ∀ x ∈ p1, x.block < W.heap.size := by obtain ⟨m, hm⟩ := k1; exact DataW.trod_lt m _ _ _ hm
  obtain ⟨T1, w1⟩ : ∃ T : Nat → Nat, (0 < len1 → ∃ b o, a1 = some ⟨b, o, none⟩ ∧ ∀ j, j < len1 → W.cell? ⟨b, o + j, none⟩ = some (.int .u8 (T j : Int))) ∧ (∀ i, i < len1 → T i < 256) ∧ len1 ≤ cap1 := by
    obtain ⟨fuel, hf⟩ := h1
    rcases open_ints Tryd.underlying22 Tryd.underlying5 (by kernel_rfl) hf with ⟨hcs, _⟩ | ⟨x, l, c, zs, hcs, _, hl, hm, hz, _, hcell, hwz⟩
    · simp [Value.cells] at hcs
      obtain ⟨rfl, rfl, rfl⟩ := hcs
      exact ⟨fun _ => 0, fun h => by omega, fun _ h => by omega, Nat.le_refl _⟩
    · simp [Value.cells] at hcs
      obtain ⟨rfl, rfl, rfl⟩ := hcs
      have hb := bytes_in (w := W) (a := some x) hl (by simpa using hz) (fun y hy => by cases hy; exact hcell) (fun _ h => by simp at h) hwz
      exact ⟨_, hb.1, hb.2, hl⟩
  obtain ⟨a2, len2, cap2, rfl⟩ := okWide_slice Tryd.underlying22 (hval 2 22 v2 rfl rfl)
  have k2 := h2
  have lt2 : ∀ x ∈ p2, x.block < W.heap.size := by obtain ⟨m, hm⟩ := k2; exact DataW.trod_lt m _ _ _ hm
  obtain ⟨T2, w2⟩ : ∃ T : Nat → Nat, (0 < len2 → ∃ b o, a2 = some ⟨b, o, none⟩ ∧ ∀ j, j < len2 → W.cell? ⟨b, o + j, none⟩ = some (.int .u8 (T j : Int))) ∧ (∀ i, i < len2 → T i < 256) ∧ len2 ≤ cap2 := by
    obtain ⟨fuel, hf⟩ := h2
    rcases open_ints Tryd.underlying22 Tryd.underlying5 (by kernel_rfl) hf with ⟨hcs, _⟩ | ⟨x, l, c, zs, hcs, _, hl, hm, hz, _, hcell, hwz⟩
    · simp [Value.cells] at hcs
      obtain ⟨rfl, rfl, rfl⟩ := hcs
      exact ⟨fun _ => 0, fun h => by omega, fun _ h => by omega, Nat.le_refl _⟩
    · simp [Value.cells] at hcs
      obtain ⟨rfl, rfl, rfl⟩ := hcs
      have hb := bytes_in (w := W) (a := some x) hl (by simpa using hz) (fun y hy => by cases hy; exact hcell) (fun _ h => by simp at h) hwz
      exact ⟨_, hb.1, hb.2, hl⟩
  clear hA0
  refine (fnLonger_walk a0 len0 cap0 T0 a1 len1 cap1 T1 a2 len2 cap2 T2 W w0.1 w0.2.1 w0.2.2 w1.1 w1.2.1 w1.2.2 w2.1 w2.2.1 w2.2.2 hM).mono fun e W' ⟨he, hk⟩ => ?_
  have bel := hk.nothing
  subst he
  exact ⟨_, rfl, _, _, _, [], _, _, hW', trodAll_mk1 (shut_bool Tryd.underlying4 _), (trodAll_cons_mk (Below.trod laidOut (by kernel_rfl) (of_decide_eq_true (by kernel_rfl)) k0 bel lt0) (trodAll_cons_mk (Below.trod laidOut (by kernel_rfl) (of_decide_eq_true (by kernel_rfl)) k1 bel lt1) (trodAll_cons_mk (Below.trod laidOut (by kernel_rfl) (of_decide_eq_true (by kernel_rfl)) k2 bel lt2) trodAll_mk0))), Below.trodVars laidOut bel (by kernel_rfl) hV, bel.frame _, fun h => by cases h⟩

/-- A world for the witness: the settled one, the variable holding what its initialiser lays. -/
noncomputable def laidWorld (os : Os) : World :=
  { World.holding Tryd.prog os ⟨#[], #[], []⟩ with heap := (World.holding Tryd.prog os ⟨#[], #[], []⟩).heap.modify 0 fun
      | .cells _ t frozen => .cells #[.int .i64 2147483647] t frozen
      | o => o }
theorem laid_met (os : Os) : laidMet Tryd.prog Rows.fnLongerRow.laid ((laidWorld os).forCall (fun _ _ => 0) ⟨#[], #[.slice none 0 0, .slice none 0 0, .slice none 0 0], []⟩).memory :=
  laidMet_of_run' 8 (by kernel_rfl) (by kernel_rfl)
theorem reads (os : Os) {H : Type} (enc : TypeId × Value → H) : ∃ places, DataW.whole enc Tryd.prog ((laidWorld os).forCall (fun _ _ => 0) ⟨#[], #[.slice none 0 0, .slice none 0 0, .slice none 0 0], []⟩).memory Tryd.f5.params.toList Rows.fnLongerSpec.vars false (#[.slice none 0 0, .slice none 0 0, .slice none 0 0] : Array Value).toList 8 = some ([.nil, .nil, .nil], [.lit (.int .i64 2147483647)], places) :=
  ⟨[MemPlace.cell 0 0], by kernel_rfl⟩

set_option maxRecDepth 100000 in
theorem fnLonger_lifted (os : Os) (started : os.Started) (H : Type) (enc : TypeId × Value → H) (F : Stop.Interp) :
    ReturnsInHanded {} Tryd.checked os 5 .any ((OpenSpec.ofChange Rows.fnLongerSpec).preRow enc Tryd.prog Tryd.f5 Rows.fnLongerRow.domain false Rows.fnLongerRow.laid) (((OpenSpec.ofChange Rows.fnLongerSpec).at F).post enc Tryd.prog Tryd.f5 false true false false) := by
  obtain ⟨places, hx⟩ := reads os enc
  refine returnsInHanded_of_row (C := Tryd.checked) (s := OpenSpec.ofChange Rows.fnLongerSpec) own started (by kernel_rfl) Tryd.func5
    (witness_row_at (enc := enc) (C := Tryd.checked) false (laidWorld os) #[.slice none 0 0, .slice none 0 0, .slice none 0 0] rfl (by kernel_rfl) (by kernel_rfl) (by kernel_rfl)
      (OpenSpec.preRow_of_cond 8 hx (by kernel_rfl) (fun k hk => by cases hk) (by kernel_rfl) (laid_met os))) ?_
  intro W base args ds gs before hval hW _ _ _ hL _ _
  exact fnLonger_contract H enc W base args ds gs before hval hW hL

theorem fnLonger_said : Rows.FnLongerSaid :=
  OpenClaim.holds_of_cond 5 Tryd.f5 rfl rfl rfl rfl rfl rfl rfl ⟨rfl, rfl, rfl, rfl, rfl⟩ rfl rfl rfl rfl rfl (by kernel_rfl) Tryd.func5 (by kernel_rfl)
    (of_decide_eq_true (by kernel_rfl)) (by unfold Func.isWrapper; first | (rw [if_pos (by decide +kernel)]; kernel_rfl) | (rw [if_neg (by decide +kernel)]; exact ⟨rfl, rfl⟩))
    (fun os started H enc _ F => by rw [OpenClaim.pre_eq_preRow]; exact fnLonger_lifted os started H enc F)

/-- No parameter wants a stand-in; the program's own looks are off. -/
theorem plain (f : FuncId) (fn : Func) (hf : Tryd.pinned.checked.prog.funcNamed "loop.example/pub-g03124/laws.FnLonger" = some f) (hfn : Tryd.pinned.checked.prog.funcs[f]? = some fn) :
    false = Tryd.pinned.checked.prog.looks [] ∧ ∀ (j : Nat) t, fn.params[j]? = some t → Tryd.pinned.checked.prog.wantsStandIn t = false := by
  obtain rfl : f = 5 := Option.some.inj ((show Tryd.prog.funcNamed "loop.example/pub-g03124/laws.FnLonger" = some 5 by kernel_rfl).symm.trans hf) |>.symm
  obtain rfl : fn = Tryd.f5 := (Option.some.inj (Tryd.func5.symm.trans hfn)).symm
  refine ⟨by kernel_rfl, fun j t ht => ?_⟩
  rw [Tryd.params5] at ht
  have hm : t ∈ [22, 22, 22] := by simpa using Array.mem_of_getElem? ht
  have hall : ([22, 22, 22].all fun u => !Tryd.prog.wantsStandIn u) = true := by kernel_rfl
  exact (show Tryd.prog.wantsStandIn t = false by simpa using List.all_eq_true.1 hall t hm)

/-- The statement: the tied card. -/
theorem fnLonger_holds : Rows.FnLongerCardSaid :=
  Claim7.holds_tied_plain_at .later [] _ _ _ _ fnLonger_said (fun _ h => by cases h) (by kernel_rfl) (fun _ h => by cases h) fnLonger_row_tie rfl ⟨rfl, rfl⟩ (by kernel_rfl) rfl plain (by kernel_rfl)
#print axioms fnLonger_holds
end Go.Proofs.YthmpjmohakdkmaaDoor
