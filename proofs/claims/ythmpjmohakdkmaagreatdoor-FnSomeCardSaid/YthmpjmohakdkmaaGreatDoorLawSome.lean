/-
  The law FnSome: so many places are told at most, each once, each one of those of the piece; nothing where none is asked for: for every two slices of bytes and every number the call returns true and the arguments read as they did; the greatest length for numbers of 32 bits is as the package lays it (tied). No further condition.
-/
import Derived.Test.YthmpjmohakdkmaaGreatDoorCon
import Derived.Test.YthmpjmohakdkmaaGreatDoorSrt
import Derived.Test.YthmpjmohakdkmaaGreatDoorEq
import Derived.Test.YthmpjmohakdkmaaGreatDoorRows
import Derived.Test.YthmpjmohakdkmaaGreatDoorCards
import Derived.Test.YthmpjmohakdkmaaGreatDoorTie
import Derived.WalkKit
import Derived.ProofKit
import Derived.OpenShut
import Derived.ShutString
import Derived.ChangeOld
import Derived.Below
import Derived.ChangeVars
import Derived.OpenVars
import Derived.Deep.DeepHandedRow
import Derived.Lib.LaidTab
namespace Go.Proofs.YthmpjmohakdkmaaGreatDoor
open Go.RowKit Go.ChangeShapes Go.WideShapes Go.ChangeAt

/-- A list that is told, as a slice. -/
theorem list_slice {l : List Nat} {w w' : World} {e : Ending} (h : ListPost l w e w') : ∃ a' c', e = .returned (.slice a' l.length c') ∧ Kept (fun _ _ => False) w w' := by
  obtain ⟨v, rfl, hz, hs, hk⟩ := h
  by_cases h0 : l.length = 0
  · obtain ⟨a', c', rfl⟩ := hz h0
    exact ⟨a', c', by rw [h0], hk⟩
  · obtain ⟨rb, cap, rfl, _⟩ := hs (by omega)
    exact ⟨_, cap, rfl, hk⟩

set_option maxHeartbeats 4000000 in
set_option maxRecDepth 100000 in
/-- So many places are told at most, each once, each one of the piece's. -/
theorem fnSome_walk (a : Option Addr) (n c : Nat) (T : Nat → Nat) (b : Option Addr) (m d : Nat) (S : Nat → Nat) (k : Int) (w : World) (hin : Came w a n T) (hT : ∀ i, i < n → T i < 256) (hnc : n ≤ c) (hq : Came w b m S) (hS : ∀ i, i < m → S i < 256) (_hmd : m ≤ d) (hk : (Lit.int .i16 k).wf = true) (hM : Most w) :
    Calls Tryz.prog 3 #[.slice a n c, .slice b m d, .int .i16 k] w fun e w' => e = .returned (.bool true) ∧ Kept (fun _ _ => False) w w' := by
  have hkb : -32768 ≤ k ∧ k ≤ 32767 := by
    simp [Lit.wf, IntKind.min, IntKind.max, IntKind.signed, IntKind.bits] at hk
    omega
  clear hk
  have HIN := Lib.hid hin
  have HT := Lib.hid hT
  have HQ := Lib.hid hq
  have HS := Lib.hid hS
  have HM := Lib.hid hM
  clear hin hT hq hS hM
  by_cases h1 : 2147483647 < n
  · go_enter Tryz.func3, Tryz.ntmps3
    go_wp2_with fail
    go_ret
    exact ⟨rfl, Kept.refl _ _⟩
  by_cases h1b : 2147483647 < m
  · go_enter Tryz.func3, Tryz.ntmps3
    go_wp2_with fail
    go_ret
    exact ⟨rfl, Kept.refl _ _⟩
  have hbx : (w.alloc (.cells #[.int .i64 (m : Int)] 3)).cell? ⟨w.heap.size, 0, none⟩ = some (.int .i64 (m : Int)) := by rw [World.cell?_alloc_at _ _ _ _ rfl]; rfl
  have HBY := Lib.hid (beyond_one w.heap.size m _ hbx)
  obtain ⟨W, hW⟩ : ∃ W, W = w.alloc (.cells #[.int .i64 (m : Int)] 3) := ⟨_, rfl⟩
  have hkW : Kept (fun _ _ => False) w W := by rw [hW]; exact Kept.alloc _ _
  have HW := Lib.hid hW
  rw [← HW.out] at HBY
  clear hbx hW
  by_cases h2b : 1048576 < m
  · go_enter Tryz.func3, Tryz.ntmps3
    go_wp2_with fail
    rw [← HW.out]
    refine HBY.out.mono ?_
    rintro e w1 ⟨rfl, rfl⟩
    rw [decide_eq_true h2b]
    go_wp2_with fail
    go_ret
    exact ⟨rfl, hkW⟩
  by_cases h2 : 1048576 < n
  · go_enter Tryz.func3, Tryz.ntmps3
    go_wp2_with fail
    rw [← HW.out]
    refine HBY.out.mono ?_
    rintro e w1 ⟨rfl, rfl⟩
    rw [decide_eq_false h2b]
    go_wp2_with fail
    refine (long_any a n c w1).mono ?_
    rintro e w2 ⟨rfl, rfl⟩
    rw [decide_eq_true h2]
    go_wp2_with fail
    go_ret
    exact ⟨rfl, hkW⟩
  have HLK := Lib.hid (lookup_any a n c T b m d S k W (HIN.out.kept hkW) HT.out (HQ.out.kept hkW) (by omega) (by omega) (HM.out.kept hkW))
  go_enter Tryz.func3, Tryz.ntmps3
  go_wp2_with fail
  rw [← HW.out]
  refine HBY.out.mono ?_
  rintro e w1 ⟨rfl, rfl⟩
  rw [decide_eq_false h2b]
  go_wp2_with fail
  refine (long_any a n c w1).mono ?_
  rintro e w2 ⟨rfl, rfl⟩
  rw [decide_eq_false h2]
  go_wp2_with fail
  refine HLK.out.mono ?_
  rintro e w3 ⟨v, cc, f, rfl, hF, hz, hs, hk3⟩
  have hle := hF.le
  have HF := Lib.hid hF
  have hkk := hkW.trans hk3
  have hll := plcs_len T n (sg S m 0)
  clear hF
  by_cases h0 : cc = 0
  · obtain ⟨a4, c4, rfl⟩ := hz h0
    subst h0
    clear hz hs
    go_wp2_with fail
    refine (sorted_zero a4 c4 w3).mono ?_
    rintro e w4 ⟨a5, c5, rfl, hk4⟩
    have HP := Lib.hid (places_any a n c T b m d S w4 (HIN.out.kept (hkk.trans hk4)) HT.out (HQ.out.kept (hkk.trans hk4)) HS.out (by omega) (by omega) hnc)
    go_wp2_with fail
    refine HP.out.mono ?_
    rintro e w5 hl5
    obtain ⟨a6, c6, rfl, hk5⟩ := list_slice hl5
    clear hl5
    have hcnt := HF.out.cnt
    generalize (plcs T n (sg S m 0)).length = ll at *
    by_cases hk0 : k < 0
    · rw [if_pos hk0] at hcnt
      subst hcnt
      go_wp2_with fail
      refine (equal_zero a5 a6 c5 c6 w5).mono ?_
      rintro e w6 ⟨rfl, rfl⟩
      go_wp2_with fail
      go_ret
      exact ⟨rfl, hkk.trans (hk4.trans hk5)⟩
    · rw [if_neg hk0] at hcnt
      have hmin : min k (ll : Int) = 0 := by omega
      have hbm : ((0 : Int) != min k (ll : Int)) = false := by rw [hmin]; rfl
      clear hcnt hmin
      go_wp2_with fail
      refine wp_loop_rounds 1 ?_
      rw [rounds_succ]
      go_wp2_with fail
      go_ret
      exact ⟨rfl, hkk.trans (hk4.trans hk5)⟩
  · obtain ⟨rb, cap, rfl, hR⟩ := hs (by omega)
    clear hz hs
    go_wp2_with fail
    refine (sorted_row rb 0 cc cap (fun x => (f x : Int)) w3 hR (by omega) (by omega)).mono ?_
    rintro e w4 ⟨g4, cap4, rfl, hR4, hk4⟩
    obtain ⟨df, HDF⟩ : ∃ df : Nat → Int, Hid (df = fun x => (up (told cc f)).getD x 0) := ⟨_, Lib.hid rfl⟩
    have hR5 : Row w4 .i64 g4 0 cc df := hR4.congr fun x _ => by rw [HDF.out]; rfl
    have HP := Lib.hid (places_any a n c T b m d S w4 (HIN.out.kept (hkk.trans hk4)) HT.out (HQ.out.kept (hkk.trans hk4)) HS.out (by omega) (by omega) hnc)
    clear hR hR4
    go_wp2_with fail
    refine HP.out.mono ?_
    rintro e w5 hl5
    have hcnt := HF.out.cnt
    have hlpos : 0 < (plcs T n (sg S m 0)).length := by
      split at hcnt <;> omega
    obtain ⟨v5, rfl, _, hs5, hk5⟩ := hl5
    obtain ⟨g5, cap5, rfl, hR6⟩ := hs5 hlpos
    clear hs5
    have HIN5 := Lib.hid (hR5.keptAll hk5)
    by_cases hk0 : k < 0
    · rw [if_pos hk0] at hcnt
      have HCN := Lib.hid hcnt
      have hR7 : Row w5 .i64 g5 0 cc df := by
        rw [hcnt]
        refine hR6.congr fun x hx => ?_
        rw [HDF.out, up_all HF.out hk0]
        simp [List.getD, hx]
      clear hcnt
      rw [← HCN.out]
      go_wp2_with fail
      refine (equal_same g4 0 cc cap4 g5 0 cap5 df w5 HIN5.out hR7 (by omega)).mono ?_
      rintro e w6 ⟨rfl, q, rfl⟩
      go_wp2_with fail
      go_ret
      exact ⟨rfl, (hkk.trans (hk4.trans hk5)).drewN q⟩
    · rw [if_neg hk0] at hcnt
      obtain ⟨pf, HPF⟩ : ∃ pf : Nat → Int, Hid (pf = fun x => ((plcs T n (sg S m 0)).getD x 0 : Int)) := ⟨_, Lib.hid rfl⟩
      have hR7 : Row w5 .i64 g5 0 (plcs T n (sg S m 0)).length pf := hR6.congr fun x _ => by rw [HPF.out]
      have HIN : Hid (∀ i, i < cc → ∃ j, j < (plcs T n (sg S m 0)).length ∧ pf j = df i) := Lib.hid fun i hi => by
        have hlen : (up (told cc f)).length = cc := by rw [up_length]; simp [told]
        have hm : (up (told cc f)).getD i 0 ∈ up (told cc f) := by
          rw [List.getD_eq_getElem?_getD, List.getElem?_eq_getElem (by omega)]
          exact List.getElem_mem _
        obtain ⟨y, hy, hye⟩ := List.mem_map.1 (mem_up_told HF.out hm)
        obtain ⟨j, hj, hje⟩ := List.getElem_of_mem hy
        refine ⟨j, hj, ?_⟩
        rw [HPF.out, HDF.out]
        show (((plcs T n (sg S m 0)).getD j 0 : Nat) : Int) = (up (told cc f)).getD i 0
        rw [← hye, ← hje]
        simp [List.getD, hj]
      have HNE : Hid (∀ i, i + 1 < cc → df i ≠ df (i + 1)) := Lib.hid fun i hi => by
        have hlen : (up (told cc f)).length = cc := by rw [up_length]; simp [told]
        have hp := List.pairwise_iff_getElem.1 (up_inc HF.out) i (i + 1) (by omega) (by omega) (by omega)
        rw [HDF.out]
        show (up (told cc f)).getD i 0 ≠ (up (told cc f)).getD (i + 1) 0
        rw [List.getD_eq_getElem?_getD, List.getD_eq_getElem?_getD, List.getElem?_eq_getElem (by omega), List.getElem?_eq_getElem (by omega)]
        simp only [Option.getD_some]
        omega
      clear hR6 hR5
      generalize (plcs T n (sg S m 0)).length = ll at *
      have hmin : min k (ll : Int) = (cc : Int) := by omega
      have hbm : ((cc : Int) != min k (ll : Int)) = false := by rw [hmin]; simp
      have HLL := Lib.hid (And.intro hll (And.intro hle hlpos))
      clear hcnt hmin hll
      go_wp2_with fail
      go_loopw [49] (fun i wr => ∃ x : Nat, x ≤ cc ∧ i = .int .i64 x ∧ wr = w5)
        (fun i _ => cc - (intOf i).toNat)
      case atStart => exact ⟨0, Nat.zero_le _, rfl, rfl⟩
      case round =>
        obtain ⟨x, hx, rfl, rfl⟩ := hrel
        by_cases hxc : x < cc
        · have hd := HIN5.out.cell x hxc
          rw [Nat.zero_add] at hd
          have HC := Lib.hid (contains_row g5 0 ll cap5 pf (df x) wr hR7 (HIN.out x hxc) (by have := HLL.out; omega))
          by_cases hx0 : x = 0
          · subst hx0
            go_wp2_with fail
            refine HC.out.mono ?_
            rintro e w6 ⟨rfl, rfl⟩
            go_wp2_with fail
            go_roundw
            case rel => exact ⟨1, by omega, by simp, by trivial⟩
            case measure => simp [intOf]; omega
          · obtain ⟨y, rfl⟩ : ∃ y, x = y + 1 := ⟨x - 1, by omega⟩
            have hd2 := HIN5.out.cell y (by omega)
            rw [Nat.zero_add] at hd2
            have hbe : (df y == df (y + 1)) = false := by simp [HNE.out y hxc]
            go_wp2_with fail
            refine HC.out.mono ?_
            rintro e w6 ⟨rfl, rfl⟩
            go_wp2_with fail
            go_roundw
            case rel => exact ⟨y + 2, by omega, by simp; omega, by trivial⟩
            case measure => simp [intOf]; omega
        · have hxc : x = cc := by omega
          subst hxc
          go_wp2_with fail
          go_ret
          exact ⟨rfl, hkk.trans (hk4.trans hk5)⟩



/-- What came in: the text's bytes. -/
theorem bytes_in {w : World} {a : Option Addr} {len cap : Nat} {zs : List Int} (hl : len ≤ cap) (hz : zs.length = cap) (hcell : ∀ x, a = some x → ∀ i, i < zs.length → w.cell? (x.add i) = some (.int .u8 (zs.getD i 0))) (hn : 0 < len → a ≠ none) (hwz : ∀ n ∈ zs, (Lit.int .u8 n).wf = true) :
    (0 < len → ∃ b o, a = some ⟨b, o, none⟩ ∧ ∀ j, j < len → w.cell? ⟨b, o + j, none⟩ = some (.int .u8 (((fun i => (zs.getD i 0).toNat) j : Nat) : Int))) ∧ ∀ i, i < len → (fun i => (zs.getD i 0).toNat) i < 256 := by
  have hb : ∀ i, i < len → 0 ≤ zs.getD i 0 ∧ zs.getD i 0 < 256 := fun i hi => by
    have hm : zs.getD i 0 ∈ zs := by
      have hi' : i < zs.length := by omega
      rw [show zs.getD i 0 = zs[i] by simp [List.getD, hi']]; exact List.getElem_mem _
    have h := hwz _ hm
    have h1 : IntKind.u8.min = 0 := rfl
    have h2 : IntKind.u8.max = 255 := rfl
    simp only [Lit.wf, Bool.and_eq_true, decide_eq_true_eq] at h
    omega
  refine ⟨fun h0 => ?_, fun i hi => by have := hb i hi; show (zs.getD i 0).toNat < 256; omega⟩
  cases a with
  | none => exact absurd rfl (hn h0)
  | some x =>
    obtain ⟨b, o, spot⟩ := x
    have hc := hcell _ rfl
    have hspot : spot = none := by have := World.cell?_spot (hc 0 (by omega)); simpa [Addr.add] using this
    subst hspot
    refine ⟨b, o, rfl, fun j hj => ?_⟩
    have := hc j (by omega)
    rw [Addr.add_lit] at this
    rw [this]
    have := hb j hj
    show _ = some (Value.int .u8 ((zs.getD j 0).toNat : Int))
    rw [Int.toNat_of_nonneg this.1]

theorem own : ownKnob Tryz.prog.godebug = none := by kernel_rfl
theorem laidOut : laidOutB Tryz.prog = true := by kernel_rfl

theorem gMost : Tryz.prog.globalNamed "loop.example/pub-g03124/pub/suffixarray.maxData32" = some 0 := by kernel_rfl
theorem gMostType : (Tryz.prog.globals[0]?).map (·.type) = some 3 := by kernel_rfl

/-- What the row's list gives: the variable's cell. -/
theorem most_of {W : World} (h : laidMetH Tryz.prog Rows.fnSomeRow.laid W) : Most W := by
  obtain ⟨ps, ⟨g', t', cs, fuel, p, q, hg', ht', hvar, hd, _, _⟩, _⟩ := h
  obtain rfl := Option.some.inj (gMost.symm.trans hg')
  obtain rfl := Option.some.inj (gMostType.symm.trans ht')
  obtain ⟨k, e1, e2, _⟩ := DataW.trod_int Tryz.underlying3 hd
  have hk : k = 2147483647 := by
    simp only [Rows.laid_loop_example_pub_g03124_pub_suffixarray_maxData32, Prod.mk.injEq, DataW.lit.injEq, Lit.int.injEq, true_and] at e2
    exact e2.1.symm
  have := World.var?_cell gMost hvar 0
  rw [Array.eq_one_of_toList e1] at this
  subst hk
  exact this

set_option maxRecDepth 100000 in
theorem fnSome_contract (H : Type) (enc : TypeId × Value → H) (W : World) (base : Nat) (args : Array Value) (ds gs : List (DataW H)) (before : List MemPlace)
    (hval : ∀ (j : Nat) t v, Tryz.f3.params[j]? = some t → args[j]? = some v → Value.okWide Tryz.prog W .any base t v)
    (hW : DataW.Whole enc Tryz.prog Tryz.f3.params.toList Rows.fnSomeSpec.vars false W args.toList ds gs before) (hL : laidMetH Tryz.prog Rows.fnSomeRow.laid W) :
    Calls Tryz.prog 3 args W fun e W' => ∃ v, e = .returned v ∧ Rows.fnSomeSpec.post enc Tryz.prog Tryz.f3 false true false false W args v W' := by
  have hM := most_of hL
  have hW' := hW
  obtain ⟨p, q, hA0, hV, rfl, _hfz, _hnd⟩ := hW
  have hA : DataW.TrodAll enc Tryz.prog W 0 (fun _ => true) true Tryz.f3.params.toList args.toList ds p := hA0
  rw [Tryz.params3] at hA hval
  obtain ⟨v0, vs0, d0, ds0, p0, q0, _hargs, rfl, rfl, h0, r0⟩ := trodAll_cons hA
  obtain ⟨v1, vs1, d1, ds1, p1, q1, rfl, rfl, rfl, h1, r1⟩ := trodAll_cons r0
  obtain ⟨v2, vs2, d2, ds2, p2, q2, rfl, rfl, rfl, h2, r2⟩ := trodAll_cons r1
  obtain ⟨rfl, rfl, rfl⟩ := trodAll_nil r2
  obtain rfl : args = #[v0, v1, v2] := by cases args; simp_all
  obtain ⟨_g, _t, _cs, _fu, dv, pv, rfl, _, _, _, _, _⟩ := trodVars_one hV
  obtain ⟨a0, len0, cap0, rfl⟩ := okWide_slice Tryz.underlying22 (hval 0 22 v0 rfl rfl)
  have k0 := h0
  have lt0 : ∀ x ∈ p0, x.block < W.heap.size := by obtain ⟨m, hm⟩ := k0; exact DataW.trod_lt m _ _ _ hm
  obtain ⟨T0, w0⟩ : ∃ T : Nat → Nat, (0 < len0 → ∃ b o, a0 = some ⟨b, o, none⟩ ∧ ∀ j, j < len0 → W.cell? ⟨b, o + j, none⟩ = some (.int .u8 (T j : Int))) ∧ (∀ i, i < len0 → T i < 256) ∧ len0 ≤ cap0 := by
    obtain ⟨fuel, hf⟩ := h0
    rcases open_ints Tryz.underlying22 Tryz.underlying5 (by kernel_rfl) hf with ⟨hcs, _⟩ | ⟨x, l, c, zs, hcs, _, hl, hm, hz, _, hcell, hwz⟩
    · simp [Value.cells] at hcs
      obtain ⟨rfl, rfl, rfl⟩ := hcs
      exact ⟨fun _ => 0, fun h => by omega, fun _ h => by omega, Nat.le_refl _⟩
    · simp [Value.cells] at hcs
      obtain ⟨rfl, rfl, rfl⟩ := hcs
      have hb := bytes_in (w := W) (a := some x) hl (by simpa using hz) (fun y hy => by cases hy; exact hcell) (fun _ h => by simp at h) hwz
      exact ⟨_, hb.1, hb.2, hl⟩
  obtain ⟨a1, len1, cap1, rfl⟩ := okWide_slice Tryz.underlying22 (hval 1 22 v1 rfl rfl)
  have k1 := h1
  have lt1 : ∀ x ∈ p1, x.block < W.heap.size := by obtain ⟨m, hm⟩ := k1; exact DataW.trod_lt m _ _ _ hm
  obtain ⟨T1, w1⟩ : ∃ T : Nat → Nat, (0 < len1 → ∃ b o, a1 = some ⟨b, o, none⟩ ∧ ∀ j, j < len1 → W.cell? ⟨b, o + j, none⟩ = some (.int .u8 (T j : Int))) ∧ (∀ i, i < len1 → T i < 256) ∧ len1 ≤ cap1 := by
    obtain ⟨fuel, hf⟩ := h1
    rcases open_ints Tryz.underlying22 Tryz.underlying5 (by kernel_rfl) hf with ⟨hcs, _⟩ | ⟨x, l, c, zs, hcs, _, hl, hm, hz, _, hcell, hwz⟩
    · simp [Value.cells] at hcs
      obtain ⟨rfl, rfl, rfl⟩ := hcs
      exact ⟨fun _ => 0, fun h => by omega, fun _ h => by omega, Nat.le_refl _⟩
    · simp [Value.cells] at hcs
      obtain ⟨rfl, rfl, rfl⟩ := hcs
      have hb := bytes_in (w := W) (a := some x) hl (by simpa using hz) (fun y hy => by cases hy; exact hcell) (fun _ h => by simp at h) hwz
      exact ⟨_, hb.1, hb.2, hl⟩
  obtain ⟨a2, rfl, rfl, rfl, w2⟩ := open_int Tryz.underlying23 (hval 2 23 v2 rfl rfl) h2
  clear hA0
  refine (fnSome_walk a0 len0 cap0 T0 a1 len1 cap1 T1 a2 W w0.1 w0.2.1 w0.2.2 w1.1 w1.2.1 w1.2.2 w2 hM).mono fun e W' ⟨he, hk⟩ => ?_
  have bel := hk.nothing
  subst he
  exact ⟨_, rfl, _, _, _, [], _, _, hW', trodAll_mk1 (shut_bool Tryz.underlying4 _), (trodAll_cons_mk (Below.trod laidOut (by kernel_rfl) (of_decide_eq_true (by kernel_rfl)) k0 bel lt0) (trodAll_cons_mk (Below.trod laidOut (by kernel_rfl) (of_decide_eq_true (by kernel_rfl)) k1 bel lt1) (trodAll_cons_mk (shut_int Tryz.underlying23 w2) trodAll_mk0))), Below.trodVars laidOut bel (by kernel_rfl) hV, bel.frame _, fun h => by cases h⟩

/-- A world for the witness: the settled one, the variable holding what its initialiser lays. -/
noncomputable def laidWorld (os : Os) : World :=
  { World.holding Tryz.prog os ⟨#[], #[], []⟩ with heap := (World.holding Tryz.prog os ⟨#[], #[], []⟩).heap.modify 0 fun
      | .cells _ t frozen => .cells #[.int .i64 2147483647] t frozen
      | o => o }
theorem laid_met (os : Os) : laidMet Tryz.prog Rows.fnSomeRow.laid ((laidWorld os).forCall (fun _ _ => 0) ⟨#[], #[.slice none 0 0, .slice none 0 0, .int .i16 0], []⟩).memory :=
  laidMet_of_run' 8 (by kernel_rfl) (by kernel_rfl)
theorem reads (os : Os) {H : Type} (enc : TypeId × Value → H) : ∃ places, DataW.whole enc Tryz.prog ((laidWorld os).forCall (fun _ _ => 0) ⟨#[], #[.slice none 0 0, .slice none 0 0, .int .i16 0], []⟩).memory Tryz.f3.params.toList Rows.fnSomeSpec.vars false (#[.slice none 0 0, .slice none 0 0, .int .i16 0] : Array Value).toList 8 = some ([.nil, .nil, .lit (.int .i16 0)], [.lit (.int .i64 2147483647)], places) :=
  ⟨[MemPlace.cell 0 0], by kernel_rfl⟩

set_option maxRecDepth 100000 in
theorem fnSome_lifted (os : Os) (started : os.Started) (H : Type) (enc : TypeId × Value → H) (F : Stop.Interp) :
    ReturnsInHanded {} Tryz.checked os 3 .any ((OpenSpec.ofChange Rows.fnSomeSpec).preRow enc Tryz.prog Tryz.f3 Rows.fnSomeRow.domain false Rows.fnSomeRow.laid) (((OpenSpec.ofChange Rows.fnSomeSpec).at F).post enc Tryz.prog Tryz.f3 false true false false) := by
  obtain ⟨places, hx⟩ := reads os enc
  refine returnsInHanded_of_row (C := Tryz.checked) (s := OpenSpec.ofChange Rows.fnSomeSpec) own started (by kernel_rfl) Tryz.func3
    (witness_row_at (enc := enc) (C := Tryz.checked) false (laidWorld os) #[.slice none 0 0, .slice none 0 0, .int .i16 0] rfl (by kernel_rfl) (by kernel_rfl) (by kernel_rfl)
      (OpenSpec.preRow_of_cond 8 hx (by kernel_rfl) (fun k hk => by cases hk) (by kernel_rfl) (laid_met os))) ?_
  intro W base args ds gs before hval hW _ _ _ hL _ _
  exact fnSome_contract H enc W base args ds gs before hval hW hL

theorem fnSome_said : Rows.FnSomeSaid :=
  OpenClaim.holds_of_cond 3 Tryz.f3 rfl rfl rfl rfl rfl rfl rfl ⟨rfl, rfl, rfl, rfl, rfl⟩ rfl rfl rfl rfl rfl (by kernel_rfl) Tryz.func3 (by kernel_rfl)
    (of_decide_eq_true (by kernel_rfl)) (by unfold Func.isWrapper; first | (rw [if_pos (by decide +kernel)]; kernel_rfl) | (rw [if_neg (by decide +kernel)]; exact ⟨rfl, rfl⟩))
    (fun os started H enc _ F => by rw [OpenClaim.pre_eq_preRow]; exact fnSome_lifted os started H enc F)

/-- No parameter wants a stand-in; the program's own looks are off. -/
theorem plain (f : FuncId) (fn : Func) (hf : Tryz.pinned.checked.prog.funcNamed "loop.example/pub-g03124/laws.FnSome" = some f) (hfn : Tryz.pinned.checked.prog.funcs[f]? = some fn) :
    false = Tryz.pinned.checked.prog.looks [] ∧ ∀ (j : Nat) t, fn.params[j]? = some t → Tryz.pinned.checked.prog.wantsStandIn t = false := by
  obtain rfl : f = 3 := Option.some.inj ((show Tryz.prog.funcNamed "loop.example/pub-g03124/laws.FnSome" = some 3 by kernel_rfl).symm.trans hf) |>.symm
  obtain rfl : fn = Tryz.f3 := (Option.some.inj (Tryz.func3.symm.trans hfn)).symm
  refine ⟨by kernel_rfl, fun j t ht => ?_⟩
  rw [Tryz.params3] at ht
  have hm : t ∈ [22, 22, 23] := by simpa using Array.mem_of_getElem? ht
  have hall : ([22, 22, 23].all fun u => !Tryz.prog.wantsStandIn u) = true := by kernel_rfl
  exact (show Tryz.prog.wantsStandIn t = false by simpa using List.all_eq_true.1 hall t hm)

/-- The statement: the tied card. -/
theorem fnSome_holds : Rows.FnSomeCardSaid :=
  Claim7.holds_tied_plain_at .later [] _ _ _ _ fnSome_said (fun _ h => by cases h) (by kernel_rfl) (fun _ h => by cases h) fnSome_row_tie rfl ⟨rfl, rfl⟩ (by kernel_rfl) rfl plain (by kernel_rfl)
#print axioms fnSome_holds
end Go.Proofs.YthmpjmohakdkmaaGreatDoor
