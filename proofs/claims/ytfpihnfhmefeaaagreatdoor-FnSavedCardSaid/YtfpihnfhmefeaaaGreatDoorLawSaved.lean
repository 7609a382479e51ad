/-
  The law FnSaved: an index that is written is read as it was: the text, and what is found in it: for every two slices of bytes and every number the call returns true and the arguments read as they did; the library's errors and the greatest length for numbers of 32 bits are as their packages lay them (tied). No further condition.
-/
import Derived.Test.YtfpihnfhmefeaaaGreatDoorMD
import Derived.Test.YtfpihnfhmefeaaaGreatDoorRows
import Derived.Test.YtfpihnfhmefeaaaGreatDoorCards
import Derived.Test.YtfpihnfhmefeaaaGreatDoorTie
import Derived.WalkKit
import Derived.ProofKit
import Derived.OpenShut
import Derived.ShutString
import Derived.ChangeOld
import Derived.Below
import Derived.ChangeVars
import Derived.OpenVars
import Derived.Deep.DeepHandedRow
import Derived.Lib.LaidTab
namespace Go.Proofs.YtfpihnfhmefeaaaGreatDoor
open Go.RowKit Go.ChangeShapes Go.WideShapes Go.ChangeAt

set_option maxHeartbeats 4000000 in
set_option maxRecDepth 100000 in
/-- An index that is written is read as it was. -/
theorem fnSaved_walk (a : Option Addr) (n c : Nat) (T : Nat → Nat) (b : Option Addr) (m d : Nat) (S : Nat → Nat) (k : Int) (w : World) (hin : Came w a n T) (hT : ∀ i, i < n → T i < 256) (hnc : n ≤ c) (hq : Came w b m S) (hS : ∀ i, i < m → S i < 256) (_hmd : m ≤ d) (hk : (Lit.int .i16 k).wf = true) (hM : ∃ q1 q2, Laid q1 q2 w) :
    Calls Tryz.prog 4 #[.slice a n c, .slice b m d, .int .i16 k] w fun e w' => e = .returned (.bool true) ∧ Kept (fun _ _ => False) w w' := by
  have hkb : -32768 ≤ k ∧ k ≤ 32767 := by
    simp [Lit.wf, IntKind.min, IntKind.max, IntKind.signed, IntKind.bits] at hk
    omega
  clear hk
  obtain ⟨q1, q2, hM⟩ := hM
  have HIN := Lib.hid hin
  have HT := Lib.hid hT
  have HQ := Lib.hid hq
  have HS := Lib.hid hS
  have HM := Lib.hid hM
  clear hin hT hq hS hM
  by_cases h1 : 2147483647 < n
  · go_enter Tryz.func4, Tryz.ntmps4
    go_wp2_with fail
    go_ret
    exact ⟨rfl, Kept.refl _ _⟩
  by_cases h1b : 2147483647 < m
  · go_enter Tryz.func4, Tryz.ntmps4
    go_wp2_with fail
    go_ret
    exact ⟨rfl, Kept.refl _ _⟩
  by_cases h2 : 1048576 < n
  · go_enter Tryz.func4, Tryz.ntmps4
    go_wp2_with fail
    refine (long_any a n c w).mono ?_
    rintro e w1 ⟨rfl, rfl⟩
    rw [decide_eq_true h2]
    go_wp2_with fail
    go_ret
    exact ⟨rfl, Kept.refl _ _⟩
  have HSV := Lib.hid (saved_any a n c T w HIN.out HT.out (by omega) HM.out.most)
  go_enter Tryz.func4, Tryz.ntmps4
  go_wp2_with fail
  refine (long_any a n c w).mono ?_
  rintro e w1 ⟨rfl, rfl⟩
  rw [decide_eq_false h2]
  go_wp2_with fail
  refine HSV.out.mono ?_
  rintro e w2 ⟨a2, c2, L, f, rfl, hsa, hfl, hL, hcame, hcap, hk2⟩
  have hlen := hL.len hfl
  rw [textOf_len] at hlen
  have HLO := Lib.hid (loaded_ok a2 c2 T n L [] f b m d S k q1 q2 w2 hL HT.out (by omega) hsa (by rw [List.append_nil]; exact hcame) (by rw [List.append_nil]; omega) (HQ.out.kept hk2) (by omega) (HM.out.kept hk2 (fun _ _ _ h => h)))
  rw [List.append_nil] at HLO
  have HK2 := Lib.hid hk2
  clear hsa hfl hL hcame hcap hk2 hlen
  go_wp2_with fail
  refine HLO.out.mono ?_
  rintro e w3 ⟨a3, c3, v, cc, ff, rfl, hc3, hF, hz, hs, hk3⟩
  have hkk := HK2.out.trans hk3
  have hcv1 := conv_any a3 n c3 T w3 hc3
  have hcv2 := conv_any a n c T w3 (HIN.out.kept hkk)
  have hle := hF.le
  have HF := Lib.hid hF
  have HKK := Lib.hid hkk
  clear hF hc3 hk3 hkk
  by_cases hk0 : k < 0
  · have hcnt := HF.out.cnt
    rw [if_pos hk0] at hcnt
    have HCN := Lib.hid hcnt
    have HU := Lib.hid (up_all HF.out hk0)
    clear hcnt
    by_cases h0 : cc = 0
    · obtain ⟨a4, c4, rfl⟩ := hz h0
      subst h0
      clear hz hs
      go_wp2_with fail
      refine (sorted_zero a4 c4 w3).mono ?_
      rintro e w4 ⟨a5, c5, rfl, hk4⟩
      have HP := Lib.hid (places_any a n c T b m d S w4 (HIN.out.kept (HKK.out.trans hk4)) HT.out (HQ.out.kept (HKK.out.trans hk4)) HS.out (by omega) (by omega) hnc)
      have HK4 := Lib.hid hk4
      clear hk4
      go_wp2_with fail
      refine HP.out.mono ?_
      rintro e w5 ⟨v5, rfl, hz5, _, hk5⟩
      obtain ⟨a6, c6, rfl⟩ := hz5 HCN.out.symm
      clear hz5
      go_wp2_with fail
      refine (equal_zero a5 a6 c5 c6 w5).mono ?_
      rintro e w6 ⟨rfl, rfl⟩
      go_wp2_with fail
      go_ret
      exact ⟨rfl, HKK.out.trans (HK4.out.trans hk5)⟩
    · obtain ⟨rb, cap, rfl, hR⟩ := hs (by omega)
      clear hz hs
      go_wp2_with fail
      refine (sorted_row rb 0 cc cap (fun x => (ff x : Int)) w3 hR (by omega) (by omega)).mono ?_
      rintro e w4 ⟨g4, cap4, rfl, hR4, hk4⟩
      have hR5 : Row w4 .i64 g4 0 cc (fun x => ((plcs T n (sg S m 0)).getD x 0 : Int)) := hR4.congr fun x hx => by
        rw [show up (ints (fun x => (ff x : Int)) cc) = (plcs T n (sg S m 0)).map fun (x : Nat) => (x : Int) from HU.out]
        have hx' : x < (plcs T n (sg S m 0)).length := by have := HCN.out; omega
        simp [List.getD, hx']
      have HP := Lib.hid (places_any a n c T b m d S w4 (HIN.out.kept (HKK.out.trans hk4)) HT.out (HQ.out.kept (HKK.out.trans hk4)) HS.out (by omega) (by omega) hnc)
      have HK4 := Lib.hid (And.intro hk4 hR5)
      clear hR hR4 hk4 hR5
      go_wp2_with fail
      refine HP.out.mono ?_
      rintro e w5 ⟨v5, rfl, _, hs5, hk5⟩
      obtain ⟨g5, cap5, rfl, hR6⟩ := hs5 (by have := HCN.out; omega)
      clear hs5
      rw [← HCN.out] at hR6 ⊢
      have HE := Lib.hid (equal_same g4 0 cc cap4 g5 0 cap5 _ w5 (HK4.out.2.keptAll hk5) hR6 (by omega))
      have HK5 := Lib.hid hk5
      clear hR6 hk5
      go_wp2_with fail
      refine HE.out.mono ?_
      rintro e w6 ⟨rfl, q, rfl⟩
      go_wp2_with fail
      go_ret
      exact ⟨rfl, (HKK.out.trans (HK4.out.1.trans HK5.out)).drewN q⟩
  · obtain ⟨sa, sc, rfl⟩ : ∃ sa sc, v = .slice sa cc sc := by
      by_cases hc0 : cc = 0
      · obtain ⟨a', c', rfl⟩ := hz hc0
        exact ⟨a', c', by rw [hc0]⟩
      · obtain ⟨rb, cap, rfl, _⟩ := hs (by omega)
        exact ⟨_, cap, rfl⟩
    have HLK := Lib.hid (lookup_any a n c T b m d S k w3 (HIN.out.kept HKK.out) HT.out (HQ.out.kept HKK.out) (by omega) (by omega) (HM.out.most.kept HKK.out))
    clear hz hs
    go_wp2_with fail
    refine HLK.out.mono ?_
    rintro e w4 ⟨v4, c4, f4, rfl, hF4, hz4, hs4, hk4⟩
    have hcc : cc = c4 := HF.out.cnt.trans hF4.cnt.symm
    subst hcc
    obtain ⟨sa4, sc4, rfl⟩ : ∃ sa sc, v4 = .slice sa cc sc := by
      by_cases hc0 : cc = 0
      · obtain ⟨a', c', rfl⟩ := hz4 hc0
        exact ⟨a', c', by rw [hc0]⟩
      · obtain ⟨rb, cap, rfl, _⟩ := hs4 (by omega)
        exact ⟨_, cap, rfl⟩
    have HK4 := Lib.hid hk4
    clear hz4 hs4 hF4 hk4
    go_wp2_with fail
    go_ret
    exact ⟨by simp, HKK.out.trans HK4.out⟩



/-- What came in: the text's bytes. -/
theorem bytes_in {w : World} {a : Option Addr} {len cap : Nat} {zs : List Int} (hl : len ≤ cap) (hz : zs.length = cap) (hcell : ∀ x, a = some x → ∀ i, i < zs.length → w.cell? (x.add i) = some (.int .u8 (zs.getD i 0))) (hn : 0 < len → a ≠ none) (hwz : ∀ n ∈ zs, (Lit.int .u8 n).wf = true) :
    (0 < len → ∃ b o, a = some ⟨b, o, none⟩ ∧ ∀ j, j < len → w.cell? ⟨b, o + j, none⟩ = some (.int .u8 (((fun i => (zs.getD i 0).toNat) j : Nat) : Int))) ∧ ∀ i, i < len → (fun i => (zs.getD i 0).toNat) i < 256 := by
  have hb : ∀ i, i < len → 0 ≤ zs.getD i 0 ∧ zs.getD i 0 < 256 := fun i hi => by
    have hm : zs.getD i 0 ∈ zs := by
      have hi' : i < zs.length := by omega
      rw [show zs.getD i 0 = zs[i] by simp [List.getD, hi']]; exact List.getElem_mem _
    have h := hwz _ hm
    have h1 : IntKind.u8.min = 0 := rfl
    have h2 : IntKind.u8.max = 255 := rfl
    simp only [Lit.wf, Bool.and_eq_true, decide_eq_true_eq] at h
    omega
  refine ⟨fun h0 => ?_, fun i hi => by have := hb i hi; show (zs.getD i 0).toNat < 256; omega⟩
  cases a with
  | none => exact absurd rfl (hn h0)
  | some x =>
    obtain ⟨b, o, spot⟩ := x
    have hc := hcell _ rfl
    have hspot : spot = none := by have := World.cell?_spot (hc 0 (by omega)); simpa [Addr.add] using this
    subst hspot
    refine ⟨b, o, rfl, fun j hj => ?_⟩
    have := hc j (by omega)
    rw [Addr.add_lit] at this
    rw [this]
    have := hb j hj
    show _ = some (Value.int .u8 ((zs.getD j 0).toNat : Int))
    rw [Int.toNat_of_nonneg this.1]

theorem own : ownKnob Tryz.prog.godebug = none := by kernel_rfl
theorem laidOut : laidOutB Tryz.prog = true := by kernel_rfl

set_option maxRecDepth 100000 in
theorem fnSaved_contract (H : Type) (enc : TypeId × Value → H) (W : World) (base : Nat) (args : Array Value) (ds gs : List (DataW H)) (before : List MemPlace)
    (hval : ∀ (j : Nat) t v, Tryz.f4.params[j]? = some t → args[j]? = some v → Value.okWide Tryz.prog W .any base t v)
    (hW : DataW.Whole enc Tryz.prog Tryz.f4.params.toList Rows.fnSavedSpec.vars false W args.toList ds gs before) (hL : laidMetH Tryz.prog Rows.fnSavedRow.laid W) :
    Calls Tryz.prog 4 args W fun e W' => ∃ v, e = .returned v ∧ Rows.fnSavedSpec.post enc Tryz.prog Tryz.f4 false true false false W args v W' := by
  have hM := laid_of hL
  have hW' := hW
  obtain ⟨p, q, hA0, hV, rfl, _hfz, _hnd⟩ := hW
  have hA : DataW.TrodAll enc Tryz.prog W 0 (fun _ => true) true Tryz.f4.params.toList args.toList ds p := hA0
  rw [Tryz.params4] at hA hval
  obtain ⟨v0, vs0, d0, ds0, p0, q0, _hargs, rfl, rfl, h0, r0⟩ := trodAll_cons hA
  obtain ⟨v1, vs1, d1, ds1, p1, q1, rfl, rfl, rfl, h1, r1⟩ := trodAll_cons r0
  obtain ⟨v2, vs2, d2, ds2, p2, q2, rfl, rfl, rfl, h2, r2⟩ := trodAll_cons r1
  obtain ⟨rfl, rfl, rfl⟩ := trodAll_nil r2
  obtain rfl : args = #[v0, v1, v2] := by cases args; simp_all
  obtain ⟨_g0, _t0, _cs0, _fu0, dv0, _p0, _g1, _t1, _cs1, _fu1, dv1, _p1, rfl, _, _, _, _, _, _, _, _, _⟩ := trodVars_two hV
  obtain ⟨a0, len0, cap0, rfl⟩ := okWide_slice Tryz.underlying22 (hval 0 22 v0 rfl rfl)
  have k0 := h0
  have lt0 : ∀ x ∈ p0, x.block < W.heap.size := by obtain ⟨m, hm⟩ := k0; exact DataW.trod_lt m _ _ _ hm
  obtain ⟨T0, w0⟩ : ∃ T : Nat → Nat, (0 < len0 → ∃ b o, a0 = some ⟨b, o, none⟩ ∧ ∀ j, j < len0 → W.cell? ⟨b, o + j, none⟩ = some (.int .u8 (T j : Int))) ∧ (∀ i, i < len0 → T i < 256) ∧ len0 ≤ cap0 := by
    obtain ⟨fuel, hf⟩ := h0
    rcases open_ints Tryz.underlying22 Tryz.underlying5 (by kernel_rfl) hf with ⟨hcs, _⟩ | ⟨x, l, c, zs, hcs, _, hl, hm, hz, _, hcell, hwz⟩
    · simp [Value.cells] at hcs
      obtain ⟨rfl, rfl, rfl⟩ := hcs
      exact ⟨fun _ => 0, fun h => by omega, fun _ h => by omega, Nat.le_refl _⟩
    · simp [Value.cells] at hcs
      obtain ⟨rfl, rfl, rfl⟩ := hcs
      have hb := bytes_in (w := W) (a := some x) hl (by simpa using hz) (fun y hy => by cases hy; exact hcell) (fun _ h => by simp at h) hwz
      exact ⟨_, hb.1, hb.2, hl⟩
  obtain ⟨a1, len1, cap1, rfl⟩ := okWide_slice Tryz.underlying22 (hval 1 22 v1 rfl rfl)
  have k1 := h1
  have lt1 : ∀ x ∈ p1, x.block < W.heap.size := by obtain ⟨m, hm⟩ := k1; exact DataW.trod_lt m _ _ _ hm
  obtain ⟨T1, w1⟩ : ∃ T : Nat → Nat, (0 < len1 → ∃ b o, a1 = some ⟨b, o, none⟩ ∧ ∀ j, j < len1 → W.cell? ⟨b, o + j, none⟩ = some (.int .u8 (T j : Int))) ∧ (∀ i, i < len1 → T i < 256) ∧ len1 ≤ cap1 := by
    obtain ⟨fuel, hf⟩ := h1
    rcases open_ints Tryz.underlying22 Tryz.underlying5 (by kernel_rfl) hf with ⟨hcs, _⟩ | ⟨x, l, c, zs, hcs, _, hl, hm, hz, _, hcell, hwz⟩
    · simp [Value.cells] at hcs
      obtain ⟨rfl, rfl, rfl⟩ := hcs
      exact ⟨fun _ => 0, fun h => by omega, fun _ h => by omega, Nat.le_refl _⟩
    · simp [Value.cells] at hcs
      obtain ⟨rfl, rfl, rfl⟩ := hcs
      have hb := bytes_in (w := W) (a := some x) hl (by simpa using hz) (fun y hy => by cases hy; exact hcell) (fun _ h => by simp at h) hwz
      exact ⟨_, hb.1, hb.2, hl⟩
  obtain ⟨a2, rfl, rfl, rfl, w2⟩ := open_int Tryz.underlying35 (hval 2 35 v2 rfl rfl) h2
  clear hA0
  refine (fnSaved_walk a0 len0 cap0 T0 a1 len1 cap1 T1 a2 W w0.1 w0.2.1 w0.2.2 w1.1 w1.2.1 w1.2.2 w2 hM).mono fun e W' ⟨he, hk⟩ => ?_
  have bel := hk.nothing
  subst he
  exact ⟨_, rfl, _, _, _, [], _, _, hW', trodAll_mk1 (shut_bool Tryz.underlying4 _), (trodAll_cons_mk (Below.trod laidOut (by kernel_rfl) (of_decide_eq_true (by kernel_rfl)) k0 bel lt0) (trodAll_cons_mk (Below.trod laidOut (by kernel_rfl) (of_decide_eq_true (by kernel_rfl)) k1 bel lt1) (trodAll_cons_mk (shut_int Tryz.underlying35 w2) trodAll_mk0))), Below.trodVars laidOut bel (by kernel_rfl) hV, bel.frame _, fun h => by cases h⟩

theorem reads (os : Os) {H : Type} (enc : TypeId × Value → H) : ∃ places, DataW.whole enc Tryz.prog ((laidWorld os).forCall (fun _ _ => 0) ⟨#[], #[.slice none 0 0, .slice none 0 0, .int .i16 0], []⟩).memory Tryz.f4.params.toList Rows.fnSavedSpec.vars false (#[.slice none 0 0, .slice none 0 0, .int .i16 0] : Array Value).toList 8 = some ([.nil, .nil, .lit (.int .i16 0)], [.lit (.int .i64 2147483647), tok enc (.iface 157 (.pointer (some ⟨low + 3, 0, none⟩)))], places) :=
  ⟨[MemPlace.cell 0 0, MemPlace.cell 1 0], by kernel_rfl⟩

set_option maxRecDepth 100000 in
theorem fnSaved_lifted (os : Os) (started : os.Started) (H : Type) (enc : TypeId × Value → H) (F : Stop.Interp) :
    ReturnsInHanded {} Tryz.checked os 4 .any ((OpenSpec.ofChange Rows.fnSavedSpec).preRow enc Tryz.prog Tryz.f4 Rows.fnSavedRow.domain false Rows.fnSavedRow.laid) (((OpenSpec.ofChange Rows.fnSavedSpec).at F).post enc Tryz.prog Tryz.f4 false true false false) := by
  obtain ⟨places, hx⟩ := reads os enc
  refine returnsInHanded_of_row (C := Tryz.checked) (s := OpenSpec.ofChange Rows.fnSavedSpec) own started (by kernel_rfl) Tryz.func4
    (witness_row_at (enc := enc) (C := Tryz.checked) false (laidWorld os) #[.slice none 0 0, .slice none 0 0, .int .i16 0] rfl (by kernel_rfl) (by kernel_rfl) (by kernel_rfl)
      (OpenSpec.preRow_of_cond 8 hx (by kernel_rfl) (fun k hk => by cases hk) (by kernel_rfl) (laid_metH os _))) ?_
  intro W base args ds gs before hval hW _ _ _ hL _ _
  exact fnSaved_contract H enc W base args ds gs before hval hW hL

theorem fnSaved_said : Rows.FnSavedSaid :=
  OpenClaim.holds_of_cond 4 Tryz.f4 rfl rfl rfl rfl rfl rfl rfl ⟨rfl, rfl, rfl, rfl, rfl⟩ rfl rfl rfl rfl rfl (by kernel_rfl) Tryz.func4 (by kernel_rfl)
    (of_decide_eq_true (by kernel_rfl)) (by unfold Func.isWrapper; first | (rw [if_pos (by decide +kernel)]; kernel_rfl) | (rw [if_neg (by decide +kernel)]; exact ⟨rfl, rfl⟩))
    (fun os started H enc _ F => by rw [OpenClaim.pre_eq_preRow]; exact fnSaved_lifted os started H enc F)

/-- No parameter wants a stand-in; the program's own looks are off. -/
theorem plain (f : FuncId) (fn : Func) (hf : Tryz.pinned.checked.prog.funcNamed "loop.example/pub-g03124/laws.FnSaved" = some f) (hfn : Tryz.pinned.checked.prog.funcs[f]? = some fn) :
    true = Tryz.pinned.checked.prog.looks [] ∧ ∀ (j : Nat) t, fn.params[j]? = some t → Tryz.pinned.checked.prog.wantsStandIn t = false := by
  obtain rfl : f = 4 := Option.some.inj ((show Tryz.prog.funcNamed "loop.example/pub-g03124/laws.FnSaved" = some 4 by kernel_rfl).symm.trans hf) |>.symm
  obtain rfl : fn = Tryz.f4 := (Option.some.inj (Tryz.func4.symm.trans hfn)).symm
  refine ⟨by kernel_rfl, fun j t ht => ?_⟩
  rw [Tryz.params4] at ht
  have hm : t ∈ [22, 22, 35] := by simpa using Array.mem_of_getElem? ht
  have hall : ([22, 22, 35].all fun u => !Tryz.prog.wantsStandIn u) = true := by kernel_rfl
  exact (show Tryz.prog.wantsStandIn t = false by simpa using List.all_eq_true.1 hall t hm)

/-- The statement: the tied card. -/
theorem fnSaved_holds : Rows.FnSavedCardSaid :=
  Claim7.holds_tied_plain_at .later [] _ _ _ _ fnSaved_said (fun _ h => by cases h) (by kernel_rfl) (fun _ h => by cases h) fnSaved_row_tie rfl ⟨rfl, rfl⟩ (by kernel_rfl) rfl plain (by kernel_rfl)
#print axioms fnSaved_holds
end Go.Proofs.YtfpihnfhmefeaaaGreatDoor

