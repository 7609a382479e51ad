/-
  The law FnCut: an index that was written and is cut off is refused: for every slice of bytes and every number the call returns true and the arguments read as they did; the library's errors and the greatest length for numbers of 32 bits are as their packages lay them (tied). No further condition.
-/
import Derived.Test.YtfpihnfhmefeaaaGreatDoorMC
import Derived.Test.YtfpihnfhmefeaaaGreatDoorRows
import Derived.Test.YtfpihnfhmefeaaaGreatDoorCards
import Derived.Test.YtfpihnfhmefeaaaGreatDoorTie
import Derived.WalkKit
import Derived.ProofKit
import Derived.OpenShut
import Derived.ShutString
import Derived.ChangeOld
import Derived.Below
import Derived.ChangeVars
import Derived.OpenVars
import Derived.Deep.DeepHandedRow
import Derived.Lib.LaidTab
import Derived.Lib.SlBytesConst
namespace Go.Proofs.YtfpihnfhmefeaaaGreatDoor
open Go.RowKit Go.ChangeShapes Go.WideShapes Go.ChangeAt

set_option maxHeartbeats 4000000 in
set_option maxRecDepth 100000 in
/-- An index that was written and is cut off is refused. -/
theorem fnCut_walk (a : Option Addr) (n c : Nat) (T : Nat → Nat) (p : Int) (w : World) (hin : Came w a n T) (hT : ∀ i, i < n → T i < 256) (_hnc : n ≤ c) (hp : (Lit.int .u16 p).wf = true) (hM : ∃ q1 q2, Laid q1 q2 w) :
    Calls Tryz.prog 5 #[.slice a n c, .int .u16 p] w fun e w' => e = .returned (.bool true) ∧ Kept (fun _ _ => False) w w' := by
  have hp1 := bounds_u16 hp
  obtain ⟨q1, q2, hM⟩ := hM
  have HIN := Lib.hid hin
  have HT := Lib.hid hT
  have HM := Lib.hid hM
  clear hin hT hM hp
  by_cases h1 : 2147483647 < n
  · go_enter Tryz.func5, Tryz.ntmps5
    go_wp2_with fail
    go_ret
    exact ⟨rfl, Kept.refl _ _⟩
  by_cases h2 : 1048576 < n
  · go_enter Tryz.func5, Tryz.ntmps5
    go_wp2_with fail
    refine (long_any a n c w).mono ?_
    rintro e w1 ⟨rfl, rfl⟩
    rw [decide_eq_true h2]
    go_wp2_with fail
    go_ret
    exact ⟨rfl, Kept.refl _ _⟩
  have HSV := Lib.hid (saved_any a n c T w HIN.out HT.out (by omega) HM.out.most)
  go_enter Tryz.func5, Tryz.ntmps5
  go_wp2_with fail
  refine (long_any a n c w).mono ?_
  rintro e w1 ⟨rfl, rfl⟩
  rw [decide_eq_false h2]
  go_wp2_with fail
  refine HSV.out.mono ?_
  rintro e w2 ⟨a2, c2, L, f, rfl, hsa, hfl, hL, hcame, hcap, hk2⟩
  have hlen := hL.len hfl
  rw [textOf_len] at hlen
  obtain ⟨N, hN⟩ : ∃ N, N = L.length := ⟨_, rfl⟩
  rw [← hN] at hlen hcap hcame ⊢
  obtain ⟨k, hk⟩ : ∃ k : Nat, (k : Int) = p % (N : Int) := ⟨(p % (N : Int)).toNat, by have := Int.emod_nonneg p (show (N : Int) ≠ 0 by omega); omega⟩
  have hkN : k < N := by have := Int.emod_lt_of_pos p (show (0 : Int) < N by omega); omega
  -- the piece
  obtain ⟨W, hW⟩ : ∃ W, W = w2.alloc (.cells #[.int .u8 97] 5 (1, 2)) := ⟨_, rfl⟩
  have hcv : (convert 22 22 (.slice (some ⟨w2.heap.size, 0, none⟩) 1 1)).run Tryz.prog (w2.alloc (.cells #[.int .u8 97] 5)) = .ok (.slice (some ⟨w2.heap.size, 0, none⟩) 1 1) W := by
    rw [hW]; exact Lib.run_convert_bytes_const (P := Tryz.prog) w2 22 5 #[.int .u8 97] 1 1 Tryz.underlying22 Tryz.underlying5
  have hkW : Kept (fun _ _ => False) w2 W := by rw [hW]; exact Kept.alloc _ _
  have hc0 : W.cell? ⟨w2.heap.size, 0, none⟩ = some (.int .u8 97) := by
    rw [cell_of_row W w2.heap.size 0 #[.int .u8 97] 5 (1, 2) (by rw [hW]; exact heap_alloc_new w2 _)]
    rfl
  have hl : (L.take k).length = k := by rw [List.length_take]; omega
  have hcut : Cand false L (L.take k) := by
    show (if false = true then AllOf L (L.take k) else CutOff L (L.take k))
    rw [if_neg (by simp)]
    refine ⟨L.drop k, fun he => ?_, List.take_append_drop k L⟩
    have := congrArg List.length he
    simp at this
    omega
  have hcm : Came W a2 (L.take k).length (fun j => ((L.take k).getD j 0).toNat) := fun h0 => by
    rw [hl] at h0
    obtain ⟨b, o, hb, hc⟩ := (hcame.kept hkW) (by omega)
    refine ⟨b, o, hb, fun j hj => ?_⟩
    rw [hl] at hj
    rw [hc j (by omega)]
    simp [List.getD, hj]
  have HLO := Lib.hid (fun d => loaded_any false a2 d (textOf T n) L (L.take k) f (some ⟨w2.heap.size, 0, none⟩) 1 1 (fun _ => 97) (-1) q1 q2 W hL hcut (by rw [textOf_len]; omega) (isSA_text hsa HT.out) hcm (by omega) (fun _ => ⟨_, 0, rfl, fun j hj => by have : j = 0 := (by omega); subst this; exact hc0⟩) (by omega) (HM.out.kept (hk2.trans hkW) (fun _ _ _ h => h)))
  rw [hl] at HLO
  have HK := Lib.hid (hk2.trans hkW)
  have hnz : ¬ (N : Int) = 0 := by omega
  have hnz2 : ¬ N = 0 := by omega
  have hkc : (k : Int) ≤ (c2 : Int) := by omega
  clear hsa hfl hL hcame hk2 hlen hN hW hkW hc0 hl hcut hcm
  go_wp2_with fail
  have e1 : (p % (N : Int)).toNat = k := by omega
  rw [e1]
  clear e1 hk
  refine (HLO.out _).mono ?_
  rintro e w3 ⟨hk3, ⟨hf, _⟩ | ⟨_, rfl⟩⟩
  · cases hf
  · have HK3 := Lib.hid hk3
    clear hk3
    go_wp2_with fail
    go_ret
    exact ⟨rfl, HK.out.trans HK3.out⟩



/-- What came in: the text's bytes. -/
theorem bytes_in {w : World} {a : Option Addr} {len cap : Nat} {zs : List Int} (hl : len ≤ cap) (hz : zs.length = cap) (hcell : ∀ x, a = some x → ∀ i, i < zs.length → w.cell? (x.add i) = some (.int .u8 (zs.getD i 0))) (hn : 0 < len → a ≠ none) (hwz : ∀ n ∈ zs, (Lit.int .u8 n).wf = true) :
    (0 < len → ∃ b o, a = some ⟨b, o, none⟩ ∧ ∀ j, j < len → w.cell? ⟨b, o + j, none⟩ = some (.int .u8 (((fun i => (zs.getD i 0).toNat) j : Nat) : Int))) ∧ ∀ i, i < len → (fun i => (zs.getD i 0).toNat) i < 256 := by
  have hb : ∀ i, i < len → 0 ≤ zs.getD i 0 ∧ zs.getD i 0 < 256 := fun i hi => by
    have hm : zs.getD i 0 ∈ zs := by
      have hi' : i < zs.length := by omega
      rw [show zs.getD i 0 = zs[i] by simp [List.getD, hi']]; exact List.getElem_mem _
    have h := hwz _ hm
    have h1 : IntKind.u8.min = 0 := rfl
    have h2 : IntKind.u8.max = 255 := rfl
    simp only [Lit.wf, Bool.and_eq_true, decide_eq_true_eq] at h
    omega
  refine ⟨fun h0 => ?_, fun i hi => by have := hb i hi; show (zs.getD i 0).toNat < 256; omega⟩
  cases a with
  | none => exact absurd rfl (hn h0)
  | some x =>
    obtain ⟨b, o, spot⟩ := x
    have hc := hcell _ rfl
    have hspot : spot = none := by have := World.cell?_spot (hc 0 (by omega)); simpa [Addr.add] using this
    subst hspot
    refine ⟨b, o, rfl, fun j hj => ?_⟩
    have := hc j (by omega)
    rw [Addr.add_lit] at this
    rw [this]
    have := hb j hj
    show _ = some (Value.int .u8 ((zs.getD j 0).toNat : Int))
    rw [Int.toNat_of_nonneg this.1]

theorem own : ownKnob Tryz.prog.godebug = none := by kernel_rfl
theorem laidOut : laidOutB Tryz.prog = true := by kernel_rfl

set_option maxRecDepth 100000 in
theorem fnCut_contract (H : Type) (enc : TypeId × Value → H) (W : World) (base : Nat) (args : Array Value) (ds gs : List (DataW H)) (before : List MemPlace)
    (hval : ∀ (j : Nat) t v, Tryz.f5.params[j]? = some t → args[j]? = some v → Value.okWide Tryz.prog W .any base t v)
    (hW : DataW.Whole enc Tryz.prog Tryz.f5.params.toList Rows.fnCutSpec.vars false W args.toList ds gs before) (hL : laidMetH Tryz.prog Rows.fnCutRow.laid W) :
    Calls Tryz.prog 5 args W fun e W' => ∃ v, e = .returned v ∧ Rows.fnCutSpec.post enc Tryz.prog Tryz.f5 false true false false W args v W' := by
  have hM := laid_of hL
  have hW' := hW
  obtain ⟨p, q, hA0, hV, rfl, _hfz, _hnd⟩ := hW
  have hA : DataW.TrodAll enc Tryz.prog W 0 (fun _ => true) true Tryz.f5.params.toList args.toList ds p := hA0
  rw [Tryz.params5] at hA hval
  obtain ⟨v0, vs0, d0, ds0, p0, q0, _hargs, rfl, rfl, h0, r0⟩ := trodAll_cons hA
  obtain ⟨v1, vs1, d1, ds1, p1, q1, rfl, rfl, rfl, h1, r1⟩ := trodAll_cons r0
  obtain ⟨rfl, rfl, rfl⟩ := trodAll_nil r1
  obtain rfl : args = #[v0, v1] := by cases args; simp_all
  obtain ⟨_g0, _t0, _cs0, _fu0, dv0, _p0, _g1, _t1, _cs1, _fu1, dv1, _p1, rfl, _, _, _, _, _, _, _, _, _⟩ := trodVars_two hV
  obtain ⟨a0, len0, cap0, rfl⟩ := okWide_slice Tryz.underlying22 (hval 0 22 v0 rfl rfl)
  have k0 := h0
  have lt0 : ∀ x ∈ p0, x.block < W.heap.size := by obtain ⟨m, hm⟩ := k0; exact DataW.trod_lt m _ _ _ hm
  obtain ⟨T0, w0⟩ : ∃ T : Nat → Nat, (0 < len0 → ∃ b o, a0 = some ⟨b, o, none⟩ ∧ ∀ j, j < len0 → W.cell? ⟨b, o + j, none⟩ = some (.int .u8 (T j : Int))) ∧ (∀ i, i < len0 → T i < 256) ∧ len0 ≤ cap0 := by
    obtain ⟨fuel, hf⟩ := h0
    rcases open_ints Tryz.underlying22 Tryz.underlying5 (by kernel_rfl) hf with ⟨hcs, _⟩ | ⟨x, l, c, zs, hcs, _, hl, hm, hz, _, hcell, hwz⟩
    · simp [Value.cells] at hcs
      obtain ⟨rfl, rfl, rfl⟩ := hcs
      exact ⟨fun _ => 0, fun h => by omega, fun _ h => by omega, Nat.le_refl _⟩
    · simp [Value.cells] at hcs
      obtain ⟨rfl, rfl, rfl⟩ := hcs
      have hb := bytes_in (w := W) (a := some x) hl (by simpa using hz) (fun y hy => by cases hy; exact hcell) (fun _ h => by simp at h) hwz
      exact ⟨_, hb.1, hb.2, hl⟩
  obtain ⟨a1, rfl, rfl, rfl, w1⟩ := open_int Tryz.underlying38 (hval 1 38 v1 rfl rfl) h1
  clear hA0
  refine (fnCut_walk a0 len0 cap0 T0 a1 W w0.1 w0.2.1 w0.2.2 w1 hM).mono fun e W' ⟨he, hk⟩ => ?_
  have bel := hk.nothing
  subst he
  exact ⟨_, rfl, _, _, _, [], _, _, hW', trodAll_mk1 (shut_bool Tryz.underlying4 _), (trodAll_cons_mk (Below.trod laidOut (by kernel_rfl) (of_decide_eq_true (by kernel_rfl)) k0 bel lt0) (trodAll_cons_mk (shut_int Tryz.underlying38 w1) trodAll_mk0)), Below.trodVars laidOut bel (by kernel_rfl) hV, bel.frame _, fun h => by cases h⟩

theorem reads (os : Os) {H : Type} (enc : TypeId × Value → H) : ∃ places, DataW.whole enc Tryz.prog ((laidWorld os).forCall (fun _ _ => 0) ⟨#[], #[.slice none 0 0, .int .u16 0], []⟩).memory Tryz.f5.params.toList Rows.fnCutSpec.vars false (#[.slice none 0 0, .int .u16 0] : Array Value).toList 8 = some ([.nil, .lit (.int .u16 0)], [.lit (.int .i64 2147483647), tok enc (.iface 157 (.pointer (some ⟨low + 3, 0, none⟩)))], places) :=
  ⟨[MemPlace.cell 0 0, MemPlace.cell 1 0], by kernel_rfl⟩

set_option maxRecDepth 100000 in
theorem fnCut_lifted (os : Os) (started : os.Started) (H : Type) (enc : TypeId × Value → H) (F : Stop.Interp) :
    ReturnsInHanded {} Tryz.checked os 5 .any ((OpenSpec.ofChange Rows.fnCutSpec).preRow enc Tryz.prog Tryz.f5 Rows.fnCutRow.domain false Rows.fnCutRow.laid) (((OpenSpec.ofChange Rows.fnCutSpec).at F).post enc Tryz.prog Tryz.f5 false true false false) := by
  obtain ⟨places, hx⟩ := reads os enc
  refine returnsInHanded_of_row (C := Tryz.checked) (s := OpenSpec.ofChange Rows.fnCutSpec) own started (by kernel_rfl) Tryz.func5
    (witness_row_at (enc := enc) (C := Tryz.checked) false (laidWorld os) #[.slice none 0 0, .int .u16 0] rfl (by kernel_rfl) (by kernel_rfl) (by kernel_rfl)
      (OpenSpec.preRow_of_cond 8 hx (by kernel_rfl) (fun k hk => by cases hk) (by kernel_rfl) (laid_metH os _))) ?_
  intro W base args ds gs before hval hW _ _ _ hL _ _
  exact fnCut_contract H enc W base args ds gs before hval hW hL

theorem fnCut_said : Rows.FnCutSaid :=
  OpenClaim.holds_of_cond 5 Tryz.f5 rfl rfl rfl rfl rfl rfl rfl ⟨rfl, rfl, rfl, rfl, rfl⟩ rfl rfl rfl rfl rfl (by kernel_rfl) Tryz.func5 (by kernel_rfl)
    (of_decide_eq_true (by kernel_rfl)) (by unfold Func.isWrapper; first | (rw [if_pos (by decide +kernel)]; kernel_rfl) | (rw [if_neg (by decide +kernel)]; exact ⟨rfl, rfl⟩))
    (fun os started H enc _ F => by rw [OpenClaim.pre_eq_preRow]; exact fnCut_lifted os started H enc F)

/-- No parameter wants a stand-in; the program's own looks are off. -/
theorem plain (f : FuncId) (fn : Func) (hf : Tryz.pinned.checked.prog.funcNamed "loop.example/pub-g03124/laws.FnCut" = some f) (hfn : Tryz.pinned.checked.prog.funcs[f]? = some fn) :
    true = Tryz.pinned.checked.prog.looks [] ∧ ∀ (j : Nat) t, fn.params[j]? = some t → Tryz.pinned.checked.prog.wantsStandIn t = false := by
  obtain rfl : f = 5 := Option.some.inj ((show Tryz.prog.funcNamed "loop.example/pub-g03124/laws.FnCut" = some 5 by kernel_rfl).symm.trans hf) |>.symm
  obtain rfl : fn = Tryz.f5 := (Option.some.inj (Tryz.func5.symm.trans hfn)).symm
  refine ⟨by kernel_rfl, fun j t ht => ?_⟩
  rw [Tryz.params5] at ht
  have hm : t ∈ [22, 38] := by simpa using Array.mem_of_getElem? ht
  have hall : ([22, 38].all fun u => !Tryz.prog.wantsStandIn u) = true := by kernel_rfl
  exact (show Tryz.prog.wantsStandIn t = false by simpa using List.all_eq_true.1 hall t hm)

/-- The statement: the tied card. -/
theorem fnCut_holds : Rows.FnCutCardSaid :=
  Claim7.holds_tied_plain_at .later [] _ _ _ _ fnCut_said (fun _ h => by cases h) (by kernel_rfl) (fun _ h => by cases h) fnCut_row_tie rfl ⟨rfl, rfl⟩ (by kernel_rfl) rfl plain (by kernel_rfl)
#print axioms fnCut_holds
end Go.Proofs.YtfpihnfhmefeaaaGreatDoor

