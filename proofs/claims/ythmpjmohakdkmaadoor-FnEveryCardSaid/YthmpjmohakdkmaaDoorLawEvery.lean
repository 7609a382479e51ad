/-
  The law FnEvery: each piece of a text is found at its place: for every slice of bytes and every two numbers the call returns true and the arguments read as they did; the greatest length for numbers of 32 bits is as the package lays it (tied). No further condition.
-/
import Derived.Test.YthmpjmohakdkmaaDoorCon
import Derived.Test.YthmpjmohakdkmaaDoorRows
import Derived.Test.YthmpjmohakdkmaaDoorCards
import Derived.Test.YthmpjmohakdkmaaDoorTie
import Derived.WalkKit
import Derived.ProofKit
import Derived.OpenShut
import Derived.ShutString
import Derived.ChangeOld
import Derived.Below
import Derived.ChangeVars
import Derived.OpenVars
import Derived.Deep.DeepHandedRow
import Derived.Lib.LaidTab
import Derived.Lib.SlBytesConst
namespace Go.Proofs.YthmpjmohakdkmaaDoor
open Go.RowKit Go.ChangeShapes Go.WideShapes Go.ChangeAt

/-- A text of one letter, and the piece of that letter. -/
theorem plcs_one (x : Nat) : (plcs (fun _ => x) 1 (sg (fun _ => x) 1 0)).length = 1 := by
  have h1 : sg (fun _ => x) 1 0 = [x.toUInt8] := by rw [sg_step _ 1 0 (by omega), sg_n]
  have h2 : (0 : Nat) ∈ plcs (fun _ => x) 1 (sg (fun _ => x) 1 0) := by
    refine mem_plcs.2 ⟨by rw [h1]; simp, by omega, ?_⟩
    rw [h1]; simp
  have h3 := plcs_len (fun _ => x) 1 (sg (fun _ => x) 1 0)
  have h4 := List.length_pos_of_mem h2
  omega

set_option maxHeartbeats 4000000 in
set_option maxRecDepth 100000 in
/-- Each piece of a text is found at its place. -/
theorem fnEvery_walk (a : Option Addr) (n c : Nat) (T : Nat → Nat) (p q : Int) (w : World) (hin : Came w a n T) (hT : ∀ i, i < n → T i < 256) (hnc : n ≤ c) (hp : (Lit.int .u16 p).wf = true) (hq : (Lit.int .u8 q).wf = true) (hM : Most w) :
    Calls Tryd.prog 4 #[.slice a n c, .int .u16 p, .int .u8 q] w fun e w' => e = .returned (.bool true) ∧ Kept (fun _ _ => False) w w' := by
  have hp1 := bounds_u16 hp
  have hq1 := bounds_u8 hq
  have HIN := Lib.hid hin
  have HT := Lib.hid hT
  have HM := Lib.hid hM
  clear hin hT hM hp hq
  by_cases h1 : 2147483647 < n
  · go_enter Tryd.func4, Tryd.ntmps4
    go_wp2_with fail
    go_ret
    exact ⟨rfl, Kept.refl _ _⟩
  by_cases h2 : 1048576 < n
  · go_enter Tryd.func4, Tryd.ntmps4
    go_wp2_with fail
    refine (long_any a n c w).mono ?_
    rintro e w1 ⟨rfl, rfl⟩
    rw [decide_eq_true h2]
    go_wp2_with fail
    go_ret
    exact ⟨rfl, Kept.refl _ _⟩
  by_cases h0 : n = 0
  · subst h0
    obtain ⟨w0, hw0⟩ : ∃ w0, w0 = w.alloc (.cells #[.int .u8 97] 5 (1, 2)) := ⟨_, rfl⟩
    obtain ⟨W, hW⟩ : ∃ W, W = w0.alloc (.cells #[.int .u8 97] 5 (1, 2)) := ⟨_, rfl⟩
    have hs0 : w0.heap.size = w.heap.size + 1 := by rw [hw0]; simp
    have hcv1 : (convert 22 22 (.slice (some ⟨w.heap.size, 0, none⟩) 1 1)).run Tryd.prog (w.alloc (.cells #[.int .u8 97] 5)) = .ok (.slice (some ⟨w.heap.size, 0, none⟩) 1 1) w0 := by
      rw [hw0]; exact Lib.run_convert_bytes_const (P := Tryd.prog) w 22 5 #[.int .u8 97] 1 1 Tryd.underlying22 Tryd.underlying5
    have hcv2 : (convert 22 22 (.slice (some ⟨w.heap.size + 1, 0, none⟩) 1 1)).run Tryd.prog (w0.alloc (.cells #[.int .u8 97] 5)) = .ok (.slice (some ⟨w.heap.size + 1, 0, none⟩) 1 1) W := by
      have := Lib.run_convert_bytes_const (P := Tryd.prog) w0 22 5 #[.int .u8 97] 1 1 Tryd.underlying22 Tryd.underlying5
      rw [hs0] at this
      rw [hW]; exact this
    have hk0 : Kept (fun _ _ => False) w w0 := by rw [hw0]; exact Kept.alloc _ _
    have hk1 : Kept (fun _ _ => False) w0 W := by rw [hW]; exact Kept.alloc _ _
    have hkW := hk0.trans hk1
    have hc0 : W.cell? ⟨w.heap.size, 0, none⟩ = some (.int .u8 97) := by
      rw [hk1.cell _ _ (by omega) (fun hf => hf), cell_of_row w0 w.heap.size 0 #[.int .u8 97] 5 (1, 2) (by rw [hw0]; exact heap_alloc_new w _)]
      rfl
    have hc1 : W.cell? ⟨w.heap.size + 1, 0, none⟩ = some (.int .u8 97) := by
      rw [cell_of_row W (w.heap.size + 1) 0 #[.int .u8 97] 5 (1, 2) (by rw [hW, ← hs0]; exact heap_alloc_new w0 _)]
      rfl
    have HWS := Lib.hid hs0
    have HLK := Lib.hid (lookup_any (some ⟨w.heap.size, 0, none⟩) 1 1 (fun _ => 97) (some ⟨w.heap.size + 1, 0, none⟩) 1 1 (fun _ => 97) (-1) W
      (fun _ => ⟨_, 0, rfl, fun j hj => by have : j = 0 := (by omega); subst this; exact hc0⟩) (fun _ _ => by omega) (fun _ => ⟨_, 0, rfl, fun j hj => by have : j = 0 := (by omega); subst this; exact hc1⟩) (by omega) (by omega) (HM.out.kept hkW))
    clear hW hw0 hc0 hc1 hk0 hk1
    go_enter Tryd.func4, Tryd.ntmps4
    go_wp2_with fail
    refine (long_any a 0 c w).mono ?_
    rintro e w1 ⟨rfl, rfl⟩
    rw [decide_eq_false h2]
    go_wp2_with fail
    refine HLK.out.mono ?_
    rintro e w2 ⟨v, cc, f, rfl, hF, _, hs, hk2⟩
    have hcnt := hF.cnt
    rw [if_pos (by omega), plcs_one] at hcnt
    subst hcnt
    obtain ⟨rb, cap, rfl, _⟩ := hs (by omega)
    clear hF hs
    go_wp2_with fail
    go_ret
    exact ⟨rfl, hkW.trans hk2⟩
  · -- a piece of the text
    obtain ⟨b, o, rfl, hc⟩ := HIN.out (by omega)
    obtain ⟨k, hk⟩ : ∃ k : Nat, (k : Int) = p % (n : Int) := ⟨(p % (n : Int)).toNat, by have := Int.emod_nonneg p (show (n : Int) ≠ 0 by omega); omega⟩
    have hkn : k < n := by have := Int.emod_lt_of_pos p (show (0 : Int) < n by omega); omega
    obtain ⟨m, hm⟩ : ∃ m : Nat, m = min (n - k) (1 + (q % 40).toNat) := ⟨_, rfl⟩
    have hq2 : 0 ≤ q % 40 ∧ q % 40 < 40 := by omega
    have hm1 : 0 < m := by omega
    have hm2 : k + m ≤ n := by omega
    have hm3 : ((k + m : Nat) : Int) = min (n : Int) ((k : Int) + 1 + q % 40) := by omega
    have hq3 : Came w (some ⟨b, o + k, none⟩) m (fun x => T (k + x)) := fun _ => ⟨b, o + k, rfl, fun j hj => by rw [Nat.add_assoc]; exact hc (k + j) (by omega)⟩
    have HLK := Lib.hid (fun d => lookup_any (some ⟨b, o, none⟩) n c T (some ⟨b, o + k, none⟩) m d (fun x => T (k + x)) (-1) w HIN.out HT.out hq3 (by omega) (by omega) HM.out)
    have hmem : k ∈ plcs T n (sg (fun x => T (k + x)) m 0) := by
      refine mem_plcs.2 ⟨by rw [sg_step _ m 0 hm1]; simp, hkn, ?_⟩
      have := pre_iff (fun x => T (k + x)) (fun x => T (k + x)) (n - k) m
      rw [decide_eq_true (show m ≤ n - k by omega), Bool.true_and] at this
      rw [← lst_zero, ← lst_at, this]
      simp
    have HME := Lib.hid hmem
    have HB := Lib.hid (And.intro hm (And.intro hq2 hm3))
    have hnz : ¬ (n : Int) = 0 := by omega
    clear hc hq3 hmem hm hq2 hm3
    go_enter Tryd.func4, Tryd.ntmps4
    go_wp2_with fail
    refine (long_any _ n c w).mono ?_
    rintro e w1 ⟨rfl, rfl⟩
    rw [decide_eq_false h2]
    go_wp2_with fail
    have e1 : (p % (n : Int)).toNat = k := by omega
    have e2 : (min (n : Int) (p % (n : Int) + 1 + q % 40)).toNat - (p % (n : Int)).toNat = m := by have := HB.out; omega
    rw [e2, e1, ← hk]
    clear e1 e2 hk
    refine (HLK.out _).mono ?_
    rintro e w2 ⟨v, cc, f, rfl, hF, _, hs, hk2⟩
    obtain ⟨t, ht, hft⟩ := hF.all (by omega) k HME.out
    have hle := hF.le
    obtain ⟨rb, cap, rfl, hR⟩ := hs (by omega)
    clear hs hF
    go_wp2_with fail
    refine (contains_row rb 0 cc cap (fun x => (f x : Int)) (k : Int) w2 hR ⟨t, ht, by rw [hft]⟩ (by omega)).mono ?_
    rintro e w3 ⟨rfl, rfl⟩
    go_wp2_with fail
    go_ret
    exact ⟨rfl, hk2⟩



/-- What came in: the text's bytes. -/
theorem bytes_in {w : World} {a : Option Addr} {len cap : Nat} {zs : List Int} (hl : len ≤ cap) (hz : zs.length = cap) (hcell : ∀ x, a = some x → ∀ i, i < zs.length → w.cell? (x.add i) = some (.int .u8 (zs.getD i 0))) (hn : 0 < len → a ≠ none) (hwz : ∀ n ∈ zs, (Lit.int .u8 n).wf = true) :
    (0 < len → ∃ b o, a = some ⟨b, o, none⟩ ∧ ∀ j, j < len → w.cell? ⟨b, o + j, none⟩ = some (.int .u8 (((fun i => (zs.getD i 0).toNat) j : Nat) : Int))) ∧ ∀ i, i < len → (fun i => (zs.getD i 0).toNat) i < 256 := by
  have hb : ∀ i, i < len → 0 ≤ zs.getD i 0 ∧ zs.getD i 0 < 256 := fun i hi => by
    have hm : zs.getD i 0 ∈ zs := by
      have hi' : i < zs.length := by omega
      rw [show zs.getD i 0 = zs[i] by simp [List.getD, hi']]; exact List.getElem_mem _
    have h := hwz _ hm
    have h1 : IntKind.u8.min = 0 := rfl
    have h2 : IntKind.u8.max = 255 := rfl
    simp only [Lit.wf, Bool.and_eq_true, decide_eq_true_eq] at h
    omega
  refine ⟨fun h0 => ?_, fun i hi => by have := hb i hi; show (zs.getD i 0).toNat < 256; omega⟩
  cases a with
  | none => exact absurd rfl (hn h0)
  | some x =>
    obtain ⟨b, o, spot⟩ := x
    have hc := hcell _ rfl
    have hspot : spot = none := by have := World.cell?_spot (hc 0 (by omega)); simpa [Addr.add] using this
    subst hspot
    refine ⟨b, o, rfl, fun j hj => ?_⟩
    have := hc j (by omega)
    rw [Addr.add_lit] at this
    rw [this]
    have := hb j hj
    show _ = some (Value.int .u8 ((zs.getD j 0).toNat : Int))
    rw [Int.toNat_of_nonneg this.1]

theorem own : ownKnob Tryd.prog.godebug = none := by kernel_rfl
theorem laidOut : laidOutB Tryd.prog = true := by kernel_rfl

theorem gMost : Tryd.prog.globalNamed "loop.example/pub-g03124/pub/suffixarray.maxData32" = some 0 := by kernel_rfl
theorem gMostType : (Tryd.prog.globals[0]?).map (·.type) = some 3 := by kernel_rfl

/-- What the row's list gives: the variable's cell. -/
theorem most_of {W : World} (h : laidMetH Tryd.prog Rows.fnEveryRow.laid W) : Most W := by
  obtain ⟨ps, ⟨g', t', cs, fuel, p, q, hg', ht', hvar, hd, _, _⟩, _⟩ := h
  obtain rfl := Option.some.inj (gMost.symm.trans hg')
  obtain rfl := Option.some.inj (gMostType.symm.trans ht')
  obtain ⟨k, e1, e2, _⟩ := DataW.trod_int Tryd.underlying3 hd
  have hk : k = 2147483647 := by
    simp only [Rows.laid_loop_example_pub_g03124_pub_suffixarray_maxData32, Prod.mk.injEq, DataW.lit.injEq, Lit.int.injEq, true_and] at e2
    exact e2.1.symm
  have := World.var?_cell gMost hvar 0
  rw [Array.eq_one_of_toList e1] at this
  subst hk
  exact this

set_option maxRecDepth 100000 in
theorem fnEvery_contract (H : Type) (enc : TypeId × Value → H) (W : World) (base : Nat) (args : Array Value) (ds gs : List (DataW H)) (before : List MemPlace)
    (hval : ∀ (j : Nat) t v, Tryd.f4.params[j]? = some t → args[j]? = some v → Value.okWide Tryd.prog W .any base t v)
    (hW : DataW.Whole enc Tryd.prog Tryd.f4.params.toList Rows.fnEverySpec.vars false W args.toList ds gs before) (hL : laidMetH Tryd.prog Rows.fnEveryRow.laid W) :
    Calls Tryd.prog 4 args W fun e W' => ∃ v, e = .returned v ∧ Rows.fnEverySpec.post enc Tryd.prog Tryd.f4 false true false false W args v W' := by
  have hM := most_of hL
  have hW' := hW
  obtain ⟨p, q, hA0, hV, rfl, _hfz, _hnd⟩ := hW
  have hA : DataW.TrodAll enc Tryd.prog W 0 (fun _ => true) true Tryd.f4.params.toList args.toList ds p := hA0
  rw [Tryd.params4] at hA hval
  obtain ⟨v0, vs0, d0, ds0, p0, q0, _hargs, rfl, rfl, h0, r0⟩ := trodAll_cons hA
  obtain ⟨v1, vs1, d1, ds1, p1, q1, rfl, rfl, rfl, h1, r1⟩ := trodAll_cons r0
  obtain ⟨v2, vs2, d2, ds2, p2, q2, rfl, rfl, rfl, h2, r2⟩ := trodAll_cons r1
  obtain ⟨rfl, rfl, rfl⟩ := trodAll_nil r2
  obtain rfl : args = #[v0, v1, v2] := by cases args; simp_all
  obtain ⟨_g, _t, _cs, _fu, dv, pv, rfl, _, _, _, _, _⟩ := trodVars_one hV
  obtain ⟨a0, len0, cap0, rfl⟩ := okWide_slice Tryd.underlying22 (hval 0 22 v0 rfl rfl)
  have k0 := h0
  have lt0 : ∀ x ∈ p0, x.block < W.heap.size := by obtain ⟨m, hm⟩ := k0; exact DataW.trod_lt m _ _ _ hm
  obtain ⟨T0, w0⟩ : ∃ T : Nat → Nat, (0 < len0 → ∃ b o, a0 = some ⟨b, o, none⟩ ∧ ∀ j, j < len0 → W.cell? ⟨b, o + j, none⟩ = some (.int .u8 (T j : Int))) ∧ (∀ i, i < len0 → T i < 256) ∧ len0 ≤ cap0 := by
    obtain ⟨fuel, hf⟩ := h0
    rcases open_ints Tryd.underlying22 Tryd.underlying5 (by kernel_rfl) hf with ⟨hcs, _⟩ | ⟨x, l, c, zs, hcs, _, hl, hm, hz, _, hcell, hwz⟩
    · simp [Value.cells] at hcs
      obtain ⟨rfl, rfl, rfl⟩ := hcs
      exact ⟨fun _ => 0, fun h => by omega, fun _ h => by omega, Nat.le_refl _⟩
    · simp [Value.cells] at hcs
      obtain ⟨rfl, rfl, rfl⟩ := hcs
      have hb := bytes_in (w := W) (a := some x) hl (by simpa using hz) (fun y hy => by cases hy; exact hcell) (fun _ h => by simp at h) hwz
      exact ⟨_, hb.1, hb.2, hl⟩
  obtain ⟨a1, rfl, rfl, rfl, w1⟩ := open_int Tryd.underlying25 (hval 1 25 v1 rfl rfl) h1
  obtain ⟨a2, rfl, rfl, rfl, w2⟩ := open_int Tryd.underlying5 (hval 2 5 v2 rfl rfl) h2
  clear hA0
  refine (fnEvery_walk a0 len0 cap0 T0 a1 a2 W w0.1 w0.2.1 w0.2.2 w1 w2 hM).mono fun e W' ⟨he, hk⟩ => ?_
  have bel := hk.nothing
  subst he
  exact ⟨_, rfl, _, _, _, [], _, _, hW', trodAll_mk1 (shut_bool Tryd.underlying4 _), (trodAll_cons_mk (Below.trod laidOut (by kernel_rfl) (of_decide_eq_true (by kernel_rfl)) k0 bel lt0) (trodAll_cons_mk (shut_int Tryd.underlying25 w1) (trodAll_cons_mk (shut_int Tryd.underlying5 w2) trodAll_mk0))), Below.trodVars laidOut bel (by kernel_rfl) hV, bel.frame _, fun h => by cases h⟩

/-- A world for the witness: the settled one, the variable holding what its initialiser lays. -/
noncomputable def laidWorld (os : Os) : World :=
  { World.holding Tryd.prog os ⟨#[], #[], []⟩ with heap := (World.holding Tryd.prog os ⟨#[], #[], []⟩).heap.modify 0 fun
      | .cells _ t frozen => .cells #[.int .i64 2147483647] t frozen
      | o => o }
theorem laid_met (os : Os) : laidMet Tryd.prog Rows.fnEveryRow.laid ((laidWorld os).forCall (fun _ _ => 0) ⟨#[], #[.slice none 0 0, .int .u16 0, .int .u8 0], []⟩).memory :=
  laidMet_of_run' 8 (by kernel_rfl) (by kernel_rfl)
theorem reads (os : Os) {H : Type} (enc : TypeId × Value → H) : ∃ places, DataW.whole enc Tryd.prog ((laidWorld os).forCall (fun _ _ => 0) ⟨#[], #[.slice none 0 0, .int .u16 0, .int .u8 0], []⟩).memory Tryd.f4.params.toList Rows.fnEverySpec.vars false (#[.slice none 0 0, .int .u16 0, .int .u8 0] : Array Value).toList 8 = some ([.nil, .lit (.int .u16 0), .lit (.int .u8 0)], [.lit (.int .i64 2147483647)], places) :=
  ⟨[MemPlace.cell 0 0], by kernel_rfl⟩

set_option maxRecDepth 100000 in
theorem fnEvery_lifted (os : Os) (started : os.Started) (H : Type) (enc : TypeId × Value → H) (F : Stop.Interp) :
    ReturnsInHanded {} Tryd.checked os 4 .any ((OpenSpec.ofChange Rows.fnEverySpec).preRow enc Tryd.prog Tryd.f4 Rows.fnEveryRow.domain false Rows.fnEveryRow.laid) (((OpenSpec.ofChange Rows.fnEverySpec).at F).post enc Tryd.prog Tryd.f4 false true false false) := by
  obtain ⟨places, hx⟩ := reads os enc
  refine returnsInHanded_of_row (C := Tryd.checked) (s := OpenSpec.ofChange Rows.fnEverySpec) own started (by kernel_rfl) Tryd.func4
    (witness_row_at (enc := enc) (C := Tryd.checked) false (laidWorld os) #[.slice none 0 0, .int .u16 0, .int .u8 0] rfl (by kernel_rfl) (by kernel_rfl) (by kernel_rfl)
      (OpenSpec.preRow_of_cond 8 hx (by kernel_rfl) (fun k hk => by cases hk) (by kernel_rfl) (laid_met os))) ?_
  intro W base args ds gs before hval hW _ _ _ hL _ _
  exact fnEvery_contract H enc W base args ds gs before hval hW hL

theorem fnEvery_said : Rows.FnEverySaid :=
  OpenClaim.holds_of_cond 4 Tryd.f4 rfl rfl rfl rfl rfl rfl rfl ⟨rfl, rfl, rfl, rfl, rfl⟩ rfl rfl rfl rfl rfl (by kernel_rfl) Tryd.func4 (by kernel_rfl)
    (of_decide_eq_true (by kernel_rfl)) (by unfold Func.isWrapper; first | (rw [if_pos (by decide +kernel)]; kernel_rfl) | (rw [if_neg (by decide +kernel)]; exact ⟨rfl, rfl⟩))
    (fun os started H enc _ F => by rw [OpenClaim.pre_eq_preRow]; exact fnEvery_lifted os started H enc F)

/-- No parameter wants a stand-in; the program's own looks are off. -/
theorem plain (f : FuncId) (fn : Func) (hf : Tryd.pinned.checked.prog.funcNamed "loop.example/pub-g03124/laws.FnEvery" = some f) (hfn : Tryd.pinned.checked.prog.funcs[f]? = some fn) :
    false = Tryd.pinned.checked.prog.looks [] ∧ ∀ (j : Nat) t, fn.params[j]? = some t → Tryd.pinned.checked.prog.wantsStandIn t = false := by
  obtain rfl : f = 4 := Option.some.inj ((show Tryd.prog.funcNamed "loop.example/pub-g03124/laws.FnEvery" = some 4 by kernel_rfl).symm.trans hf) |>.symm
  obtain rfl : fn = Tryd.f4 := (Option.some.inj (Tryd.func4.symm.trans hfn)).symm
  refine ⟨by kernel_rfl, fun j t ht => ?_⟩
  rw [Tryd.params4] at ht
  have hm : t ∈ [22, 25, 5] := by simpa using Array.mem_of_getElem? ht
  have hall : ([22, 25, 5].all fun u => !Tryd.prog.wantsStandIn u) = true := by kernel_rfl
  exact (show Tryd.prog.wantsStandIn t = false by simpa using List.all_eq_true.1 hall t hm)

/-- The statement: the tied card. -/
theorem fnEvery_holds : Rows.FnEveryCardSaid :=
  Claim7.holds_tied_plain_at .later [] _ _ _ _ fnEvery_said (fun _ h => by cases h) (by kernel_rfl) (fun _ h => by cases h) fnEvery_row_tie rfl ⟨rfl, rfl⟩ (by kernel_rfl) rfl plain (by kernel_rfl)
#print axioms fnEvery_holds
end Go.Proofs.YthmpjmohakdkmaaDoor
