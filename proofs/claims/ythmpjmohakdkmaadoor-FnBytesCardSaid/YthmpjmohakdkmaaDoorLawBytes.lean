/-
  The law FnBytes: an index tells the text that it was made over: for every slice of bytes the call returns true and the argument reads as it did; the greatest length for numbers of 32 bits is as the package lays it (tied). No further condition.
-/
import Derived.Test.YthmpjmohakdkmaaDoorBts
import Derived.Test.YthmpjmohakdkmaaDoorByt
import Derived.Test.YthmpjmohakdkmaaDoorRows
import Derived.Test.YthmpjmohakdkmaaDoorCards
import Derived.Test.YthmpjmohakdkmaaDoorTie
import Derived.WalkKit
import Derived.ProofKit
import Derived.OpenShut
import Derived.ShutString
import Derived.ChangeOld
import Derived.Below
import Derived.ChangeVars
import Derived.OpenVars
import Derived.Deep.DeepHandedRow
import Derived.Lib.LaidTab
namespace Go.Proofs.YthmpjmohakdkmaaDoor
open Go.RowKit Go.ChangeShapes Go.WideShapes Go.ChangeAt

/-- 'string(..)' of bytes that came in. -/
theorem conv_any (a : Option Addr) (n c : Nat) (T : Nat → Nat) (w : World) (h : Came w a n T) : (convert 22 9 (.slice a n c)).run Tryd.prog w = .ok (.string (strOfNums (lst T n))) w := by
  by_cases h0 : n = 0
  · subst h0
    rw [run_convert_bytes_string w 22 9 5 a 0 c Tryd.underlying22 Tryd.underlying5 Tryd.underlying9]
    cases a <;> simp [Conv.bytesToString, loadCells]
    all_goals rfl
  · obtain ⟨b, o, rfl, hc⟩ := h (by omega)
    exact conv_bytes b o n c T w hc

set_option maxHeartbeats 4000000 in
set_option maxRecDepth 100000 in
/-- An index tells the text that it was made over. -/
theorem fnBytes_walk (a : Option Addr) (n c : Nat) (T : Nat → Nat) (w : World) (hin : Came w a n T) (hT : ∀ i, i < n → T i < 256) (_hnc : n ≤ c) (hM : Most w) :
    Calls Tryd.prog 3 #[.slice a n c] w fun e w' => e = .returned (.bool true) ∧ Kept (fun _ _ => False) w w' := by
  by_cases h1 : 2147483647 < n
  · clear hin hT hM
    go_enter Tryd.func3, Tryd.ntmps3
    go_wp2_with fail
    go_ret
    exact ⟨rfl, Kept.refl _ _⟩
  · by_cases h2 : 1048576 < n
    · clear hin hT hM
      go_enter Tryd.func3, Tryd.ntmps3
      go_wp2_with fail
      refine (long_any a n c w).mono ?_
      rintro e w1 ⟨rfl, rfl⟩
      rw [decide_eq_true h2]
      go_wp2_with fail
      go_ret
      exact ⟨rfl, Kept.refl _ _⟩
    · have HB := Lib.hid (fun k => bytes_any a n c T (w.drewN k) (hin.kept ((Kept.refl _ w).drewN k)) hT (by omega) (hM.kept ((Kept.refl _ w).drewN k)))
      have HB0 := Lib.hid (bytes_any a n c T w hin hT (by omega) hM)
      have HI := Lib.hid hin
      have HBD := Lib.hid (bytes_any a n c T w.drew (hin.kept (Kept.refl _ w).drew) hT (by omega) (hM.kept (Kept.refl _ w).drew))
      have hc1 : (convert 22 9 (.slice a n c)).run Tryd.prog w.drew = .ok (.string (strOfNums (lst T n))) w.drew := conv_any a n c T _ (hin.kept (Kept.refl _ w).drew)
      clear hin hT hM
      go_enter Tryd.func3, Tryd.ntmps3
      go_wp2_with fail
      refine (long_any a n c w).mono ?_
      rintro e w1 ⟨rfl, rfl⟩
      rw [decide_eq_false h2]
      go_wp2_with fail
      go_region_with (go_at_call 7; refine HBD.out.mono ?_; rintro e w' ⟨a', c', rfl, hq, hk⟩; have hc3 := conv_any a' n c' T w' hq; have hc4 := conv_any a n c T w' ((HI.out.kept (Kept.refl _ w1).drew).kept hk); clear hq)
      all_goals go_wp2_with fail
      all_goals go_ret
      all_goals exact ⟨by first | rfl | simp, ((Kept.refl _ w1).drew).trans (by assumption)⟩


/-- What came in: the text's bytes. -/
theorem bytes_in {w : World} {a : Option Addr} {len cap : Nat} {zs : List Int} (hl : len ≤ cap) (hz : zs.length = cap) (hcell : ∀ x, a = some x → ∀ i, i < zs.length → w.cell? (x.add i) = some (.int .u8 (zs.getD i 0))) (hn : 0 < len → a ≠ none) (hwz : ∀ n ∈ zs, (Lit.int .u8 n).wf = true) :
    (0 < len → ∃ b o, a = some ⟨b, o, none⟩ ∧ ∀ j, j < len → w.cell? ⟨b, o + j, none⟩ = some (.int .u8 (((fun i => (zs.getD i 0).toNat) j : Nat) : Int))) ∧ ∀ i, i < len → (fun i => (zs.getD i 0).toNat) i < 256 := by
  have hb : ∀ i, i < len → 0 ≤ zs.getD i 0 ∧ zs.getD i 0 < 256 := fun i hi => by
    have hm : zs.getD i 0 ∈ zs := by
      have hi' : i < zs.length := by omega
      rw [show zs.getD i 0 = zs[i] by simp [List.getD, hi']]; exact List.getElem_mem _
    have h := hwz _ hm
    have h1 : IntKind.u8.min = 0 := rfl
    have h2 : IntKind.u8.max = 255 := rfl
    simp only [Lit.wf, Bool.and_eq_true, decide_eq_true_eq] at h
    omega
  refine ⟨fun h0 => ?_, fun i hi => by have := hb i hi; show (zs.getD i 0).toNat < 256; omega⟩
  cases a with
  | none => exact absurd rfl (hn h0)
  | some x =>
    obtain ⟨b, o, spot⟩ := x
    have hc := hcell _ rfl
    have hspot : spot = none := by have := World.cell?_spot (hc 0 (by omega)); simpa [Addr.add] using this
    subst hspot
    refine ⟨b, o, rfl, fun j hj => ?_⟩
    have := hc j (by omega)
    rw [Addr.add_lit] at this
    rw [this]
    have := hb j hj
    show _ = some (Value.int .u8 ((zs.getD j 0).toNat : Int))
    rw [Int.toNat_of_nonneg this.1]

theorem own : ownKnob Tryd.prog.godebug = none := by kernel_rfl
theorem laidOut : laidOutB Tryd.prog = true := by kernel_rfl

theorem gMost : Tryd.prog.globalNamed "loop.example/pub-g03124/pub/suffixarray.maxData32" = some 0 := by kernel_rfl
theorem gMostType : (Tryd.prog.globals[0]?).map (·.type) = some 3 := by kernel_rfl

/-- What the row's list gives: the variable's cell. -/
theorem most_of {W : World} (h : laidMetH Tryd.prog Rows.fnBytesRow.laid W) : Most W := by
  obtain ⟨ps, ⟨g', t', cs, fuel, p, q, hg', ht', hvar, hd, _, _⟩, _⟩ := h
  obtain rfl := Option.some.inj (gMost.symm.trans hg')
  obtain rfl := Option.some.inj (gMostType.symm.trans ht')
  obtain ⟨k, e1, e2, _⟩ := DataW.trod_int Tryd.underlying3 hd
  have hk : k = 2147483647 := by
    simp only [Rows.laid_loop_example_pub_g03124_pub_suffixarray_maxData32, Prod.mk.injEq, DataW.lit.injEq, Lit.int.injEq, true_and] at e2
    exact e2.1.symm
  have := World.var?_cell gMost hvar 0
  rw [Array.eq_one_of_toList e1] at this
  subst hk
  exact this

set_option maxRecDepth 100000 in
theorem fnBytes_contract (H : Type) (enc : TypeId × Value → H) (W : World) (base : Nat) (args : Array Value) (ds gs : List (DataW H)) (before : List MemPlace)
    (hval : ∀ (j : Nat) t v, Tryd.f3.params[j]? = some t → args[j]? = some v → Value.okWide Tryd.prog W .any base t v)
    (hW : DataW.Whole enc Tryd.prog Tryd.f3.params.toList Rows.fnBytesSpec.vars false W args.toList ds gs before) (hL : laidMetH Tryd.prog Rows.fnBytesRow.laid W) :
    Calls Tryd.prog 3 args W fun e W' => ∃ v, e = .returned v ∧ Rows.fnBytesSpec.post enc Tryd.prog Tryd.f3 false true false false W args v W' := by
  have hM := most_of hL
  have hW' := hW
  obtain ⟨p, q, hA0, hV, rfl, _hfz, _hnd⟩ := hW
  have hA : DataW.TrodAll enc Tryd.prog W 0 (fun _ => true) true Tryd.f3.params.toList args.toList ds p := hA0
  rw [Tryd.params3] at hA hval
  obtain ⟨v0, vs0, d0, ds0, p0, q0, _hargs, rfl, rfl, h0, r0⟩ := trodAll_cons hA
  obtain ⟨rfl, rfl, rfl⟩ := trodAll_nil r0
  obtain rfl : args = #[v0] := by cases args; simp_all
  obtain ⟨_g, _t, _cs, _fu, dv, pv, rfl, _, _, _, _, _⟩ := trodVars_one hV
  obtain ⟨a0, len0, cap0, rfl⟩ := okWide_slice Tryd.underlying22 (hval 0 22 v0 rfl rfl)
  have k0 := h0
  have lt0 : ∀ x ∈ p0, x.block < W.heap.size := by obtain ⟨m, hm⟩ := k0; exact DataW.trod_lt m _ _ _ hm
  obtain ⟨T0, w0⟩ : ∃ T : Nat → Nat, (0 < len0 → ∃ b o, a0 = some ⟨b, o, none⟩ ∧ ∀ j, j < len0 → W.cell? ⟨b, o + j, none⟩ = some (.int .u8 (T j : Int))) ∧ (∀ i, i < len0 → T i < 256) ∧ len0 ≤ cap0 := by
    obtain ⟨fuel, hf⟩ := h0
    rcases open_ints Tryd.underlying22 Tryd.underlying5 (by kernel_rfl) hf with ⟨hcs, _⟩ | ⟨x, l, c, zs, hcs, _, hl, hm, hz, _, hcell, hwz⟩
    · simp [Value.cells] at hcs
      obtain ⟨rfl, rfl, rfl⟩ := hcs
      exact ⟨fun _ => 0, fun h => by omega, fun _ h => by omega, Nat.le_refl _⟩
    · simp [Value.cells] at hcs
      obtain ⟨rfl, rfl, rfl⟩ := hcs
      have hb := bytes_in (w := W) (a := some x) hl (by simpa using hz) (fun y hy => by cases hy; exact hcell) (fun _ h => by simp at h) hwz
      exact ⟨_, hb.1, hb.2, hl⟩
  clear hA0
  refine (fnBytes_walk a0 len0 cap0 T0 W w0.1 w0.2.1 w0.2.2 hM).mono fun e W' ⟨he, hk⟩ => ?_
  have bel := hk.nothing
  subst he
  exact ⟨_, rfl, _, _, _, [], _, _, hW', trodAll_mk1 (shut_bool Tryd.underlying4 _), (trodAll_cons_mk (Below.trod laidOut (by kernel_rfl) (of_decide_eq_true (by kernel_rfl)) k0 bel lt0) trodAll_mk0), Below.trodVars laidOut bel (by kernel_rfl) hV, bel.frame _, fun h => by cases h⟩

/-- A world for the witness: the settled one, the variable holding what its initialiser lays. -/
noncomputable def laidWorld (os : Os) : World :=
  { World.holding Tryd.prog os ⟨#[], #[], []⟩ with heap := (World.holding Tryd.prog os ⟨#[], #[], []⟩).heap.modify 0 fun
      | .cells _ t frozen => .cells #[.int .i64 2147483647] t frozen
      | o => o }
theorem laid_met (os : Os) : laidMet Tryd.prog Rows.fnBytesRow.laid ((laidWorld os).forCall (fun _ _ => 0) ⟨#[], #[.slice none 0 0], []⟩).memory :=
  laidMet_of_run' 8 (by kernel_rfl) (by kernel_rfl)
theorem reads (os : Os) {H : Type} (enc : TypeId × Value → H) : ∃ places, DataW.whole enc Tryd.prog ((laidWorld os).forCall (fun _ _ => 0) ⟨#[], #[.slice none 0 0], []⟩).memory Tryd.f3.params.toList Rows.fnBytesSpec.vars false (#[.slice none 0 0] : Array Value).toList 8 = some ([.nil], [.lit (.int .i64 2147483647)], places) :=
  ⟨[MemPlace.cell 0 0], by kernel_rfl⟩

set_option maxRecDepth 100000 in
theorem fnBytes_lifted (os : Os) (started : os.Started) (H : Type) (enc : TypeId × Value → H) (F : Stop.Interp) :
    ReturnsInHanded {} Tryd.checked os 3 .any ((OpenSpec.ofChange Rows.fnBytesSpec).preRow enc Tryd.prog Tryd.f3 Rows.fnBytesRow.domain false Rows.fnBytesRow.laid) (((OpenSpec.ofChange Rows.fnBytesSpec).at F).post enc Tryd.prog Tryd.f3 false true false false) := by
  obtain ⟨places, hx⟩ := reads os enc
  refine returnsInHanded_of_row (C := Tryd.checked) (s := OpenSpec.ofChange Rows.fnBytesSpec) own started (by kernel_rfl) Tryd.func3
    (witness_row_at (enc := enc) (C := Tryd.checked) false (laidWorld os) #[.slice none 0 0] rfl (by kernel_rfl) (by kernel_rfl) (by kernel_rfl)
      (OpenSpec.preRow_of_cond 8 hx (by kernel_rfl) (fun k hk => by cases hk) (by kernel_rfl) (laid_met os))) ?_
  intro W base args ds gs before hval hW _ _ _ hL _ _
  exact fnBytes_contract H enc W base args ds gs before hval hW hL

theorem fnBytes_said : Rows.FnBytesSaid :=
  OpenClaim.holds_of_cond 3 Tryd.f3 rfl rfl rfl rfl rfl rfl rfl ⟨rfl, rfl, rfl, rfl, rfl⟩ rfl rfl rfl rfl rfl (by kernel_rfl) Tryd.func3 (by kernel_rfl)
    (of_decide_eq_true (by kernel_rfl)) (by unfold Func.isWrapper; first | (rw [if_pos (by decide +kernel)]; kernel_rfl) | (rw [if_neg (by decide +kernel)]; exact ⟨rfl, rfl⟩))
    (fun os started H enc _ F => by rw [OpenClaim.pre_eq_preRow]; exact fnBytes_lifted os started H enc F)

/-- No parameter wants a stand-in; the program's own looks are off. -/
theorem plain (f : FuncId) (fn : Func) (hf : Tryd.pinned.checked.prog.funcNamed "loop.example/pub-g03124/laws.FnBytes" = some f) (hfn : Tryd.pinned.checked.prog.funcs[f]? = some fn) :
    false = Tryd.pinned.checked.prog.looks [] ∧ ∀ (j : Nat) t, fn.params[j]? = some t → Tryd.pinned.checked.prog.wantsStandIn t = false := by
  obtain rfl : f = 3 := Option.some.inj ((show Tryd.prog.funcNamed "loop.example/pub-g03124/laws.FnBytes" = some 3 by kernel_rfl).symm.trans hf) |>.symm
  obtain rfl : fn = Tryd.f3 := (Option.some.inj (Tryd.func3.symm.trans hfn)).symm
  refine ⟨by kernel_rfl, fun j t ht => ?_⟩
  rw [Tryd.params3] at ht
  have hm : t ∈ [22] := by simpa using Array.mem_of_getElem? ht
  have hall : ([22].all fun u => !Tryd.prog.wantsStandIn u) = true := by kernel_rfl
  exact (show Tryd.prog.wantsStandIn t = false by simpa using List.all_eq_true.1 hall t hm)

/-- The statement: the tied card. -/
theorem fnBytes_holds : Rows.FnBytesCardSaid :=
  Claim7.holds_tied_plain_at .later [] _ _ _ _ fnBytes_said (fun _ h => by cases h) (by kernel_rfl) (fun _ h => by cases h) fnBytes_row_tie rfl ⟨rfl, rfl⟩ (by kernel_rfl) rfl plain (by kernel_rfl)
#print axioms fnBytes_holds
end Go.Proofs.YthmpjmohakdkmaaDoor
