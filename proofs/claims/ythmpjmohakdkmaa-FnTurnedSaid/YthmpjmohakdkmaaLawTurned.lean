/-
  The law FnTurned: of a text whose bytes are all taken from 255 the places come in the order turned: for every bool and slice of bytes the call returns true and the arguments read as they did. No condition.
-/
import Derived.Test.YthmpjmohakdkmaaArr
import Derived.Test.YthmpjmohakdkmaaApp
import Derived.Test.YthmpjmohakdkmaaTurn
import Derived.Test.YthmpjmohakdkmaaRows
import Derived.WalkKit
import Derived.ProofKit
import Derived.OpenShut
import Derived.ShutString
import Derived.ChangeOld
import Derived.Below
namespace Go.Proofs.Ythmpjmohakdkmaa
open Go.RowKit Go.ChangeShapes Go.WideShapes Go.ChangeAt

set_option maxHeartbeats 4000000 in
set_option maxRecDepth 100000 in
/-- The arrays of a text and of the text turned are each other's backwards. -/
theorem fnTurned_walk (wide : Bool) (a : Option Addr) (n c : Nat) (T : Nat → Nat) (w : World) (hin : 0 < n → ∃ b o, a = some ⟨b, o, none⟩ ∧ ∀ j, j < n → w.cell? ⟨b, o + j, none⟩ = some (.int .u8 (T j : Int))) (hTK : ∀ i, i < n → T i < 256) (hnc : n ≤ c) :
    Calls Try.prog 3 #[.bool wide, .slice a n c] w fun e w' => e = .returned (.bool true) ∧ Kept (fun _ _ => False) w w' := by
  have HIN := Lib.hid hin
  have HTK := Lib.hid hTK
  clear hin hTK
  by_cases h1 : 2147483647 < n
  · go_enter Try.func3, Try.ntmps3
    go_wp2_with fail
    go_ret
    exact ⟨rfl, Kept.refl _ _⟩
  · by_cases h2 : 1048576 < n
    · go_enter Try.func3, Try.ntmps3
      go_wp2_with fail
      refine (long_any a n c w).mono ?_
      rintro e w1 ⟨rfl, rfl⟩
      rw [decide_eq_true h2]
      go_wp2_with fail
      go_ret
      exact ⟨rfl, Kept.refl _ _⟩
    · go_enter Try.func3, Try.ntmps3
      go_wp2_with fail
      refine (long_any a n c w).mono ?_
      rintro e w1 ⟨rfl, rfl⟩
      rw [decide_eq_false h2]
      go_wp2_with fail
      obtain ⟨i0, hi, hz0, hz1, hz2⟩ := info_parts info_u8
      have HI := Lib.hid (And.intro hi (And.intro hz0 (And.intro hz1 hz2)))
      clear hi hz0 hz1 hz2
      go_wp2
      go_loopw [5, 6, 21] (fun v1 v2 i wr => ∃ k : Nat, k ≤ n ∧ i = .int .i64 k ∧ OwnL wr w1.heap.size 5 .u8 v1 k (fun i => (lowT T n i : Int)) ∧ OwnL wr w1.heap.size 5 .u8 v2 k (fun i => (highT T n i : Int)) ∧ TwoBlocks v1 v2 ∧ Below w1.heap.size w1 wr)
        (fun _ _ i _ => n - (intOf i).toNat)
      case atStart =>
        have h2 := World.ownsRow_made (base := w1.heap.size) (e := 5) (size := 1) (w1.alloc (.cells #[] 5)) #[] 0 (by simp) (by unfold maxLen; omega) rfl
        rw [show (w1.alloc (.cells #[] 5)).heap.size = w1.heap.size + 1 by simp] at h2
        refine ⟨0, Nat.zero_le _, rfl, World.ownsRow.alloc (World.ownsRow_made w1 #[] 0 (Nat.le_refl _) (by unfold maxLen; omega) rfl) _, h2, fun g h1 h2 => ?_, ((Below.refl _ _).alloc (Nat.le_refl _) _).alloc (by simp) _⟩
        simp [Value.ownBlock] at h1 h2
        omega
      case round =>
        obtain ⟨k, hk, rfl, ho1, ho2, htwo, hnx⟩ := hrel
        have hsz := hnx.size
        by_cases hkn : k < n
        · obtain ⟨b, o, rfl, hc⟩ := HIN.out (by omega)
          have hb : b < w1.heap.size := cell_lt (hc 0 (by omega))
          have hcx : wr.cell? ⟨b, o + k, none⟩ = some (.int .u8 (T k : Int)) := (hnx.cell hb).trans (hc k hkn)
          have hTk := HTK.out k hkn
          clear hc
          obtain ⟨v1', w3, hr1, hn1, hg1, hb1⟩ := append_one (P := Try.prog) 22 22 i0 Try.underlying22 HI.out.1 HI.out.2.1 HI.out.2.2.1 (by rw [HI.out.2.2.2]; omega) ho1 (by omega) hsz (1 + (T k : Int) % 254)
          have hs1 := hg1.size
          have hm2 := ho2.kept hg1 htwo.symm
          obtain ⟨v2', w4, hr2, hn2, hg2, hb2⟩ := append_one (P := Try.prog) 22 22 i0 Try.underlying22 HI.out.1 HI.out.2.1 HI.out.2.2.1 (by rw [HI.out.2.2.2]; omega) hm2 (by omega) (by omega) (255 - (1 + (T k : Int) % 254))
          have ht1 : TwoBlocks u6 v1' := htwo.symm.appended (fun x hx => (ho2.below x hx).2) hb1
          have ht2 : TwoBlocks v1' v2' := ht1.symm.appended (fun x hx => (hn1.below x hx).2) hb2
          have hn1' := hn1.kept hg2 ht1.symm
          have hnx' : Below w1.heap.size w1 w4 := (hnx.grown hg1 hsz fun x hx => (ho1.below x hx).1).grown hg2 (by omega) fun x hx => (hm2.below x hx).1
          have hN1 := Lib.hid (hn1'.congr (g := fun i => (lowT T n i : Int)) fun j hj => by
            by_cases e : j < k
            · simp [e]
            · have : j = k := by omega
              subst this; simp [lowT, hkn])
          have hN2 := Lib.hid (hn2.congr (g := fun i => (highT T n i : Int)) fun j hj => by
            by_cases e : j < k
            · simp [e]
            · have : j = k := by omega
              subst this
              have := Nat.mod_lt (T j) (show 0 < 254 by omega)
              simp [highT, hkn]; omega)
          have hNX := Lib.hid hnx'
          have hT2 := Lib.hid ht2
          clear hn1' hn2 hnx' ht2 hn1 ht1 hg1 hg2 hm2 hnx ho1 ho2 htwo hb1 hb2
          go_wp2_with (first
            | (at_builtin; refine Lib.wpList_append_run_sl _ rfl _ _ _ rfl _ _ rfl rfl hr1 ?_)
            | (at_builtin; refine Lib.wpList_append_run_sl _ rfl _ _ _ rfl _ _ rfl rfl hr2 ?_)
            | go_in)
          go_roundw
          case rel => exact ⟨k + 1, by omega, by simp, hN1.out, hN2.out, hT2.out, hNX.out⟩
          case measure => simp [intOf]; omega
        · have hkn : k = n := by omega
          subst hkn
          obtain ⟨v1', w3, hr1, hn1, hg1, hb1⟩ := append_one (P := Try.prog) 22 22 i0 Try.underlying22 HI.out.1 HI.out.2.1 HI.out.2.2.1 (by rw [HI.out.2.2.2]; omega) ho1 (by omega) hsz 0
          have hs1 := hg1.size
          have hm2 := ho2.kept hg1 htwo.symm
          have hnx3 : Below w1.heap.size w1 w3 := hnx.grown hg1 hsz fun x hx => (ho1.below x hx).1
          have hN1 : OwnL w3 w1.heap.size 5 .u8 v1' (k + 1) (fun i => (lowT T k i : Int)) := hn1.congr fun j hj => by
            by_cases e : j < k
            · simp [e]
            · simp [e, lowT]
          have h2b := fun x hx => (hm2.below x hx).2
          obtain ⟨b1, c1, rfl, _, _, hR1⟩ := own_row hN1 (by omega)
          have HM2 := Lib.hid hm2
          have HNX3 := Lib.hid hnx3
          have HR1 := Lib.hid hR1
          have H2B := Lib.hid h2b
          clear hn1 hN1 hg1 hnx ho1 ho2 htwo hb1 hm2 hnx3 hR1 h2b
          go_wp2_with (at_builtin; refine Lib.wpList_append_run_sl _ rfl _ _ _ rfl _ _ rfl rfl hr1 ?_)
          refine (arr_any wide _ (k + 1) c1 (lowT T k) w3 (fun _ => ⟨b1, 0, rfl, HR1.out.cell⟩) (fun i _ => by have := low_le T k i; omega) (by omega)).mono ?_
          rintro e w4 ⟨v3, g, rfl, hg, ho3, hk3⟩
          have hs4 := hk3.size
          have hm4 := HM2.out.keptAll hk3
          have ho3' : OwnL w4 w3.heap.size 3 .i64 v3 (k + 1) (fun x => (g x : Int)) := ho3
          obtain ⟨v2', w5, hr2, hn2, hg2, hb2⟩ := append_one (P := Try.prog) 22 22 i0 Try.underlying22 HI.out.1 HI.out.2.1 HI.out.2.2.1 (by rw [HI.out.2.2.2]; omega) hm4 (by omega) (by omega) 255
          have hs5 := hg2.size
          have ho5 := ho3'.kept hg2 fun x hx he => by have h6 := (ho3'.below x hx).1; have h7 := H2B.out x he; omega
          have hnx5 : Below w1.heap.size w1 w5 := (HNX3.out.trans (hk3.below (B := w1.heap.size) (fun _ _ _ hf => hf) (by omega))).grown hg2 (by omega) fun x hx => (hm4.below x hx).1
          have hN2 : OwnL w5 w1.heap.size 5 .u8 v2' (k + 1) (fun i => (highT T k i : Int)) := hn2.congr fun j hj => by
            by_cases e : j < k
            · simp [e]
            · simp [e, highT]
          obtain ⟨b2, c2, rfl, _, _, hR2⟩ := own_row hN2 (by omega)
          obtain ⟨b3, c3, rfl, _, _, hR3⟩ := own_row ho5 (by omega)
          have HNX5 := Lib.hid hnx5
          have HR2 := Lib.hid hR2
          have HG := Lib.hid hg
          clear hn2 hN2 hg2 ho3 ho3' hm4 hk3 hnx5 hR2 hb2 ho5 hg hr1
          go_wp2_with (at_builtin; refine Lib.wpList_append_run_sl _ rfl _ _ _ rfl _ _ rfl rfl hr2 ?_)
          refine (arr_any wide _ (k + 1) c2 (highT T k) w5 (fun _ => ⟨b2, 0, rfl, HR2.out.cell⟩) (fun i _ => by rw [high_low]; omega) (by omega)).mono ?_
          rintro e w6 ⟨v4, g', rfl, hg', ho4, hk4⟩
          obtain ⟨b4, c4, rfl, _, _, hR4⟩ := own_row ho4 (by omega)
          have hR3' := hR3.keptAll hk4
          have HT := Lib.hid (turn_sa HG.out hg')
          have hK : Kept (fun _ _ => False) w1 w6 := (below_kept HNX5.out).trans hk4
          clear ho4 hR3 hg' hk4 hr2
          go_wp2_with fail
          go_loopw [65] (fun i wr => ∃ j : Nat, j ≤ k + 1 ∧ i = .int .i64 j ∧ Row wr .i64 b3 0 (k + 1) (fun x => (g x : Int)) ∧ Row wr .i64 b4 0 (k + 1) (fun x => (g' x : Int)) ∧ Kept (fun _ _ => False) w1 wr)
            (fun i _ => k + 1 - (intOf i).toNat)
          case atStart => exact ⟨0, Nat.zero_le _, rfl, hR3', hR4, hK⟩
          case round =>
            obtain ⟨j, hj, rfl, hA, hB, hKr⟩ := hrel
            by_cases hjn : j < k + 1
            · have hc1 := hA.cell j hjn
              have hc2 := hB.cell (k - j) (by omega)
              rw [Nat.zero_add] at hc1 hc2
              rw [← HT.out j hjn] at hc2
              go_wp2_with fail
              go_quiet (fail)
              go_wp2_with fail
              go_roundw
              case rel => exact ⟨j + 1, by omega, by simp, hA.drewN _, hB.drewN _, hKr.drewN _⟩
              case measure => simp [intOf]; omega
            · have hjn : j = k + 1 := by omega
              subst hjn
              go_wp2_with fail
              go_ret
              exact ⟨rfl, hKr⟩


/-- What came in: the text's bytes. -/
theorem bytes_in {w : World} {a : Option Addr} {len cap : Nat} {zs : List Int} (hl : len ≤ cap) (hz : zs.length = cap) (hcell : ∀ x, a = some x → ∀ i, i < zs.length → w.cell? (x.add i) = some (.int .u8 (zs.getD i 0))) (hn : 0 < len → a ≠ none) (hwz : ∀ n ∈ zs, (Lit.int .u8 n).wf = true) :
    (0 < len → ∃ b o, a = some ⟨b, o, none⟩ ∧ ∀ j, j < len → w.cell? ⟨b, o + j, none⟩ = some (.int .u8 (((fun i => (zs.getD i 0).toNat) j : Nat) : Int))) ∧ ∀ i, i < len → (fun i => (zs.getD i 0).toNat) i < 256 := by
  have hb : ∀ i, i < len → 0 ≤ zs.getD i 0 ∧ zs.getD i 0 < 256 := fun i hi => by
    have hm : zs.getD i 0 ∈ zs := by
      have hi' : i < zs.length := by omega
      rw [show zs.getD i 0 = zs[i] by simp [List.getD, hi']]; exact List.getElem_mem _
    have h := hwz _ hm
    have h1 : IntKind.u8.min = 0 := rfl
    have h2 : IntKind.u8.max = 255 := rfl
    simp only [Lit.wf, Bool.and_eq_true, decide_eq_true_eq] at h
    omega
  refine ⟨fun h0 => ?_, fun i hi => by have := hb i hi; show (zs.getD i 0).toNat < 256; omega⟩
  cases a with
  | none => exact absurd rfl (hn h0)
  | some x =>
    obtain ⟨b, o, spot⟩ := x
    have hc := hcell _ rfl
    have hspot : spot = none := by have := World.cell?_spot (hc 0 (by omega)); simpa [Addr.add] using this
    subst hspot
    refine ⟨b, o, rfl, fun j hj => ?_⟩
    have := hc j (by omega)
    rw [Addr.add_lit] at this
    rw [this]
    have := hb j hj
    show _ = some (Value.int .u8 ((zs.getD j 0).toNat : Int))
    rw [Int.toNat_of_nonneg this.1]

theorem own : ownKnob Try.prog.godebug = none := by kernel_rfl
theorem laidOut : laidOutB Try.prog = true := by kernel_rfl

set_option maxRecDepth 100000 in
theorem fnTurned_lifted (os : Os) (started : os.Started) (H : Type) (enc : TypeId × Value → H) :
    ReturnsInHanded {} Try.checked os 3 .any (Rows.fnTurnedSpec.pre6 enc Try.prog Try.f3 Rows.fnTurnedRow.domain false) (Rows.fnTurnedSpec.post enc Try.prog Try.f3 false true false false) := by
  refine returnsInHanded_of_change (C := Try.checked) own started (by kernel_rfl) Try.func3
    (ChangeSpec.witness6 (enc := enc) (C := Try.checked) false ⟨#[], #[.bool false, .slice none 0 0], []⟩ 8 (by kernel_rfl) (by kernel_rfl) (by kernel_rfl) (by kernel_rfl)) ?_
  intro W base args ds gs before hval0 hW _hcnd _
  have hval : ∀ (j : Nat) t v, Try.f3.params[j]? = some t → args[j]? = some v → Value.okWide Try.prog W .any base t v := hval0
  have hW' := hW
  obtain ⟨p, q, hA0, hV, rfl, _hfz, _hnd⟩ := hW
  have hA : DataW.TrodAll enc Try.prog W 0 (fun _ => true) true Try.f3.params.toList args.toList ds p := hA0
  rw [Try.params3] at hA hval
  obtain ⟨v0, vs0, d0, ds0, p0, q0, _hargs, rfl, rfl, h0, r0⟩ := trodAll_cons hA
  obtain ⟨v1, vs1, d1, ds1, p1, q1, rfl, rfl, rfl, h1, r1⟩ := trodAll_cons r0
  obtain ⟨rfl, rfl, rfl⟩ := trodAll_nil r1
  obtain rfl : args = #[v0, v1] := by cases args; simp_all
  obtain ⟨rfl, rfl⟩ := trodVars_none hV
  obtain ⟨a0, rfl, rfl, rfl⟩ := open_bool Try.underlying4 (hval 0 4 v0 rfl rfl) h0
  obtain ⟨a1, len1, cap1, rfl⟩ := okWide_slice Try.underlying22 (hval 1 22 v1 rfl rfl)
  have k1 := h1
  have lt1 : ∀ x ∈ p1, x.block < W.heap.size := by obtain ⟨m, hm⟩ := k1; exact DataW.trod_lt m _ _ _ hm
  obtain ⟨T1, w1⟩ : ∃ T : Nat → Nat, (0 < len1 → ∃ b o, a1 = some ⟨b, o, none⟩ ∧ ∀ j, j < len1 → W.cell? ⟨b, o + j, none⟩ = some (.int .u8 (T j : Int))) ∧ (∀ i, i < len1 → T i < 256) ∧ len1 ≤ cap1 := by
    obtain ⟨fuel, hf⟩ := h1
    rcases open_ints Try.underlying22 Try.underlying5 (by kernel_rfl) hf with ⟨hcs, _⟩ | ⟨x, l, c, zs, hcs, _, hl, hm, hz, _, hcell, hwz⟩
    · simp [Value.cells] at hcs
      obtain ⟨rfl, rfl, rfl⟩ := hcs
      exact ⟨fun _ => 0, fun h => by omega, fun _ h => by omega, Nat.le_refl _⟩
    · simp [Value.cells] at hcs
      obtain ⟨rfl, rfl, rfl⟩ := hcs
      have hb := bytes_in (w := W) (a := some x) hl (by simpa using hz) (fun y hy => by cases hy; exact hcell) (fun _ h => by simp at h) hwz
      exact ⟨_, hb.1, hb.2, hl⟩
  clear hA0 hval0
  refine (fnTurned_walk a0 a1 len1 cap1 T1 W w1.1 w1.2.1 w1.2.2).mono fun e W' ⟨he, hk⟩ => ?_
  have bel := hk.nothing
  subst he
  exact ⟨_, rfl, _, _, _, [], _, [], hW', trodAll_mk1 (shut_bool Try.underlying4 _), (trodAll_cons_mk (shut_bool Try.underlying4 _) (trodAll_cons_mk (Below.trod laidOut (by kernel_rfl) (of_decide_eq_true (by kernel_rfl)) k1 bel lt1) trodAll_mk0)), rfl, bel.frame _, fun h => by cases h⟩

/-- The statement. -/
theorem fnTurned_holds : Rows.FnTurnedSaid :=
  OpenClaim.holds_of_wide 3 Try.f3 rfl rfl rfl rfl rfl rfl rfl ⟨rfl, rfl, rfl, rfl, rfl⟩ rfl rfl rfl rfl rfl (by kernel_rfl) Try.func3 (by kernel_rfl)
    (of_decide_eq_true (by kernel_rfl)) (by unfold Func.isWrapper; first | (rw [if_pos (by decide +kernel)]; kernel_rfl) | (rw [if_neg (by decide +kernel)]; exact ⟨rfl, rfl⟩))
    (fun os started H enc _ => fnTurned_lifted os started H enc)
#print axioms fnTurned_holds
end Go.Proofs.Ythmpjmohakdkmaa
