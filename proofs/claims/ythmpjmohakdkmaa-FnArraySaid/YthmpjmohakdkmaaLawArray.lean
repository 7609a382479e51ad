/-
  The law FnArray: the array of every text, by numbers of 32 bits or of 64, are its places, by what stands there up to the end, ascending: for every bool and slice of bytes the call returns true and the arguments read as they did. No condition.
-/
import Derived.Test.YthmpjmohakdkmaaArr
import Derived.Test.YthmpjmohakdkmaaMar
import Derived.Test.YthmpjmohakdkmaaRows
import Derived.WalkKit
import Derived.ProofKit
import Derived.OpenShut
import Derived.ShutString
import Derived.ChangeOld
import Derived.Below
namespace Go.Proofs.Ythmpjmohakdkmaa
open Go.RowKit Go.ChangeShapes Go.WideShapes Go.ChangeAt

set_option maxHeartbeats 1600000 in
set_option maxRecDepth 100000 in
/-- The array of every text are its places, ascending. -/
theorem fnArray_walk (wide : Bool) (a : Option Addr) (n c : Nat) (T : Nat → Nat) (w : World) (hin : 0 < n → ∃ b o, a = some ⟨b, o, none⟩ ∧ ∀ j, j < n → w.cell? ⟨b, o + j, none⟩ = some (.int .u8 (T j : Int))) (hTK : ∀ i, i < n → T i < 256) (hnc : n ≤ c) :
    Calls Try.prog 6 #[.bool wide, .slice a n c] w fun e w' => e = .returned (.bool true) ∧ Kept (fun _ _ => False) w w' := by
  have HIN := Lib.hid hin
  have HTK := Lib.hid hTK
  clear hin hTK
  by_cases h1 : 2147483647 < n
  · go_enter Try.func6, Try.ntmps6
    go_wp2_with fail
    go_ret
    exact ⟨rfl, Kept.refl _ _⟩
  · by_cases h2 : 1048576 < n
    · go_enter Try.func6, Try.ntmps6
      go_wp2_with fail
      refine (long_any a n c w).mono ?_
      rintro e w1 ⟨rfl, rfl⟩
      rw [decide_eq_true h2]
      go_wp2_with fail
      go_ret
      exact ⟨rfl, Kept.refl _ _⟩
    · go_enter Try.func6, Try.ntmps6
      go_wp2_with fail
      refine (long_any a n c w).mono ?_
      rintro e w1 ⟨rfl, rfl⟩
      rw [decide_eq_false h2]
      go_wp2_with fail
      refine (arr_any wide a n c T w1 HIN.out HTK.out (by omega)).mono ?_
      rintro e w2 ⟨v, g, rfl, hg, hown, hk2⟩
      by_cases h0 : n = 0
      · subst h0
        obtain ⟨a2, c2, rfl⟩ := own_zero hown
        go_wp2_with fail
        refine (specArray_zero a c w2).mono ?_
        rintro e w3 ⟨a3, c3, rfl, hk3⟩
        go_wp2_with fail
        refine (equal_zero a2 a3 c2 c3 w3).mono ?_
        rintro e w4 ⟨rfl, rfl⟩
        go_wp2_with fail
        go_ret
        exact ⟨rfl, hk2.trans hk3⟩
      · obtain ⟨b2, c2, rfl, _, _, hR⟩ := own_row hown (by omega)
        obtain ⟨tb, tp, rfl, hc⟩ := HIN.out (by omega)
        have hc2 : ∀ j, j < n → w2.cell? ⟨tb, tp + j, none⟩ = some (.int .u8 (T j : Int)) := fun j hj => by rw [hk2.cell _ _ (cell_lt (hc j hj)) (fun hf => hf)]; exact hc j hj
        have HC2 := Lib.hid hc2
        clear hc hc2
        go_wp2_with fail
        refine (specArray_row tb tp n c T w2 (by omega) (by omega) HC2.out HTK.out hnc).mono ?_
        rintro e w3 ⟨b3, c3, f, rfl, hf, hRf, hk3⟩
        have hRg : Row w3 .i64 b2 0 n (fun x => (f x : Int)) := (hR.keptAll hk3).congr fun x hx => by rw [hg.same hf x hx]
        go_wp2_with fail
        refine (equal_same b2 0 n c2 b3 0 c3 (fun x => (f x : Int)) w3 hRg hRf (by omega)).mono ?_
        rintro e w4 ⟨rfl, m, rfl⟩
        go_wp2_with fail
        go_ret
        exact ⟨rfl, (hk2.trans hk3).drewN m⟩


/-- What came in: the text's bytes. -/
theorem bytes_in {w : World} {a : Option Addr} {len cap : Nat} {zs : List Int} (hl : len ≤ cap) (hz : zs.length = cap) (hcell : ∀ x, a = some x → ∀ i, i < zs.length → w.cell? (x.add i) = some (.int .u8 (zs.getD i 0))) (hn : 0 < len → a ≠ none) (hwz : ∀ n ∈ zs, (Lit.int .u8 n).wf = true) :
    (0 < len → ∃ b o, a = some ⟨b, o, none⟩ ∧ ∀ j, j < len → w.cell? ⟨b, o + j, none⟩ = some (.int .u8 (((fun i => (zs.getD i 0).toNat) j : Nat) : Int))) ∧ ∀ i, i < len → (fun i => (zs.getD i 0).toNat) i < 256 := by
  have hb : ∀ i, i < len → 0 ≤ zs.getD i 0 ∧ zs.getD i 0 < 256 := fun i hi => by
    have hm : zs.getD i 0 ∈ zs := by
      have hi' : i < zs.length := by omega
      rw [show zs.getD i 0 = zs[i] by simp [List.getD, hi']]; exact List.getElem_mem _
    have h := hwz _ hm
    have h1 : IntKind.u8.min = 0 := rfl
    have h2 : IntKind.u8.max = 255 := rfl
    simp only [Lit.wf, Bool.and_eq_true, decide_eq_true_eq] at h
    omega
  refine ⟨fun h0 => ?_, fun i hi => by have := hb i hi; show (zs.getD i 0).toNat < 256; omega⟩
  cases a with
  | none => exact absurd rfl (hn h0)
  | some x =>
    obtain ⟨b, o, spot⟩ := x
    have hc := hcell _ rfl
    have hspot : spot = none := by have := World.cell?_spot (hc 0 (by omega)); simpa [Addr.add] using this
    subst hspot
    refine ⟨b, o, rfl, fun j hj => ?_⟩
    have := hc j (by omega)
    rw [Addr.add_lit] at this
    rw [this]
    have := hb j hj
    show _ = some (Value.int .u8 ((zs.getD j 0).toNat : Int))
    rw [Int.toNat_of_nonneg this.1]

theorem own : ownKnob Try.prog.godebug = none := by kernel_rfl
theorem laidOut : laidOutB Try.prog = true := by kernel_rfl

set_option maxRecDepth 100000 in
theorem fnArray_lifted (os : Os) (started : os.Started) (H : Type) (enc : TypeId × Value → H) :
    ReturnsInHanded {} Try.checked os 6 .any (Rows.fnArraySpec.pre6 enc Try.prog Try.f6 Rows.fnArrayRow.domain false) (Rows.fnArraySpec.post enc Try.prog Try.f6 false true false false) := by
  refine returnsInHanded_of_change (C := Try.checked) own started (by kernel_rfl) Try.func6
    (ChangeSpec.witness6 (enc := enc) (C := Try.checked) false ⟨#[], #[.bool false, .slice none 0 0], []⟩ 8 (by kernel_rfl) (by kernel_rfl) (by kernel_rfl) (by kernel_rfl)) ?_
  intro W base args ds gs before hval0 hW _hcnd _
  have hval : ∀ (j : Nat) t v, Try.f6.params[j]? = some t → args[j]? = some v → Value.okWide Try.prog W .any base t v := hval0
  have hW' := hW
  obtain ⟨p, q, hA0, hV, rfl, _hfz, _hnd⟩ := hW
  have hA : DataW.TrodAll enc Try.prog W 0 (fun _ => true) true Try.f6.params.toList args.toList ds p := hA0
  rw [Try.params6] at hA hval
  obtain ⟨v0, vs0, d0, ds0, p0, q0, _hargs, rfl, rfl, h0, r0⟩ := trodAll_cons hA
  obtain ⟨v1, vs1, d1, ds1, p1, q1, rfl, rfl, rfl, h1, r1⟩ := trodAll_cons r0
  obtain ⟨rfl, rfl, rfl⟩ := trodAll_nil r1
  obtain rfl : args = #[v0, v1] := by cases args; simp_all
  obtain ⟨rfl, rfl⟩ := trodVars_none hV
  obtain ⟨a0, rfl, rfl, rfl⟩ := open_bool Try.underlying4 (hval 0 4 v0 rfl rfl) h0
  obtain ⟨a1, len1, cap1, rfl⟩ := okWide_slice Try.underlying22 (hval 1 22 v1 rfl rfl)
  have k1 := h1
  have lt1 : ∀ x ∈ p1, x.block < W.heap.size := by obtain ⟨m, hm⟩ := k1; exact DataW.trod_lt m _ _ _ hm
  obtain ⟨T1, w1⟩ : ∃ T : Nat → Nat, (0 < len1 → ∃ b o, a1 = some ⟨b, o, none⟩ ∧ ∀ j, j < len1 → W.cell? ⟨b, o + j, none⟩ = some (.int .u8 (T j : Int))) ∧ (∀ i, i < len1 → T i < 256) ∧ len1 ≤ cap1 := by
    obtain ⟨fuel, hf⟩ := h1
    rcases open_ints Try.underlying22 Try.underlying5 (by kernel_rfl) hf with ⟨hcs, _⟩ | ⟨x, l, c, zs, hcs, _, hl, hm, hz, _, hcell, hwz⟩
    · simp [Value.cells] at hcs
      obtain ⟨rfl, rfl, rfl⟩ := hcs
      exact ⟨fun _ => 0, fun h => by omega, fun _ h => by omega, Nat.le_refl _⟩
    · simp [Value.cells] at hcs
      obtain ⟨rfl, rfl, rfl⟩ := hcs
      have hb := bytes_in (w := W) (a := some x) hl (by simpa using hz) (fun y hy => by cases hy; exact hcell) (fun _ h => by simp at h) hwz
      exact ⟨_, hb.1, hb.2, hl⟩
  clear hA0 hval0
  refine (fnArray_walk a0 a1 len1 cap1 T1 W w1.1 w1.2.1 w1.2.2).mono fun e W' ⟨he, hk⟩ => ?_
  have bel := hk.nothing
  subst he
  exact ⟨_, rfl, _, _, _, [], _, [], hW', trodAll_mk1 (shut_bool Try.underlying4 _), (trodAll_cons_mk (shut_bool Try.underlying4 _) (trodAll_cons_mk (Below.trod laidOut (by kernel_rfl) (of_decide_eq_true (by kernel_rfl)) k1 bel lt1) trodAll_mk0)), rfl, bel.frame _, fun h => by cases h⟩

/-- The statement. -/
theorem fnArray_holds : Rows.FnArraySaid :=
  OpenClaim.holds_of_wide 6 Try.f6 rfl rfl rfl rfl rfl rfl rfl ⟨rfl, rfl, rfl, rfl, rfl⟩ rfl rfl rfl rfl rfl (by kernel_rfl) Try.func6 (by kernel_rfl)
    (of_decide_eq_true (by kernel_rfl)) (by unfold Func.isWrapper; first | (rw [if_pos (by decide +kernel)]; kernel_rfl) | (rw [if_neg (by decide +kernel)]; exact ⟨rfl, rfl⟩))
    (fun os started H enc _ => fnArray_lifted os started H enc)
#print axioms fnArray_holds
end Go.Proofs.Ythmpjmohakdkmaa
