/-
  A walk over the search of a piece in an index: the stretch of the index whose places begin with it. No condition but those typed.
-/
import Derived.Test.YtfpihnfhmefeaaaGreatDoorSch
namespace Go.Proofs.YtfpihnfhmefeaaaGreatDoor
open Go.RowKit

set_option maxHeartbeats 4000000 in
set_option maxRecDepth 100000 in
/-- All places of a piece, as a stretch of the index. -/
theorem all_any (ib tb tc sb n qb qo m qc : Nat) (da : Option Addr) (T g S : Nat → Nat) (w : World) (h : Ix w ib da tb tc sb n T g) (hsa : IsSA T n g) (hT : ∀ i, i < n → T i < 256)
    (hq : ∀ j, j < m → w.cell? ⟨qb, qo + j, none⟩ = some (.int .u8 (S j : Int))) (hn : n ≤ 1073741824) :
    Calls Tryz.prog 37 #[.pointer (some ⟨ib, 0, none⟩), .slice (some ⟨qb, qo, none⟩) m qc] w fun e w' =>
      ∃ a c, e = .returned (.agg #[.slice a (manyOf T n g (sg S m 0) (lowOf T n g (sg S m 0))) c, .slice none 0 0]) ∧ (0 < manyOf T n g (sg S m 0) (lowOf T n g (sg S m 0)) → a = some ⟨sb, lowOf T n g (sg S m 0), none⟩) ∧ Kept (fun _ _ => False) w w' := by
  obtain ⟨hlo, hmany, hst⟩ := stretch hsa hT (sg S m 0)
  -- the three boxes: the index, the piece, the result
  obtain ⟨W, hW⟩ : ∃ W, W = ((w.alloc (.cells #[.pointer (some ⟨ib, 0, none⟩)] 46)).alloc (.cells #[.slice (some ⟨qb, qo, none⟩) m qc] 22)).alloc (.cells #[.slice none 0 0, .slice none 0 0] 54) := ⟨_, rfl⟩
  have hsz : W.heap.size = w.heap.size + 3 := by rw [hW]; simp
  have hkW : Kept (fun _ _ => False) w W := by rw [hW]; exact ((Kept.alloc _ _).trans (Kept.alloc _ _)).trans (Kept.alloc _ _)
  have hx : W.cell? ⟨w.heap.size, 0, none⟩ = some (.pointer (some ⟨ib, 0, none⟩)) := by
    rw [hW, World.cell?_alloc_past _ _ _ (by simp; omega), World.cell?_alloc_past _ _ _ (by simp), World.cell?_alloc_at _ _ _ _ rfl]; rfl
  have hp : W.cell? ⟨w.heap.size + 1, 0, none⟩ = some (.slice (some ⟨qb, qo, none⟩) m qc) := by
    rw [hW, World.cell?_alloc_past _ _ _ (by simp), World.cell?_alloc_at _ _ _ _ (by simp)]; rfl
  have hIx := h.kept hkW
  have hqW : ∀ j, j < m → W.cell? ⟨qb, qo + j, none⟩ = some (.int .u8 (S j : Int)) := fun j hj => by rw [hkW.cell _ _ (cell_lt (hq j hj)) (fun hf => hf)]; exact hq j hj
  have eg1 : ∀ args w, (callFunc 50 args).run Tryz.prog w = .ok (.enter 50 args) w := enters_of Tryz.func50 (by kernel_rfl) rfl
  have eg2 : ∀ args w, (callFunc 53 args).run Tryz.prog w = .ok (.enter 53 args) w := enters_of Tryz.func53 (by kernel_rfl) rfl
  have hmf : ∀ (fn : Fn) (first cap : Array Value) (w : World), (Instr.makeFunc fn first cap).run Tryz.prog w = .ok (.func fn first cap) w := fun _ _ _ _ => rfl
  have HL1 := Lib.hid (len_of ib 1 n n (some ⟨sb, 0, none⟩) W hIx.c32 hIx.c64 hn)
  have HS1 := Lib.hid (fun k => search_any 50 #[.pointer (some ⟨w.heap.size, 0, none⟩), .pointer (some ⟨w.heap.size + 1, 0, none⟩)] n (atLeast T n g (sg S m 0)) (W.drewN k) eg1 hn
    (fun k' i hi => first_any w.heap.size (w.heap.size + 1) ib tb tc sb n i qb qo m qc da T g S _ ((hIx.drewN k).drewN k') hx hp hqW hi (hsa.mem i hi) hn) (fun a b hab hb h1 => atLeast_mono hsa hT _ hab hb h1))
  have hr0 : W.cell? ⟨w.heap.size + 1 + 1, 0, none⟩ = some (.slice none 0 0) := by
    rw [hW, World.cell?_alloc_at _ _ _ _ (by simp)]; rfl
  have hr1 : W.cell? ⟨w.heap.size + 1 + 1, 1, none⟩ = some (.slice none 0 0) := by
    rw [hW, World.cell?_alloc_at _ _ _ _ (by simp)]; rfl
  have hrf : ∀ y, W.frozen? ⟨w.heap.size + 1 + 1, y, none⟩ = false := fun y => by
    rw [hW, World.frozen?_alloc_at _ _ _ _ (by simp)]
  -- the box of the first place
  obtain ⟨V, hV⟩ : ∃ V : Nat → World, V = fun k => (W.drewN k).alloc (.cells #[.int .i64 (lowOf T n g (sg S m 0) : Int)] 3) := ⟨_, rfl⟩
  have hkV : ∀ k, Kept (fun _ _ => False) W (V k) := fun k => by
    rw [hV]
    exact ((Kept.refl _ W).drewN k).trans (Kept.alloc _ _)
  have hkk : ∀ k {x y : Nat} {v : Value}, W.cell? ⟨x, y, none⟩ = some v → (V k).cell? ⟨x, y, none⟩ = some v := fun k {x y v} hv => by rw [(hkV k).cell x y (cell_lt hv) (fun hf => hf)]; exact hv
  have heV : ∀ k, (V k).cell? ⟨w.heap.size + 3, 0, none⟩ = some (.int .i64 (lowOf T n g (sg S m 0) : Int)) := fun k => by
    rw [hV]
    exact World.cell?_alloc_at (w := W.drewN k) #[.int .i64 (lowOf T n g (sg S m 0) : Int)] 3 (w.heap.size + 3) 0 hsz.symm
  have HL2 := Lib.hid (fun k k' => len_of ib 1 n n (some ⟨sb, 0, none⟩) ((V k).drewN k') (hkk k hIx.c32) (hkk k hIx.c64) hn)
  have HS2 := Lib.hid (fun k k' => search_any 53 #[.pointer (some ⟨w.heap.size, 0, none⟩), .pointer (some ⟨w.heap.size + 3, 0, none⟩), .pointer (some ⟨w.heap.size + 1, 0, none⟩)] (n - lowOf T n g (sg S m 0)) (fun t => !begins T n g (sg S m 0) (t + lowOf T n g (sg S m 0))) ((V k).drewN k') eg2 (by omega)
    (fun k2 i hi => second_any w.heap.size (w.heap.size + 3) (w.heap.size + 1) ib tb tc sb n i (lowOf T n g (sg S m 0)) qb qo m qc da T g S _ ((((hIx.kept (hkV k)).drewN k').drewN k2)) (hkk k hx) (heV k) (hkk k hp) (fun j hj => hkk k (hqW j hj)) (by omega) (hsa.mem _ (by omega)) hn)
    (fun a b hab hb h1 => by
      simp only [Bool.not_eq_true'] at h1 ⊢
      exact begins_mono hsa hT _ (by omega) (by omega) ((count_mono n fun a b hab hb hp => atLeast_mono hsa hT _ hab hb hp).2 _ (by omega) |>.2 (by unfold lowOf; omega)) h1))
  have HSL := Lib.hid (fun k k' => slice_any ib tb tc sb n (lowOf T n g (sg S m 0)) (lowOf T n g (sg S m 0) + manyOf T n g (sg S m 0) (lowOf T n g (sg S m 0))) da T g ((V k).drewN k') ((hIx.kept (hkV k)).drewN k') (by omega) hmany hn)
  have HX := Lib.hid (fun k => hkk k hx)
  have HE := Lib.hid heV
  have HKV := Lib.hid hkV
  have HW := Lib.hid hW
  have HV := Lib.hid hV
  have HR := Lib.hid (fun k => And.intro (hkk k hr0) (And.intro (hkk k hr1) (fun y => ((hkV k).frozen (w.heap.size + 1 + 1) y (cell_lt hr0)).trans (hrf y))))
  clear h hsa hT hq hIx hqW hst hkk heV hkV hW hV hr0 hr1 hrf
  change Hid (∀ k, Calls Tryz.prog _ _ _ (fun e w' => e = .returned (.int .i64 (lowOf T n g (sg S m 0) : Nat)) ∧ _)) at HS1
  change Hid (∀ k k', Calls Tryz.prog _ _ _ (fun e w' => e = .returned (.int .i64 (manyOf T n g (sg S m 0) (lowOf T n g (sg S m 0)) : Nat)) ∧ _)) at HS2
  generalize manyOf T n g (sg S m 0) (lowOf T n g (sg S m 0)) = mn at *
  generalize lowOf T n g (sg S m 0) = lo at *
  go_enter Tryz.func37, Tryz.ntmps37
  go_wp2_with fail
  rw [← HW.out]
  refine HL1.out.mono ?_
  rintro e w1 ⟨rfl, k1, rfl⟩
  go_wp2_with fail
  refine (HS1.out k1).mono ?_
  rintro e w2 ⟨rfl, k2, rfl⟩
  go_wp2_with fail
  rw [← congrFun HV.out (k1 + k2)]
  have hx2 := HX.out (k1 + k2)
  have he2 := HE.out (k1 + k2)
  have HL3 := Lib.hid (HL2.out (k1 + k2))
  have HS3 := Lib.hid (HS2.out (k1 + k2))
  have hw : ((n - lo : Nat) : Int) = IntKind.i64.wrap ((n : Int) - (lo : Int)) := by
    rw [show ((n - lo : Nat) : Int) = (n : Int) - (lo : Int) by omega]
    exact (IntWalk.i64_in _ (by omega)).symm
  simp only [hw] at HS3
  have HSL3 := Lib.hid (HSL.out (k1 + k2))
  have hw2 : ((lo + mn : Nat) : Int) = IntKind.i64.wrap ((lo : Int) + (mn : Int)) := by
    rw [show ((lo + mn : Nat) : Int) = (lo : Int) + (mn : Int) by omega]
    exact (IntWalk.i64_in _ (by omega)).symm
  simp only [hw2, Nat.add_sub_cancel_left] at HSL3
  have HR3 := Lib.hid (HR.out (k1 + k2))
  have HK3 := Lib.hid (HKV.out (k1 + k2))
  generalize V (k1 + k2) = U at *
  clear HL2 HS2 HSL HR HKV HV HX HE HW
  go_quiet (first
    | (with_reducible refine Calls.quiet_of (HL3.out _))
    | (with_reducible refine Calls.quiet_of (HS3.out _)))
  clear hw hw2
  have hx3 : (U.drewN nq).cell? ⟨w.heap.size, 0, none⟩ = some (.pointer (some ⟨ib, 0, none⟩)) := hx2
  have he3 : (U.drewN nq).cell? ⟨w.heap.size + 3, 0, none⟩ = some (.int .i64 (lo : Int)) := he2
  have HQ := Lib.hid (fun (q : Nat) (w' : World) (hk : Kept (fun _ _ => False) (U.drewN q) w') => And.intro ((hk.cell _ _ (cell_lt HR3.out.1) (fun hf => hf)).trans HR3.out.1) (And.intro ((hk.cell _ _ (cell_lt HR3.out.2.1) (fun hf => hf)).trans HR3.out.2.1) (fun y => (hk.frozen (w.heap.size + 1 + 1) y (cell_lt HR3.out.1)).trans (HR3.out.2.2 y))))
  go_wp2_with fail
  go_region_with (go_at_call 33; refine (HSL3.out _).mono ?_; rintro e w' ⟨a', c', rfl, ha, hk⟩; obtain ⟨r0, r1, r2⟩ := HQ.out _ w' hk; have r3 := r2 0; have r4 := r2 1; clear r2)
  all_goals go_wp2_with fail
  all_goals
    have c0 : ((w'.setCell ⟨w.heap.size + 1 + 1, 0, none⟩ (.slice a' mn c')).setCell ⟨w.heap.size + 1 + 1, 1, none⟩ (.slice none 0 0)).cell? ⟨w.heap.size + 1 + 1, 0, none⟩ = some (.slice a' mn c') := by
      rw [setCell_cell _ _ (by simp)]; exact setCell_cell_same r0
    have c1 : ((w'.setCell ⟨w.heap.size + 1 + 1, 0, none⟩ (.slice a' mn c')).setCell ⟨w.heap.size + 1 + 1, 1, none⟩ (.slice none 0 0)).cell? ⟨w.heap.size + 1 + 1, 1, none⟩ = some (.slice none 0 0) := by
      refine setCell_cell_same (u := .slice none 0 0) ?_
      rw [setCell_cell _ _ (by simp)]; exact r1
    have hkf := (((hkW.trans HK3.out).drewN _).trans hk).fresh (R := reg (w.heap.size + 1 + 1) 0 2) ((Kept.setCell (b := w.heap.size + 1 + 1) (p := 0) (v := .slice a' mn c') ⟨rfl, by omega, by omega⟩).trans (Kept.setCell (b := w.heap.size + 1 + 1) (p := 1) (v := .slice none 0 0) ⟨rfl, by omega, by omega⟩)) fun x y hr => by have := hr.1; omega
    refine bodyPost_ret (v := .agg #[.slice a' mn c', .slice none 0 0]) (by simp [results, Tryz.results37, go_sem, c0, c1]) rfl ⟨a', c', rfl, fun h => ha (by omega), hkf⟩

end Go.Proofs.YtfpihnfhmefeaaaGreatDoor

