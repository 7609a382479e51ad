/-
  Walks over the making of an index. No condition but those typed: the greatest length of a text of 32 bits is as the package lays it.
-/
import Derived.Test.YtfpihnfhmefeaaaGreatDoorIdx
namespace Go.Proofs.YtfpihnfhmefeaaaGreatDoor
open Go.RowKit

/-- The package's variable: the greatest length of a text that is sorted by numbers of 32 bits. -/
def Most (w : World) : Prop := w.cell? ⟨0, 0, none⟩ = some (.int .i64 2147483647)
theorem Most.kept {w w' : World} (h : Most w) (k : Kept (fun _ _ => False) w w') : Most w' := by
  unfold Most at *
  rw [k.cell _ _ (cell_lt h) (fun hf => hf)]; exact h

set_option maxHeartbeats 1600000 in
set_option maxRecDepth 100000 in
/-- An index of a text of some bytes. -/
theorem new_some (tb tc n : Nat) (T : Nat → Nat) (w : World) (h0 : 0 < n) (hR : Row w .u8 tb 0 n (fun i => (T i : Int))) (hT : ∀ i, i < n → T i < 256) (hn : n ≤ 1073741824) (htc : n ≤ tc) (hM : Most w) :
    Calls Tryz.prog 15 #[.slice (some ⟨tb, 0, none⟩) n tc] w fun e w' =>
      ∃ ib sb g, e = .returned (.pointer (some ⟨ib, 0, none⟩)) ∧ Ix w' ib (some ⟨tb, 0, none⟩) tb tc sb n T g ∧ IsSA T n g ∧ Kept (fun _ _ => False) w w' := by
  obtain ⟨i0, hi, hz0, hz1, hz2⟩ := info_parts info_i32
  obtain ⟨W, hW⟩ : ∃ W, W = w.alloc (.cells #[.slice (some ⟨tb, 0, none⟩) n tc, .slice none 0 0, .slice none 0 0] 56) := ⟨_, rfl⟩
  have hkW : Kept (fun _ _ => False) w W := by rw [hW]; exact Kept.alloc _ _
  have hsz : W.heap.size = w.heap.size + 1 := by rw [hW]; simp
  have hd : ∀ i (v : Value), (#[Value.slice (some ⟨tb, 0, none⟩) n tc, .slice none 0 0, .slice none 0 0])[i]? = some v → W.cell? ⟨w.heap.size, i, none⟩ = some v := fun i v hv => by
    rw [hW, World.cell?_alloc_at _ _ _ _ rfl]; exact hv
  have hd0 := hd 0 _ rfl
  have hd1 := hd 1 _ rfl
  have hd2 := hd 2 _ rfl
  have hfz : ∀ y, W.frozen? ⟨w.heap.size, y, none⟩ = false := fun y => by rw [hW, World.frozen?_alloc_at _ _ _ _ rfl]
  obtain ⟨w1, hmk, hF, hk1, hlt⟩ := make_row (P := Tryz.prog) W 51 21 .i32 i0 Tryz.underlying51 hi hz0 hz1 (by rw [hz2]; omega) n hn
  rw [hsz] at hF
  have hMW : W.cell? ⟨0, 0, none⟩ = some (.int .i64 2147483647) := hM.kept hkW
  have hle : (n : Int) ≤ 2147483647 := by omega
  have htb := hR.lt h0
  have hc1 : w1.cell? ⟨w.heap.size, 1, none⟩ = some (.slice none 0 0) := by rw [hk1.cell _ _ (by omega) (fun hf => hf)]; exact hd1
  have hf1 : w1.frozen? ⟨w.heap.size, 1, none⟩ = false := (hk1.frozen _ _ (by omega)).trans (hfz 1)
  obtain ⟨w2, hw2⟩ : ∃ w2, w2 = w1.setCell ⟨w.heap.size, 1, none⟩ (.slice (some ⟨w.heap.size + 1, 0, none⟩) n n) := ⟨_, rfl⟩
  have hk2 : Kept (reg w.heap.size 1 1) w1 w2 := by rw [hw2]; exact Kept.setCell ⟨rfl, by omega, by omega⟩
  have hF2 : Row w2 .i32 (w.heap.size + 1) 0 n (fun _ => 0) := hF.kept hk2 fun j _ hr => by have := hr.1; omega
  have hR2 : Row w2 .u8 tb 0 n (fun i => (T i : Int)) := ((hR.keptAll hkW).keptAll hk1).kept hk2 fun j _ hr => by have := hr.1; omega
  have hs2 : w2.cell? ⟨w.heap.size, 1, none⟩ = some (.slice (some ⟨w.heap.size + 1, 0, none⟩) n n) := by rw [hw2]; exact setCell_cell_same hc1
  have hs0 : w2.cell? ⟨w.heap.size, 0, none⟩ = some (.slice (some ⟨tb, 0, none⟩) n tc) := by rw [hw2, setCell_cell _ _ (by simp), hk1.cell _ _ (by omega) (fun hf => hf)]; exact hd0
  have hs3 : w2.cell? ⟨w.heap.size, 2, none⟩ = some (.slice none 0 0) := by rw [hw2, setCell_cell _ _ (by simp), hk1.cell _ _ (by omega) (fun hf => hf)]; exact hd2
  have HT := Lib.hid (text_32 T tb 0 tc n (w.heap.size + 1) 0 n (fun _ => 0) w2 h0 hR2 hF2 (fun _ _ => rfl) (by unfold Apart; omega) hT hn htc (Nat.le_refl _))
  have HW := Lib.hid hW
  have HW2 := Lib.hid hw2
  have HK1 := Lib.hid (hkW.trans hk1)
  have HK2 := Lib.hid hk2
  have HS := Lib.hid (And.intro hs0 (And.intro hs2 (And.intro hs3 hR2)))
  have hsW1 := hk1.size
  have hs12 := hk2.size
  rw [hW] at hMW
  rw [hW] at hmk
  clear hi hz0 hz1 hz2 hkW hd hd0 hd1 hd2 hfz hF hk1 hR hT hM hk2 hF2 hR2 hs0 hs3 hw2
  go_enter Tryz.func15, Tryz.ntmps15
  go_wp2_with fail
  rw [← HW2.out]
  refine HT.out.mono ?_
  rintro e w3 ⟨s', rfl, hR3, ⟨g, hg, hgs⟩, hk3⟩
  have hs23 := hk3.size
  have HR3 := Lib.hid (hR3.congr hgs)
  have HK3 := Lib.hid hk3
  have HG := Lib.hid hg
  clear hR3 hgs hk3 hg
  go_wp2_with fail
  go_ret
  have keep : ∀ y v, w2.cell? ⟨w.heap.size, y, none⟩ = some v → w3.cell? ⟨w.heap.size, y, none⟩ = some v := fun y v hv => by
    rw [HK3.out.cell _ _ (by omega) (fun hr => by have := hr.1; omega)]; exact hv
  have hR4 := HS.out.2.2.2.kept HK3.out fun j _ hr => by have := hr.1; omega
  exact ⟨w.heap.size, w.heap.size + 1, g, rfl, ⟨keep _ _ HS.out.1, keep _ _ HS.out.2.1, keep _ _ HS.out.2.2.1, hR4.cell, HR3.out.cell, fun _ => rfl, htc⟩, HG.out,
    (HK1.out.fresh HK2.out fun x y hr => by have := hr.1; omega).fresh HK3.out fun x y hr => by have := hr.1; omega⟩

set_option maxHeartbeats 1600000 in
set_option maxRecDepth 100000 in
/-- An index of a text of no byte. -/
theorem new_zero (T : Nat → Nat) (w : World) (hM : Most w) :
    Calls Tryz.prog 15 #[.slice none 0 0] w fun e w' =>
      ∃ ib sb g, e = .returned (.pointer (some ⟨ib, 0, none⟩)) ∧ Ix w' ib none 0 0 sb 0 T g ∧ IsSA T 0 g ∧ Kept (fun _ _ => False) w w' := by
  obtain ⟨i0, hi, hz0, hz1, hz2⟩ := info_parts info_i32
  obtain ⟨W, hW⟩ : ∃ W, W = w.alloc (.cells #[.slice none 0 0, .slice none 0 0, .slice none 0 0] 56) := ⟨_, rfl⟩
  have hkW : Kept (fun _ _ => False) w W := by rw [hW]; exact Kept.alloc _ _
  have hsz : W.heap.size = w.heap.size + 1 := by rw [hW]; simp
  have hd : ∀ i (v : Value), (#[Value.slice none 0 0, .slice none 0 0, .slice none 0 0])[i]? = some v → W.cell? ⟨w.heap.size, i, none⟩ = some v := fun i v hv => by
    rw [hW, World.cell?_alloc_at _ _ _ _ rfl]; exact hv
  have hd0 := hd 0 _ rfl
  have hd1 := hd 1 _ rfl
  have hd2 := hd 2 _ rfl
  have hfz : ∀ y, W.frozen? ⟨w.heap.size, y, none⟩ = false := fun y => by rw [hW, World.frozen?_alloc_at _ _ _ _ rfl]
  obtain ⟨w1, hmk0, hF, hk1, hlt⟩ := make_row (P := Tryz.prog) W 51 21 .i32 i0 Tryz.underlying51 hi hz0 hz1 (by rw [hz2]; omega) 0 (by omega)
  have hmk : (Instr.makeSlice 51 (.int .i64 0) (.int .i64 0)).run Tryz.prog W = .ok (.slice (some ⟨W.heap.size, 0, none⟩) 0 0) w1 := hmk0
  have hMW : W.cell? ⟨0, 0, none⟩ = some (.int .i64 2147483647) := hM.kept hkW
  have hc1 : w1.cell? ⟨w.heap.size, 1, none⟩ = some (.slice none 0 0) := by rw [hk1.cell _ _ (by omega) (fun hf => hf)]; exact hd1
  have hf1 : w1.frozen? ⟨w.heap.size, 1, none⟩ = false := (hk1.frozen _ _ (by omega)).trans (hfz 1)
  obtain ⟨w2, hw2⟩ : ∃ w2, w2 = w1.setCell ⟨w.heap.size, 1, none⟩ (.slice (some ⟨w.heap.size + 1, 0, none⟩) 0 0) := ⟨_, rfl⟩
  have hk2 : Kept (reg w.heap.size 1 1) w1 w2 := by rw [hw2]; exact Kept.setCell ⟨rfl, by omega, by omega⟩
  have hs2 : w2.cell? ⟨w.heap.size, 1, none⟩ = some (.slice (some ⟨w.heap.size + 1, 0, none⟩) 0 0) := by rw [hw2]; exact setCell_cell_same hc1
  have hs0 : w2.cell? ⟨w.heap.size, 0, none⟩ = some (.slice none 0 0) := by rw [hw2, setCell_cell _ _ (by simp), hk1.cell _ _ (by omega) (fun hf => hf)]; exact hd0
  have hs3 : w2.cell? ⟨w.heap.size, 2, none⟩ = some (.slice none 0 0) := by rw [hw2, setCell_cell _ _ (by simp), hk1.cell _ _ (by omega) (fun hf => hf)]; exact hd2
  have HT := Lib.hid (text_32_zero none (some ⟨w.heap.size + 1, 0, none⟩) 0 0 w2)
  have HW2 := Lib.hid hw2
  have HK1 := Lib.hid (hkW.trans hk1)
  have HK2 := Lib.hid hk2
  have HS := Lib.hid (And.intro hs0 (And.intro hs2 hs3))
  have hsW1 := hk1.size
  have hs12 := hk2.size
  rw [hW] at hMW
  rw [hW] at hmk
  clear hi hz0 hz1 hz2 hkW hd hd0 hd1 hd2 hfz hF hk1 hM hk2 hs0 hs3 hw2 hmk0
  go_enter Tryz.func15, Tryz.ntmps15
  go_wp2_with fail
  rw [← HW2.out]
  refine HT.out.mono ?_
  rintro e w3 ⟨rfl, hk3⟩
  have HK3 := Lib.hid hk3
  clear hk3
  go_wp2_with fail
  go_ret
  have keep : ∀ y v, w2.cell? ⟨w.heap.size, y, none⟩ = some v → w3.cell? ⟨w.heap.size, y, none⟩ = some v := fun y v hv => by
    rw [HK3.out.cell _ _ (by omega) (fun hf => hf)]; exact hv
  exact ⟨w.heap.size, w.heap.size + 1, fun _ => 0, rfl, ⟨keep _ _ HS.out.1, keep _ _ HS.out.2.1, keep _ _ HS.out.2.2, fun _ h => absurd h (Nat.not_lt_zero _), fun _ h => absurd h (Nat.not_lt_zero _), fun h => absurd h (Nat.not_lt_zero _), Nat.le_refl _⟩, isSA_zero T _,
    (HK1.out.fresh HK2.out fun x y hr => by have := hr.1; omega).trans HK3.out⟩

/-- An index of the copy of a text. -/
theorem new_copy (a : Option Addr) (n c : Nat) (T : Nat → Nat) (w : World) (hin : 0 < n → ∃ b o, a = some ⟨b, o, none⟩ ∧ ∀ j, j < n → w.cell? ⟨b, o + j, none⟩ = some (.int .u8 (T j : Int))) (hT : ∀ i, i < n → T i < 256) (hn : n ≤ 1073741824) (hM : Most w) :
    Calls Tryz.prog 16 #[.slice a n c] w fun e w1 => ∃ v, e = .returned v ∧ Kept (fun _ _ => False) w w1 ∧
      Calls Tryz.prog 15 #[v] w1 fun e w' =>
        ∃ ib da tb tc sb g, e = .returned (.pointer (some ⟨ib, 0, none⟩)) ∧ Ix w' ib da tb tc sb n T g ∧ IsSA T n g ∧ Kept (fun _ _ => False) w w' := by
  by_cases h0 : n = 0
  · subst h0
    refine (copied_zero a c w).mono ?_
    rintro e w1 ⟨rfl, hk1⟩
    refine ⟨_, rfl, hk1, (new_zero T w1 (hM.kept hk1)).mono ?_⟩
    rintro e w2 ⟨ib, sb, g, rfl, hI, hg, hk2⟩
    exact ⟨ib, none, 0, 0, sb, g, rfl, hI, hg, hk1.trans hk2⟩
  · obtain ⟨b, o, rfl, hc⟩ := hin (by omega)
    refine (copied_row b o n c T w hc (by omega) (by omega)).mono ?_
    rintro e w1 ⟨cap, rfl, hcap, hR, hk1⟩
    refine ⟨_, rfl, hk1, (new_some _ cap n T w1 (by omega) hR hT hn hcap (hM.kept hk1)).mono ?_⟩
    rintro e w2 ⟨ib, sb, g, rfl, hI, hg, hk2⟩
    exact ⟨ib, _, _, cap, sb, g, rfl, hI, hg, hk1.trans hk2⟩

end Go.Proofs.YtfpihnfhmefeaaaGreatDoor

