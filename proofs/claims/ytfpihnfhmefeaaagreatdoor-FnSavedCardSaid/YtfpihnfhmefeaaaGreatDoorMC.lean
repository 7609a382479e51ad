/-
  Walks over the saving of a text's index. No condition but those typed.
  A walk over the looking up of a piece in an index of no byte that was read; the looking up in whatever index that was read. No condition but those typed.
  A walk over the text of an index. No condition but those typed.
  Walks over the loading of a saved index. No condition but those typed.
  What the rows' lists give: the package's greatest length and the library's two errors; a world that meets them. No condition.
-/
import Derived.Test.YtfpihnfhmefeaaaGreatDoorMB
import Derived.Test.YtfpihnfhmefeaaaGreatDoorIml
import Derived.Test.YtfpihnfhmefeaaaGreatDoorIdx
import Derived.Test.YtfpihnfhmefeaaaGreatDoorRows
import Derived.Tactics
import Derived.Tactics2
import Derived.Defers
import Derived.Recover
import Derived.Laws.Pointers
import Derived.ProofKit
import Derived.LaidLaws
import Derived.OpenVars
import Derived.ChangeOld
import Derived.Stop.ErrReads
namespace Go.Proofs.YtfpihnfhmefeaaaGreatDoor
open Go.RowKit

set_option maxHeartbeats 1000000 in
set_option maxRecDepth 100000 in
/-- What a buffer holds, as a slice. -/
theorem bbytes_any (P : Nat → Prop) (b : Nat) (L : List UInt8) (w : World) (h : Holds w P b L) (hL : 0 < L.length) :
    Calls Tryz.prog 18 #[.pointer (some ⟨b, 0, none⟩)] w fun e w' => ∃ g cap, e = .returned (.slice (some ⟨g, 0, none⟩) L.length cap) ∧ (∀ j, j < L.length → w.cell? ⟨g, 0 + j, none⟩ = some (.int .u8 ((L.getD j 0).toNat : Int))) ∧ ∃ m, w' = w.drewN m := by
  obtain ⟨g, cap, cur, hB, ht, _⟩ := h
  obtain ⟨⟨lr, h1⟩, h2, h3, h4, h5, h6⟩ := hB
  obtain ⟨c0, c1, _, _⟩ := bf_cell h1
  have hcell : ∀ j, j < L.length → w.cell? ⟨g, 0 + j, none⟩ = some (.int .u8 ((L.getD j 0).toNat : Int)) := fun j hj => by
    rw [cell_of_row w g (0 + j) cur _ _ h2, Nat.zero_add]
    have e1 : (cur.toList.take L.length)[j]? = cur[j]? := by rw [List.getElem?_take, if_pos hj]; simp
    rw [← e1, ht]
    simp [Lib.byteCells, List.getD, hj]
  have HC := Lib.hid hcell
  have q1 : ¬ cap = 0 := by omega
  clear hcell ht h1 h2
  go_enter Tryz.func18, Tryz.ntmps18
  go_wp2_with fail
  go_quiet (fail)
  go_wp2_with fail
  go_ret
  exact ⟨g, cap, rfl, HC.out, nq, rfl⟩

/-- The copy of bytes that came in, with its room. -/
theorem copied_cap (a : Option Addr) (n c : Nat) (T : Nat → Nat) (w : World) (h : Came w a n T) (hn : n ≤ 4294967296) :
    Calls Tryz.prog 16 #[.slice a n c] w fun e w' => ∃ a' c', e = .returned (.slice a' n c') ∧ Came w' a' n T ∧ n ≤ c' ∧ (0 < n → a' = some ⟨w.heap.size, 0, none⟩) ∧ Kept (fun _ _ => False) w w' := by
  by_cases h0 : n = 0
  · subst h0
    refine (copied_zero a c w).mono ?_
    rintro e w1 ⟨rfl, hk1⟩
    exact ⟨_, _, rfl, fun h => absurd h (Nat.not_lt_zero _), Nat.le_refl _, fun h => absurd h (Nat.not_lt_zero _), hk1⟩
  · obtain ⟨qb, qo, rfl, hc⟩ := h (by omega)
    refine (copied_row qb qo n c T w hc (by omega) hn).mono ?_
    rintro e w1 ⟨cap, rfl, hcap, hR, hk1⟩
    exact ⟨_, _, rfl, fun _ => ⟨_, 0, rfl, hR.cell⟩, hcap, fun _ => rfl, hk1⟩

/-- What a saving leaves. -/
def SavedPost (T : Nat → Nat) (n : Nat) (w : World) (e : Ending) (w' : World) : Prop :=
  ∃ a c L f, e = .returned (.tuple #[.slice a (L.length : Nat) c, .bool true]) ∧ IsSA T n f ∧ (∀ j, f j < 1073741824) ∧ IsSaved (textOf T n) f L ∧ Came w' a L.length (fun j => (L.getD j 0).toNat) ∧ L.length ≤ c ∧ Kept (fun _ _ => False) w w'

theorem Ix.congr {w : World} {ib : Nat} {da : Option Addr} {tb tc sb n : Nat} {T g g' : Nat → Nat} (h : Ix w ib da tb tc sb n T g) (e : ∀ j, j < n → g' j = g j) : Ix w ib da tb tc sb n T g' :=
  ⟨h.data, h.c32, h.c64, h.text, fun j hj => by rw [e j hj]; exact h.nums j hj, h.here, h.cap⟩

set_option maxHeartbeats 4000000 in
set_option maxRecDepth 100000 in
/-- An index of a text is saved. -/
theorem saved_any (a : Option Addr) (n c : Nat) (T : Nat → Nat) (w : World) (hin : Came w a n T) (hT : ∀ i, i < n → T i < 256) (hn : n ≤ 1048576) (hM : Most w) :
    Calls Tryz.prog 8 #[.slice a n c] w (SavedPost T n w) := by
  obtain ⟨W, hW⟩ : ∃ W, W = w.alloc (.cells #[.slice none 0 0, .int .i64 0, .int .i8 0] 43) := ⟨_, rfl⟩
  have hkW : Kept (fun _ _ => False) w W := by rw [hW]; exact Kept.alloc _ _
  have hbW : W.heap[w.heap.size]? = some (.cells #[.slice none 0 0, .int .i64 0, .int .i8 0] 43 (0, 0)) := by rw [hW]; exact heap_alloc_new w _
  have hsW : W.heap.size = w.heap.size + 1 := by rw [hW]; simp
  have HN := Lib.hid (new_copy a n c T W (hin.kept hkW) hT (by omega) (hM.kept hkW))
  have HW := Lib.hid hW
  have HB := Lib.hid (And.intro hkW hbW)
  have HT := Lib.hid hT
  clear hin hT hM hkW hbW hW
  go_enter Tryz.func8, Tryz.ntmps8
  go_wp2_with fail
  rw [← HW.out]
  refine HN.out.mono ?_
  rintro e w1 ⟨v1, rfl, hk1, hnew⟩
  have HNW := Lib.hid hnew
  clear hnew hk1
  go_wp2_with fail
  refine HNW.out.mono ?_
  rintro e w2 ⟨ib, da, tb, tc, sb, g, rfl, hI, hg, hk2⟩
  obtain ⟨hkW, hbW⟩ := HB.out
  have hb2 : w2.heap[w.heap.size]? = some (.cells #[.slice none 0 0, .int .i64 0, .int .i8 0] 43 (0, 0)) := (hk2.block _ (by omega) (fun _ h => h)).trans hbW
  obtain ⟨b0, b1, b2, _⟩ := bf_cell hb2
  have hib : ib ≠ w.heap.size := fun e => by
    have := hI.c32
    rw [e, b1] at this
    cases this
  have htb : 0 < n → tb ≠ w.heap.size := fun h0 e => by
    have := hI.text 0 h0
    rw [e, Nat.zero_add, b0] at this
    cases this
  have hsb : 0 < n → sb ≠ w.heap.size := fun h0 e => by
    have := hI.nums 0 h0
    rw [e, Nat.zero_add, b0] at this
    cases this
  obtain ⟨f, hf⟩ : ∃ f : Nat → Nat, f = fun j => if j < n then g j else 0 := ⟨_, rfl⟩
  have hfg : ∀ j, j < n → f j = g j := fun j hj => by rw [hf]; exact if_pos hj
  have hfl : ∀ j, f j < 1073741824 := fun j => by
    rw [hf]
    show (if j < n then g j else 0) < 1073741824
    split
    · rename_i hj; have := hg.mem j hj; omega
    · omega
  have HWR := Lib.hid (write_any ib w.heap.size tb tc sb n da 0 T f w2 (hI.congr hfg) HT.out hfl hn hb2 htb hsb hib)
  have HF := Lib.hid (And.intro (hg.congr hfg) (And.intro hfl hk2))
  clear hI hg hf hfg hfl hb2 b0 b1 b2 hib htb hsb hkW hbW hk2
  go_wp2_with fail
  refine HWR.out.mono ?_
  rintro e w3 ⟨rfl, hk3, L, hL, hH⟩
  have hlen := hL.len HF.out.2.1
  rw [textOf_len] at hlen
  have HBY := Lib.hid (fun m => bbytes_any _ w.heap.size L (w3.drewN m) (hH.kept ((Kept.refl (fun _ _ => False) w3).drewN m) (fun _ h => h) (fun _ _ _ h => h)) (by omega))
  have HE := Lib.hid (And.intro hk3 hL)
  have HLN := Lib.hid hlen
  clear hk3 hL hH hlen
  go_wp2_with fail
  go_region_with (first
    | (go_at_call 18; refine (HBY.out 1).mono ?_; rintro e w4 ⟨gg, cap, rfl, hcell, m4, rfl⟩; have HCP := Lib.hid (copied_cap (some ⟨gg, 0, none⟩) L.length cap (fun j => (L.getD j 0).toNat) (w3.drewN (1 + m4)) (fun _ => ⟨gg, 0, rfl, hcell⟩) (by have := HLN.out; omega)); clear hcell)
    | (go_at_call 16; refine HCP.out.mono ?_; rintro e w5 ⟨a5, c5, rfl, hc5, hcap5, _, hk5⟩; have HC5 := Lib.hid (And.intro hc5 (And.intro hcap5 hk5)); clear hc5 hcap5 hk5))
  all_goals go_wp2_with fail
  all_goals go_ret2
  all_goals exact ⟨a5, c5, L, f, rfl, HF.out.1, HF.out.2.1, HE.out.2, HC5.out.1, HC5.out.2.1, ((((HF.out.2.2).mono (S := fun x _ => x = w.heap.size) fun _ _ _ h => h.elim).trans HE.out.1).drewN _).trans (HC5.out.2.2.mono fun _ _ _ h => h.elim) |> fun k => Kept.old ((HB.out.1.mono fun _ _ _ h => h.elim).trans (k.mono fun x _ _ h => .inr (by omega)))⟩

end Go.Proofs.YtfpihnfhmefeaaaGreatDoor
namespace Go.Proofs.YtfpihnfhmefeaaaGreatDoor
open Go.RowKit

set_option maxHeartbeats 4000000 in
set_option maxRecDepth 100000 in
/-- All places of a piece, in an index of no byte. -/
theorem all_nil (ib qb qo m qc : Nat) (w : World) (hi : ∀ j, j < 3 → w.cell? ⟨ib, j, none⟩ = some (.slice none 0 0)) :
    Calls Tryz.prog 37 #[.pointer (some ⟨ib, 0, none⟩), .slice (some ⟨qb, qo, none⟩) m qc] w fun e w' =>
      e = .returned (.agg #[.slice none 0 0, .slice none 0 0]) ∧ Kept (fun _ _ => False) w w' := by
  obtain ⟨W, hW⟩ : ∃ W, W = ((w.alloc (.cells #[.pointer (some ⟨ib, 0, none⟩)] 46)).alloc (.cells #[.slice (some ⟨qb, qo, none⟩) m qc] 22)).alloc (.cells #[.slice none 0 0, .slice none 0 0] 54) := ⟨_, rfl⟩
  have hsz : W.heap.size = w.heap.size + 3 := by rw [hW]; simp
  have hkW : Kept (fun _ _ => False) w W := by rw [hW]; exact ((Kept.alloc _ _).trans (Kept.alloc _ _)).trans (Kept.alloc _ _)
  have hx : W.cell? ⟨w.heap.size, 0, none⟩ = some (.pointer (some ⟨ib, 0, none⟩)) := by
    rw [hW, World.cell?_alloc_past _ _ _ (by simp; omega), World.cell?_alloc_past _ _ _ (by simp), World.cell?_alloc_at _ _ _ _ rfl]; rfl
  have hi1 : W.cell? ⟨ib, 1, none⟩ = some (.slice none 0 0) := by rw [hkW.cell _ _ (cell_lt (hi 1 (by omega))) (fun h => h)]; exact hi 1 (by omega)
  have hi2 : W.cell? ⟨ib, 2, none⟩ = some (.slice none 0 0) := by rw [hkW.cell _ _ (cell_lt (hi 1 (by omega))) (fun h => h)]; exact hi 2 (by omega)
  have eg1 : ∀ args w, (callFunc 50 args).run Tryz.prog w = .ok (.enter 50 args) w := enters_of Tryz.func50 (by kernel_rfl) rfl
  have eg2 : ∀ args w, (callFunc 53 args).run Tryz.prog w = .ok (.enter 53 args) w := enters_of Tryz.func53 (by kernel_rfl) rfl
  have hmf : ∀ (fn : Fn) (first cap : Array Value) (w : World), (Instr.makeFunc fn first cap).run Tryz.prog w = .ok (.func fn first cap) w := fun _ _ _ _ => rfl
  have HL1 := Lib.hid (len_of ib 1 0 0 none W hi1 hi2 (by omega))
  have HS1 := Lib.hid (fun k cb => search_any 50 cb 0 (fun _ => false) (W.drewN k) eg1 (by omega) (fun _ i hi => absurd hi (Nat.not_lt_zero _)) (fun _ _ _ h => absurd h (Nat.not_lt_zero _)))
  have hr0 : W.cell? ⟨w.heap.size + 1 + 1, 0, none⟩ = some (.slice none 0 0) := by
    rw [hW, World.cell?_alloc_at _ _ _ _ (by simp)]; rfl
  have hr1 : W.cell? ⟨w.heap.size + 1 + 1, 1, none⟩ = some (.slice none 0 0) := by
    rw [hW, World.cell?_alloc_at _ _ _ _ (by simp)]; rfl
  have hrf : ∀ y, W.frozen? ⟨w.heap.size + 1 + 1, y, none⟩ = false := fun y => by
    rw [hW, World.frozen?_alloc_at _ _ _ _ (by simp)]
  obtain ⟨V, hV⟩ : ∃ V : Nat → World, V = fun k => (W.drewN k).alloc (.cells #[.int .i64 0] 3) := ⟨_, rfl⟩
  have hkV : ∀ k, Kept (fun _ _ => False) W (V k) := fun k => by
    rw [hV]
    exact ((Kept.refl _ W).drewN k).trans (Kept.alloc _ _)
  have hkk : ∀ k {x y : Nat} {v : Value}, W.cell? ⟨x, y, none⟩ = some v → (V k).cell? ⟨x, y, none⟩ = some v := fun k {x y v} hv => by rw [(hkV k).cell x y (cell_lt hv) (fun hf => hf)]; exact hv
  have heV : ∀ k, (V k).cell? ⟨w.heap.size + 3, 0, none⟩ = some (.int .i64 0) := fun k => by
    rw [hV]
    exact World.cell?_alloc_at (w := W.drewN k) #[.int .i64 0] 3 (w.heap.size + 3) 0 hsz.symm
  have HL2 := Lib.hid (fun k k' => len_of ib 1 0 0 none ((V k).drewN k') (hkk k hi1) (hkk k hi2) (by omega))
  have HS2 := Lib.hid (fun k k' cb => search_any 53 cb 0 (fun _ => false) ((V k).drewN k') eg2 (by omega) (fun _ i hi => absurd hi (Nat.not_lt_zero _)) (fun _ _ _ h => absurd h (Nat.not_lt_zero _)))
  have HSL := Lib.hid (fun k k' => slice_nil ib ((V k).drewN k') (hkk k hi1) (hkk k hi2))
  have HX := Lib.hid (fun k => hkk k hx)
  have HE := Lib.hid heV
  have HKV := Lib.hid hkV
  have HW := Lib.hid hW
  have HV := Lib.hid hV
  have HR := Lib.hid (fun k => And.intro (hkk k hr0) (And.intro (hkk k hr1) (fun y => ((hkV k).frozen (w.heap.size + 1 + 1) y (cell_lt hr0)).trans (hrf y))))
  clear hi hi1 hi2 hkk heV hkV hW hV hr0 hr1 hrf
  simp only [List.range_zero, List.countP_nil] at HS1 HS2
  go_enter Tryz.func37, Tryz.ntmps37
  go_wp2_with fail
  rw [← HW.out]
  refine HL1.out.mono ?_
  rintro e w1 ⟨rfl, k1, rfl⟩
  go_wp2_with fail
  refine (HS1.out k1 _).mono ?_
  rintro e w2 ⟨rfl, k2, rfl⟩
  go_wp2_with fail
  rw [← congrFun HV.out (k1 + k2)]
  have hx2 := HX.out (k1 + k2)
  have he2 := HE.out (k1 + k2)
  have HL3 := Lib.hid (HL2.out (k1 + k2))
  have HS3 := Lib.hid (HS2.out (k1 + k2))
  have HSL3 := Lib.hid (HSL.out (k1 + k2))
  have HR3 := Lib.hid (HR.out (k1 + k2))
  have HK3 := Lib.hid (HKV.out (k1 + k2))
  generalize V (k1 + k2) = U at *
  clear HL2 HS2 HSL HR HKV HV HX HE HW
  go_quiet (first
    | (with_reducible refine Calls.quiet_of (HL3.out _))
    | (with_reducible refine Calls.quiet_of (HS3.out _ _)))
  have hx3 : (U.drewN nq).cell? ⟨w.heap.size, 0, none⟩ = some (.pointer (some ⟨ib, 0, none⟩)) := hx2
  have he3 : (U.drewN nq).cell? ⟨w.heap.size + 3, 0, none⟩ = some (.int .i64 0) := he2
  have HQ := Lib.hid (fun (q : Nat) (w' : World) (hk : Kept (fun _ _ => False) (U.drewN q) w') => And.intro ((hk.cell _ _ (cell_lt HR3.out.1) (fun hf => hf)).trans HR3.out.1) (And.intro ((hk.cell _ _ (cell_lt HR3.out.2.1) (fun hf => hf)).trans HR3.out.2.1) (fun y => (hk.frozen (w.heap.size + 1 + 1) y (cell_lt HR3.out.1)).trans (HR3.out.2.2 y))))
  go_wp2_with fail
  go_region_with (go_at_call 33; refine (HSL3.out _).mono ?_; rintro e w' ⟨rfl, hk⟩; obtain ⟨r0, r1, r2⟩ := HQ.out _ w' hk; have r3 := r2 0; have r4 := r2 1; clear r2)
  all_goals go_wp2_with fail
  all_goals
    have c0 : ((w'.setCell ⟨w.heap.size + 1 + 1, 0, none⟩ (.slice none 0 0)).setCell ⟨w.heap.size + 1 + 1, 1, none⟩ (.slice none 0 0)).cell? ⟨w.heap.size + 1 + 1, 0, none⟩ = some (.slice none 0 0) := by
      rw [setCell_cell _ _ (by simp)]; exact setCell_cell_same r0
    have c1 : ((w'.setCell ⟨w.heap.size + 1 + 1, 0, none⟩ (.slice none 0 0)).setCell ⟨w.heap.size + 1 + 1, 1, none⟩ (.slice none 0 0)).cell? ⟨w.heap.size + 1 + 1, 1, none⟩ = some (.slice none 0 0) := by
      refine setCell_cell_same (u := .slice none 0 0) ?_
      rw [setCell_cell _ _ (by simp)]; exact r1
    have hkf := (((hkW.trans HK3.out).drewN _).trans hk).fresh (R := reg (w.heap.size + 1 + 1) 0 2) ((Kept.setCell (b := w.heap.size + 1 + 1) (p := 0) (v := .slice none 0 0) ⟨rfl, by omega, by omega⟩).trans (Kept.setCell (b := w.heap.size + 1 + 1) (p := 1) (v := .slice none 0 0) ⟨rfl, by omega, by omega⟩)) fun x y hr => by have := hr.1; omega
    refine bodyPost_ret (v := .agg #[.slice none 0 0, .slice none 0 0]) (by simp [results, Tryz.results37, go_sem, c0, c1]) rfl ⟨rfl, hkf⟩

theorem plcs_zero (T : Nat → Nat) (s : List UInt8) : plcs T 0 s = [] := by
  unfold plcs
  split <;> simp
theorem found_zero (T : Nat → Nat) (s : List UInt8) (k : Int) (f : Nat → Nat) : Found T 0 s k 0 f :=
  ⟨fun _ h => absurd h (Nat.not_lt_zero _), fun _ _ h => absurd h (Nat.not_lt_zero _), fun _ x h => by simp [plcs_zero] at h, by simp [plcs_zero]⟩

set_option maxHeartbeats 4000000 in
set_option maxRecDepth 100000 in
/-- A piece of some bytes, in an index of no byte. -/
theorem look_nil (ib qb qo m qc : Nat) (k : Int) (T : Nat → Nat) (s : List UInt8) (w : World) (hi : ∀ j, j < 3 → w.cell? ⟨ib, j, none⟩ = some (.slice none 0 0)) (hm : 0 < m) (hk : k ≠ 0) :
    Calls Tryz.prog 24 #[.pointer (some ⟨ib, 0, none⟩), .slice (some ⟨qb, qo, none⟩) m qc, .int .i64 k] w (LookPost T 0 s k w) := by
  have HA := Lib.hid (all_nil ib qb qo m qc w hi)
  have HF := Lib.hid (found_zero T s k (fun _ => 0))
  have q1 : (0 : Int) < (m : Int) := by omega
  clear hi
  by_cases hk0 : k < 0
  · skip
    go_enter Tryz.func24, Tryz.ntmps24
    go_wp2_with fail
    refine HA.out.mono ?_
    rintro e w1 ⟨rfl, hk1⟩
    have hm0 : (w1.alloc (.cells #[.slice none 0 0, .slice none 0 0] 54)).cell? ⟨w1.heap.size, 0, none⟩ = some (.slice none 0 0) := by rw [World.cell?_alloc_at _ _ _ _ rfl]; rfl
    have hm1 : (w1.alloc (.cells #[.slice none 0 0, .slice none 0 0] 54)).cell? ⟨w1.heap.size, 1, none⟩ = some (.slice none 0 0) := by rw [World.cell?_alloc_at _ _ _ _ rfl]; rfl
    have HK := Lib.hid (hk1.trans (Kept.alloc w1 (.cells #[.slice none 0 0, .slice none 0 0] 54)))
    clear hk1
    go_wp2_with fail
    refine (len_of w1.heap.size 0 0 0 none _ hm0 hm1 (by omega)).mono ?_
    rintro e w2 ⟨rfl, q, rfl⟩
    clear hm0 hm1
    go_wp2_with fail
    go_ret
    exact ⟨_, 0, _, rfl, HF.out, fun _ => rfl, fun h => absurd h (Nat.not_lt_zero _), HK.out.drewN _⟩
  · have hkp : (0 : Int) < k := by omega
    go_enter Tryz.func24, Tryz.ntmps24
    go_wp2_with fail
    refine HA.out.mono ?_
    rintro e w1 ⟨rfl, hk1⟩
    have hm0 : (w1.alloc (.cells #[.slice none 0 0, .slice none 0 0] 54)).cell? ⟨w1.heap.size, 0, none⟩ = some (.slice none 0 0) := by rw [World.cell?_alloc_at _ _ _ _ rfl]; rfl
    have hm1 : (w1.alloc (.cells #[.slice none 0 0, .slice none 0 0] 54)).cell? ⟨w1.heap.size, 1, none⟩ = some (.slice none 0 0) := by rw [World.cell?_alloc_at _ _ _ _ rfl]; rfl
    have HK := Lib.hid (hk1.trans (Kept.alloc w1 (.cells #[.slice none 0 0, .slice none 0 0] 54)))
    clear hk1
    go_wp2_with fail
    refine (len_of w1.heap.size 0 0 0 none _ hm0 hm1 (by omega)).mono ?_
    rintro e w2 ⟨rfl, q, rfl⟩
    clear hm0 hm1
    go_wp2_with fail
    go_ret
    exact ⟨_, 0, _, rfl, HF.out, fun _ => rfl, fun h => absurd h (Nat.not_lt_zero _), HK.out.drewN _⟩

/-- The looking up in an index that was read, of whatever piece. -/
theorem look_lx (ib n m qc : Nat) (qa : Option Addr) (k : Int) (T g S : Nat → Nat) (w : World) (h : Lx w ib n T g) (hsa : IsSA T n g) (hT : ∀ i, i < n → T i < 256) (hq : Came w qa m S) (hn : n ≤ 1073741824) :
    Calls Tryz.prog 24 #[.pointer (some ⟨ib, 0, none⟩), .slice qa m qc, .int .i64 k] w (LookPost T n (sg S m 0) k w) := by
  rcases h with ⟨_, tb, ab, h⟩ | ⟨rfl, h⟩
  · exact look_any ib tb n ab n m qc _ qa k T g S w h hsa hT hq hn
  · by_cases hm : m = 0
    · subst hm
      rw [show sg S 0 0 = [] from sg_n S 0]
      exact look_none ib qc qa k T 0 w
    · obtain ⟨qb, qo, rfl, hc⟩ := hq (by omega)
      by_cases hk : k = 0
      · subst hk; exact look_zero ib m qc _ _ T 0 w (by omega)
      · exact look_nil ib qb qo m qc k T _ w h (by omega) hk

end Go.Proofs.YtfpihnfhmefeaaaGreatDoor
namespace Go.Proofs.YtfpihnfhmefeaaaGreatDoor
open Go.RowKit

set_option maxHeartbeats 1000000 in
set_option maxRecDepth 100000 in
/-- The index's slice of bytes. -/
theorem data_any (ib : Nat) (v : Value) (w : World) (h : w.cell? ⟨ib, 0, none⟩ = some v) :
    Calls Tryz.prog 22 #[.pointer (some ⟨ib, 0, none⟩)] w fun e w' => e = .returned v ∧ w' = w := by
  go_enter Tryz.func22, Tryz.ntmps22
  go_wp2_with fail
  go_ret
  exact ⟨rfl, rfl⟩

end Go.Proofs.YtfpihnfhmefeaaaGreatDoor
namespace Go.Proofs.YtfpihnfhmefeaaaGreatDoor
open Go.RowKit

set_option maxHeartbeats 1000000 in
set_option maxRecDepth 100000 in
/-- A reader is made. -/
theorem newReader_any (v : Value) (a : Option Addr) (n c : Nat) (w : World) (hv : v = .slice a n c) :
    Calls Tryz.prog 21 #[v] w fun e w' => e = .returned (.pointer (some ⟨w.heap.size, 0, none⟩)) ∧ w' = w.alloc (.cells #[v, .int .i64 0, .int .i64 (-1)] 81) := by
  subst hv
  go_enter Tryz.func21, Tryz.ntmps21
  go_wp2_with fail
  go_ret
  exact ⟨rfl, rfl⟩

/-- The deferred function finds nothing to recover. -/
theorem catch_idle (p q r : Addr) (w : World) :
    CallsD Tryz.prog 19 #[.pointer (some p), .pointer (some q), .pointer (some r)] .returning w fun e u' w' => e = .returned (.tuple #[]) ∧ u' = .returning ∧ w' = w := by
  refine callsD_of_wpS Tryz.func19 rfl fun c₀ cs hu => ?_
  apply wpS_seq
  apply wpS_region
  simp [wpOpsS, go_sem, recoverD, hu, Tryz.ntmps19, Exit.thenS]
  refine wpS_cond (t := false) (by simp [Act.eval, Array.replicate]) ?_
  simp only [Bool.false_eq_true, if_false]
  refine wpS_of_wp (wp_skip ?_)
  cases c₀
  simp_all [bodyPostS, results, Tryz.results19]

/-- Three variables are laid. -/
theorem three_cells {w : World} {p : Nat} {u1 u2 u3 : Value} (v1 v2 v3 : Value) (h1 : w.cell? ⟨p, 0, none⟩ = some u1) (h2 : w.cell? ⟨p + 1, 0, none⟩ = some u2) (h3 : w.cell? ⟨p + 1 + 1, 0, none⟩ = some u3) :
    (((w.setCell ⟨p, 0, none⟩ v1).setCell ⟨p + 1, 0, none⟩ v2).setCell ⟨p + 1 + 1, 0, none⟩ v3).cell? ⟨p, 0, none⟩ = some v1 ∧ (((w.setCell ⟨p, 0, none⟩ v1).setCell ⟨p + 1, 0, none⟩ v2).setCell ⟨p + 1 + 1, 0, none⟩ v3).cell? ⟨p + 1, 0, none⟩ = some v2 ∧
      (((w.setCell ⟨p, 0, none⟩ v1).setCell ⟨p + 1, 0, none⟩ v2).setCell ⟨p + 1 + 1, 0, none⟩ v3).cell? ⟨p + 1 + 1, 0, none⟩ = some v3 ∧ Kept (fun x _ => p ≤ x ∧ x < p + 3) w (((w.setCell ⟨p, 0, none⟩ v1).setCell ⟨p + 1, 0, none⟩ v2).setCell ⟨p + 1 + 1, 0, none⟩ v3) := by
  refine ⟨?_, ?_, ?_, ((Kept.setCell (R := fun x _ => p ≤ x ∧ x < p + 3) (by omega)).trans (Kept.setCell (R := fun x _ => p ≤ x ∧ x < p + 3) (by omega))).trans (Kept.setCell (R := fun x _ => p ≤ x ∧ x < p + 3) (by omega))⟩
  · rw [setCell_cell _ _ (by omega), setCell_cell _ _ (by omega)]; exact setCell_cell_same h1
  · rw [setCell_cell _ _ (by omega)]
    refine setCell_cell_same (u := u2) ?_
    rw [setCell_cell _ _ (by omega)]; exact h2
  · refine setCell_cell_same (u := u3) ?_
    rw [setCell_cell _ _ (by omega), setCell_cell _ _ (by omega)]; exact h3

/-- What a loading leaves. -/
def LoadedPost (T : Nat → Nat) (n : Nat) (s : List UInt8) (k : Int) (full : Bool) (w : World) (e : Ending) (w' : World) : Prop :=
  Kept (fun _ _ => False) w w' ∧ ((full = true ∧ ∃ a c v cc f, e = .returned (.tuple #[.slice a n c, v, .bool true]) ∧ Came w' a n T ∧ Found T n s k cc f ∧ (cc = 0 → ∃ a' c', v = .slice a' 0 c') ∧ (0 < cc → ∃ rb cap, v = .slice (some ⟨rb, 0, none⟩) cc cap ∧ Row w' .i64 rb 0 cc (fun x => (f x : Int)))) ∨
    (full = false ∧ e = .returned (.tuple #[.slice none 0 0, .slice none 0 0, .bool false])))

set_option maxHeartbeats 12800000 in
set_option maxRecDepth 100000 in
/-- A saved index is loaded: all of it is there, or it is cut off. -/
theorem loaded_any (full : Bool) (sa : Option Addr) (sc : Nat) (t L l : List UInt8) (f : Nat → Nat) (qa : Option Addr) (m qc : Nat) (S : Nat → Nat) (k : Int) (q1 q2 : Addr) (w : World) (hL : IsSaved t f L) (hl : Cand full L l) (ht : t.length ≤ 1048576) (hf : IsSA (fun j => (t.getD j 0).toNat) t.length f)
    (hs : Came w sa l.length (fun j => (l.getD j 0).toNat)) (hN : l.length ≤ 1073741824) (hq : Came w qa m S) (hm : m ≤ 4294967296) (hQ : Laid q1 q2 w) :
    Calls Tryz.prog 9 #[.slice sa l.length sc, .slice qa m qc, .int .i64 k] w (LoadedPost (fun j => (t.getD j 0).toNat) t.length (sg S m 0) k full w) := by
  have hw4 : 4 < w.heap.size := cell_lt hQ.errs.2
  obtain ⟨W, hW⟩ : ∃ W, W = (((w.alloc (.cells #[.slice none 0 0] 22)).alloc (.cells #[.slice none 0 0] 27)).alloc (.cells #[.bool false] 4)).alloc (.cells #[.slice none 0 0, .slice none 0 0, .slice none 0 0] 56) := ⟨_, rfl⟩
  have hkW : Kept (fun _ _ => False) w W := by rw [hW]; exact (((Kept.alloc _ _).trans (Kept.alloc _ _)).trans (Kept.alloc _ _)).trans (Kept.alloc _ _)
  have hsW : W.heap.size = w.heap.size + 4 := by rw [hW]; simp
  have c6 : W.cell? ⟨w.heap.size, 0, none⟩ = some (.slice none 0 0) := by
    rw [hW, World.cell?_alloc_past _ _ _ (by simp <;> omega), World.cell?_alloc_past _ _ _ (by simp <;> omega), World.cell?_alloc_past _ _ _ (by simp), World.cell?_alloc_at _ _ _ _ rfl]; rfl
  have c7 : W.cell? ⟨w.heap.size + 1, 0, none⟩ = some (.slice none 0 0) := by
    rw [hW, World.cell?_alloc_past _ _ _ (by simp <;> omega), World.cell?_alloc_past _ _ _ (by simp), World.cell?_alloc_at _ _ _ _ (by simp)]; rfl
  have c8 : W.cell? ⟨w.heap.size + 1 + 1, 0, none⟩ = some (.bool false) := by
    rw [hW, World.cell?_alloc_past _ _ _ (by simp), World.cell?_alloc_at _ _ _ _ (by simp)]; rfl
  have hix : ∀ j, j < 3 → W.cell? ⟨w.heap.size + 1 + 1 + 1, j, none⟩ = some (.slice none 0 0) := fun j hj => by
    rw [hW, World.cell?_alloc_at _ _ _ _ (by simp)]
    rcases (show j = 0 ∨ j = 1 ∨ j = 2 by omega) with rfl | rfl | rfl <;> rfl
  have hfz : ∀ y, W.frozen? ⟨w.heap.size, y, none⟩ = false ∧ W.frozen? ⟨w.heap.size + 1, y, none⟩ = false ∧ W.frozen? ⟨w.heap.size + 1 + 1, y, none⟩ = false ∧ W.frozen? ⟨w.heap.size + 1 + 1 + 1, y, none⟩ = false := fun y => by
    refine ⟨?_, ?_, ?_, ?_⟩
    · rw [hW, World.frozen?_alloc_past _ _ _ (by simp <;> omega), World.frozen?_alloc_past _ _ _ (by simp <;> omega), World.frozen?_alloc_past _ _ _ (by simp), World.frozen?_alloc_at _ _ _ _ rfl]
    · rw [hW, World.frozen?_alloc_past _ _ _ (by simp <;> omega), World.frozen?_alloc_past _ _ _ (by simp), World.frozen?_alloc_at _ _ _ _ (by simp)]
    · rw [hW, World.frozen?_alloc_past _ _ _ (by simp), World.frozen?_alloc_at _ _ _ _ (by simp)]
    · rw [hW, World.frozen?_alloc_at _ _ _ _ (by simp)]
  have hmf : ∀ (fn : Fn) (first cap : Array Value) (w : World), (Instr.makeFunc fn first cap).run Tryz.prog w = .ok (.func fn first cap) w := fun _ _ _ _ => rfl
  have HC := Lib.hid (copied_cap sa l.length sc _ W (hs.kept hkW) (by omega))
  have HW := Lib.hid hW
  have HB := Lib.hid (And.intro hkW (And.intro c6 (And.intro c7 (And.intro c8 (And.intro hix hfz)))))
  have HQ := Lib.hid (And.intro hq (And.intro hQ (And.intro hL (And.intro hl hf))))
  clear hs hq hQ hL hl hf hW hkW c6 c7 c8 hix hfz
  go_enter_defers Tryz.func9, Tryz.ntmps9
  go_wp2_with fail
  rw [← HW.out]
  refine HC.out.mono ?_
  rintro e w1 ⟨a1, c1, rfl, hc1, hcap1, ha1, hk1⟩
  have hs1 := hk1.size
  have HC1 := Lib.hid (And.intro hc1 (And.intro hcap1 (And.intro ha1 hk1)))
  have HNR := Lib.hid (newReader_any (.slice a1 l.length c1) a1 l.length c1 w1 rfl)
  clear hc1 hcap1 ha1 hk1
  go_wp2_with fail
  refine HNR.out.mono ?_
  rintro e w2 ⟨rfl, rfl⟩
  obtain ⟨W2, hW2⟩ : ∃ W2, W2 = w1.alloc (.cells #[.slice a1 l.length c1, .int .i64 0, .int .i64 (-1)] 81) := ⟨_, rfl⟩
  have hkW2 : Kept (fun _ _ => False) w1 W2 := by rw [hW2]; exact Kept.alloc _ _
  have hsW2 : W2.heap.size = w1.heap.size + 1 := by rw [hW2]; simp
  have hcell2 : ∀ i (v : Value), (#[Value.slice a1 l.length c1, .int .i64 0, .int .i64 (-1)])[i]? = some v → W2.cell? ⟨w1.heap.size, i, none⟩ = some v := fun i v hv => by
    rw [hW2, World.cell?_alloc_at _ _ _ _ rfl]; exact hv
  have hfz2 : ∀ y, W2.frozen? ⟨w1.heap.size, y, none⟩ = false := fun y => by rw [hW2, World.frozen?_alloc_at _ _ _ _ rfl]
  have hRD : ∃ sb, Rd W2 w1.heap.size sb l.length 0 l ∧ 5 ≤ sb ∧ w.heap.size + 1 + 1 + 1 ≠ sb ∧ w1.heap.size ≠ sb ∧ sb < W2.heap.size := by
    obtain ⟨hc1, hcap1, ha1, hk1⟩ := HC1.out
    by_cases h0 : l.length = 0
    · refine ⟨w.heap.size, ⟨⟨a1, c1, hcell2 0 _ rfl, hcap1, fun h => by omega⟩, hcell2 1 _ rfl, ⟨_, hcell2 2 _ rfl⟩, hfz2, fun j hj => by omega, by omega⟩, by omega, by omega, by omega, by omega⟩
    · have ha := ha1 (by omega)
      obtain ⟨b, o, hbo, hcc⟩ := hc1 (by omega)
      rw [ha] at hbo
      have hb : W.heap.size = b ∧ 0 = o := by
        have := Option.some.inj hbo
        exact ⟨congrArg Addr.block this, congrArg Addr.off this⟩
      obtain ⟨rfl, rfl⟩ := hb
      have hlt := cell_lt (hcc 0 (by omega))
      refine ⟨W.heap.size, ⟨⟨a1, c1, hcell2 0 _ rfl, hcap1, fun _ => ha⟩, hcell2 1 _ rfl, ⟨_, hcell2 2 _ rfl⟩, hfz2, fun j hj => ?_, by omega⟩, by omega, by omega, by omega, by omega⟩
      rw [hkW2.cell _ _ (cell_lt (hcc j hj)) (fun h => h), hcc j hj]
      simp [List.getD, hj]
  obtain ⟨sb, hrd, h5, hns1, hns2, hslt⟩ := hRD
  obtain ⟨hq, hQ, hL, hl, hf⟩ := HQ.out
  obtain ⟨hkW, c6, c7, c8, hix, hfz⟩ := HB.out
  obtain ⟨hc1, hcap1, ha1, hk1⟩ := HC1.out
  have hk02 : Kept (fun _ _ => False) w W2 := (hkW.trans hk1).trans hkW2
  have hkW02 : Kept (fun _ _ => False) W W2 := hk1.trans hkW2
  have HRD := Lib.hid (read_any full (w.heap.size + 1 + 1 + 1) w1.heap.size sb l.length t L l f q1 q2 W2 hL hl (by omega) (fun j hj => hf.mem j hj) hrd hN (fun j hj => by rw [hkW02.cell _ _ (by omega) (fun h => h)]; exact hix j hj) (fun j => by rw [hkW02.frozen _ _ (by omega)]; exact (hfz j).2.2.2) (hQ.kept hk02 (fun _ _ _ h => h)) (by omega) (by omega) h5 (by omega) hns1 hns2 hslt)
  have d6 : W2.cell? ⟨w.heap.size, 0, none⟩ = some (.slice none 0 0) := by rw [hkW02.cell _ _ (by omega) (fun h => h)]; exact c6
  have d7 : W2.cell? ⟨w.heap.size + 1, 0, none⟩ = some (.slice none 0 0) := by rw [hkW02.cell _ _ (by omega) (fun h => h)]; exact c7
  have d8 : W2.cell? ⟨w.heap.size + 1 + 1, 0, none⟩ = some (.bool false) := by rw [hkW02.cell _ _ (by omega) (fun h => h)]; exact c8
  have dfz : ∀ y, W2.frozen? ⟨w.heap.size, y, none⟩ = false ∧ W2.frozen? ⟨w.heap.size + 1, y, none⟩ = false ∧ W2.frozen? ⟨w.heap.size + 1 + 1, y, none⟩ = false := fun y => by
    rw [hkW02.frozen _ _ (by omega), hkW02.frozen _ _ (by omega), hkW02.frozen _ _ (by omega)]
    exact ⟨(hfz y).1, (hfz y).2.1, (hfz y).2.2.1⟩
  have HW2 := Lib.hid hW2
  have HD := Lib.hid (And.intro hk02 (And.intro d6 (And.intro d7 (And.intro d8 dfz))))
  clear hq hQ hL hl hf hkW c6 c7 c8 hix hfz hc1 hcap1 ha1 hk1 hk02 hkW02 d6 d7 d8 dfz hrd hW2 hkW2 hcell2 hfz2
  go_wp2_with fail
  rw [← HW2.out]
  refine HRD.out.mono ?_
  rintro e w3 ⟨hk3, hres⟩
  have hs3 := hk3.size
  obtain ⟨hk02, d6, d7, d8, dfz⟩ := HD.out
  have e6 : w3.cell? ⟨w.heap.size, 0, none⟩ = some (.slice none 0 0) := by rw [hk3.cell _ _ (by omega) (by rintro (e | e) <;> omega)]; exact d6
  have e7 : w3.cell? ⟨w.heap.size + 1, 0, none⟩ = some (.slice none 0 0) := by rw [hk3.cell _ _ (by omega) (by rintro (e | e) <;> omega)]; exact d7
  have e8 : w3.cell? ⟨w.heap.size + 1 + 1, 0, none⟩ = some (.bool false) := by rw [hk3.cell _ _ (by omega) (by rintro (e | e) <;> omega)]; exact d8
  have f6 : w3.frozen? ⟨w.heap.size, 0, none⟩ = false := by rw [hk3.frozen _ _ (by omega)]; exact (dfz 0).1
  have f7 : w3.frozen? ⟨w.heap.size + 1, 0, none⟩ = false := by rw [hk3.frozen _ _ (by omega)]; exact (dfz 0).2.1
  have f8 : w3.frozen? ⟨w.heap.size + 1 + 1, 0, none⟩ = false := by rw [hk3.frozen _ _ (by omega)]; exact (dfz 0).2.2
  have hk03 : Kept (fun _ _ => False) w w3 := Kept.old ((hk02.mono fun _ _ _ h => h.elim).trans (hk3.mono fun x _ _ hr => by rcases hr with hr | hr <;> exact .inr (by omega)))
  have HK3 := Lib.hid hk03
  clear hk3 hk02 d6 d7 d8 dfz hk03
  rcases hres with ⟨hfull, rfl, hlx⟩ | ⟨hfull, q, rfl⟩
  · have hdata : ∃ da tcc, w3.cell? ⟨w.heap.size + 1 + 1 + 1, 0, none⟩ = some (.slice da t.length tcc) ∧ Came w3 da t.length (fun j => (t.getD j 0).toNat) := by
      rcases hlx with ⟨h0, tb, ab, hI⟩ | ⟨h0, hc⟩
      · exact ⟨_, _, hI.data, fun _ => ⟨tb, 0, rfl, hI.text⟩⟩
      · exact ⟨none, 0, by rw [h0]; exact hc 0 (by omega), fun h => by omega⟩
    obtain ⟨da, tcc, hda, hcame⟩ := hdata
    have HDA := Lib.hid (data_any _ _ w3 hda)
    have HCP := Lib.hid (copied_cap da t.length tcc _ w3 hcame (by omega))
    have HLX := Lib.hid hlx
    have HFU := Lib.hid hfull
    have HE3 := Lib.hid (And.intro e6 (And.intro e7 (And.intro e8 (And.intro f6 (And.intro f7 f8)))))
    clear hlx hda hcame hfull e6 e7 e8 f6 f7 f8
    go_wp2_with fail
    refine HDA.out.mono ?_
    rintro e w4 ⟨rfl, rfl⟩
    go_wp2_with fail
    refine HCP.out.mono ?_
    rintro e w5 ⟨a5, c5, rfl, hc5, hcap5, ha5, hk5⟩
    have hs5 := hk5.size
    have HC5 := Lib.hid (And.intro hc5 hk5)
    have HA5 := Lib.hid ha5
    clear ha5 hcap5
    have HCQ := Lib.hid (copied_any qa m qc S w5 (HQ.out.1.kept (HK3.out.trans hk5)) hm)
    clear hc5 hk5
    go_wp2_with fail
    refine HCQ.out.mono ?_
    rintro e w6 ⟨a6, c6, rfl, hc6, hk6⟩
    have hs6 := hk6.size
    have HLK := Lib.hid (look_lx (w.heap.size + 1 + 1 + 1) t.length m c6 a6 k _ f S w6 ((HLX.out.kept HC5.out.2).kept hk6) HQ.out.2.2.2.2 (fun i _ => UInt8.toNat_lt _) hc6 (by omega))
    have HC6 := Lib.hid hk6
    clear hc6 hk6
    go_wp2_with fail
    refine HLK.out.mono ?_
    rintro e w7 ⟨v, cc, ff, rfl, hF, hz, hs, hk7⟩
    have hs7 := hk7.size
    have HF := Lib.hid hF
    have hle := hF.le
    have HC7 := Lib.hid hk7
    clear hF hk7
    have hup : ∀ (w9 : World), Kept (fun _ _ => False) w7 w9 → Kept (fun _ _ => False) w4 w9 := fun _ h => ((HC5.out.2.trans HC6.out).trans HC7.out).trans h
    have HUP := Lib.hid hup
    clear hup
    by_cases h0 : cc = 0
    · obtain rfl := hz h0
      subst h0
      clear hz hs
      go_wp2_with fail
      refine (numbers_i_zero _ 0 w7).mono ?_
      rintro e w8 ⟨rfl, rfl⟩
      obtain ⟨e6, e7, e8, f6, f7, f8⟩ := HE3.out
      have hkk := HUP.out _ (Kept.refl _ w8)
      have x6 : w8.cell? ⟨w.heap.size, 0, none⟩ = some (.slice none 0 0) := by rw [hkk.cell _ _ (cell_lt e6) (fun h => h)]; exact e6
      have x7 : w8.cell? ⟨w.heap.size + 1, 0, none⟩ = some (.slice none 0 0) := by rw [hkk.cell _ _ (cell_lt e7) (fun h => h)]; exact e7
      have x8 : w8.cell? ⟨w.heap.size + 1 + 1, 0, none⟩ = some (.bool false) := by rw [hkk.cell _ _ (cell_lt e8) (fun h => h)]; exact e8
      have y6 : w8.frozen? ⟨w.heap.size, 0, none⟩ = false := by rw [hkk.frozen _ _ (cell_lt e6)]; exact f6
      have y7 : w8.frozen? ⟨w.heap.size + 1, 0, none⟩ = false := by rw [hkk.frozen _ _ (cell_lt e7)]; exact f7
      have y8 : w8.frozen? ⟨w.heap.size + 1 + 1, 0, none⟩ = false := by rw [hkk.frozen _ _ (cell_lt e8)]; exact f8
      have hs8 := hkk.size
      have HKK := Lib.hid hkk
      clear e6 e7 e8 f6 f7 f8 hkk
      go_wp2_with fail
      obtain ⟨g6, g7, g8, hkv⟩ := three_cells (.slice a5 t.length c5) (.slice none 0 0) (.bool true) x6 x7 x8
      clear x6 x7 x8 y6 y7 y8
      refine leaves_cons (f := 19) (args := #[.pointer (some ⟨w.heap.size, 0, none⟩), .pointer (some ⟨w.heap.size + 1, 0, none⟩), .pointer (some ⟨w.heap.size + 1 + 1, 0, none⟩)]) (by simp) (by simp [go_sem]) ?_
      refine (catch_idle _ _ _ _).mono ?_
      rintro e u' w'' ⟨rfl, rfl, rfl⟩
      refine ⟨.tuple #[.slice a5 t.length c5, .slice none 0 0, .bool true], by simp [results, Tryz.results9, go_sem, g6, g7, g8], ?_⟩
      refine ⟨Kept.old (((HK3.out.trans HKK.out).mono fun _ _ _ h => h.elim).trans (hkv.mono fun x _ _ h => .inr (by omega))), .inl ⟨HFU.out, a5, c5, _, 0, _, rfl, fun h => ?_, HF.out, fun _ => ⟨_, _, rfl⟩, fun h => absurd h (Nat.not_lt_zero _)⟩⟩
      obtain ⟨b, o, hbo, hcc⟩ := ((HC5.out.1.kept HC6.out).kept HC7.out) h
      have hb : w4.heap.size = b := congrArg Addr.block (Option.some.inj ((HA5.out h).symm.trans hbo))
      exact ⟨b, o, hbo, fun j hj => by rw [hkv.cell _ _ (cell_lt (hcc j hj)) (fun hr => by omega)]; exact hcc j hj⟩
    · obtain ⟨rb, rfl, hR⟩ := hs (by omega)
      clear hz hs
      go_wp2_with fail
      refine (numbers_i w7.heap.size rb 0 cc cc ff w7 hR (fun x hx => by have := HF.out.lt hx; omega) (by omega) (Nat.le_refl _)).mono ?_
      rintro e w8 ⟨v, rfl, hown, hk8⟩
      obtain ⟨g8, cap8, rfl, hg8, _, hR8⟩ := own_row hown (by omega)
      obtain ⟨e6, e7, e8, f6, f7, f8⟩ := HE3.out
      have hkk := HUP.out _ hk8
      have x6 : w8.cell? ⟨w.heap.size, 0, none⟩ = some (.slice none 0 0) := by rw [hkk.cell _ _ (cell_lt e6) (fun h => h)]; exact e6
      have x7 : w8.cell? ⟨w.heap.size + 1, 0, none⟩ = some (.slice none 0 0) := by rw [hkk.cell _ _ (cell_lt e7) (fun h => h)]; exact e7
      have x8 : w8.cell? ⟨w.heap.size + 1 + 1, 0, none⟩ = some (.bool false) := by rw [hkk.cell _ _ (cell_lt e8) (fun h => h)]; exact e8
      have y6 : w8.frozen? ⟨w.heap.size, 0, none⟩ = false := by rw [hkk.frozen _ _ (cell_lt e6)]; exact f6
      have y7 : w8.frozen? ⟨w.heap.size + 1, 0, none⟩ = false := by rw [hkk.frozen _ _ (cell_lt e7)]; exact f7
      have y8 : w8.frozen? ⟨w.heap.size + 1 + 1, 0, none⟩ = false := by rw [hkk.frozen _ _ (cell_lt e8)]; exact f8
      have hs8 := hkk.size
      have HKK := Lib.hid (And.intro hkk (And.intro hk8 hR8))
      clear e6 e7 e8 f6 f7 f8 hkk hown hk8 hR hR8
      go_wp2_with fail
      obtain ⟨g6, g7, gg8, hkv⟩ := three_cells (.slice a5 t.length c5) (.slice (some ⟨g8, 0, none⟩) cc cap8) (.bool true) x6 x7 x8
      clear x6 x7 x8 y6 y7 y8
      refine leaves_cons (f := 19) (args := #[.pointer (some ⟨w.heap.size, 0, none⟩), .pointer (some ⟨w.heap.size + 1, 0, none⟩), .pointer (some ⟨w.heap.size + 1 + 1, 0, none⟩)]) (by simp) (by simp [go_sem]) ?_
      refine (catch_idle _ _ _ _).mono ?_
      rintro e u' w'' ⟨rfl, rfl, rfl⟩
      refine ⟨.tuple #[.slice a5 t.length c5, .slice (some ⟨g8, 0, none⟩) cc cap8, .bool true], by simp [results, Tryz.results9, go_sem, g6, g7, gg8], ?_⟩
      refine ⟨Kept.old (((HK3.out.trans HKK.out.1).mono fun _ _ _ h => h.elim).trans (hkv.mono fun x _ _ h => .inr (by omega))), .inl ⟨HFU.out, a5, c5, _, cc, ff, rfl, fun h => ?_, HF.out, fun h => absurd h h0, fun _ => ⟨g8, cap8, rfl, HKK.out.2.2.kept hkv (fun j _ hr => by omega)⟩⟩⟩
      obtain ⟨b, o, hbo, hcc⟩ := (((HC5.out.1.kept HC6.out).kept HC7.out).kept HKK.out.2.1) h
      have hb : w4.heap.size = b := congrArg Addr.block (Option.some.inj ((HA5.out h).symm.trans hbo))
      exact ⟨b, o, hbo, fun j hj => by rw [hkv.cell _ _ (cell_lt (hcc j hj)) (fun hr => by omega)]; exact hcc j hj⟩
  · have HFU := Lib.hid hfull
    clear hfull
    go_wp2_with fail
    obtain ⟨g6, g7, g8, hkv⟩ := three_cells (.slice none 0 0) (.slice none 0 0) (.bool false) e6 e7 e8
    clear e6 e7 e8 f6 f7 f8
    refine leaves_cons (f := 19) (args := #[.pointer (some ⟨w.heap.size, 0, none⟩), .pointer (some ⟨w.heap.size + 1, 0, none⟩), .pointer (some ⟨w.heap.size + 1 + 1, 0, none⟩)]) (by simp) (by simp [go_sem]) ?_
    refine (catch_idle _ _ _ _).mono ?_
    rintro e u' w'' ⟨rfl, rfl, rfl⟩
    refine ⟨.tuple #[.slice none 0 0, .slice none 0 0, .bool false], by simp [results, Tryz.results9, go_sem, g6, g7, g8], ?_⟩
    exact ⟨Kept.old ((HK3.out.mono fun _ _ _ h => h.elim).trans (hkv.mono fun x _ _ h => .inr (by omega))), .inr ⟨HFU.out, rfl⟩⟩

end Go.Proofs.YtfpihnfhmefeaaaGreatDoor
namespace Go.Proofs.YtfpihnfhmefeaaaGreatDoor
open Go.RowKit Go.ChangeShapes Go.WideShapes Go.ChangeAt

/-- The list of the three rows. -/
def laidList : List (String × DataW Unit) := [("io.ErrShortBuffer", Rows.laid_io_ErrShortBuffer), ("io.EOF", Rows.laid_io_EOF), ("io.ErrUnexpectedEOF", Rows.laid_io_ErrUnexpectedEOF), ("loop.example/pub-g03124/pub/suffixarray.maxData32", Rows.laid_loop_example_pub_g03124_pub_suffixarray_maxData32), ("loop.example/pub-g03124/pub/suffixarray.errCorrupted", Rows.laid_loop_example_pub_g03124_pub_suffixarray_errCorrupted)]

theorem gMost : Tryz.prog.globalNamed "loop.example/pub-g03124/pub/suffixarray.maxData32" = some 0 := by kernel_rfl
theorem gMostType : (Tryz.prog.globals[0]?).map (·.type) = some 3 := by kernel_rfl
theorem gEof : Tryz.prog.globalNamed "io.EOF" = some 3 := by kernel_rfl
theorem gEofType : (Tryz.prog.globals[3]?).map (·.type) = some 45 := by kernel_rfl
theorem gUnx : Tryz.prog.globalNamed "io.ErrUnexpectedEOF" = some 4 := by kernel_rfl
theorem gUnxType : (Tryz.prog.globals[4]?).map (·.type) = some 45 := by kernel_rfl
theorem star : "*" ++ "errors.errorString" = "*errors.errorString" := by decide
theorem errRow (u : TypeId) (h : Tryz.prog.typeName? 3 u = some "*errors.errorString") : u = 157 :=
  typeName_ptr_named (nm := "errors.errorString") (by rw [star]; kernel_rfl) (by kernel_rfl) (by decide) u (by rw [star]; exact h)
theorem cellsErr : Tryz.prog.cellsOf 177 = 1 := by kernel_rfl
theorem cellsStr : Tryz.prog.cellsOf 9 = 1 := by kernel_rfl

set_option maxRecDepth 100000 in
/-- An error of the list. -/
theorem err_of {W : World} {name : String} {g : Nat} {t : TypeId} {cs : Array Value} {fuel : Nat} {text : List UInt8} {p ps : List MemPlace} (hg : Tryz.prog.globalNamed name = some g) (hv : W.var? Tryz.prog name = some cs)
    (hd : DataW.trod (fun _ => ()) Tryz.prog W 0 (fun _ => true) false fuel t cs.toList = some (.iface "*errors.errorString" (.ptr (.agg [.lit (.string text)])), p)) (ht : t = 45)
    (hrows : ∀ b off, MemPlace.cell b off ∈ ps → (∃ c t, W.heap[b]? = some (.cells c t (0, 0))) ∧ ∀ u v, W.cell? ⟨b, off, none⟩ = some (.iface u v) → Value.okWide Tryz.prog W .any 0 u v) (hmem : ∀ x ∈ MemPlace.row ⟨g, 0, none⟩ cs.size, x ∈ ps) :
    ∃ a : Addr, W.cell? ⟨g, 0, none⟩ = some (.iface 157 (.pointer (some a))) := by
  subst ht
  obtain ⟨l0⟩ := cs
  have ok : ∀ u v, l0 = [.iface u v] → Value.okWide Tryz.prog W .any 0 u v := fun u v e => by
    subst e
    exact (hrows g 0 (hmem _ (by simp [MemPlace.row]))).2 u v (by simpa using World.var?_cell hg hv 0)
  obtain ⟨a, s, rfl, _, _, _, _⟩ := errorString_of_trod Tryz.underlying45 errRow Tryz.underlying157 Tryz.underlying177 rfl rfl Tryz.underlying9 cellsErr cellsStr hd ok
  exact ⟨a, by simpa using World.var?_cell hg hv 0⟩

set_option maxRecDepth 100000 in
/-- What the list gives. -/
theorem laid_of {W : World} (h : laidMetH Tryz.prog laidList W) : ∃ q1 q2, Laid q1 q2 W := by
  have h' : laidMet Tryz.prog laidList W := h
  obtain ⟨ps, ⟨g2, t2, cs2, f2, p2, r2, hg2, ht2, hv2, hd2, ⟨g3, t3, cs3, f3, p3, r3, hg3, ht3, hv3, hd3, ⟨g4, t4, cs4, f4, p4, r4, hg4, ht4, hv4, hd4, ⟨g0, t0, cs0, f0, p0, r0, hg0, ht0, hv0, hd0, _, e0⟩, e4⟩, e3⟩, e2⟩, _, hrows⟩ := h'
  subst e4 e3 e2
  obtain rfl := Option.some.inj (gEof.symm.trans hg3)
  obtain rfl := Option.some.inj (gUnx.symm.trans hg4)
  obtain rfl := Option.some.inj (gMost.symm.trans hg0)
  obtain rfl := Option.some.inj (gMostType.symm.trans ht0)
  obtain ⟨a, ha⟩ := err_of hg3 hv3 hd3 (Option.some.inj (gEofType.symm.trans ht3)).symm hrows (fun x hx => by simp only [List.mem_append]; exact .inr (.inl (.inl hx)))
  obtain ⟨b, hb⟩ := err_of hg4 hv4 hd4 (Option.some.inj (gUnxType.symm.trans ht4)).symm hrows (fun x hx => by simp only [List.mem_append]; exact .inr (.inr (.inl (.inl hx))))
  refine ⟨a, b, ⟨ha, hb⟩, ?_⟩
  obtain ⟨k, e1, e2, _⟩ := DataW.trod_int Tryz.underlying3 hd0
  have hk : k = 2147483647 := by
    simp only [Rows.laid_loop_example_pub_g03124_pub_suffixarray_maxData32, Prod.mk.injEq, DataW.lit.injEq, Lit.int.injEq, true_and] at e2
    exact e2.1.symm
  have := World.var?_cell gMost hv0 0
  have hcs : cs0 = #[.int .i64 k] := by cases cs0; simp_all
  rw [hcs] at this
  subst hk
  exact this

abbrev sBuf : ByteArray := { data := #[115, 104, 111, 114, 116, 32, 98, 117, 102, 102, 101, 114] }
abbrev sEof : ByteArray := { data := #[69, 79, 70] }
abbrev sUnx : ByteArray := { data := #[117, 110, 101, 120, 112, 101, 99, 116, 101, 100, 32, 69, 79, 70] }
abbrev sCor : ByteArray := { data := #[115, 117, 102, 102, 105, 120, 97, 114, 114, 97, 121, 58, 32, 100, 97, 116, 97, 32, 99, 111, 114, 114, 117, 112, 116, 101, 100] }
noncomputable def low : Nat := (World.holding Tryz.prog default ⟨#[], #[], []⟩).heap.size
noncomputable def layErr (g a : Nat) (h : Array Obj) : Array Obj := h.modify g fun
  | .cells _ t frozen => .cells #[.iface 157 (.pointer (some ⟨a, 0, none⟩))] t frozen
  | o => o
/-- A world for the witness: the settled one, the variables holding what their initialisers lay. -/
noncomputable def laidWorld (os : Os) : World :=
  let w0 := World.holding Tryz.prog os ⟨#[.cells #[.string sBuf] 177, .cells #[.string sEof] 177, .cells #[.string sUnx] 177, .cells #[.string sCor] 177], #[], []⟩
  { w0 with heap := (layErr 1 (low + 3) (layErr 4 (low + 2) (layErr 3 (low + 1) (layErr 2 low w0.heap)))).modify 0 fun
      | .cells _ t frozen => .cells #[.int .i64 2147483647] t frozen
      | o => o }
theorem laid_met (os : Os) (args : Array Value) : laidMet Tryz.prog laidList ((laidWorld os).forCall (fun _ _ => 0) ⟨#[], args, []⟩).memory :=
  laidMet_of_run' 8 (by kernel_rfl) (by kernel_rfl)
theorem laid_metH (os : Os) (args : Array Value) : laidMetH Tryz.prog laidList ((laidWorld os).forCall (fun _ _ => 0) ⟨#[], args, []⟩).memory := laid_met os args

theorem sufAux_congr {T T' : Nat → Nat} {n : Nat} (h : ∀ j, j < n → T' j = T j) : ∀ d, d ≤ n → sufAux T' n d = sufAux T n d
  | 0, _ => rfl
  | d + 1, hd => by
    rw [sufAux, sufAux, sufAux_congr h d (by omega), h _ (by omega)]
theorem isSA_of_text {T T' : Nat → Nat} {n : Nat} {f : Nat → Nat} (h : IsSA T n f) (e : ∀ j, j < n → T' j = T j) : IsSA T' n f := by
  refine ⟨h.mem, fun r r' h1 h2 => ?_⟩
  have := h.inc r r' h1 h2
  unfold sl suf at this ⊢
  rw [sufAux_congr e _ (by omega), sufAux_congr e _ (by omega)]
  exact this
/-- What is read of a text's bytes. -/
theorem isSA_text {T : Nat → Nat} {n : Nat} {f : Nat → Nat} (h : IsSA T n f) (hT : ∀ i, i < n → T i < 256) : IsSA (fun j => ((textOf T n).getD j 0).toNat) (textOf T n).length f := by
  rw [textOf_len]
  exact isSA_of_text h fun j hj => textOf_get T n j hj (hT j hj)

end Go.Proofs.YtfpihnfhmefeaaaGreatDoor
