/-
  Walks over a reader of bytes: a read, a read of just so many. No condition but those typed.
  Walks over io.ReadFull at a reader of bytes, and over the reading of a number. No condition but those typed.
  Walks over the reading of a stretch of numbers. No condition but those typed.
  A walk over the reading of an index: all of it is there, or it is cut off. No condition but those typed.
  A walk over the writing of an index. No condition but those typed.
  A walk over the reading of an index of a text of no byte; the reading of whatever index. No condition but those typed.
-/
import Derived.Test.YtfpihnfhmefeaaaGreatDoorMA
import Derived.Test.YtfpihnfhmefeaaaGreatDoorLayB
import Derived.Test.YtfpihnfhmefeaaaGreatDoorIdx
import Derived.Test.YtfpihnfhmefeaaaGreatDoorNew
import Derived.LaidEql
import Derived.Laws.IdiomCopy
import Derived.Deep.RegionWith
import Derived.Deep.QuietTactic
import Derived.BigQuiet
namespace Go.Proofs.YtfpihnfhmefeaaaGreatDoor
open Go.RowKit

theorem u8_info : (Tryz.prog.info? 5).map (·.size) = some 1 := by kernel_rfl

/-- A reader of bytes, i of them read; l is left. -/
structure Rd (w : World) (rb sb N i : Nat) (l : List UInt8) : Prop where
  src : ∃ a c, w.cell? ⟨rb, 0, none⟩ = some (.slice a N c) ∧ N ≤ c ∧ (0 < N → a = some ⟨sb, 0, none⟩)
  pos : w.cell? ⟨rb, 1, none⟩ = some (.int .i64 i)
  prev : ∃ v, w.cell? ⟨rb, 2, none⟩ = some v
  free : ∀ j, w.frozen? ⟨rb, j, none⟩ = false
  cells : ∀ j (hj : j < l.length), w.cell? ⟨sb, i + j, none⟩ = some (.int .u8 (l[j].toNat : Int))
  len : N = i + l.length
theorem Rd.kept {w w' : World} {R : Nat → Nat → Prop} {rb sb N i : Nat} {l : List UInt8} (h : Rd w rb sb N i l) (k : Kept R w w') (h1 : ∀ y, ¬ R rb y) (h2 : ∀ y, ¬ R sb y) : Rd w' rb sb N i l := by
  obtain ⟨⟨a, c, s1, s2, s3⟩, hp, ⟨v, hv⟩, hf, hc, hl⟩ := h
  have hk : ∀ {y : Nat} {u : Value}, w.cell? ⟨rb, y, none⟩ = some u → w'.cell? ⟨rb, y, none⟩ = some u := fun {y u} hu => by rw [k.cell rb y (cell_lt hu) (h1 y)]; exact hu
  exact ⟨⟨a, c, hk s1, s2, s3⟩, hk hp, ⟨v, hk hv⟩, fun j => by rw [k.frozen rb j (cell_lt hp)]; exact hf j, fun j hj => by rw [k.cell sb _ (cell_lt (hc j hj)) (h2 _)]; exact hc j hj, hl⟩
theorem Rd.drewN {w : World} {rb sb N i : Nat} {l : List UInt8} (h : Rd w rb sb N i l) (m : Nat) : Rd (w.drewN m) rb sb N i l := h.kept ((Kept.refl (fun _ _ => False) w).drewN m) (fun _ h => h) (fun _ h => h)

/-- The library's two errors at a reader's end. -/
def Errs (q1 q2 : Addr) (w : World) : Prop :=
  w.cell? ⟨3, 0, none⟩ = some (.iface 157 (.pointer (some q1))) ∧ w.cell? ⟨4, 0, none⟩ = some (.iface 157 (.pointer (some q2)))

set_option maxHeartbeats 1000000 in
set_option maxRecDepth 100000 in
/-- A read behind the end. -/
theorem read_end (rb sb N i : Nat) (a : Option Addr) (m c : Nat) (q1 q2 : Addr) (w : World) (h : Rd w rb sb N i []) (hE : Errs q1 q2 w) :
    Calls Tryz.prog 154 #[.pointer (some ⟨rb, 0, none⟩), .slice a m c] w fun e w' => e = .returned (.tuple #[.int .i64 0, .iface 157 (.pointer (some q1))]) ∧ ∃ k, w' = w.drewN k := by
  obtain ⟨⟨a', c', s1, s2, s3⟩, hp, ⟨v, hv⟩, hf, hc, hl⟩ := h
  obtain ⟨e1, _⟩ := hE
  have q1 : (N : Int) ≤ (i : Int) := by simp at hl; omega
  clear hc hl hv s3 hf
  go_enter Tryz.func154, Tryz.ntmps154
  go_wp2_with fail
  go_quiet (fail)
  go_wp2_with fail
  go_region
  all_goals go_wp2_with fail
  all_goals go_ret2
  all_goals exact ⟨rfl, _, rfl⟩

set_option maxHeartbeats 4000000 in
set_option maxRecDepth 100000 in
/-- A read of some bytes. -/
theorem read_some (rb sb N i db o m c NN : Nat) (l : List UInt8) (D : Nat → UInt8) (w : World) (h : Rd w rb sb N i l) (hl0 : 0 < l.length) (hN : N ≤ 1073741824) (hD : Row w .u8 db 0 NN (fun j => ((D j).toNat : Int))) (_hm : 0 < m) (ho : o + m ≤ NN) (hne : db ≠ rb) (hns : db ≠ sb) (hrs : rb ≠ sb) :
    Calls Tryz.prog 154 #[.pointer (some ⟨rb, 0, none⟩), .slice (some ⟨db, o, none⟩) m c] w fun e w' => e = .returned (.tuple #[.int .i64 (min m l.length : Nat), .nilIface]) ∧
      Rd w' rb sb N (i + min m l.length) (l.drop m) ∧ Row w' .u8 db 0 NN (fun j => (((if o ≤ j ∧ j < o + min m l.length then l.getD (j - o) 0 else D j)).toNat : Int)) ∧ Kept (fun x _ => x = rb ∨ x = db) w w' := by
  obtain ⟨⟨a', c', s1, s2, s3⟩, hp, ⟨v, hv⟩, hf, hc, hl⟩ := h
  have ha := s3 (by omega)
  subst ha
  have q1 : ¬ (N : Int) ≤ (i : Int) := by omega
  have f1 := hf 1
  have f2 := hf 2
  have q2 : (i : Int) ≤ (N : Int) := by omega
  have q3 : ¬ c' = i := by omega
  have q4 : i ≤ N := by omega
  -- the copy
  have hlen : (l.take (min m l.length)).length = min m l.length := by simp
  have hD2 : Row (w.setCell ⟨rb, 2, none⟩ (.int .i64 (-1))) .u8 db 0 NN (fun j => ((D j).toNat : Int)) := hD.kept (R := fun x _ => x = rb) (Kept.setCell rfl) (fun _ _ e => hne e)
  have hcp : ∀ (W : World), W.heap = (w.setCell ⟨rb, 2, none⟩ (.int .i64 (-1))).heap → ∀ ty cc, (Builtin.copy_ #[22, 22] ty #[.slice (some ⟨db, o, none⟩) m c, .slice (some ⟨sb, i, none⟩) (N - i) cc]).run Tryz.prog W = .ok (.int .i64 (min m l.length : Nat)) (W.setCells db o (Lib.byteCells (l.take (min m l.length)))) := fun W hW ty cc => by
    have hcell : ∀ a, W.cell? a = (w.setCell ⟨rb, 2, none⟩ (.int .i64 (-1))).cell? a := fun a => by simp only [World.cell?, hW]
    have hfr : ∀ a, W.frozen? a = (w.setCell ⟨rb, 2, none⟩ (.int .i64 (-1))).frozen? a := fun a => by simp only [World.frozen?, hW]
    have e1 : (Lib.byteCells (l.take (min m l.length))).length = min m l.length := by simp [Lib.byteCells]
    have h := run_copy_cells (P := Tryz.prog) W 22 22 ty 5 db o m c ⟨sb, i, none⟩ (N - i) cc (Lib.byteCells (l.take (min m l.length))) Tryz.underlying22 u8_info
      (by rw [e1]; show min m l.length = min (N - i) m; omega) (fun j v hj => by
        have hj' : j < min m l.length := by have := (List.getElem?_eq_some_iff.1 hj).1; rwa [e1] at this
        rw [hcell, Addr.add_lit, setCell_cell _ _ (by omega), hc j (by omega), ← hj]
        simp only [Lib.byteCells, List.getElem?_map, List.getElem?_take, if_pos hj', List.getElem?_eq_getElem (show j < l.length by omega), Option.map_some]) (fun j hj => by
        rw [e1] at hj
        have := hD2.cell (o + j) (by omega)
        rw [Nat.zero_add] at this
        rw [hcell, this]; rfl) (fun j hj => by
        rw [e1] at hj
        have := hD2.free (o + j) (by omega)
        rw [Nat.zero_add] at this
        rw [hfr, this]) (Lib.byteCells_one _)
    rw [e1] at h
    exact h
  have hwi : IntKind.i64.wrap ((i : Int) + ((min m l.length : Nat) : Int)) = (i : Int) + ((min m l.length : Nat) : Int) := IntWalk.i64_in _ (by omega)
  have HFX := Lib.hid (And.intro hc (And.intro hl hf))
  clear hc s3 hf hD hl
  go_enter Tryz.func154, Tryz.ntmps154
  go_wp2_with fail
  go_quiet (fail)
  go_wp2_with fail
  have hc1 := hcp (((w.drewN nq).setCell ⟨rb, 2, none⟩ (.int .i64 (-1))).drew) rfl
  have p1 : ((w.drewN nq).setCell ⟨rb, 2, none⟩ (.int .i64 (-1))).cell? ⟨rb, 0, none⟩ = some (.slice (some ⟨sb, 0, none⟩) N c') := by rw [setCell_cell _ _ (by simp)]; exact s1
  have p2 : ((w.drewN nq).setCell ⟨rb, 2, none⟩ (.int .i64 (-1))).cell? ⟨rb, 1, none⟩ = some (.int .i64 i) := by rw [setCell_cell _ _ (by simp)]; exact hp
  have HCP := Lib.hid hcp
  have HD2 := Lib.hid hD2
  clear hcp hD2 hlen
  obtain ⟨V, hV⟩ : ∃ V, V = (((w.drewN nq).setCell ⟨rb, 2, none⟩ (.int .i64 (-1))).drew.setCells db o (Lib.byteCells (l.take (min m l.length)))) := ⟨_, rfl⟩
  rw [← hV] at hc1
  have hkV : Kept (fun x _ => x = rb ∨ x = db) w V := by
    rw [hV]
    exact ((((Kept.refl _ w).drewN nq).trans (Kept.setCell (.inl rfl))).drew).trans (Kept.setCells _ _ _ fun _ _ => .inr rfl)
  have hout : ∀ y, V.cell? ⟨rb, y, none⟩ = ((w.drewN nq).setCell ⟨rb, 2, none⟩ (.int .i64 (-1))).cell? ⟨rb, y, none⟩ := fun y => by
    rw [hV, World.cell?_setCells_out _ _ _ _ _ (fun e _ => absurd e.symm hne)]; rfl
  have p3 : V.cell? ⟨rb, 1, none⟩ = some (.int .i64 i) := by rw [hout]; exact p2
  have p4 : V.frozen? ⟨rb, 1, none⟩ = false := by rw [hkV.frozen _ _ (cell_lt hp)]; exact f1
  have HOUT := Lib.hid hout
  have HV := Lib.hid hV
  clear hout hV
  go_region
  all_goals go_wp2_with fail
  go_ret2
  have hk2 : Kept (fun x _ => x = rb ∨ x = db) w (V.setCell ⟨rb, 1, none⟩ (.int .i64 ((i : Int) + ((min m l.length : Nat) : Int)))) := hkV.trans (Kept.setCell (.inl rfl))
  have hrr : Row (V.setCell ⟨rb, 1, none⟩ (.int .i64 ((i : Int) + ((min m l.length : Nat) : Int)))) .u8 db 0 NN (fun j => (((if o ≤ j ∧ j < o + min m l.length then l.getD (j - o) 0 else D j)).toNat : Int)) := by
    have h1 : Row (((w.drewN nq).setCell ⟨rb, 2, none⟩ (.int .i64 (-1))).drew) .u8 db 0 NN (fun j => ((D j).toNat : Int)) := HD2.out.drewN (nq + 1)
    have h2 := h1.bytes o (l.take (min m l.length)) (by simp; omega)
    rw [← HV.out] at h2
    have h3 : Row V .u8 db 0 NN (fun j => (((if o ≤ j ∧ j < o + min m l.length then l.getD (j - o) 0 else D j)).toNat : Int)) := h2.congr fun j hj => by
      have e1 : (l.take (min m l.length)).length = min m l.length := by simp
      rw [e1]
      by_cases e : o ≤ j ∧ j < o + min m l.length
      · rw [if_pos e, if_pos e]
        simp only [List.getD, List.getElem?_take, if_pos (show j - o < min m l.length by omega)]
      · rw [if_neg e, if_neg e]
    exact h3.kept (R := fun x _ => x = rb) (Kept.setCell rfl) (fun _ _ e => hne e)
  obtain ⟨hc, hl, hf⟩ := HFX.out
  refine ⟨rfl, ⟨⟨_, c', ?_, s2, fun _ => rfl⟩, ?_, ⟨.int .i64 (-1), ?_⟩, fun j => ?_, fun j hj => ?_, ?_⟩, hrr, hk2⟩
  · rw [setCell_cell _ _ (by simp), HOUT.out]; exact p1
  · rw [setCell_cell_same p3]; simp
  · rw [setCell_cell _ _ (by simp), HOUT.out, setCell_cell_same (u := v)]; exact hv
  · rw [hk2.frozen _ _ (cell_lt hp)]; exact hf j
  · have hj' : j + m < l.length := by simp at hj; omega
    have h7 := hc (m + j) (by omega)
    rw [hk2.cell _ _ (cell_lt h7) (by rintro (h | h) <;> omega), show i + min m l.length + j = i + (m + j) by omega, h7]
    simp [List.getElem_drop]
  · simp; omega

/-- The reader's method is its own. (280: the fuel that the walk shows at this program.) -/
theorem nil_read (a : Addr) (w : World) : (nilAhead 280 58 (.pointer (some a)) "Read").run Tryz.prog w = .ok (some false) w := by kernel_rfl
theorem meth_read (a : Addr) (w : World) : (method 280 58 (.pointer (some a)) "Read").run Tryz.prog w = .ok (154, .pointer (some a)) w := by kernel_rfl

set_option maxHeartbeats 4000000 in
set_option maxRecDepth 100000 in
/-- A read of no byte. -/
theorem least_none (rb : Nat) (a : Option Addr) (c : Nat) (w : World) :
    Calls Tryz.prog 46 #[.iface 58 (.pointer (some ⟨rb, 0, none⟩)), .slice a 0 c, .int .i64 0] w fun e w' => e = .returned (.tuple #[.int .i64 0, .nilIface]) ∧ w' = w := by
  go_enter Tryz.func46, Tryz.ntmps46
  go_wp2_with fail
  refine wp_loop_rounds 1 ?_
  rw [rounds_succ]
  go_wp2_with fail
  go_ret2
  exact ⟨rfl, rfl⟩

set_option maxHeartbeats 4000000 in
set_option maxRecDepth 100000 in
/-- A read of just so many bytes: they are there. -/
theorem least_full (rb sb N i db o c NN : Nat) (a l : List UInt8) (D : Nat → UInt8) (w : World) (h : Rd w rb sb N i (a ++ l)) (ha : 0 < a.length) (hN : N ≤ 1073741824) (hD : Row w .u8 db 0 NN (fun j => ((D j).toNat : Int))) (ho : o + a.length ≤ NN) (hac : a.length ≤ c) (hne : db ≠ rb) (hns : db ≠ sb) (hrs : rb ≠ sb) :
    Calls Tryz.prog 46 #[.iface 58 (.pointer (some ⟨rb, 0, none⟩)), .slice (some ⟨db, o, none⟩) a.length c, .int .i64 a.length] w fun e w' => e = .returned (.tuple #[.int .i64 a.length, .nilIface]) ∧
      Rd w' rb sb N (i + a.length) l ∧ Row w' .u8 db 0 NN (fun j => (((if o ≤ j ∧ j < o + a.length then a.getD (j - o) 0 else D j)).toNat : Int)) ∧ Kept (fun x _ => x = rb ∨ x = db) w w' := by
  have hmin : min a.length (a ++ l).length = a.length := by simp
  have HR := Lib.hid (fun k => read_some rb sb N i db o a.length c NN (a ++ l) D (w.drewN k) (h.drewN k) (by simp; omega) hN (hD.drewN k) ha ho hne hns hrs)
  rw [hmin] at HR
  have hna := nil_read ⟨rb, 0, none⟩
  have hme := meth_read ⟨rb, 0, none⟩
  have hlen := h.len
  have qa : (0 : Int) < (a.length : Int) := by omega
  have q1 : (a.length : Int) ≤ 1073741824 := by simp at hlen; omega
  clear hmin h hD hlen
  go_enter Tryz.func46, Tryz.ntmps46
  go_wp2_with fail
  refine wp_loop_rounds 2 ?_
  rw [rounds_succ]
  have qc : ¬ c = 0 := by omega
  go_wp2_with fail
  go_region_with (go_at_call 154; refine (HR.out _).mono ?_; rintro e w' ⟨rfl, hrd, hrow, hkw⟩)
  all_goals go_wp2_with fail
  all_goals rw [rounds_succ]
  all_goals go_wp2_with fail
  all_goals go_ret2
  all_goals exact ⟨rfl, by simpa using hrd, hrow.congr fun j _ => (by
    by_cases e : o ≤ j ∧ j < o + a.length
    · rw [if_pos e, if_pos e]
      simp [List.getD, List.getElem?_append_left (show j - o < a.length by omega)]
    · rw [if_neg e, if_neg e]), ((Kept.refl _ w).drewN _).trans hkw⟩

theorem errs_info : (Tryz.prog.info? 157).map (·.comparable) = some true := by kernel_rfl
theorem errs_elem : (Tryz.prog.info? 177).isSome = true := by kernel_rfl

set_option maxHeartbeats 4000000 in
set_option maxRecDepth 100000 in
/-- A read of just so many bytes: not so many are there. -/
theorem least_short (rb sb N i db o m c NN : Nat) (l : List UInt8) (D : Nat → UInt8) (q1 q2 : Addr) (w : World) (h : Rd w rb sb N i l) (hl : l.length < m) (hE : Errs q1 q2 w) (hm : m ≤ 1073741824) (hN : N ≤ 1073741824) (hD : Row w .u8 db 0 NN (fun j => ((D j).toNat : Int))) (ho : o + m ≤ NN) (hmc : m ≤ c) (hne : db ≠ rb) (hns : db ≠ sb) (hrs : rb ≠ sb) (hEr : rb ≠ 3 ∧ db ≠ 3 ∧ rb ≠ 4 ∧ db ≠ 4) :
    Calls Tryz.prog 46 #[.iface 58 (.pointer (some ⟨rb, 0, none⟩)), .slice (some ⟨db, o, none⟩) m c, .int .i64 m] w fun e w' => ∃ (k : Nat) (q : Addr) (D' : Nat → UInt8), e = .returned (.tuple #[.int .i64 k, .iface 157 (.pointer (some q))]) ∧
      Row w' .u8 db 0 NN (fun j => ((D' j).toNat : Int)) ∧ Kept (fun x _ => x = rb ∨ x = db) w w' := by
  have hna := nil_read ⟨rb, 0, none⟩
  have hme := meth_read ⟨rb, 0, none⟩
  have qm : (m : Int) ≤ 1073741824 := by omega
  have qm0 : (0 : Int) < (m : Int) := by omega
  by_cases h0 : l = []
  · subst h0
    have HR := Lib.hid (fun k a m c => read_end rb sb N i a m c q1 q2 (w.drewN k) (h.drewN k) (by exact hE))
    have HD := Lib.hid hD
    clear h hD hE hl
    have qc : ¬ c = 0 := by omega
    go_enter Tryz.func46, Tryz.ntmps46
    go_wp2_with fail
    refine wp_loop_rounds 2 ?_
    rw [rounds_succ]
    go_wp2_with fail
    go_region_with (go_at_call 154; refine (HR.out _ _ _ _).mono ?_; rintro e w' ⟨rfl, k, rfl⟩)
    all_goals go_wp2_with fail
    all_goals rw [rounds_succ]
    all_goals go_wp2_with fail
    all_goals go_ret2
    all_goals exact ⟨0, q1, D, rfl, ⟨HD.out.cell, HD.out.free⟩, (Kept.refl _ w).drewN _⟩
  · have hlp : 0 < l.length := List.length_pos_iff.2 h0
    have hmin : min m l.length = l.length := by omega
    have HR := Lib.hid (fun k => read_some rb sb N i db o m c NN l D (w.drewN k) (h.drewN k) hlp hN (hD.drewN k) (by omega) ho hne hns hrs)
    rw [hmin, List.drop_eq_nil_of_le (by omega)] at HR
    have heq : ∀ W, (binOp .eql 45 (.iface 157 (.pointer (some q1))) (.iface 157 (.pointer (some q1)))).run Tryz.prog W = .ok (.bool true) W := fun W => by
      obtain ⟨i1, h1, h2⟩ : ∃ i, Tryz.prog.info? 157 = some i ∧ i.comparable = true := by
        have := errs_info
        cases h : Tryz.prog.info? 157 with
        | none => rw [h] at this; cases this
        | some i => rw [h] at this; exact ⟨i, rfl, by simpa using this⟩
      obtain ⟨i2, h3⟩ := Option.isSome_iff_exists.1 errs_elem
      exact run_eql_iface_ptr_same W q1 Tryz.underlying45 Tryz.underlying157 h1 h2 h3
    have HE := Lib.hid hE
    have hlen := h.len
    have qc : ¬ c = 0 := by omega
    have qc2 : ¬ c = l.length := by omega
    have ql : (l.length : Int) < (m : Int) := by omega
    have qlp : (0 : Int) < (l.length : Int) := by omega
    have qlm : (l.length : Int) ≤ (m : Int) := by omega
    have qlm2 : l.length ≤ m := by omega
    have HEr := Lib.hid hEr
    clear h hD hE hl hlen h0 hEr hmin
    go_enter Tryz.func46, Tryz.ntmps46
    go_wp2_with fail
    refine wp_loop_rounds 3 ?_
    rw [rounds_succ]
    go_wp2_with fail
    go_region_with (go_at_call 154; refine (HR.out _).mono ?_; rintro e w' ⟨rfl, hrd, hrow, hkw⟩)
    go_wp2_with fail
    have hE2 : Errs q1 q2 w' := by
      obtain ⟨e1, e2⟩ := HE.out
      obtain ⟨f1, f2, f3, f4⟩ := HEr.out
      refine ⟨?_, ?_⟩
      · rw [hkw.cell _ _ (cell_lt e1) (by rintro (e | e); exact f1 e.symm; exact f2 e.symm)]; exact e1
      · rw [hkw.cell _ _ (cell_lt e2) (by rintro (e | e); exact f3 e.symm; exact f4 e.symm)]; exact e2
    have HR2 := Lib.hid (fun k a m c => read_end rb sb N (i + l.length) a m c q1 q2 (w'.drewN k) (hrd.drewN k) (by exact hE2))
    have HF := Lib.hid (And.intro hrow hkw)
    have p1 := hE2.1
    have p2 := hE2.2
    clear hrd hrow hkw hE2
    rw [rounds_succ]
    go_wp2_with fail
    go_region_with (go_at_call 154; refine (HR2.out _ _ _ _).mono ?_; rintro e w2 ⟨rfl, k, rfl⟩)
    all_goals go_wp2_with fail
    all_goals rw [rounds_succ]
    all_goals go_wp2_with fail
    all_goals go_ret2
    all_goals exact ⟨l.length, q2, _, rfl, ⟨HF.out.1.cell, HF.out.1.free⟩, (((Kept.refl _ w).drewN _).trans HF.out.2).drewN _⟩

end Go.Proofs.YtfpihnfhmefeaaaGreatDoor
namespace Go.Proofs.YtfpihnfhmefeaaaGreatDoor
open Go.RowKit

set_option maxHeartbeats 1000000 in
set_option maxRecDepth 100000 in
/-- No byte is asked for. -/
theorem full_none (rb : Nat) (a : Option Addr) (c : Nat) (w : World) :
    Calls Tryz.prog 35 #[.iface 58 (.pointer (some ⟨rb, 0, none⟩)), .slice a 0 c] w fun e w' => e = .returned (.tuple #[.int .i64 0, .nilIface]) ∧ w' = w := by
  have HR := Lib.hid (least_none rb a c w)
  go_enter Tryz.func35, Tryz.ntmps35
  go_wp2_with fail
  refine HR.out.mono ?_
  rintro e w' ⟨rfl, rfl⟩
  go_wp2_with fail
  go_ret2
  exact ⟨rfl, rfl⟩

set_option maxHeartbeats 1000000 in
set_option maxRecDepth 100000 in
/-- Just so many bytes: they are there. -/
theorem full_full (rb sb N i db o c NN : Nat) (a l : List UInt8) (D : Nat → UInt8) (w : World) (h : Rd w rb sb N i (a ++ l)) (ha : 0 < a.length) (hN : N ≤ 1073741824) (hD : Row w .u8 db 0 NN (fun j => ((D j).toNat : Int))) (ho : o + a.length ≤ NN) (hac : a.length ≤ c) (hne : db ≠ rb) (hns : db ≠ sb) (hrs : rb ≠ sb) :
    Calls Tryz.prog 35 #[.iface 58 (.pointer (some ⟨rb, 0, none⟩)), .slice (some ⟨db, o, none⟩) a.length c] w fun e w' => e = .returned (.tuple #[.int .i64 a.length, .nilIface]) ∧
      Rd w' rb sb N (i + a.length) l ∧ Row w' .u8 db 0 NN (fun j => (((if o ≤ j ∧ j < o + a.length then a.getD (j - o) 0 else D j)).toNat : Int)) ∧ Kept (fun x _ => x = rb ∨ x = db) w w' := by
  have HR := Lib.hid (least_full rb sb N i db o c NN a l D w h ha hN hD ho hac hne hns hrs)
  clear h hD
  go_enter Tryz.func35, Tryz.ntmps35
  go_wp2_with fail
  refine HR.out.mono ?_
  rintro e w' ⟨rfl, h1, h2, h3⟩
  have H := Lib.hid (And.intro h1 (And.intro h2 h3))
  clear h1 h2 h3
  go_wp2_with fail
  go_ret2
  exact ⟨rfl, H.out⟩

set_option maxHeartbeats 1000000 in
set_option maxRecDepth 100000 in
/-- Just so many bytes: not so many are there. -/
theorem full_short (rb sb N i db o m c NN : Nat) (l : List UInt8) (D : Nat → UInt8) (q1 q2 : Addr) (w : World) (h : Rd w rb sb N i l) (hl : l.length < m) (hE : Errs q1 q2 w) (hm : m ≤ 1073741824) (hN : N ≤ 1073741824) (hD : Row w .u8 db 0 NN (fun j => ((D j).toNat : Int))) (ho : o + m ≤ NN) (hmc : m ≤ c) (hne : db ≠ rb) (hns : db ≠ sb) (hrs : rb ≠ sb) (hEr : rb ≠ 3 ∧ db ≠ 3 ∧ rb ≠ 4 ∧ db ≠ 4) :
    Calls Tryz.prog 35 #[.iface 58 (.pointer (some ⟨rb, 0, none⟩)), .slice (some ⟨db, o, none⟩) m c] w fun e w' => ∃ (k : Nat) (q : Addr) (D' : Nat → UInt8), e = .returned (.tuple #[.int .i64 k, .iface 157 (.pointer (some q))]) ∧
      Row w' .u8 db 0 NN (fun j => ((D' j).toNat : Int)) ∧ Kept (fun x _ => x = rb ∨ x = db) w w' := by
  have HR := Lib.hid (least_short rb sb N i db o m c NN l D q1 q2 w h hl hE hm hN hD ho hmc hne hns hrs hEr)
  clear h hD hE hEr
  go_enter Tryz.func35, Tryz.ntmps35
  go_wp2_with fail
  refine HR.out.mono ?_
  rintro e w' ⟨k, q, D', rfl, h2, h3⟩
  have H := Lib.hid (And.intro h2 h3)
  clear h2 h3
  go_wp2_with fail
  go_ret2
  exact ⟨k, q, D', rfl, H.out⟩

/-- The bytes of a row, as a list. -/
theorem row_list {w : World} {b o n NN : Nat} {D : Nat → UInt8} (hD : Row w .u8 b 0 NN (fun j => ((D j).toNat : Int))) (ho : o + n ≤ NN) : ∀ j (hj : j < ((List.range n).map fun x => D (o + x)).length), w.cell? ⟨b, o + j, none⟩ = some (.int .u8 ((((List.range n).map fun x => D (o + x))[j]).toNat)) := fun j hj => by
  have hj' : j < n := by simpa using hj
  have := hD.cell (o + j) (by omega)
  rw [Nat.zero_add] at this
  rw [this]
  simp

set_option maxHeartbeats 4000000 in
set_option maxRecDepth 100000 in
/-- A number is read. -/
theorem readInt_ok (rb sb N i fb n : Nat) (hd l : List UInt8) (D : Nat → UInt8) (w : World) (h : Rd w rb sb N i (hd ++ l)) (hh : IsHead n hd) (hn : n < 2147483648) (hN : N ≤ 1073741824) (hD : Row w .u8 fb 0 16384 (fun j => ((D j).toNat : Int))) (hne : fb ≠ rb) (hns : fb ≠ sb) (hrs : rb ≠ sb) :
    Calls Tryz.prog 34 #[.iface 58 (.pointer (some ⟨rb, 0, none⟩)), .slice (some ⟨fb, 0, none⟩) 16384 16384] w fun e w' => ∃ (D' : Nat → UInt8), e = .returned (.tuple #[.int .i64 n, .nilIface]) ∧
      Rd w' rb sb N (i + 10) l ∧ Row w' .u8 fb 0 16384 (fun j => ((D' j).toNat : Int)) ∧ Kept (fun x _ => x = rb ∨ x = fb) w w' := by
  have hl := hh.1
  have HR := Lib.hid (full_full rb sb N i fb 0 16384 16384 hd l D w h (by omega) hN hD (by omega) (by omega) hne hns hrs)
  rw [hl] at HR
  have HH := Lib.hid hh
  clear h hD hh
  go_enter Tryz.func34, Tryz.ntmps34
  go_wp2_with fail
  refine HR.out.mono ?_
  rintro e w1 ⟨rfl, h1, h2, h3⟩
  obtain ⟨D1, hD1⟩ : ∃ D1 : Nat → UInt8, D1 = fun j => if 0 ≤ j ∧ j < 0 + 10 then hd.getD (j - 0) 0 else D j := ⟨_, rfl⟩
  have h4 : Row w1 .u8 fb 0 16384 (fun j => ((D1 j).toNat : Int)) := by rw [hD1]; exact h2
  have hfr : (List.range 16384).map (fun x => D1 (0 + x)) = hd ++ (List.range 16374).map (fun x => D1 (10 + x)) := by
    apply List.ext_getElem
    · simp [hl]
    · intro j g1 g2
      by_cases e : j < 10
      · rw [List.getElem_append_left (by omega)]
        simp only [List.getElem_map, List.getElem_range, hD1]
        rw [if_pos (by omega)]
        simp [List.getD, show j < hd.length by omega]
      · rw [List.getElem_append_right (by omega)]
        simp only [List.getElem_map, List.getElem_range, hl]
        rw [show 0 + j = 10 + (j - 10) by omega]
  have HV := Lib.hid (Any.binary_Varint Tryz.vvL fb 0 16384 16384 ((List.range 16384).map fun x => D1 (0 + x)) w1 (by simp) (row_list h4 (by omega)))
  change Hid (Calls Tryz.prog 45 _ _ _) at HV
  rw [hfr, head_dec hn HH.out] at HV
  generalize (Lib.varintDec (hd ++ (List.range 16374).map (fun x => D1 (10 + x)))).2 = vd at HV
  have H := Lib.hid (And.intro h1 (And.intro h4 h3))
  clear h1 h2 h3 h4 hfr hD1
  go_wp2_with fail
  refine HV.out.mono ?_
  rintro e w2 ⟨rfl, rfl⟩
  go_wp2_with fail
  go_ret2
  exact ⟨D1, rfl, H.out⟩

set_option maxHeartbeats 4000000 in
set_option maxRecDepth 100000 in
/-- A number is cut off. -/
theorem readInt_short (rb sb N i fb : Nat) (l : List UInt8) (D : Nat → UInt8) (q1 q2 : Addr) (w : World) (h : Rd w rb sb N i l) (hl : l.length < 10) (hE : Errs q1 q2 w) (hN : N ≤ 1073741824) (hD : Row w .u8 fb 0 16384 (fun j => ((D j).toNat : Int))) (hne : fb ≠ rb) (hns : fb ≠ sb) (hrs : rb ≠ sb) (hEr : rb ≠ 3 ∧ fb ≠ 3 ∧ rb ≠ 4 ∧ fb ≠ 4) :
    Calls Tryz.prog 34 #[.iface 58 (.pointer (some ⟨rb, 0, none⟩)), .slice (some ⟨fb, 0, none⟩) 16384 16384] w fun e w' => ∃ (x : Int) (q : Addr), e = .returned (.tuple #[.int .i64 x, .iface 157 (.pointer (some q))]) ∧ Kept (fun x _ => x = rb ∨ x = fb) w w' := by
  have HR := Lib.hid (full_short rb sb N i fb 0 10 16384 16384 l D q1 q2 w h hl hE (by omega) hN hD (by omega) (by omega) hne hns hrs hEr)
  clear h hD hE hEr
  go_enter Tryz.func34, Tryz.ntmps34
  go_wp2_with fail
  refine HR.out.mono ?_
  rintro e w1 ⟨k, q, D1, rfl, h4, h3⟩
  have HV := Lib.hid (Any.binary_Varint Tryz.vvL fb 0 16384 16384 ((List.range 16384).map fun x => D1 (0 + x)) w1 (by simp) (row_list h4 (by omega)))
  change Hid (Calls Tryz.prog 45 _ _ _) at HV
  have H := Lib.hid h3
  generalize Lib.varintDec ((List.range 16384).map fun x => D1 (0 + x)) = vd at HV
  clear h3 h4
  go_wp2_with fail
  refine HV.out.mono ?_
  rintro e w2 ⟨rfl, rfl⟩
  go_wp2_with fail
  go_ret2
  exact ⟨_, q, rfl, H.out⟩

end Go.Proofs.YtfpihnfhmefeaaaGreatDoor
namespace Go.Proofs.YtfpihnfhmefeaaaGreatDoor
open Go.RowKit

set_option maxHeartbeats 1000000 in
set_option maxRecDepth 100000 in
/-- A number of a stretch is laid. -/
theorem set_of (xb ab o d dc k v : Nat) (u : Value) (w : World) (h1 : w.cell? ⟨xb, 0, none⟩ = some (.slice (some ⟨ab, o, none⟩) d dc)) (h3 : w.cell? ⟨ab, o + k, none⟩ = some u) (h4 : w.frozen? ⟨ab, o + k, none⟩ = false) (hk : k < d) (hv : v < 1073741824) :
    Calls Tryz.prog 48 #[.pointer (some ⟨xb, 0, none⟩), .int .i64 k, .int .i64 v] w fun e w' => e = .returned (.tuple #[]) ∧ w' = w.setCell ⟨ab, o + k, none⟩ (.int .i32 v) := by
  have q1 : ∀ (w : World) (a : Option Addr) (n c n' c' : Nat), (binOp .neq 51 (.slice a n c) (.slice none n' c')).run Tryz.prog w = .ok (.bool !a.isNone) w := fun w a n c n' c' => run_neq_slice_nil_any w _ _ a n c n' c' Tryz.underlying51
  have hw : IntKind.i32.wrap (v : Int) = (v : Int) := by rw [IntKind.wrap_i32]; omega
  go_enter Tryz.func48, Tryz.ntmps48
  go_wp2_with fail
  go_end0
  exact ⟨rfl, rfl⟩

set_option maxHeartbeats 4000000 in
set_option maxRecDepth 100000 in
/-- A stretch of numbers is read: d of them are left to read, from the o-th on; k lie in the stretch. -/
theorem readSlice_ok (rb sb N i fb ab o d dc n k : Nat) (f : Nat → Nat) (hd l : List UInt8) (D : Nat → UInt8) (s : Nat → Int) (w : World)
    (h : Rd w rb sb N i (hd ++ (encs (fun t => f (o + t)) k ++ l))) (hh : IsHead (10 + (encs (fun t => f (o + t)) k).length) hd) (hle : 10 + (encs (fun t => f (o + t)) k).length ≤ 16384) (hk0 : 0 < k) (hkd : k ≤ d) (hod : o + d = n) (hn : n < 1073741824) (hf : ∀ t, t < n → f t < n)
    (hN : N ≤ 1073741824) (hD : Row w .u8 fb 0 16384 (fun j => ((D j).toNat : Int))) (hR : Row w .i32 ab 0 n s) (hne : fb ≠ rb) (hns : fb ≠ sb) (hrs : rb ≠ sb) (har : ab ≠ rb) (has : ab ≠ sb) (haf : ab ≠ fb) :
    Calls Tryz.prog 36 #[.iface 58 (.pointer (some ⟨rb, 0, none⟩)), .slice (some ⟨fb, 0, none⟩) 16384 16384, .agg #[.slice (some ⟨ab, o, none⟩) d dc, .slice none 0 0], .int .u64 n] w fun e w' => ∃ (i' : Nat) (D' : Nat → UInt8), e = .returned (.tuple #[.int .i64 k, .nilIface]) ∧
      Rd w' rb sb N i' l ∧ Row w' .u8 fb 0 16384 (fun j => ((D' j).toNat : Int)) ∧ Row w' .i32 ab 0 n (fun j => if o ≤ j ∧ j < o + k then (f j : Int) else s j) ∧ Kept (fun x _ => x = rb ∨ x = fb ∨ x = ab) w w' := by
  -- the box of the numbers
  obtain ⟨W, hW⟩ : ∃ W, W = w.alloc (.cells #[.slice (some ⟨ab, o, none⟩) d dc, .slice none 0 0] 54) := ⟨_, rfl⟩
  have hkW : Kept (fun _ _ => False) w W := by rw [hW]; exact Kept.alloc _ _
  have hx0 : W.cell? ⟨w.heap.size, 0, none⟩ = some (.slice (some ⟨ab, o, none⟩) d dc) := by rw [hW, World.cell?_alloc_at _ _ _ _ rfl]; rfl
  have hx1 : W.cell? ⟨w.heap.size, 1, none⟩ = some (.slice none 0 0) := by rw [hW, World.cell?_alloc_at _ _ _ _ rfl]; rfl
  have hrlt : rb < w.heap.size := cell_lt h.pos
  have hflt : fb < w.heap.size := hD.lt (by omega)
  have halt : ab < w.heap.size := hR.lt (by omega)
  have HRI := Lib.hid (readInt_ok rb sb N i fb _ hd _ D W (h.kept hkW (fun _ hf => hf) (fun _ hf => hf)) hh (by omega) hN (hD.keptAll hkW) hne hns hrs)
  have HX := Lib.hid (And.intro hx0 hx1)
  have HW := Lib.hid hW
  have HR := Lib.hid (hR.keptAll hkW)
  have HF := Lib.hid hf
  obtain ⟨E, hE⟩ : ∃ E, E = encs (fun t => f (o + t)) k := ⟨_, rfl⟩
  have HE := Lib.hid hE
  rw [← hE] at HRI hle
  have hwz : IntKind.i64.wrap ((10 + E.length : Nat) : Int) = ((10 + E.length : Nat) : Int) := IntWalk.i64_in _ (by omega)
  have hE1 : k ≤ E.length := by rw [hE]; exact encs_length_ge _ _
  have q1 : ¬ ((10 + E.length : Nat) : Int) < 0 := by omega
  have q2 : (10 : Int) ≤ ((10 + E.length : Nat) : Int) := by omega
  have q3 : ((10 + E.length : Nat) : Int) ≤ 16384 := by omega
  have q4 : ¬ (16384 : Nat) = 10 := by omega
  clear hx0 hx1 hW hD hR hf h hh hE
  go_enter Tryz.func36, Tryz.ntmps36
  go_wp2_with fail
  rw [← HW.out]
  refine HRI.out.mono ?_
  rintro e w1 ⟨D1, rfl, r1, r2, r3⟩
  have HRF := Lib.hid (full_full rb sb N (i + 10) fb 10 16374 16384 E l D1 w1 r1 (by omega) hN r2 (by omega) (by omega) hne hns hrs)
  have H3 := Lib.hid r3
  clear r1 r2 r3
  go_wp2_with fail
  refine HRF.out.mono ?_
  rintro e w2 ⟨rfl, r1, r2, r4⟩
  have hk2 : Kept (fun x _ => x = rb ∨ x = fb) W w2 := H3.out.trans r4
  have hs1 := hkW.size
  have hx0 : w2.cell? ⟨w.heap.size, 0, none⟩ = some (.slice (some ⟨ab, o, none⟩) d dc) := by rw [hk2.cell _ _ (cell_lt HX.out.1) (by rintro (h | h) <;> omega)]; exact HX.out.1
  have hx1 : w2.cell? ⟨w.heap.size, 1, none⟩ = some (.slice none 0 0) := by rw [hk2.cell _ _ (cell_lt HX.out.1) (by rintro (h | h) <;> omega)]; exact HX.out.2
  have hR2 := HR.out.kept hk2 (fun j _ hr => by rcases hr with hr | hr; exact har hr; exact haf hr)
  have HL := Lib.hid (len_of w.heap.size 0 d dc (some ⟨ab, o, none⟩) w2 hx0 hx1 (by omega))
  have HZ := Lib.hid (And.intro r1 (And.intro r2 (And.intro hR2 hk2)))
  have HX2 := Lib.hid hx0
  clear r1 r2 r4 hk2 hR2 hx0 hx1
  go_wp2_with fail
  refine HL.out.mono ?_
  rintro e w3 ⟨rfl, q, rfl⟩
  go_wp2_with fail
  go_loopw [8, 9, 13] (fun u z v wr => ∃ (x : Nat), x ≤ k ∧ u = .int .i64 x ∧ z = .nilIface ∧ v = .int .i64 ((10 + (encs (fun t => f (o + t)) x).length : Nat) : Int) ∧
      Row wr .i32 ab 0 n (fun j => if o ≤ j ∧ j < o + x then (f j : Int) else s j) ∧ Kept (fun y _ => y = ab) w2 wr)
    (fun u _ _ _ => k - (intOf u).toNat)
  case atStart => exact ⟨0, Nat.zero_le _, rfl, rfl, by simp [encs], (HZ.out.2.2.1.congr fun j _ => by rw [if_neg (by omega)]).drewN q, (Kept.refl _ _).drewN q⟩
  case round =>
    obtain ⟨x, hx, rfl, rfl, rfl, hR, hK⟩ := hrel
    have hkr : Kept (fun y _ => y = ab) w2 wr := hK
    have hx0 : wr.cell? ⟨w.heap.size, 0, none⟩ = some (.slice (some ⟨ab, o, none⟩) d dc) := by rw [hkr.cell _ _ (cell_lt HX2.out) (fun h => by omega)]; exact HX2.out
    by_cases hxk : x < k
    · -- one number more
      obtain ⟨r, hr⟩ := encs_at (fun t => f (o + t)) hxk
      rw [← HE.out] at hr
      have hfx := HF.out (o + x) (by omega)
      obtain ⟨p, hp⟩ : ∃ p, p = 10 + (encs (fun t => f (o + t)) x).length := ⟨_, rfl⟩
      obtain ⟨U, hU⟩ : ∃ U, U = Lib.uvarint (f (o + x)) := ⟨_, rfl⟩
      have hU0 : 0 < U.length := by rw [hU]; exact Lib.uvarint_pos _
      have hlE : E.length = (encs (fun t => f (o + t)) x).length + (U.length + r.length) := by rw [hr, List.length_append, List.length_append, hU]
      have hrow : Row wr .u8 fb 0 16384 (fun j => (((if 10 ≤ j ∧ j < 10 + E.length then E.getD (j - 10) 0 else D1 j)).toNat : Int)) := HZ.out.2.1.kept hkr (fun j _ e => haf e.symm)
      obtain ⟨D2, hD2⟩ : ∃ D2 : Nat → UInt8, D2 = fun j => if 10 ≤ j ∧ j < 10 + E.length then E.getD (j - 10) 0 else D1 j := ⟨_, rfl⟩
      have hrow2 : Row wr .u8 fb 0 16384 (fun j => ((D2 j).toNat : Int)) := by rw [hD2]; exact hrow
      have hls : (List.range (16384 - p)).map (fun j => D2 (p + j)) = U ++ (List.range (16384 - p - U.length)).map (fun j => D2 (p + U.length + j)) := by
        apply List.ext_getElem
        · simp; omega
        · intro j g1 g2
          by_cases e : j < U.length
          · rw [List.getElem_append_left e]
            simp only [List.getElem_map, List.getElem_range, hD2]
            rw [if_pos (by omega), show p + j - 10 = (encs (fun t => f (o + t)) x).length + j by omega, hr]
            simp [List.getD, List.getElem?_append_right, ← hU, List.getElem?_append_left e, List.getElem?_eq_getElem e]
          · rw [List.getElem_append_right (by omega)]
            simp only [List.getElem_map, List.getElem_range]
            rw [show p + U.length + (j - U.length) = p + j by omega]
      have HU := Lib.hid (Any.binary_Uvarint Tryz.uvL fb p (16384 - p) (16384 - p) ((List.range (16384 - p)).map fun j => D2 (p + j)) wr (by simp) (row_list hrow2 (by omega)))
      change Hid (Calls Tryz.prog 47 _ _ _) at HU
      rw [hls, hU, uvarint_dec (show f (o + x) < 4294967296 by omega), ← hU] at HU
      rw [← hp]
      have hc := hR.cell (o + x) (by omega)
      have hfz := hR.free (o + x) (by omega)
      rw [Nat.zero_add] at hc hfz
      have HS := Lib.hid (set_of w.heap.size ab o d dc x (f (o + x)) _ wr hx0 hc hfz (by omega) (by omega))
      have HP := Lib.hid (And.intro hp (And.intro hU (And.intro hlE (And.intro hU0 hr))))
      have HRO := Lib.hid hR
      have qa : (p : Int) < 10 + (E.length : Int) := by omega
      have qb : ¬ (16384 : Nat) = p := by omega
      have qc : (p : Int) ≤ 16384 := by omega
      have qd : p ≤ 16384 := by omega
      have qe : (x : Int) < (d : Int) := by omega
      have qf : (f (o + x) : Int) < (n : Int) := by omega
      have hwp : IntKind.i64.wrap ((p : Int) + (U.length : Int)) = (p : Int) + (U.length : Int) := IntWalk.i64_in _ (by omega)
      have hwf : IntKind.i64.wrap (f (o + x) : Int) = (f (o + x) : Int) := IntWalk.i64_in _ (by omega)
      have hwx : IntKind.i64.wrap ((x : Int) + 1) = (x : Int) + 1 := IntWalk.i64_in _ (by omega)
      clear hp hU hlE hU0 hr hc hfz hrow hrow2 hD2 hls hR hwz
      go_wp2_with fail
      refine HU.out.mono ?_
      rintro e w4 ⟨rfl, rfl⟩
      go_wp2_with fail
      refine HS.out.mono ?_
      rintro e w5 ⟨rfl, rfl⟩
      go_wp2_with fail
      go_roundw
      case rel =>
        obtain ⟨hp, hU, _, _, _⟩ := HP.out
        have hset := HRO.out.set (i := o + x) (by omega) (f (o + x) : Int)
        rw [Nat.zero_add] at hset
        refine ⟨x + 1, by omega, by simp, rfl, by rw [encs_succ, List.length_append, ← hU, hp]; simp; omega, hset.congr fun j hj => ?_, hkr.trans (Kept.setCell rfl)⟩
        unfold put
        by_cases e : j = o + x
        · subst e
          rw [if_pos rfl, if_pos (by omega)]
        · rw [if_neg e]
          show (if o ≤ j ∧ j < o + x then (f j : Int) else s j) = _
          by_cases e2 : o ≤ j ∧ j < o + x
          · rw [if_pos e2, if_pos (by omega)]
          · rw [if_neg e2, if_neg (by omega)]
      case measure => simp [intOf]; omega
    · have hxk : x = k := by omega
      subst hxk
      rw [← HE.out]
      have HRO := Lib.hid (And.intro hR hkr)
      clear hR hK hkr hwz
      go_wp2_with fail
      go_ret2
      have hK2 : Kept (fun y _ => y = rb ∨ y = fb ∨ y = ab) W wr := (HZ.out.2.2.2.mono fun _ _ _ h => by rcases h with h | h; exact .inl h; exact .inr (.inl h)).trans (HRO.out.2.mono fun _ _ _ h => .inr (.inr h))
      exact ⟨_, _, rfl, HZ.out.1.kept HRO.out.2 (fun _ e => har e.symm) (fun _ e => has e.symm), HZ.out.2.1.kept HRO.out.2 (fun _ _ e => haf e.symm), HRO.out.1,
        (hkW.mono fun _ _ _ hf => hf.elim).trans hK2⟩

set_option maxHeartbeats 4000000 in
set_option maxRecDepth 100000 in
/-- A stretch of numbers is cut off. -/
theorem readSlice_short (rb sb N i fb L : Nat) (hd l : List UInt8) (ab o d dc n : Nat) (D : Nat → UInt8) (q1 q2 : Addr) (w : World)
    (h : Rd w rb sb N i l) (hl : l.length < 10 ∨ ∃ l1, l = hd ++ l1 ∧ l1.length < L) (hh : IsHead (10 + L) hd) (hle : 10 + L ≤ 16384) (hE : Errs q1 q2 w)
    (hN : N ≤ 1073741824) (hD : Row w .u8 fb 0 16384 (fun j => ((D j).toNat : Int))) (hne : fb ≠ rb) (hns : fb ≠ sb) (hrs : rb ≠ sb) (hEr : rb ≠ 3 ∧ fb ≠ 3 ∧ rb ≠ 4 ∧ fb ≠ 4) :
    Calls Tryz.prog 36 #[.iface 58 (.pointer (some ⟨rb, 0, none⟩)), .slice (some ⟨fb, 0, none⟩) 16384 16384, .agg #[.slice (some ⟨ab, o, none⟩) d dc, .slice none 0 0], .int .u64 n] w fun e w' => ∃ (q : Addr), e = .returned (.tuple #[.int .i64 0, .iface 157 (.pointer (some q))]) ∧ Kept (fun x _ => x = rb ∨ x = fb) w w' := by
  obtain ⟨W, hW⟩ : ∃ W, W = w.alloc (.cells #[.slice (some ⟨ab, o, none⟩) d dc, .slice none 0 0] 54) := ⟨_, rfl⟩
  have hkW : Kept (fun _ _ => False) w W := by rw [hW]; exact Kept.alloc _ _
  have HW := Lib.hid hW
  have hEW : Errs q1 q2 W := ⟨by rw [hkW.cell _ _ (cell_lt hE.1) (fun hf => hf)]; exact hE.1, by rw [hkW.cell _ _ (cell_lt hE.2) (fun hf => hf)]; exact hE.2⟩
  have hrW := h.kept hkW (fun _ hf => hf) (fun _ hf => hf)
  have HKW := Lib.hid (hkW.mono (S := fun x _ => x = rb ∨ x = fb) fun _ _ _ hf => hf.elim)
  by_cases hs : l.length < 10
  · have HRI := Lib.hid (readInt_short rb sb N i fb l D q1 q2 W hrW hs hEW hN (hD.keptAll hkW) hne hns hrs hEr)
    clear hW h hl hh hE hD hEr hkW hEW hrW
    go_enter Tryz.func36, Tryz.ntmps36
    go_wp2_with fail
    rw [← HW.out]
    refine HRI.out.mono ?_
    rintro e w1 ⟨x, q, rfl, hk⟩
    have HK := Lib.hid hk
    clear hk
    go_wp2_with fail
    go_ret2
    exact ⟨q, rfl, HKW.out.trans HK.out⟩
  · obtain ⟨l1, rfl, hl1⟩ := hl.resolve_left hs
    have HRI := Lib.hid (readInt_ok rb sb N i fb _ hd l1 D W hrW hh (by omega) hN (hD.keptAll hkW) hne hns hrs)
    have q1' : ¬ ((10 + L : Nat) : Int) < 0 := by omega
    have q2' : (10 : Int) ≤ ((10 + L : Nat) : Int) := by omega
    have q3' : ((10 + L : Nat) : Int) ≤ 16384 := by omega
    have q4' : ¬ (16384 : Nat) = 10 := by omega
    have hwz : IntKind.i64.wrap ((10 + L : Nat) : Int) = ((10 + L : Nat) : Int) := IntWalk.i64_in _ (by omega)
    have HEW := Lib.hid hEW
    have HEr := Lib.hid hEr
    clear hW h hl hh hE hD hEr hkW hEW hrW
    go_enter Tryz.func36, Tryz.ntmps36
    go_wp2_with fail
    rw [← HW.out]
    refine HRI.out.mono ?_
    rintro e w1 ⟨D1, rfl, r1, r2, r3⟩
    have hE1 : Errs q1 q2 w1 := by
      obtain ⟨e1, e2⟩ := HEW.out
      obtain ⟨f1, f2, f3, f4⟩ := HEr.out
      refine ⟨?_, ?_⟩
      · rw [r3.cell _ _ (cell_lt e1) (by rintro (e | e); exact f1 e.symm; exact f2 e.symm)]; exact e1
      · rw [r3.cell _ _ (cell_lt e2) (by rintro (e | e); exact f3 e.symm; exact f4 e.symm)]; exact e2
    have HRF := Lib.hid (full_short rb sb N (i + 10) fb 10 L 16374 16384 l1 D1 q1 q2 w1 r1 hl1 hE1 (by omega) hN r2 (by omega) (by omega) hne hns hrs HEr.out)
    have H3 := Lib.hid r3
    clear r1 r2 r3 hE1
    go_wp2_with fail
    refine HRF.out.mono ?_
    rintro e w2 ⟨k, q, D2, rfl, _, hk⟩
    have HK := Lib.hid hk
    clear hk
    go_wp2_with fail
    go_ret2
    exact ⟨q, rfl, (HKW.out.trans H3.out).trans HK.out⟩

end Go.Proofs.YtfpihnfhmefeaaaGreatDoor
namespace Go.Proofs.YtfpihnfhmefeaaaGreatDoor
open Go.RowKit

/-- All of p is there, or it is cut off. -/
def Cand (full : Bool) (p l : List UInt8) : Prop := if full = true then AllOf p l else CutOff p l
theorem Cand.step {full : Bool} {a b l : List UInt8} (h : Cand full (a ++ b) l) : (full = false ∧ l.length < a.length) ∨ ∃ l', l = a ++ l' ∧ Cand full b l' := by
  cases full with
  | true => exact .inr (by simpa [Cand] using AllOf.step (by simpa [Cand] using h))
  | false =>
    rcases CutOff.step (show CutOff (a ++ b) l by simpa [Cand] using h) with h | ⟨l', h1, h2⟩
    · exact .inl ⟨rfl, h⟩
    · exact .inr ⟨l', h1, by simpa [Cand] using h2⟩
theorem Cand.nil {full : Bool} {l : List UInt8} (h : Cand full [] l) : full = true := by
  cases full with
  | true => rfl
  | false => exact absurd (show CutOff [] l by simpa [Cand] using h) CutOff.nil

/-- An index that was read: of some bytes; of none. -/
def Lx (w : World) (ib n : Nat) (T g : Nat → Nat) : Prop :=
  (0 < n ∧ ∃ tb ab, Ix w ib (some ⟨tb, 0, none⟩) tb n ab n T g) ∨ (n = 0 ∧ ∀ j, j < 3 → w.cell? ⟨ib, j, none⟩ = some (.slice none 0 0))
theorem Lx.kept {w w' : World} {ib n : Nat} {T g : Nat → Nat} (h : Lx w ib n T g) (k : Kept (fun _ _ => False) w w') : Lx w' ib n T g := by
  rcases h with ⟨h0, tb, ab, h⟩ | ⟨h0, h⟩
  · exact .inl ⟨h0, tb, ab, h.kept k⟩
  · exact .inr ⟨h0, fun j hj => by rw [k.cell _ _ (cell_lt (h j hj)) (fun hf => hf)]; exact h j hj⟩
/-- What a reading leaves. -/
def ReadPost (ib rb n : Nat) (T g : Nat → Nat) (full : Bool) (w : World) (e : Ending) (w' : World) : Prop :=
  Kept (fun x _ => x = rb ∨ x = ib) w w' ∧ ((full = true ∧ e = .returned .nilIface ∧ Lx w' ib n T g) ∨ (full = false ∧ ∃ q : Addr, e = .returned (.iface 157 (.pointer (some q)))))

/-- How many numbers a box's slice has. -/
def boxLen (xb : Nat) (w : World) : Nat := match w.cell? ⟨xb, 0, none⟩ with
  | some (.slice _ m _) => m
  | _ => 0
theorem boxLen_of {xb m c : Nat} {a : Option Addr} {w : World} (h : w.cell? ⟨xb, 0, none⟩ = some (.slice a m c)) : boxLen xb w = m := by simp [boxLen, h]

set_option maxHeartbeats 1000000 in
set_option maxRecDepth 100000 in
/-- What is left of a stretch of numbers. -/
theorem slice_of (xb ab o d dc k : Nat) (w : World) (h1 : w.cell? ⟨xb, 0, none⟩ = some (.slice (some ⟨ab, o, none⟩) d dc)) (hk : k ≤ d) (hdc : d ≤ dc) (hd : dc ≤ 1073741824) :
    Calls Tryz.prog 33 #[.pointer (some ⟨xb, 0, none⟩), .int .i64 k, .int .i64 d] w fun e w' =>
      ∃ a, e = .returned (.agg #[.slice a (d - k) (dc - k), .slice none 0 0]) ∧ (k < d → a = some ⟨ab, o + k, none⟩) ∧ Kept (fun _ _ => False) w w' := by
  have q1 : ∀ (w : World) (a : Option Addr) (n c n' c' : Nat), (binOp .neq 51 (.slice a n c) (.slice none n' c')).run Tryz.prog w = .ok (.bool !a.isNone) w := fun w a n c n' c' => run_neq_slice_nil_any w _ _ a n c n' c' Tryz.underlying51
  have q2 : (k : Int) ≤ (d : Int) := by omega
  have q3 : (d : Int) ≤ (dc : Int) := by omega
  have hb : xb < w.heap.size := cell_lt h1
  by_cases hin : k = dc
  · obtain rfl : d = k := by omega
    subst hin
    go_enter Tryz.func33, Tryz.ntmps33
    go_wp2_with fail
    refine bodyPost_ret (v := .agg #[.slice (some ⟨ab, o, none⟩) (d - d) (d - d), .slice none 0 0]) (by simp [results, Tryz.results33, go_sem]) rfl ⟨_, rfl, fun h => by omega, Kept.alloc _ _⟩
  · have q4 : ¬ dc = k := fun e => hin e.symm
    go_enter Tryz.func33, Tryz.ntmps33
    go_wp2_with fail
    refine bodyPost_ret (v := .agg #[.slice (some ⟨ab, o + k, none⟩) (d - k) (dc - k), .slice none 0 0]) (by simp [results, Tryz.results33, go_sem]) rfl ⟨_, rfl, fun _ => rfl, Kept.alloc _ _⟩

set_option maxHeartbeats 1000000 in
set_option maxRecDepth 100000 in
/-- Of no numbers. -/
theorem slice_nil (ib : Nat) (w : World) (h1 : w.cell? ⟨ib, 1, none⟩ = some (.slice none 0 0)) (h2 : w.cell? ⟨ib, 2, none⟩ = some (.slice none 0 0)) :
    Calls Tryz.prog 33 #[.pointer (some ⟨ib, 1, none⟩), .int .i64 0, .int .i64 0] w fun e w' =>
      e = .returned (.agg #[.slice none 0 0, .slice none 0 0]) ∧ Kept (fun _ _ => False) w w' := by
  have q1 : ∀ (w : World) (a : Option Addr) (n c n' c' : Nat), (binOp .neq 51 (.slice a n c) (.slice none n' c')).run Tryz.prog w = .ok (.bool !a.isNone) w := fun w a n c n' c' => run_neq_slice_nil_any w _ _ a n c n' c' Tryz.underlying51
  have hb : ib < w.heap.size := cell_lt h1
  go_enter Tryz.func33, Tryz.ntmps33
  go_wp2_with fail
  refine bodyPost_ret (v := .agg #[.slice none 0 0, .slice none 0 0]) (by simp [results, Tryz.results33, go_sem]) rfl ⟨rfl, Kept.alloc _ _⟩

/-- What was not there counts for nothing. -/
theorem Kept.old {R : Nat → Nat → Prop} {w w' : World} (h : Kept (fun x y => R x y ∨ w.heap.size ≤ x) w w') : Kept R w w' := h.mono fun x y hx hr => by rcases hr with hr | hr; exact hr; omega
/-- What the package and the library lay. -/
structure Laid (q1 q2 : Addr) (w : World) : Prop where
  errs : Errs q1 q2 w
  most : Most w
theorem Laid.kept {q1 q2 : Addr} {w w' : World} {R : Nat → Nat → Prop} (h : Laid q1 q2 w) (k : Kept R w w') (hR : ∀ x y, x < 5 → ¬ R x y) : Laid q1 q2 w' :=
  ⟨⟨by rw [k.cell _ _ (cell_lt h.errs.1) (hR _ _ (by decide))]; exact h.errs.1, by rw [k.cell _ _ (cell_lt h.errs.2) (hR _ _ (by decide))]; exact h.errs.2⟩, by unfold Most; rw [k.cell _ _ (cell_lt h.most) (hR _ _ (by decide))]; exact h.most⟩

set_option maxHeartbeats 12800000 in
set_option maxRecDepth 100000 in
/-- An index of some bytes is read. -/
theorem read_pos (full : Bool) (ib rb sb N : Nat) (t L l : List UInt8) (g : Nat → Nat) (q1 q2 : Addr) (w : World) (hL : IsSaved t g L) (hl : Cand full L l) (hn0 : 0 < t.length) (hn : t.length < 16777216) (hg : ∀ j, j < t.length → g j < t.length)
    (hR : Rd w rb sb N 0 l) (hN : N ≤ 1073741824) (hi : ∀ j, j < 3 → w.cell? ⟨ib, j, none⟩ = some (.slice none 0 0)) (hif : ∀ j, w.frozen? ⟨ib, j, none⟩ = false) (hQ : Laid q1 q2 w) (hib : 5 ≤ ib) (hrb : 5 ≤ rb) (_hsb : 5 ≤ sb) (hir : ib ≠ rb) (his : ib ≠ sb) (hrs : rb ≠ sb) (hsl : sb < w.heap.size) :
    Calls Tryz.prog 20 #[.pointer (some ⟨ib, 0, none⟩), .iface 58 (.pointer (some ⟨rb, 0, none⟩))] w (ReadPost ib rb t.length (fun j => (t.getD j 0).toNat) g full w) := by
  obtain ⟨n, hnt⟩ : ∃ n, n = t.length := ⟨_, rfl⟩
  obtain ⟨hd, p, rfl, hhd, hpk⟩ := hL
  rw [← hnt] at hn0 hn hg hhd hpk ⊢
  obtain ⟨i8, hi8, hz8, hs8, hb8⟩ := info_parts info_u8
  obtain ⟨i3, hi3, hz3, hs3, hb3⟩ := info_parts info_i32
  have hc0 := hi 0 (by omega)
  have hc1 := hi 1 (by omega)
  have hc2 := hi 2 (by omega)
  have hibs : ib < w.heap.size := cell_lt hc0
  have hrbs : rb < w.heap.size := cell_lt hR.pos
  -- the buffer
  obtain ⟨w1, hmk1, hF1, hk1, hlt1⟩ := make_row (P := Tryz.prog) w 22 5 .u8 i8 Tryz.underlying22 hi8 hz8 hs8 (by rw [hb8]; omega) 16384 (by omega)
  have hmkb : (Instr.makeSlice 22 (.int .i64 16384) (.int .i64 16384)).run Tryz.prog w = .ok (.slice (some ⟨w.heap.size, 0, none⟩) 16384 16384) w1 := hmk1
  have hR1 := hR.kept hk1 (fun _ h => h) (fun _ h => h)
  have hQ1 := hQ.kept hk1 (fun _ _ _ h => h)
  have hF1' : Row w1 .u8 w.heap.size 0 16384 (fun j => (((fun _ => 0 : Nat → UInt8) j).toNat : Int)) := hF1
  have hEr1 : rb ≠ 3 ∧ w.heap.size ≠ 3 ∧ rb ≠ 4 ∧ w.heap.size ≠ 4 := by omega
  rcases Cand.step hl with ⟨hfull, hshort⟩ | ⟨l1, rfl, hl1⟩
  · -- the head is cut off
    rw [hhd.1] at hshort
    have HRI := Lib.hid (readInt_short rb sb N 0 w.heap.size l (fun _ => 0) q1 q2 w1 hR1 hshort hQ1.errs hN hF1' (by omega) (by omega) hrs hEr1)
    have HK := Lib.hid hk1
    have HFU := Lib.hid hfull
    clear hi hif hR hQ hl hhd hpk hg hnt hc0 hc1 hc2 hmk1 hF1 hk1 hR1 hQ1 hF1' hshort hi8 hz8 hs8 hb8 hi3 hz3 hs3 hb3 hfull hEr1
    go_enter Tryz.func20, Tryz.ntmps20
    go_wp2_with fail
    refine HRI.out.mono ?_
    rintro e w2 ⟨x, q, rfl, hk⟩
    have HK2 := Lib.hid hk
    clear hk
    go_wp2_with fail
    go_ret
    exact ⟨Kept.old ((HK.out.mono fun _ _ _ hf => hf.elim).trans (HK2.out.mono fun x _ _ hr => by rcases hr with hr | hr; exact .inl (.inl hr); exact .inr (by omega))), .inr ⟨HFU.out, q, rfl⟩⟩
  · have HRI := Lib.hid (readInt_ok rb sb N 0 w.heap.size n hd l1 (fun _ => 0) w1 hR1 hhd (by omega) hN hF1' (by omega) (by omega) hrs)
    have HQ1 := Lib.hid hQ1
    have HK1 := Lib.hid hk1
    have HG := Lib.hid hg
    have HNT := Lib.hid hnt
    have HL1 := Lib.hid hl1
    have HPK := Lib.hid hpk
    have HEr1 := Lib.hid hEr1
    have hc1' : ∀ j, j < 3 → w1.cell? ⟨ib, j, none⟩ = some (.slice none 0 0) := fun j hj => by rw [hk1.cell _ _ hibs (fun hf => hf)]; exact hi j hj
    have hif1 : ∀ j, w1.frozen? ⟨ib, j, none⟩ = false := fun j => by rw [hk1.frozen _ _ hibs]; exact hif j
    have HI1 := Lib.hid (And.intro hc1' hif1)
    have HI8 := Lib.hid (And.intro hi8 (And.intro hz8 (And.intro hs8 hb8)))
    have HI3 := Lib.hid (And.intro hi3 (And.intro hz3 (And.intro hs3 hb3)))
    have hw2n : IntKind.i64.wrap (2 * (n : Int)) = 2 * (n : Int) := IntWalk.i64_in _ (by omega)
    have qn1 : ¬ 2 * (n : Int) < 0 := by omega
    have qn2 : (0 : Int) < (n : Int) := by omega
    have qn3 : ¬ (n : Int) < 0 := by omega
    have qn4 : (n : Int) ≤ 2147483647 := by omega
    clear hi hif hR hQ hl hl1 hhd hpk hg hnt hc0 hc1 hc2 hmk1 hF1 hR1 hQ1 hF1' hi8 hz8 hs8 hb8 hi3 hz3 hs3 hb3 hEr1 hc1' hif1
    go_enter Tryz.func20, Tryz.ntmps20
    go_wp2_with fail
    refine HRI.out.mono ?_
    rintro e w2 ⟨D1, rfl, hrd2, hfb2, hk2⟩
    -- the worlds up to the text's reading
    have hs1 := hk2.size
    have hi2 : ∀ j, j < 3 → w2.cell? ⟨ib, j, none⟩ = some (.slice none 0 0) := fun j hj => by
      have := HI1.out.1 j hj
      rw [hk2.cell _ _ (cell_lt this) (by rintro (e | e) <;> omega)]; exact this
    have hf2 : ∀ j, w2.frozen? ⟨ib, j, none⟩ = false := fun j => by rw [hk2.frozen _ _ (by omega)]; exact HI1.out.2 j
    have hQ2 := HQ1.out.kept hk2 (fun x _ hx hr => by rcases hr with hr | hr <;> omega)
    obtain ⟨w3, hmk2, hT3, hk3, hlt3⟩ := make_row (P := Tryz.prog) w2 22 5 .u8 i8 Tryz.underlying22 HI8.out.1 HI8.out.2.1 HI8.out.2.2.1 (by rw [HI8.out.2.2.2]; omega) n (by omega)
    have hi3' : ∀ j, j < 3 → w3.cell? ⟨ib, j, none⟩ = some (.slice none 0 0) := fun j hj => by rw [hk3.cell _ _ (by omega) (fun h => h)]; exact hi2 j hj
    have hf3 : ∀ j, w3.frozen? ⟨ib, j, none⟩ = false := fun j => by rw [hk3.frozen _ _ (by omega)]; exact hf2 j
    have a0 := hi2 0 (by omega)
    have b0 := hi3' 0 (by omega)
    have b1 := hi3' 1 (by omega)
    have b2 := hi3' 2 (by omega)
    have c0 := hf3 0
    have c1 := hf3 1
    have c2 := hf3 2
    obtain ⟨V, hV⟩ : ∃ V, V = ((w3.setCell ⟨ib, 0, none⟩ (.slice (some ⟨w2.heap.size, 0, none⟩) n n)).setCell ⟨ib, 1, none⟩ (.slice none 0 0)).setCell ⟨ib, 2, none⟩ (.slice none 0 0) := ⟨_, rfl⟩
    have hkV : Kept (fun x _ => x = ib) w3 V := by rw [hV]; exact ((Kept.setCell (R := fun x _ => x = ib) rfl).trans (Kept.setCell (R := fun x _ => x = ib) rfl)).trans (Kept.setCell (R := fun x _ => x = ib) rfl)
    have hsVe : V.heap.size = w3.heap.size := by rw [hV]; simp [World.setCell]
    have hsV := hkV.size
    have hs3' := hk3.size
    have v0 : V.cell? ⟨ib, 0, none⟩ = some (.slice (some ⟨w2.heap.size, 0, none⟩) n n) := by
      rw [hV, setCell_cell _ _ (by simp), setCell_cell _ _ (by simp)]; exact setCell_cell_same b0
    have v1 : V.cell? ⟨ib, 1, none⟩ = some (.slice none 0 0) := by
      rw [hV, setCell_cell _ _ (by simp)]
      refine setCell_cell_same (u := .slice none 0 0) ?_
      rw [setCell_cell _ _ (by simp)]; exact b1
    have v2 : V.cell? ⟨ib, 2, none⟩ = some (.slice none 0 0) := by
      rw [hV]
      refine setCell_cell_same (u := .slice none 0 0) ?_
      rw [setCell_cell _ _ (by simp), setCell_cell _ _ (by simp)]; exact b2
    have hmV : V.cell? ⟨0, 0, none⟩ = some (.int .i64 2147483647) := (hQ2.kept (hk3.mono (S := fun x _ => x = ib) fun _ _ _ h => h.elim) (fun x _ hx hr => by omega) |>.kept hkV (fun x _ hx hr => by omega)).most
    obtain ⟨w5, hmk5, hT5, hk5, hlt5⟩ := make_row (P := Tryz.prog) V 51 21 .i32 i3 Tryz.underlying51 HI3.out.1 HI3.out.2.1 HI3.out.2.2.1 (by rw [HI3.out.2.2.2]; omega) n (by omega)
    rw [hsVe] at hmk5 hT5
    have d0 : w5.cell? ⟨ib, 0, none⟩ = some (.slice (some ⟨w2.heap.size, 0, none⟩) n n) := by rw [hk5.cell _ _ (by omega) (fun h => h)]; exact v0
    have d1 : w5.cell? ⟨ib, 1, none⟩ = some (.slice none 0 0) := by rw [hk5.cell _ _ (by omega) (fun h => h)]; exact v1
    have e1 : w5.frozen? ⟨ib, 1, none⟩ = false := by rw [hk5.frozen _ _ (by omega), hkV.frozen _ _ (by omega)]; exact c1
    obtain ⟨w6, hw6⟩ : ∃ w6, w6 = w5.setCell ⟨ib, 1, none⟩ (.slice (some ⟨w3.heap.size, 0, none⟩) n n) := ⟨_, rfl⟩
    have hk6 : Kept (fun x _ => x = ib) w5 w6 := by rw [hw6]; exact Kept.setCell rfl
    have x0 : w6.cell? ⟨ib, 0, none⟩ = some (.slice (some ⟨w2.heap.size, 0, none⟩) n n) := by rw [hw6, setCell_cell _ _ (by simp), hk5.cell _ _ (by omega) (fun h => h)]; exact v0
    have x1 : w6.cell? ⟨ib, 1, none⟩ = some (.slice (some ⟨w3.heap.size, 0, none⟩) n n) := by rw [hw6]; exact setCell_cell_same d1
    have x2 : w6.cell? ⟨ib, 2, none⟩ = some (.slice none 0 0) := by rw [hw6, setCell_cell _ _ (by simp), hk5.cell _ _ (by omega) (fun h => h)]; exact v2
    -- all that turned since the number was read
    have hk26 : Kept (fun x _ => x = ib) w2 w6 := ((((hk3.mono fun _ _ _ h => h.elim).trans hkV).trans (hk5.mono fun _ _ _ h => h.elim)).trans hk6)
    have hT6 : Row w6 .u8 w2.heap.size 0 n (fun j => (((fun _ => 0 : Nat → UInt8) j).toNat : Int)) := ((hT3.kept hkV fun _ _ h => by omega).keptAll hk5).kept hk6 fun _ _ h => by omega
    have hA6 : Row w6 .i32 w3.heap.size 0 n (fun _ => 0) := hT5.kept hk6 fun _ _ h => by omega
    have hrd6 := hrd2.kept hk26 (fun _ h => hir h.symm) (fun _ h => his h.symm)
    have hfb6 := hfb2.kept hk26 (fun _ _ h => by omega)
    have hQ6 := hQ2.kept hk26 (fun x _ hx h => by omega)
    have hs5 := hk5.size
    have hs6 := hk6.size
    rw [hV] at hmk5 hmV
    have HV := Lib.hid hV
    have HW6 := Lib.hid hw6
    have HB := Lib.hid (And.intro hrd6 (And.intro hfb6 (And.intro hQ6 (And.intro hT6 (And.intro hA6 (And.intro hk26 hk2))))))
    have HX6 := Lib.hid (And.intro x0 (And.intro x1 x2))
    clear hi2 hf2 hQ2 hT3 hk3 hi3' hf3 hV hkV v0 v1 v2 hT5 hk5 hw6 hk6 hk26 hT6 hA6 hrd6 hfb6 hQ6 hrd2 hfb2 hk2
    clear x0 x1 x2
    go_wp2_with fail
    rw [← HW6.out]
    obtain ⟨hrd6, hfb6, hQ6, hT6, hA6, hk26, hk2⟩ := HB.out
    have hEr6 : rb ≠ 3 ∧ w2.heap.size ≠ 3 ∧ rb ≠ 4 ∧ w2.heap.size ≠ 4 := by omega
    rcases Cand.step HL1.out with ⟨hfull, hshort⟩ | ⟨l2, hle2, hl2⟩
    · -- the text is cut off
      rw [← HNT.out] at hshort
      have HRF := Lib.hid (full_short rb sb N (0 + 10) w2.heap.size 0 n n n l1 (fun _ => 0) q1 q2 w6 hrd6 hshort hQ6.errs (by omega) hN hT6 (by omega) (Nat.le_refl _) (by omega) (by omega) hrs hEr6)
      have HFU := Lib.hid hfull
      clear hrd6 hfb6 hQ6 hT6 hA6 hk26 hk2 hshort hfull hEr6
      refine HRF.out.mono ?_
      rintro e w7 ⟨k, q, D7, rfl, _, hk7⟩
      have HK7 := Lib.hid hk7
      clear hk7
      go_wp2_with fail
      go_ret
      obtain ⟨_, _, _, _, _, hk26, hk2⟩ := HB.out
      refine ⟨Kept.old ((((HK1.out.mono fun _ _ _ hf => hf.elim).trans (hk2.mono fun x _ _ hr => ?_)).trans (hk26.mono fun x _ _ hr => ?_)).trans (HK7.out.mono fun x _ _ hr => ?_)), .inr ⟨HFU.out, q, rfl⟩⟩
      · rcases hr with hr | hr
        · exact .inl (.inl hr)
        · exact .inr (by omega)
      · exact .inl (.inr hr)
      · rcases hr with hr | hr
        · exact .inl (.inl hr)
        · exact .inr (by omega)
    · -- the text is there
      subst hle2
      have HRF := Lib.hid (full_full rb sb N (0 + 10) w2.heap.size 0 n n t l2 (fun _ => 0) w6 hrd6 (by rw [← HNT.out]; exact hn0) hN hT6 (by rw [← HNT.out]; omega) (by rw [← HNT.out]; exact Nat.le_refl _) (by omega) (by omega) hrs)
      rw [← HNT.out] at HRF
      have HL2 := Lib.hid hl2
      clear hrd6 hfb6 hQ6 hT6 hA6 hk26 hk2 hl2 hEr6
      refine HRF.out.mono ?_
      rintro e w7 ⟨rfl, hrd7, hT7, hk7⟩
      obtain ⟨hrd6, hfb6, hQ6, hT6, hA6, hk26, hk2⟩ := HB.out
      have hs7 := hk7.size
      have y0 : w7.cell? ⟨ib, 0, none⟩ = some (.slice (some ⟨w2.heap.size, 0, none⟩) n n) := by rw [hk7.cell _ _ (by omega) (by rintro (e | e) <;> omega)]; exact HX6.out.1
      have y1 : w7.cell? ⟨ib, 1, none⟩ = some (.slice (some ⟨w3.heap.size, 0, none⟩) n n) := by rw [hk7.cell _ _ (by omega) (by rintro (e | e) <;> omega)]; exact HX6.out.2.1
      have y2 : w7.cell? ⟨ib, 2, none⟩ = some (.slice none 0 0) := by rw [hk7.cell _ _ (by omega) (by rintro (e | e) <;> omega)]; exact HX6.out.2.2
      have hA7 := hA6.kept hk7 (fun j _ hr => by rcases hr with hr | hr <;> omega)
      have hfb7 := hfb6.kept hk7 (fun j _ hr => by rcases hr with hr | hr <;> omega)
      have hQ7 := hQ6.kept hk7 (fun x _ hx hr => by rcases hr with hr | hr <;> omega)
      have HB7 := Lib.hid (And.intro hrd7 (And.intro hfb7 (And.intro hQ7 (And.intro hT7 (And.intro hA7 (And.intro hk7 (And.intro hk26 hk2)))))))
      clear hrd6 hfb6 hQ6 hT6 hA6 hk26 hk2 hrd7 hfb7 hQ7 hT7 hA7 hk7
      -- the box of the numbers
      obtain ⟨W, hW⟩ : ∃ W, W = w7.alloc (.cells #[.slice (some ⟨w3.heap.size, 0, none⟩) n n, .slice none 0 0] 54) := ⟨_, rfl⟩
      have hkW : Kept (fun _ _ => False) w7 W := by rw [hW]; exact Kept.alloc _ _
      have hsW : W.heap.size = w7.heap.size + 1 := by rw [hW]; simp
      have z0 : W.cell? ⟨w7.heap.size, 0, none⟩ = some (.slice (some ⟨w3.heap.size, 0, none⟩) n n) := by rw [hW, World.cell?_alloc_at _ _ _ _ rfl]; rfl
      have z1 : W.cell? ⟨w7.heap.size, 1, none⟩ = some (.slice none 0 0) := by rw [hW, World.cell?_alloc_at _ _ _ _ rfl]; rfl
      have zf : ∀ y, W.frozen? ⟨w7.heap.size, y, none⟩ = false := fun y => by rw [hW, World.frozen?_alloc_at _ _ _ _ rfl]
      have HW := Lib.hid hW
      have HZ := Lib.hid (And.intro z0 (And.intro z1 (And.intro zf hkW)))
      have hwu : IntKind.u64.wrap (n : Int) = (n : Int) := by rw [IntKind.wrap_u64]; omega
      clear hW hkW z0 z1 zf
      go_wp2_with fail
      rw [← HW.out]
      go_loopw [4] (fun u wr => ∃ (o i : Nat) (pp ll : List UInt8) (D : Nat → UInt8) (a : Option Addr), u = .nilIface ∧ o ≤ n ∧ IsPacked g n o pp ∧ Cand full pp ll ∧ Rd wr rb sb N i ll ∧ Row wr .u8 w.heap.size 0 16384 (fun j => ((D j).toNat : Int)) ∧
          Row wr .i32 w3.heap.size 0 n (fun j => if j < o then (g j : Int) else 0) ∧ wr.cell? ⟨w7.heap.size, 0, none⟩ = some (.slice a (n - o) (n - o)) ∧ (o < n → a = some ⟨w3.heap.size, o, none⟩) ∧ wr.cell? ⟨w7.heap.size, 1, none⟩ = some (.slice none 0 0) ∧
          Kept (fun x _ => x = rb ∨ x = w.heap.size ∨ x = w3.heap.size ∨ x = w7.heap.size) W wr)
        (fun _ wr => boxLen w7.heap.size wr)
      case atStart =>
        obtain ⟨z0, z1, zf, hkW⟩ := HZ.out
        obtain ⟨hrd7, hfb7, hQ7, hT7, hA7, hk7, hk26, hk2⟩ := HB7.out
        exact ⟨0, _, p, l2, D1, _, rfl, Nat.zero_le _, HPK.out, HL2.out, hrd7.kept hkW (fun _ h => h) (fun _ h => h), hfb7.keptAll hkW, (hA7.keptAll hkW).congr fun j _ => by simp, z0, fun _ => rfl, z1, Kept.refl _ _⟩
      case round =>
        obtain ⟨o, i, pp, ll, D, a, rfl, ho, hP, hC, hrd, hfb, hA, x0, ha, x1, hK⟩ := hrel
        have hsK := hK.size
        have hQr : Laid q1 q2 wr := (HB7.out.2.2.1.kept HZ.out.2.2.2 (fun _ _ _ h => h)).kept hK (fun x _ hx hr => by rcases hr with hr | hr | hr | hr <;> omega)
        have hzf : ∀ y, wr.frozen? ⟨w7.heap.size, y, none⟩ = false := fun y => by rw [hK.frozen _ _ (by omega)]; exact HZ.out.2.2.1 y
        have HLN := Lib.hid (len_of w7.heap.size 0 (n - o) (n - o) a wr x0 x1 (by omega))
        rcases hP.cases with ⟨rfl, rfl⟩ | ⟨hon, k, hd', r, rfl, hk0, hok, hhd', hle', hP'⟩
        · -- all is read
          obtain ⟨hrd7, hfb7, hQ7, hT7, hA7, hk7, hk26, hk2⟩ := HB7.out
          obtain ⟨z0, z1, zf, hkW⟩ := HZ.out
          have hfull := hC.nil
          have hkall : Kept (fun x _ => x = rb ∨ x = ib) w wr := by
            refine Kept.old ((((((HK1.out.mono fun _ _ _ hf => hf.elim).trans (hk2.mono fun x _ _ hr => ?_)).trans (hk26.mono fun x _ _ hr => ?_)).trans (hk7.mono fun x _ _ hr => ?_)).trans (hkW.mono fun _ _ _ hf => hf.elim)).trans (hK.mono fun x _ _ hr => ?_))
            · rcases hr with hr | hr
              · exact .inl (.inl hr)
              · exact .inr (by omega)
            · exact .inl (.inr hr)
            · rcases hr with hr | hr
              · exact .inl (.inl hr)
              · exact .inr (by omega)
            · rcases hr with hr | hr | hr | hr
              · exact .inl (.inl hr)
              · exact .inr (by omega)
              · exact .inr (by omega)
              · exact .inr (by omega)
          have up : ∀ {x y : Nat} {v : Value}, w7.cell? ⟨x, y, none⟩ = some v → x ≠ rb → x ≠ w.heap.size → x ≠ w3.heap.size → x < w7.heap.size → wr.cell? ⟨x, y, none⟩ = some v := fun {x y v} hv e1 e2 e3 e4 => by
            rw [hK.cell _ _ (by omega) (by rintro (e | e | e | e) <;> omega), hkW.cell _ _ e4 (fun h => h)]; exact hv
          have hlx : Lx wr ib o (fun j => (t.getD j 0).toNat) g := by
            refine .inl ⟨hn0, w2.heap.size, w3.heap.size, up y0 hir (by omega) (by omega) (by omega), up y1 hir (by omega) (by omega) (by omega), up y2 hir (by omega) (by omega) (by omega), fun j hj => ?_, fun j hj => ?_, fun _ => rfl, Nat.le_refl _⟩
            · have h8 := hT7.cell j hj
              rw [if_pos (by omega), Nat.sub_zero] at h8
              exact up h8 (by omega) (by omega) (by omega) (by omega)
            · have h8 := hA.cell j hj
              rw [if_pos hj] at h8
              exact h8
          have HEND := Lib.hid (And.intro hkall (And.intro hfull hlx))
          clear hrd7 hfb7 hQ7 hT7 hA7 hk7 hk26 hk2 z0 z1 zf hkW hfull hkall up hlx hP hC hrd hfb hA ha hK hQr hzf x0 x1
          rw [Nat.sub_self] at HLN
          go_wp2_with fail
          refine HLN.out.mono ?_
          rintro e w9 ⟨rfl, m, rfl⟩
          go_wp2_with fail
          go_ret
          exact ⟨HEND.out.1.drewN m, .inl ⟨HEND.out.2.1, rfl, HEND.out.2.2.kept ((Kept.refl _ wr).drewN m)⟩⟩
        · -- a stretch more
          have haa := ha hon
          subst haa
          obtain ⟨E, hE⟩ : ∃ E, E = encs (fun t => g (o + t)) k := ⟨_, rfl⟩
          have hEr9 : rb ≠ 3 ∧ w.heap.size ≠ 3 ∧ rb ≠ 4 ∧ w.heap.size ≠ 4 := by omega
          have qd1 : (0 : Int) < ((n - o : Nat) : Int) := by omega
          have qd2 : 0 < n - o := by omega
          have qd3 : o < n := hon
          have HK9 := Lib.hid hK
          have p1 := hzf 0
          have p2 := hzf 1
          have HCASE : Hid ((full = false ∧ (ll.length < 10 ∨ ∃ l9, ll = hd' ++ l9 ∧ l9.length < E.length)) ∨ ∃ l9, ll = hd' ++ (E ++ l9) ∧ Cand full r l9) := Lib.hid (by
            rcases Cand.step hC with ⟨h1, h2⟩ | ⟨l8, rfl, h2⟩
            · exact .inl ⟨h1, .inl (by rw [hhd'.1] at h2; exact h2)⟩
            · rw [← hE] at h2
              rcases Cand.step h2 with ⟨h3, h4⟩ | ⟨l9, rfl, h4⟩
              · exact .inl ⟨h3, .inr ⟨l8, rfl, h4⟩⟩
              · exact .inr ⟨l9, rfl, h4⟩)
          rcases HCASE.out with ⟨hfull, hshort⟩ | ⟨l9, rfl, hC9⟩
          · have HRS := Lib.hid (fun m => readSlice_short rb sb N i w.heap.size E.length hd' ll w3.heap.size o (n - o) (n - o) n D q1 q2 (wr.drewN m) (hrd.drewN m) hshort (by rw [hE]; exact hhd') (by rw [hE]; exact hle') (hQr.errs) hN (hfb.drewN m) (by omega) (by omega) hrs hEr9)
            have HFU := Lib.hid hfull
            clear hP hC hrd hfb hA ha hK hQr hzf hE hEr9 hshort hfull hhd' hle' hP' HCASE
            go_wp2_with fail
            refine HLN.out.mono ?_
            rintro e w9 ⟨rfl, m, rfl⟩
            go_wp2_with fail
            refine (HRS.out m).mono ?_
            rintro e w10 ⟨q, rfl, hk10⟩
            have HK10 := Lib.hid hk10
            clear hk10
            go_wp2_with fail
            go_ret
            obtain ⟨hrd7, hfb7, hQ7, hT7, hA7, hk7, hk26, hk2⟩ := HB7.out
            obtain ⟨z0, z1, zf, hkW⟩ := HZ.out
            refine ⟨Kept.old ((((((((HK1.out.mono fun _ _ _ hf => hf.elim).trans (hk2.mono fun x _ _ hr => ?_)).trans (hk26.mono fun x _ _ hr => ?_)).trans (hk7.mono fun x _ _ hr => ?_)).trans (hkW.mono fun _ _ _ hf => hf.elim)).trans (HK9.out.mono fun x _ _ hr => ?_)).drewN m).trans (HK10.out.mono fun x _ _ hr => ?_)), .inr ⟨HFU.out, q, rfl⟩⟩
            · rcases hr with hr | hr
              · exact .inl (.inl hr)
              · exact .inr (by omega)
            · exact .inl (.inr hr)
            · rcases hr with hr | hr
              · exact .inl (.inl hr)
              · exact .inr (by omega)
            · rcases hr with hr | hr | hr | hr
              · exact .inl (.inl hr)
              · exact .inr (by omega)
              · exact .inr (by omega)
              · exact .inr (by omega)
            · rcases hr with hr | hr
              · exact .inl (.inl hr)
              · exact .inr (by omega)
          · rw [hE] at hrd
            have HRS := Lib.hid (fun m => readSlice_ok rb sb N i w.heap.size w3.heap.size o (n - o) (n - o) n k g hd' l9 D (fun j => if j < o then (g j : Int) else 0) (wr.drewN m) (hrd.drewN m) hhd' hle' hk0 (by omega) (by omega) (by omega) HG.out hN (hfb.drewN m) (hA.drewN m) (by omega) (by omega) hrs (by omega) (by omega) (by omega))
            have HC9 := Lib.hid (And.intro hC9 (And.intro hP' hok))
            clear hP hC hrd hfb hA ha hK hQr hzf hE hEr9 hhd' hle' hP' HCASE hC9
            go_wp2_with fail
            refine HLN.out.mono ?_
            rintro e w9 ⟨rfl, m, rfl⟩
            go_wp2_with fail
            refine (HRS.out m).mono ?_
            rintro e w10 ⟨i', D', rfl, hrd', hfb', hA', hk10⟩
            have hs10 : wr.heap.size ≤ w10.heap.size := hk10.size
            have t0 : w10.cell? ⟨w7.heap.size, 0, none⟩ = some (.slice (some ⟨w3.heap.size, o, none⟩) (n - o) (n - o)) := by rw [hk10.cell _ _ (by show w7.heap.size < wr.heap.size; omega) (by rintro (e | e | e) <;> omega)]; exact x0
            have t1 : w10.cell? ⟨w7.heap.size, 1, none⟩ = some (.slice none 0 0) := by rw [hk10.cell _ _ (by show w7.heap.size < wr.heap.size; omega) (by rintro (e | e | e) <;> omega)]; exact x1
            have t2 : ∀ y, y < 2 → w10.frozen? ⟨w7.heap.size, y, none⟩ = false := fun y hy => by
              rw [hk10.frozen _ _ (by show w7.heap.size < wr.heap.size; omega)]
              rcases (show y = 0 ∨ y = 1 by omega) with rfl | rfl
              · exact p1
              · exact p2
            have HL10 := Lib.hid (len_of w7.heap.size 0 (n - o) (n - o) _ w10 t0 t1 (by omega))
            have HSL := Lib.hid (fun m2 => slice_of w7.heap.size w3.heap.size o (n - o) (n - o) k (w10.drewN m2) t0 (by have := HC9.out.2.2; omega) (Nat.le_refl _) (by omega))
            have HB10 := Lib.hid (And.intro hrd' (And.intro hfb' (And.intro hA' (And.intro hk10 (And.intro t0 (And.intro t1 t2))))))
            clear hrd' hfb' hA' hk10 t2
            go_wp2_with fail
            refine HL10.out.mono ?_
            rintro e w11 ⟨rfl, m2, rfl⟩
            go_wp2_with fail
            refine (HSL.out m2).mono ?_
            rintro e w12 ⟨a', rfl, ha', hk12⟩
            have hs12 : w10.heap.size ≤ w12.heap.size := hk12.size
            have u0 : w12.cell? ⟨w7.heap.size, 0, none⟩ = some (.slice (some ⟨w3.heap.size, o, none⟩) (n - o) (n - o)) := by rw [hk12.cell _ _ (by show w7.heap.size < w10.heap.size; omega) (fun h => h)]; exact t0
            have u1 : w12.cell? ⟨w7.heap.size, 1, none⟩ = some (.slice none 0 0) := by rw [hk12.cell _ _ (by show w7.heap.size < w10.heap.size; omega) (fun h => h)]; exact t1
            have u2 : w12.frozen? ⟨w7.heap.size, 0, none⟩ = false := by rw [hk12.frozen _ _ (by show w7.heap.size < w10.heap.size; omega)]; exact HB10.out.2.2.2.2.2.2 0 (by omega)
            have u3 : w12.frozen? ⟨w7.heap.size, 1, none⟩ = false := by rw [hk12.frozen _ _ (by show w7.heap.size < w10.heap.size; omega)]; exact HB10.out.2.2.2.2.2.2 1 (by omega)
            have HB12 := Lib.hid (And.intro ha' hk12)
            clear ha' hk12 t0 t1
            go_wp2_with fail
            go_roundw
            case rel =>
              obtain ⟨hrd', hfb', hA', hk10, t0, t1, t2⟩ := HB10.out
              obtain ⟨ha', hk12⟩ := HB12.out
              obtain ⟨hC9, hP', hok⟩ := HC9.out
              have hkx : Kept (fun x _ => x = w7.heap.size) w10 ((w12.setCell ⟨w7.heap.size, 0, none⟩ (.slice a' (n - o - k) (n - o - k))).setCell ⟨w7.heap.size, 1, none⟩ (.slice none 0 0)) :=
                ((((Kept.refl _ w10).drewN m2).trans (hk12.mono fun _ _ _ h => h.elim)).trans (Kept.setCell (R := fun x _ => x = w7.heap.size) rfl)).trans (Kept.setCell (R := fun x _ => x = w7.heap.size) rfl)
              have hno : n - o - k = n - (o + k) := by omega
              refine ⟨o + k, i', r, l9, D', a', rfl, hok, hP', hC9, hrd'.kept hkx (fun _ e => by omega) (fun _ e => by omega), hfb'.kept hkx (fun _ _ e => by omega), (hA'.kept hkx (fun _ _ e => by omega)).congr fun j hj => ?_, ?_, fun h => ha' (by omega), ?_, ?_⟩
              · by_cases e : j < o + k
                · rw [if_pos e]
                  by_cases e2 : o ≤ j
                  · rw [if_pos ⟨e2, e⟩]
                  · rw [if_neg (by omega), if_pos (by omega)]
                · rw [if_neg e, if_neg (by omega), if_neg (by omega)]
              · rw [setCell_cell _ _ (by simp), ← hno]
                exact setCell_cell_same u0
              · refine setCell_cell_same (u := .slice none 0 0) ?_
                rw [setCell_cell _ _ (by simp)]
                exact u1
              · exact (((HK9.out.drewN m).trans (hk10.mono fun x _ _ hr => by rcases hr with hr | hr | hr; exact .inl hr; exact .inr (.inl hr); exact .inr (.inr (.inl hr)))).trans (hkx.mono fun x _ _ hr => .inr (.inr (.inr hr))))
            case measure =>
              have e1 : boxLen w7.heap.size ((w12.setCell ⟨w7.heap.size, 0, none⟩ (.slice a' (n - o - k) (n - o - k))).setCell ⟨w7.heap.size, 1, none⟩ (.slice none 0 0)) = n - o - k := boxLen_of (c := n - o - k) (a := a') (by rw [setCell_cell _ _ (by simp)]; exact setCell_cell_same u0)
              have e2 : boxLen w7.heap.size wr = n - o := boxLen_of x0
              rw [e1, e2]
              omega

end Go.Proofs.YtfpihnfhmefeaaaGreatDoor
namespace Go.Proofs.YtfpihnfhmefeaaaGreatDoor
open Go.RowKit

theorem IsSA.congr {T : Nat → Nat} {n : Nat} {g g' : Nat → Nat} (h : IsSA T n g) (e : ∀ j, j < n → g' j = g j) : IsSA T n g' :=
  ⟨fun r hr => by rw [e r hr]; exact h.mem r hr, fun r r' h1 h2 => by rw [e r (by omega), e r' h2]; exact h.inc r r' h1 h2⟩

theorem Holds.mono {w : World} {P P' : Nat → Prop} {b : Nat} {L : List UInt8} (h : Holds w P b L) (hP : ∀ g, g < w.heap.size → P g → P' g) : Holds w P' b L := by
  obtain ⟨g, cap, cur, hB, ht, hg⟩ := h
  exact ⟨g, cap, cur, hB, ht, hP g (Array.getElem?_eq_some_iff.1 hB.row).1 hg⟩

/-- A text is written behind what the buffer holds. -/
theorem write_text (P : Nat → Prop) (b tb n c : Nat) (a : Option Addr) (L : List UInt8) (T : Nat → Nat) (w : World) (h : Holds w P b L) (hL : 0 < L.length) (hbB : ¬ P b) (hBw : ∀ x, w.heap.size ≤ x → P x) (ha : 0 < n → a = some ⟨tb, 0, none⟩ ∧ ¬ P tb ∧ tb ≠ b)
    (hc : ∀ j, j < n → w.cell? ⟨tb, 0 + j, none⟩ = some (.int .u8 (T j : Int))) (hT : ∀ j, j < n → T j < 256) (hlim : L.length + n ≤ 140737488355328) :
    Calls Tryz.prog 146 #[.pointer (some ⟨b, 0, none⟩), .slice a n c] w fun e w' => e = .returned (.tuple #[.int .i64 n, .nilIface]) ∧ Holds w' P b (L ++ textOf T n) ∧ Kept (fun x _ => x = b ∨ P x) w w' := by
  obtain ⟨g, cap, cur, hB, ht, hg⟩ := h
  have hlL : (Lib.byteCells L).length = L.length := by simp [Lib.byteCells]
  by_cases h0 : n = 0
  · subst h0
    refine (write_none P b g L.length cap c cur (Lib.byteCells L) a w hB ht hlL hg).mono fun e w' hp => ?_
    have := hp.holds
    simpa [textOf] using this
  · obtain ⟨rfl, htP, htb⟩ := ha (by omega)
    have hlt : (Lib.byteCells (textOf T n)).length = n := by simp [Lib.byteCells, textOf]
    refine (write_row P b g L.length cap n c cur (Lib.byteCells L) (Lib.byteCells (textOf T n)) ⟨tb, 0, none⟩ w hB ht hlL hbB hBw hg hL (bytes_one L) hlt (by omega) htb htP (fun j v hj => ?_) (bytes_one _) hlim).mono fun e w' hp => ?_
    · have hj' : j < n := by have := (List.getElem?_eq_some_iff.1 hj).1; omega
      rw [Addr.add_lit, hc j hj', ← hj]
      have := hT j hj'
      simp [Lib.byteCells, textOf, hj', Nat.toUInt8, UInt8.toNat_ofNat']
      omega
    · rw [cells_app] at hp
      exact hp.holds

/-- What a writing leaves. -/
def WritePost (b : Nat) (t : List UInt8) (f : Nat → Nat) (w : World) (e : Ending) (w' : World) : Prop :=
  e = .returned .nilIface ∧ Kept (fun x _ => x = b) w w' ∧ ∃ L, IsSaved t f L ∧ Holds w' (fun x => w.heap.size ≤ x) b L

set_option maxHeartbeats 12800000 in
set_option maxRecDepth 100000 in
/-- An index is written. -/
theorem write_any (ib b tb tc sb n : Nat) (da : Option Addr) (lr : Int) (T f : Nat → Nat) (w : World) (h : Ix w ib da tb tc sb n T f) (hT : ∀ j, j < n → T j < 256) (hf : ∀ j, f j < 1073741824) (hn : n ≤ 1048576)
    (h1 : w.heap[b]? = some (.cells #[.slice none 0 0, .int .i64 0, .int .i8 lr] 43 (0, 0))) (htb : 0 < n → tb ≠ b) (hsb : 0 < n → sb ≠ b) (hib : ib ≠ b) :
    Calls Tryz.prog 17 #[.pointer (some ⟨ib, 0, none⟩), .iface 49 (.pointer (some ⟨b, 0, none⟩))] w (WritePost b (textOf T n) f w) := by
  obtain ⟨i8, hi8, hz8, hs8, hb8⟩ := info_parts info_u8
  have hibs : ib < w.heap.size := cell_lt h.data
  have hbs : b < w.heap.size := (Array.getElem?_eq_some_iff.1 h1).1
  obtain ⟨w1, hmk1, hF1, hk1, hlt1⟩ := make_row (P := Tryz.prog) w 22 5 .u8 i8 Tryz.underlying22 hi8 hz8 hs8 (by rw [hb8]; omega) 16384 (by omega)
  have hmkb : (Instr.makeSlice 22 (.int .i64 16384) (.int .i64 16384)).run Tryz.prog w = .ok (.slice (some ⟨w.heap.size, 0, none⟩) 16384 16384) w1 := hmk1
  have hF1' : Row w1 .u8 w.heap.size 0 16384 (fun j => (((fun _ => 0 : Nat → UInt8) j).toNat : Int)) := hF1
  have h1' : w1.heap[b]? = some (.cells #[.slice none 0 0, .int .i64 0, .int .i8 lr] 43 (0, 0)) := (hk1.block b hbs (fun _ hf => hf)).trans h1
  have hI1 := h.kept hk1
  have p0 := hI1.data
  have HI1 := Lib.hid hI1
  have HWI := Lib.hid (writeInt_first (fun x => w1.heap.size ≤ x) b w.heap.size n lr (fun _ => 0) w1 h1' (by omega) hF1' (by omega) (fun x hx => hx) (by omega) (by omega))
  have HK1 := Lib.hid hk1
  have HT := Lib.hid hT
  have HF := Lib.hid hf
  have HTB := Lib.hid (And.intro htb hsb)
  have htlt : 0 < n → tb < w.heap.size := fun h0 => by have := cell_lt (h.text 0 h0); exact this
  have hslt : 0 < n → sb < w.heap.size := fun h0 => by have := cell_lt (h.nums 0 h0); exact this
  clear h hT hf h1 htb hsb hi8 hz8 hs8 hb8 hmk1 hF1 hk1 hF1' h1' hI1
  go_enter Tryz.func17, Tryz.ntmps17
  go_wp2_with fail
  refine HWI.out.mono ?_
  rintro e w2 ⟨rfl, hd, D2, hhd, hH2, hF2, hk2⟩
  have hs2 := hk2.size
  have HB2 := Lib.hid (And.intro hhd (And.intro hH2 (And.intro hF2 hk2)))
  have r0 : w2.cell? ⟨ib, 0, none⟩ = some (.slice da n tc) := by rw [hk2.cell _ _ (by omega) (by rintro (e | e | e) <;> omega)]; exact p0
  have HWT := Lib.hid (fun m => write_text (fun x => w1.heap.size ≤ x) b tb n tc da hd T (w2.drewN m) (hH2.kept ((Kept.refl (fun _ _ => False) w2).drewN m) (fun _ h => h) (fun _ _ _ h => h)) (by rw [hhd.1]; omega) (by omega) (fun x hx => Nat.le_trans hs2 hx)
    (fun h0 => ⟨HI1.out.here h0, by have := htlt h0; omega, HTB.out.1 h0⟩) (fun j hj => by
      have h8 := HI1.out.text j hj
      have := htlt (by omega)
      show w2.cell? _ = _
      rw [hk2.cell _ _ (cell_lt h8) (by have := HTB.out.1 (by omega); rintro (e | e | e) <;> omega)]
      exact h8) HT.out (by rw [hhd.1]; omega))
  have hna := nil_write ⟨b, 0, none⟩
  have hme := meth_write ⟨b, 0, none⟩
  clear hhd hH2 hF2 hk2
  go_wp2_with fail
  go_region_with (go_at_call 146; refine (HWT.out _).mono ?_; rintro e w3 ⟨rfl, hH3, hk3⟩)
  all_goals (
    -- the box of the numbers
    have hs3 : w2.heap.size ≤ w3.heap.size := hk3.size
    have y1 : w3.cell? ⟨ib, 1, none⟩ = some (.slice (some ⟨sb, 0, none⟩) n n) := by
      have h8 := HI1.out.c32
      rw [hk3.cell _ _ (by show ib < w2.heap.size; omega) (by rintro (e | e) <;> omega)]
      show w2.cell? _ = _
      rw [HB2.out.2.2.2.cell _ _ (cell_lt h8) (by rintro (e | e | e) <;> omega)]
      exact h8
    have y2 : w3.cell? ⟨ib, 2, none⟩ = some (.slice none 0 0) := by
      have h8 := HI1.out.c64
      rw [hk3.cell _ _ (by show ib < w2.heap.size; omega) (by rintro (e | e) <;> omega)]
      show w2.cell? _ = _
      rw [HB2.out.2.2.2.cell _ _ (cell_lt h8) (by rintro (e | e | e) <;> omega)]
      exact h8
    have hk03 : Kept (fun x _ => x = b ∨ w.heap.size ≤ x) w w3 := (((HK1.out.mono fun _ _ _ hf => hf.elim).trans (HB2.out.2.2.2.mono fun x _ _ hr => by rcases hr with hr | hr | hr; exact .inl hr; exact .inr (by omega); exact .inr (by omega))).drewN _).trans (hk3.mono fun x _ _ hr => by rcases hr with hr | hr; exact .inl hr; exact .inr (by omega))
    have hF3 : ∃ D3 : Nat → UInt8, Row w3 .u8 w.heap.size 0 16384 (fun j => ((D3 j).toNat : Int)) := ⟨D2, (HB2.out.2.2.1.drewN _).kept hk3 (fun _ _ hr => by rcases hr with hr | hr <;> omega)⟩
    have hnum : ∀ j, j < n → w3.cell? ⟨sb, 0 + j, none⟩ = some (.int .i32 (f j : Int)) := fun j hj => by
      have h8 := HI1.out.nums j hj
      have h9 := hslt (by omega)
      have h10 := HTB.out.2 (by omega)
      rw [hk3.cell _ _ (by show sb < w2.heap.size; omega) (by rintro (e | e) <;> omega)]
      show w2.cell? _ = _
      rw [HB2.out.2.2.2.cell _ _ (cell_lt h8) (by rintro (e | e | e) <;> omega)]
      exact h8
    obtain ⟨W, hW⟩ : ∃ W, W = w3.alloc (.cells #[.slice (some ⟨sb, 0, none⟩) n n, .slice none 0 0] 54) := ⟨_, rfl⟩
    have hkW : Kept (fun _ _ => False) w3 W := by rw [hW]; exact Kept.alloc _ _
    have hsW : W.heap.size = w3.heap.size + 1 := by rw [hW]; simp
    have z0 : W.cell? ⟨w3.heap.size, 0, none⟩ = some (.slice (some ⟨sb, 0, none⟩) n n) := by rw [hW, World.cell?_alloc_at _ _ _ _ rfl]; rfl
    have z1 : W.cell? ⟨w3.heap.size, 1, none⟩ = some (.slice none 0 0) := by rw [hW, World.cell?_alloc_at _ _ _ _ rfl]; rfl
    have zf : ∀ y, W.frozen? ⟨w3.heap.size, y, none⟩ = false := fun y => by rw [hW, World.frozen?_alloc_at _ _ _ _ rfl]
    have hHW : Holds W (fun x => w1.heap.size ≤ x ∧ x ≠ w3.heap.size) b (hd ++ textOf T n) := (hH3.mono (P' := fun x => w1.heap.size ≤ x ∧ x ≠ w3.heap.size) fun g hg hp => ⟨hp, by omega⟩).kept hkW (fun _ h => h) (fun _ _ _ h => h)
    have HW := Lib.hid hW
    have HZ := Lib.hid (And.intro z0 (And.intro z1 (And.intro zf (And.intro hkW (And.intro hHW (And.intro hk03 (And.intro hF3 hnum)))))))
    clear hW hkW z0 z1 zf hHW hk03 hF3 hnum hH3 hk3 hna hme
    go_wp2_with fail
    rw [← HW.out]
    go_loopw [4] (fun u wr => ∃ (o : Nat) (pp : List UInt8) (D : Nat → UInt8) (a : Option Addr), u = .nilIface ∧ o ≤ n ∧ IsPacked f o 0 pp ∧ Holds wr (fun x => w1.heap.size ≤ x ∧ x ≠ w3.heap.size) b (hd ++ (textOf T n ++ pp)) ∧ Row wr .u8 w.heap.size 0 16384 (fun j => ((D j).toNat : Int)) ∧
        wr.cell? ⟨w3.heap.size, 0, none⟩ = some (.slice a (n - o) (n - o)) ∧ (o < n → a = some ⟨sb, o, none⟩) ∧ wr.cell? ⟨w3.heap.size, 1, none⟩ = some (.slice none 0 0) ∧
        Kept (fun x _ => x = b ∨ w.heap.size ≤ x ∧ x ≠ w3.heap.size ∨ x = w3.heap.size) W wr)
      (fun _ wr => boxLen w3.heap.size wr)
    case atStart =>
      obtain ⟨z0, z1, zf, hkW, hHW, hk03, ⟨D3, hF3⟩, hnum⟩ := HZ.out
      exact ⟨0, [], D3, _, rfl, Nat.zero_le _, .done, by simpa using hHW, hF3.keptAll hkW, z0, fun _ => rfl, z1, Kept.refl _ _⟩
    case round =>
      obtain ⟨o, pp, D, a, rfl, ho, hP, hH, hF, x0, ha, x1, hK⟩ := hrel
      have hsK := hK.size
      have HLN := Lib.hid (len_of w3.heap.size 0 (n - o) (n - o) a wr x0 x1 (by omega))
      have hzf : ∀ y, wr.frozen? ⟨w3.heap.size, y, none⟩ = false := fun y => by rw [hK.frozen _ _ (by omega)]; exact HZ.out.2.2.1 y
      by_cases hon : o < n
      · -- a stretch more
        have haa := ha hon
        subst haa
        have hlen := hP.len HF.out
        have hnumr : ∀ m j, j < n - o → (wr.drewN m).cell? ⟨sb, o + j, none⟩ = some (.int .i32 (f (o + j) : Int)) := fun m j hj => by
          have h8 := HZ.out.2.2.2.2.2.2.2 (o + j) (by omega)
          rw [Nat.zero_add] at h8
          have h9 := hslt (by omega)
          have h10 := HTB.out.2 (by omega)
          show wr.cell? _ = _
          rw [hK.cell _ _ (by omega) (by rintro (e | e | e) <;> omega), HZ.out.2.2.2.1.cell _ _ (by omega) (fun h => h)]
          exact h8
        have hblt := hbs
        have h9 := hslt (by omega)
        have hhd10 : hd.length = 10 := HB2.out.1.1
        have HWS := Lib.hid (fun m => writeSlice_any (fun x => w1.heap.size ≤ x ∧ x ≠ w3.heap.size) b w.heap.size sb o (n - o) f D (hd ++ (textOf T n ++ pp)) (n - o) (wr.drewN m) (by rw [List.length_append]; omega) (hH.kept ((Kept.refl (fun _ _ => False) wr).drewN m) (fun _ h => h) (fun _ _ _ h => h))
          (by rw [List.length_append, List.length_append, textOf_len]; omega) (hF.drewN m) (hnumr m) HF.out (by omega) (by omega) (by omega) (by omega) (fun x hx => by have hx' : wr.heap.size ≤ x := hx; exact ⟨by omega, by omega⟩) (by omega) (by omega))
        have qd1 : (0 : Int) < ((n - o : Nat) : Int) := by omega
        have qd2 : 0 < n - o := by omega
        have qd3 : o < n := hon
        have p1 := hzf 0
        have p2 := hzf 1
        have HK9 := Lib.hid (And.intro hK hP)
        clear hP hH hF ha hK hzf hnumr hlen
        go_wp2_with fail
        refine HLN.out.mono ?_
        rintro e w9 ⟨rfl, m, rfl⟩
        go_wp2_with fail
        refine (HWS.out m).mono ?_
        rintro e w10 ⟨k, hd', D', rfl, hk0, hkd, hhd', hle', hH', hF', hk10⟩
        have hs10 : wr.heap.size ≤ w10.heap.size := hk10.size
        have t0 : w10.cell? ⟨w3.heap.size, 0, none⟩ = some (.slice (some ⟨sb, o, none⟩) (n - o) (n - o)) := by rw [hk10.cell _ _ (by show w3.heap.size < wr.heap.size; omega) (by rintro (e | e | e) <;> omega)]; exact x0
        have t1 : w10.cell? ⟨w3.heap.size, 1, none⟩ = some (.slice none 0 0) := by rw [hk10.cell _ _ (by show w3.heap.size < wr.heap.size; omega) (by rintro (e | e | e) <;> omega)]; exact x1
        have t2 : ∀ y, y < 2 → w10.frozen? ⟨w3.heap.size, y, none⟩ = false := fun y hy => by
          rw [hk10.frozen _ _ (by show w3.heap.size < wr.heap.size; omega)]
          rcases (show y = 0 ∨ y = 1 by omega) with rfl | rfl
          · exact p1
          · exact p2
        have HL10 := Lib.hid (len_of w3.heap.size 0 (n - o) (n - o) _ w10 t0 t1 (by omega))
        have HSL := Lib.hid (fun m2 => slice_of w3.heap.size sb o (n - o) (n - o) k (w10.drewN m2) t0 hkd (Nat.le_refl _) (by omega))
        have HB10 := Lib.hid (And.intro hk0 (And.intro hkd (And.intro hhd' (And.intro hle' (And.intro hH' (And.intro hF' (And.intro hk10 t2)))))))
        clear hk0 hkd hhd' hle' hH' hF' hk10 t2
        go_wp2_with fail
        refine HL10.out.mono ?_
        rintro e w11 ⟨rfl, m2, rfl⟩
        go_wp2_with fail
        refine (HSL.out m2).mono ?_
        rintro e w12 ⟨a', rfl, ha', hk12⟩
        have hs12 : w10.heap.size ≤ w12.heap.size := hk12.size
        have u0 : w12.cell? ⟨w3.heap.size, 0, none⟩ = some (.slice (some ⟨sb, o, none⟩) (n - o) (n - o)) := by rw [hk12.cell _ _ (by show w3.heap.size < w10.heap.size; omega) (fun h => h)]; exact t0
        have u1 : w12.cell? ⟨w3.heap.size, 1, none⟩ = some (.slice none 0 0) := by rw [hk12.cell _ _ (by show w3.heap.size < w10.heap.size; omega) (fun h => h)]; exact t1
        have u2 : w12.frozen? ⟨w3.heap.size, 0, none⟩ = false := by rw [hk12.frozen _ _ (by show w3.heap.size < w10.heap.size; omega)]; exact HB10.out.2.2.2.2.2.2.2 0 (by omega)
        have u3 : w12.frozen? ⟨w3.heap.size, 1, none⟩ = false := by rw [hk12.frozen _ _ (by show w3.heap.size < w10.heap.size; omega)]; exact HB10.out.2.2.2.2.2.2.2 1 (by omega)
        have HB12 := Lib.hid (And.intro ha' hk12)
        clear ha' hk12 t0 t1
        go_wp2_with fail
        go_roundw
        case rel =>
          obtain ⟨hk0, hkd, hhd', hle', hH', hF', hk10, t2⟩ := HB10.out
          obtain ⟨ha', hk12⟩ := HB12.out
          obtain ⟨hK, hP⟩ := HK9.out
          have hkx : Kept (fun x _ => x = w3.heap.size) w10 ((w12.setCell ⟨w3.heap.size, 0, none⟩ (.slice a' (n - o - k) (n - o - k))).setCell ⟨w3.heap.size, 1, none⟩ (.slice none 0 0)) :=
            ((((Kept.refl _ w10).drewN m2).trans (hk12.mono fun _ _ _ h => h.elim)).trans (Kept.setCell (R := fun x _ => x = w3.heap.size) rfl)).trans (Kept.setCell (R := fun x _ => x = w3.heap.size) rfl)
          have hno : n - o - k = n - (o + k) := by omega
          have hH2 := hH'.kept hkx (fun _ e => by omega) (fun x _ hx e => hx.2 e)
          rw [List.append_assoc, List.append_assoc] at hH2
          refine ⟨o + k, pp ++ (hd' ++ encs (fun t => f (o + t)) k), D', a', rfl, by omega, hP.snoc k hd' hk0 hhd' hle', hH2, hF'.kept hkx (fun _ _ e => by omega), ?_, fun h => ha' (by omega), ?_, ?_⟩
          · rw [setCell_cell _ _ (by simp), ← hno]
            exact setCell_cell_same u0
          · refine setCell_cell_same (u := .slice none 0 0) ?_
            rw [setCell_cell _ _ (by simp)]
            exact u1
          · exact (((hK.drewN m).trans (hk10.mono fun x _ _ hr => by
              rcases hr with hr | hr | hr
              · exact .inl hr
              · exact .inr (.inl ⟨by omega, hr.2⟩)
              · exact .inr (.inl ⟨by omega, by omega⟩))).trans (hkx.mono fun x _ _ hr => .inr (.inr hr)))
        case measure =>
          obtain ⟨hk0, hkd, hhd', hle', hH', hF', hk10, t2⟩ := HB10.out
          have e1 : boxLen w3.heap.size ((w12.setCell ⟨w3.heap.size, 0, none⟩ (.slice a' (n - o - k) (n - o - k))).setCell ⟨w3.heap.size, 1, none⟩ (.slice none 0 0)) = n - o - k := boxLen_of (c := n - o - k) (a := a') (by rw [setCell_cell _ _ (by simp)]; exact setCell_cell_same u0)
          have e2 : boxLen w3.heap.size wr = n - o := boxLen_of x0
          rw [e1, e2]
          omega
      · have hon : o = n := by omega
        subst hon
        have HEND := Lib.hid (And.intro hK (And.intro hH hP))
        clear hP hH hF ha hK hzf x0 x1
        rw [Nat.sub_self] at HLN
        go_wp2_with fail
        refine HLN.out.mono ?_
        rintro e w9 ⟨rfl, m, rfl⟩
        go_wp2_with fail
        go_ret
        obtain ⟨hK, hH, hP⟩ := HEND.out
        obtain ⟨z0, z1, zf, hkW, hHW, hk03, hF3, hnum⟩ := HZ.out
        refine ⟨rfl, (Kept.old ((hk03.trans (hkW.mono fun _ _ _ hf => hf.elim)).trans (hK.mono fun x _ _ hr => ?_))).drewN m, hd ++ (textOf T o ++ pp), ⟨hd, pp, rfl, by rw [textOf_len]; exact HB2.out.1, by rw [textOf_len]; exact hP⟩, (hH.mono fun g _ hg => by have := hg.1; omega).kept ((Kept.refl (fun _ _ => False) wr).drewN m) (fun _ h => h) (fun _ _ _ h => h)⟩
        rcases hr with hr | hr | hr
        · exact .inl hr
        · exact .inr hr.1
        · exact .inr (by omega))

end Go.Proofs.YtfpihnfhmefeaaaGreatDoor
namespace Go.Proofs.YtfpihnfhmefeaaaGreatDoor
open Go.RowKit

set_option maxHeartbeats 12800000 in
set_option maxRecDepth 100000 in
/-- An index of no byte is read. -/
theorem read_nul (full : Bool) (ib rb sb N : Nat) (L l : List UInt8) (T g : Nat → Nat) (q1 q2 : Addr) (w : World) (hL : IsSaved [] g L) (hl : Cand full L l)
    (hR : Rd w rb sb N 0 l) (hN : N ≤ 1073741824) (hi : ∀ j, j < 3 → w.cell? ⟨ib, j, none⟩ = some (.slice none 0 0)) (hif : ∀ j, w.frozen? ⟨ib, j, none⟩ = false) (hQ : Laid q1 q2 w) (hrb : 5 ≤ rb) (hir : ib ≠ rb) (hrs : rb ≠ sb) (hsl : sb < w.heap.size) :
    Calls Tryz.prog 20 #[.pointer (some ⟨ib, 0, none⟩), .iface 58 (.pointer (some ⟨rb, 0, none⟩))] w (ReadPost ib rb 0 T g full w) := by
  obtain ⟨hd, p, rfl, hhd, hpk⟩ := hL
  obtain ⟨i8, hi8, hz8, hs8, hb8⟩ := info_parts info_u8
  have hp0 : p = [] := by
    rcases hpk.cases with ⟨_, h⟩ | ⟨h, _⟩
    · exact h
    · exact absurd h (by simp)
  subst hp0
  have hibs : ib < w.heap.size := cell_lt (hi 0 (by omega))
  have hrbs : rb < w.heap.size := cell_lt hR.pos
  have hh5 : 5 ≤ w.heap.size := by omega
  obtain ⟨w1, hmk1, hF1, hk1, hlt1⟩ := make_row (P := Tryz.prog) w 22 5 .u8 i8 Tryz.underlying22 hi8 hz8 hs8 (by rw [hb8]; omega) 16384 (by omega)
  have hmkb : (Instr.makeSlice 22 (.int .i64 16384) (.int .i64 16384)).run Tryz.prog w = .ok (.slice (some ⟨w.heap.size, 0, none⟩) 16384 16384) w1 := hmk1
  have hR1 := hR.kept hk1 (fun _ h => h) (fun _ h => h)
  have hQ1 := hQ.kept hk1 (fun _ _ _ h => h)
  have hF1' : Row w1 .u8 w.heap.size 0 16384 (fun j => (((fun _ => 0 : Nat → UInt8) j).toNat : Int)) := hF1
  have hEr1 : rb ≠ 3 ∧ w.heap.size ≠ 3 ∧ rb ≠ 4 ∧ w.heap.size ≠ 4 := by omega
  rcases Cand.step hl with ⟨hfull, hshort⟩ | ⟨l1, rfl, hl1⟩
  · -- the head is cut off
    rw [hhd.1] at hshort
    have HRI := Lib.hid (readInt_short rb sb N 0 w.heap.size l (fun _ => 0) q1 q2 w1 hR1 hshort hQ1.errs hN hF1' (by omega) (by omega) hrs hEr1)
    have HK := Lib.hid hk1
    have HFU := Lib.hid hfull
    clear hi hif hR hQ hl hhd hpk hmk1 hF1 hk1 hR1 hQ1 hF1' hshort hi8 hz8 hs8 hb8 hfull hEr1
    go_enter Tryz.func20, Tryz.ntmps20
    go_wp2_with fail
    refine HRI.out.mono ?_
    rintro e w2 ⟨x, q, rfl, hk⟩
    have HK2 := Lib.hid hk
    clear hk
    go_wp2_with fail
    go_ret
    exact ⟨Kept.old ((HK.out.mono fun _ _ _ hf => hf.elim).trans (HK2.out.mono fun x _ _ hr => by rcases hr with hr | hr; exact .inl (.inl hr); exact .inr (by omega))), .inr ⟨HFU.out, q, rfl⟩⟩
  · have hfull := Cand.nil (by simpa using hl1)
    have HRI := Lib.hid (readInt_ok rb sb N 0 w.heap.size 0 hd l1 (fun _ => 0) w1 hR1 hhd (by omega) hN hF1' (by omega) (by omega) hrs)
    have HFU := Lib.hid hfull
    have HK1 := Lib.hid hk1
    have hc1' : ∀ j, j < 3 → w1.cell? ⟨ib, j, none⟩ = some (.slice none 0 0) := fun j hj => by rw [hk1.cell _ _ hibs (fun hf => hf)]; exact hi j hj
    have hif1 : ∀ j, w1.frozen? ⟨ib, j, none⟩ = false := fun j => by rw [hk1.frozen _ _ hibs]; exact hif j
    have HI1 := Lib.hid (And.intro hc1' hif1)
    clear hi hif hR hQ hl hl1 hhd hpk hmk1 hF1 hk1 hR1 hQ1 hF1' hi8 hz8 hs8 hb8 hEr1 hc1' hif1 hfull
    go_enter Tryz.func20, Tryz.ntmps20
    go_wp2_with fail
    refine HRI.out.mono ?_
    rintro e w2 ⟨D1, rfl, gone1, gone2, hk2⟩
    clear gone1 gone2
    have hs1 := hk2.size
    have hi2 : ∀ j, j < 3 → w2.cell? ⟨ib, j, none⟩ = some (.slice none 0 0) := fun j hj => by
      have := HI1.out.1 j hj
      rw [hk2.cell _ _ (cell_lt this) (by rintro (e | e) <;> omega)]; exact this
    have hf2 : ∀ j, w2.frozen? ⟨ib, j, none⟩ = false := fun j => by rw [hk2.frozen _ _ (by omega)]; exact HI1.out.2 j
    have b0 := hi2 0 (by omega)
    have b1 := hi2 1 (by omega)
    have b2 := hi2 2 (by omega)
    have c0 := hf2 0
    have c1 := hf2 1
    have c2 := hf2 2
    have HK2 := Lib.hid hk2
    have qn1 : ∀ (w : World) (a : Option Addr) (n c n' c' : Nat), (binOp .neq 51 (.slice a n c) (.slice none n' c')).run Tryz.prog w = .ok (.bool !a.isNone) w := fun w a n c n' c' => run_neq_slice_nil_any w _ _ a n c n' c' Tryz.underlying51
    have qn2 : ∀ (w : World) (a : Option Addr) (n c n' c' : Nat), (binOp .neq 52 (.slice a n c) (.slice none n' c')).run Tryz.prog w = .ok (.bool !a.isNone) w := fun w a n c n' c' => run_neq_slice_nil_any w _ _ a n c n' c' Tryz.underlying52
    clear hi2 hf2 hk2
    obtain ⟨w3, hw3⟩ : ∃ w3, w3 = w2.setCell ⟨ib, 0, none⟩ (.slice none 0 0) := ⟨_, rfl⟩
    have hk3 : Kept (fun x _ => x = ib) w2 w3 := by rw [hw3]; exact Kept.setCell rfl
    have d0 : w3.cell? ⟨ib, 0, none⟩ = some (.slice none 0 0) := by rw [hw3]; exact setCell_cell_same b0
    have d1 : w3.cell? ⟨ib, 1, none⟩ = some (.slice none 0 0) := by rw [hw3, setCell_cell _ _ (by simp)]; exact b1
    have d2 : w3.cell? ⟨ib, 2, none⟩ = some (.slice none 0 0) := by rw [hw3, setCell_cell _ _ (by simp)]; exact b2
    have HSN := Lib.hid (slice_nil ib w3 d1 d2)
    have hs3 := hk3.size
    have HK3 := Lib.hid hk3
    have HW3 := Lib.hid hw3
    have HD3 := Lib.hid (And.intro d0 (And.intro d1 d2))
    clear d0 d1 d2 hk3 hw3
    go_wp2_with fail
    rw [← HW3.out]
    refine HSN.out.mono ?_
    rintro e w4 ⟨rfl, hk4⟩
    have hs4 := hk4.size
    have e0 : w4.cell? ⟨ib, 0, none⟩ = some (.slice none 0 0) := by rw [hk4.cell _ _ (cell_lt HD3.out.1) (fun h => h)]; exact HD3.out.1
    have e1 : w4.cell? ⟨ib, 1, none⟩ = some (.slice none 0 0) := by rw [hk4.cell _ _ (cell_lt HD3.out.1) (fun h => h)]; exact HD3.out.2.1
    have e2 : w4.cell? ⟨ib, 2, none⟩ = some (.slice none 0 0) := by rw [hk4.cell _ _ (cell_lt HD3.out.1) (fun h => h)]; exact HD3.out.2.2
    have f1 : w4.frozen? ⟨ib, 1, none⟩ = false := by rw [hk4.frozen _ _ (cell_lt HD3.out.1), HK3.out.frozen _ _ (by omega)]; exact c1
    have f2 : w4.frozen? ⟨ib, 2, none⟩ = false := by rw [hk4.frozen _ _ (cell_lt HD3.out.1), HK3.out.frozen _ _ (by omega)]; exact c2
    obtain ⟨w5, hw5⟩ : ∃ w5, w5 = (w4.setCell ⟨ib, 1, none⟩ (.slice none 0 0)).setCell ⟨ib, 2, none⟩ (.slice none 0 0) := ⟨_, rfl⟩
    have hk5 : Kept (fun x _ => x = ib) w4 w5 := by rw [hw5]; exact (Kept.setCell (R := fun x _ => x = ib) rfl).trans (Kept.setCell (R := fun x _ => x = ib) rfl)
    have g0 : w5.cell? ⟨ib, 0, none⟩ = some (.slice none 0 0) := by rw [hw5, setCell_cell _ _ (by simp), setCell_cell _ _ (by simp)]; exact e0
    have g1 : w5.cell? ⟨ib, 1, none⟩ = some (.slice none 0 0) := by rw [hw5, setCell_cell _ _ (by simp)]; exact setCell_cell_same e1
    have g2 : w5.cell? ⟨ib, 2, none⟩ = some (.slice none 0 0) := by rw [hw5]; refine setCell_cell_same (u := .slice none 0 0) ?_; rw [setCell_cell _ _ (by simp)]; exact e2
    have HFN := Lib.hid (full_none rb none 0 w5)
    obtain ⟨w6, hw6⟩ : ∃ w6, w6 = w5.alloc (.cells #[.slice none 0 0, .slice none 0 0] 54) := ⟨_, rfl⟩
    have hk6 : Kept (fun _ _ => False) w5 w6 := by rw [hw6]; exact Kept.alloc _ _
    have m0 : w6.cell? ⟨w5.heap.size, 0, none⟩ = some (.slice none 0 0) := by rw [hw6, World.cell?_alloc_at _ _ _ _ rfl]; rfl
    have m1 : w6.cell? ⟨w5.heap.size, 1, none⟩ = some (.slice none 0 0) := by rw [hw6, World.cell?_alloc_at _ _ _ _ rfl]; rfl
    have HLN := Lib.hid (len_of w5.heap.size 0 0 0 none w6 m0 m1 (by omega))
    have HW5 := Lib.hid hw5
    have HW6 := Lib.hid hw6
    have HE := Lib.hid (And.intro hk4 (And.intro hk5 hk6))
    have HG5 := Lib.hid (And.intro g0 (And.intro g1 g2))
    clear hk4 hk5 hw5 hk6 hw6 m0 m1 g0 g1 g2
    go_wp2_with fail
    rw [← HW5.out]
    obtain ⟨g0, g1, g2⟩ := HG5.out
    have HG5' := HG5
    refine HFN.out.mono ?_
    rintro e w7 ⟨rfl, rfl⟩
    go_wp2_with fail
    refine wp_loop_rounds 1 ?_
    rw [rounds_succ]
    go_wp2_with fail
    rw [← HW6.out]
    refine HLN.out.mono ?_
    rintro e w8 ⟨rfl, m, rfl⟩
    go_wp2_with fail
    go_ret
    obtain ⟨hk4, hk5, hk6⟩ := HE.out
    refine ⟨(Kept.old ((((((HK1.out.mono fun _ _ _ hf => hf.elim).trans (HK2.out.mono fun x _ _ hr => ?_)).trans (HK3.out.mono fun x _ _ hr => .inl (.inr hr))).trans (hk4.mono fun _ _ _ hf => hf.elim)).trans (hk5.mono fun x _ _ hr => .inl (.inr hr))).trans (hk6.mono fun _ _ _ hf => hf.elim))).drewN m, .inl ⟨HFU.out, rfl, .inr ⟨rfl, fun j hj => ?_⟩⟩⟩
    · rcases hr with hr | hr
      · exact .inl (.inl hr)
      · exact .inr (by omega)
    · have hkm := hk6.drewN m
      rcases (show j = 0 ∨ j = 1 ∨ j = 2 by omega) with rfl | rfl | rfl
      · rw [hkm.cell _ _ (cell_lt g0) (fun h => h)]; exact g0
      · rw [hkm.cell _ _ (cell_lt g1) (fun h => h)]; exact g1
      · rw [hkm.cell _ _ (cell_lt g2) (fun h => h)]; exact g2

/-- An index is read. -/
theorem read_any (full : Bool) (ib rb sb N : Nat) (t L l : List UInt8) (g : Nat → Nat) (q1 q2 : Addr) (w : World) (hL : IsSaved t g L) (hl : Cand full L l) (hn : t.length < 16777216) (hg : ∀ j, j < t.length → g j < t.length)
    (hR : Rd w rb sb N 0 l) (hN : N ≤ 1073741824) (hi : ∀ j, j < 3 → w.cell? ⟨ib, j, none⟩ = some (.slice none 0 0)) (hif : ∀ j, w.frozen? ⟨ib, j, none⟩ = false) (hQ : Laid q1 q2 w) (hib : 5 ≤ ib) (hrb : 5 ≤ rb) (hsb : 5 ≤ sb) (hir : ib ≠ rb) (his : ib ≠ sb) (hrs : rb ≠ sb) (hsl : sb < w.heap.size) :
    Calls Tryz.prog 20 #[.pointer (some ⟨ib, 0, none⟩), .iface 58 (.pointer (some ⟨rb, 0, none⟩))] w (ReadPost ib rb t.length (fun j => (t.getD j 0).toNat) g full w) := by
  by_cases h0 : t = []
  · subst h0
    exact read_nul full ib rb sb N L l _ g q1 q2 w hL hl hR hN hi hif hQ hrb hir hrs hsl
  · exact read_pos full ib rb sb N t L l g q1 q2 w hL hl (List.length_pos_iff.2 h0) hn hg hR hN hi hif hQ hib hrb hsb hir his hrs hsl

end Go.Proofs.YtfpihnfhmefeaaaGreatDoor
