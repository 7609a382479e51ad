/-
  Walks over a buffer of bytes that is written: room, growth, a write, what it holds. No condition but those typed.
  Walks over a write to a buffer of bytes. No condition but those typed.
  How an index is saved: heads, the numbers seven bits a byte, the stretches of them; what is read of such bytes. No condition but those typed.
  Bytes laid in a row of bytes, and read from it. No condition but those typed.
  Walks over the writing of a number, and of a stretch of numbers. No condition but those typed.
  What is left to read of a saved index: all of it and more, or it is cut off. No condition but those typed.
-/
import Derived.Test.YtfpihnfhmefeaaaGreatDoorIn
import Derived.Test.YtfpihnfhmefeaaaGreatDoorLayB
import Derived.Test.YtfpihnfhmefeaaaGreatDoorCnt
import Derived.Test.YtfpihnfhmefeaaaGreatDoorIdx
import Derived.Lib.BufferWrite
import Derived.Lib.BufferSrc
import Derived.Lib.LazyBuf
import Derived.Deep.RegionWith
import Derived.Deep.QuietTactic
import Derived.BigQuiet
import Derived.Laws.CopyRow
import Derived.Lib.Varint
import Derived.Lib.VarintDec
namespace Go.Proofs.YtfpihnfhmefeaaaGreatDoor
open Go.RowKit

/-- A buffer that holds a row: the variable's block b, the row's block g, l bytes of cap. -/
structure Bf (w : World) (b g l cap : Nat) (cur : Array Value) : Prop where
  var : ∃ lr, w.heap[b]? = some (.cells #[.slice (some ⟨g, 0, none⟩) l cap, .int .i64 0, .int .i8 lr] 43 (0, 0))
  row : w.heap[g]? = some (.cells cur 5 (0, 0))
  le : l ≤ cap
  most : cap ≤ 9223372036854775807
  size : cur.size = cap
  apart : g ≠ b

theorem bf_cell {w : World} {b : Nat} {c0 c1 c2 : Value} {t : TypeId} (h : w.heap[b]? = some (.cells #[c0, c1, c2] t (0, 0))) : w.cell? ⟨b, 0, none⟩ = some c0 ∧ w.cell? ⟨b, 1, none⟩ = some c1 ∧ w.cell? ⟨b, 2, none⟩ = some c2 ∧ (∀ j, w.frozen? ⟨b, j, none⟩ = false) :=
  ⟨by rw [cell_of_row w b 0 _ _ _ h]; rfl, by rw [cell_of_row w b 1 _ _ _ h]; rfl, by rw [cell_of_row w b 2 _ _ _ h]; rfl, fun j => free_of_block h⟩

set_option maxHeartbeats 1600000 in
set_option maxRecDepth 100000 in
/-- There is room. -/
theorem tg_room (b l cap n : Nat) (a : Addr) (w : World) (c0 : w.cell? ⟨b, 0, none⟩ = some (.slice (some a) l cap)) (f0 : w.frozen? ⟨b, 0, none⟩ = false) (hl : l ≤ cap) (hcap : cap ≤ 9223372036854775807) (hn : n ≤ cap - l) :
    Calls Tryz.prog 148 #[.pointer (some ⟨b, 0, none⟩), .int .i64 n] w fun e w' => e = .returned (.tuple #[.int .i64 l, .bool true]) ∧ w' = w.setCell ⟨b, 0, none⟩ (.slice (some a) (l + n) cap) := by
  have q1 : (n : Int) ≤ (cap : Int) - (l : Int) := by omega
  have q2 : (l : Int) + (n : Int) ≤ (cap : Int) := by omega
  go_enter Tryz.func148, Tryz.ntmps148
  go_wp2_with fail
  go_ret2
  exact ⟨rfl, by simp⟩

set_option maxHeartbeats 1600000 in
set_option maxRecDepth 100000 in
/-- There is no room. -/
theorem tg_none (b l cap n : Nat) (a : Option Addr) (w : World) (c0 : w.cell? ⟨b, 0, none⟩ = some (.slice a l cap)) (hl : l ≤ cap) (hcap : cap ≤ 9223372036854775807) (hn : cap - l < n) :
    Calls Tryz.prog 148 #[.pointer (some ⟨b, 0, none⟩), .int .i64 n] w fun e w' => e = .returned (.tuple #[.int .i64 0, .bool false]) ∧ w' = w := by
  have q1 : ¬ (n : Int) ≤ (cap : Int) - (l : Int) := by omega
  go_enter Tryz.func148, Tryz.ntmps148
  go_wp2_with fail
  go_ret2
  exact ⟨rfl, rfl⟩

set_option maxHeartbeats 1000000 in
set_option maxRecDepth 100000 in
/-- How many bytes it holds. -/
theorem blen_any (b l cap : Nat) (a : Option Addr) (w : World) (c0 : w.cell? ⟨b, 0, none⟩ = some (.slice a l cap)) (c1 : w.cell? ⟨b, 1, none⟩ = some (.int .i64 0)) (hl : l ≤ 140737488355328) :
    Calls Tryz.prog 150 #[.pointer (some ⟨b, 0, none⟩)] w fun e w' => e = .returned (.int .i64 l) ∧ ∃ m, w' = w.drewN m := by
  go_enter Tryz.func150, Tryz.ntmps150
  go_wp2_with fail
  go_quiet (fail)
  go_wp2_with fail
  go_ret
  exact ⟨by go_num, nq, rfl⟩

/-- What a growth leaves: a new row; nothing else turns but the variable. -/
def GrowPost (b l n : Nat) (bs : List Value) (w : World) (e : Ending) (w' : World) : Prop :=
  e = .returned (.int .i64 l) ∧ ∃ cap cur, Bf w' b w.heap.size (l + n) cap cur ∧ cur.toList.take l = bs ∧ Kept (fun x _ => x = b) w w'

set_option maxHeartbeats 4000000 in
set_option maxRecDepth 100000 in
/-- The growth of a buffer that holds nothing yet, by few bytes. -/
theorem grow_first (b n : Nat) (lr : Int) (w : World) (hb : w.heap[b]? = some (.cells #[.slice none 0 0, .int .i64 0, .int .i8 lr] 43 (0, 0))) (h1 : 1 ≤ n) (h64 : n ≤ 64) :
    Calls Tryz.prog 149 #[.pointer (some ⟨b, 0, none⟩), .int .i64 n] w (GrowPost b 0 n [] w) := by
  obtain ⟨i0, hi, hz0, hz1, hz2⟩ := info_parts info_u8
  obtain ⟨c0, c1, _, hf⟩ := bf_cell hb
  have hbs : b < w.heap.size := cell_lt c0
  have HL := Lib.hid (blen_any b 0 0 none w c0 c1 (by omega))
  have HG := Lib.hid (fun k => tg_none b 0 0 n none (w.drewN k) c0 (by omega) (by omega) (by omega))
  have hnil : ∀ W, (binOp .eql 22 (.slice none 0 0) (.slice none 0 0)).run Tryz.prog W = .ok (.bool true) W := fun W => Lib.run_eql_slice_nil W _ _ none 0 0 0 0 Tryz.underlying22
  obtain ⟨mc, hmc⟩ : ∃ mc, mc = madeCells (Value.int .u8 0).cells 64 := ⟨_, rfl⟩
  have hmk : ∀ k, (Instr.makeSlice 22 (.int .i64 (n : Int)) (.int .i64 64)).run Tryz.prog (w.drewN k) = .ok (.slice (some ⟨w.heap.size, 0, none⟩) n 64) ((w.drewN k).alloc (.cells mc 5)) := fun k => by
    have := run_make (P := Tryz.prog) (w.drewN k) 22 5 i0 (.int .u8 0) Tryz.underlying22 hi hz0 .i64 .i64 n 64 (by omega) (by omega) (by rw [hz2]; omega) (by omega)
    simp only [Int.toNat_natCast, hz1, Nat.mul_one] at this
    rw [show Int.toNat 64 = 64 from rfl, ← hmc] at this
    exact this
  have hcb : ∀ k, ((w.drewN k).alloc (.cells mc 5)).cell? ⟨b, 0, none⟩ = some (.slice none 0 0) := fun k => by rw [World.cell?_alloc_past _ _ _ (by exact hbs)]; exact c0
  have hfb : ∀ k, ((w.drewN k).alloc (.cells mc 5)).frozen? ⟨b, 0, none⟩ = false := fun k => by rw [World.frozen?_alloc_past _ _ _ (by exact hbs)]; exact hf 0
  have c0k : ∀ k, (w.drewN k).cell? ⟨b, 0, none⟩ = some (.slice none 0 0) := fun _ => c0
  have c1k : ∀ k, (w.drewN k).cell? ⟨b, 1, none⟩ = some (.int .i64 0) := fun _ => c1
  have q64 : (n : Int) ≤ 64 := by omega
  have HHB := Lib.hid hb
  have HMC := Lib.hid hmc
  clear hi hz0 hz1 hz2 hf hb hmc
  go_enter Tryz.func149, Tryz.ntmps149
  go_wp2_with fail
  refine HL.out.mono ?_
  rintro e w1 ⟨rfl, k, rfl⟩
  go_wp2_with fail
  refine (HG.out k).mono ?_
  rintro e w2 ⟨rfl, rfl⟩
  go_wp2_with fail
  go_ret
  refine ⟨rfl, 64, mc, ⟨⟨lr, ?_⟩, ?_, by omega, by omega, by rw [HMC.out]; simp [madeCells], by omega⟩, by simp, ?_⟩
  · have h2 : ((w.drewN k).alloc (.cells mc 5)).heap[b]? = some (.cells #[.slice none 0 0, .int .i64 0, .int .i8 lr] 43 (0, 0)) := (Below.heap_alloc (w.drewN k) _ b hbs).trans HHB.out
    have h3 := Lib.heap_setCell_same (i := 0) h2 (.slice (some ⟨w.heap.size, 0, none⟩) n 64)
    simpa using h3
  · rw [Below.heap_setCell _ _ _ _ (by show w.heap.size ≠ b; omega)]
    exact heap_alloc_new (w.drewN k) _
  · exact (((Kept.refl _ w).drewN k).trans (Kept.alloc _ _)).trans (Kept.setCell rfl)

set_option maxHeartbeats 12800000 in
set_option maxRecDepth 100000 in
/-- The growth of a buffer that has no room. -/
theorem grow_row (b g l cap n : Nat) (cur : Array Value) (w : World) (h : Bf w b g l cap cur) (h1 : 1 ≤ n) (hroom : cap - l < n) (hlim : l + n ≤ 140737488355328) (hl0 : 0 < l) (hone : ∀ v ∈ cur.toList.take l, v.oneCell' = true) :
    Calls Tryz.prog 149 #[.pointer (some ⟨b, 0, none⟩), .int .i64 n] w (GrowPost b l n (cur.toList.take l) w) := by
  obtain ⟨⟨lr, hb⟩, hg, hle, hmost, hcs, hgb⟩ := h
  obtain ⟨c0, c1, _, hf⟩ := bf_cell hb
  have hbs : b < w.heap.size := cell_lt c0
  have HL := Lib.hid (blen_any b l cap (some ⟨g, 0, none⟩) w c0 c1 (by omega))
  have HG := Lib.hid (fun k => tg_none b l cap n (some ⟨g, 0, none⟩) (w.drewN k) c0 hle hmost hroom)
  have HGS : Hid (∀ W, W.heap[g]? = some (.cells cur 5 (0, 0)) → Calls Tryz.prog 151 #[.slice (some ⟨g, 0, none⟩) l cap, .int .i64 n] W fun e w' => ∃ cap2 cells, e = .returned (.slice (some ⟨W.heap.size, 0, none⟩) l cap2) ∧ w'.heap[W.heap.size]? = some (.cells cells 5 (0, 0)) ∧
      cells.size = cap2 ∧ cells.toList.take l = cur.toList.take l ∧ l + n ≤ cap2 ∧ cap2 ≤ maxLen ∧ Below W.heap.size W w') := Lib.hid fun W hW => Any.bytes_growSlice_row Tryz.gsL g l cap n cur W hW hcs hle h1 hlim (by omega) hone
  have hnil : ∀ W, (binOp .eql 22 (.slice (some ⟨g, 0, none⟩) l cap) (.slice none 0 0)).run Tryz.prog W = .ok (.bool false) W := fun W => Lib.run_eql_slice_nil W _ _ (some ⟨g, 0, none⟩) l cap 0 0 Tryz.underlying22
  have hwn : IntKind.i64.wrap (n : Int) = n := by rw [IntKind.wrap_i64]; omega
  have c0k : ∀ k, (w.drewN k).cell? ⟨b, 0, none⟩ = some (.slice (some ⟨g, 0, none⟩) l cap) := fun _ => c0
  have c1k : ∀ k, (w.drewN k).cell? ⟨b, 1, none⟩ = some (.int .i64 0) := fun _ => c1
  have q1 : ¬ (n : Int) ≤ (cap : Int) / 2 - (l : Int) := by omega
  have q2 : ¬ (l : Int) = 0 := by omega
  have q3 : cap ≤ 140737488355328 := by omega
  have HHB := Lib.hid hb
  have HHG := Lib.hid hg
  clear hf hb hg hone
  go_enter Tryz.func149, Tryz.ntmps149
  go_wp2_with fail
  refine HL.out.mono ?_
  rintro e w1 ⟨rfl, k, rfl⟩
  go_wp2_with fail
  refine (HG.out k).mono ?_
  rintro e w2 ⟨rfl, rfl⟩
  go_wp2_with fail
  go_region_with (
      go_at_call 151
      refine (HGS.out _ ?_).mono ?_
      exact HHG.out
      rintro e w2 ⟨cap2, cells, rfl, hN, hcsz, htk, hcap2, hcm2, hbel⟩
      have hbk2 : w2.heap[b]? = some (.cells #[.slice (some ⟨g, 0, none⟩) l cap, .int .i64 0, .int .i8 lr] 43 (0, 0)) := (hbel.block b hbs).trans HHB.out
      have d0 : w2.cell? ⟨b, 0, none⟩ = some (.slice (some ⟨g, 0, none⟩) l cap) := (bf_cell hbk2).1
      have d1 : w2.cell? ⟨b, 1, none⟩ = some (.int .i64 0) := (bf_cell hbk2).2.1
      have e0 : w2.frozen? ⟨b, 0, none⟩ = false := (bf_cell hbk2).2.2.2 0
      have e1 : w2.frozen? ⟨b, 1, none⟩ = false := (bf_cell hbk2).2.2.2 1)
  all_goals (
    go_wp2_with fail
    go_ret
    refine ⟨rfl, cap2, cells, ⟨⟨lr, ?_⟩, ?_, hcap2, hcm2, hcsz, by omega⟩, htk, ?_⟩
    · have h3 := Lib.heap_setCell_same (i := 0) (Lib.heap_setCell_same (i := 1) (Lib.heap_setCell_same (i := 0) hbk2 (.slice (some ⟨w.heap.size, 0, none⟩) l cap2)) (.int .i64 0)) (.slice (some ⟨w.heap.size, 0, none⟩) (l + n) cap2)
      simpa using h3
    · rw [Below.heap_setCell _ _ _ _ (by show w.heap.size ≠ b; omega), Below.heap_setCell _ _ _ _ (by show w.heap.size ≠ b; omega), Below.heap_setCell _ _ _ _ (by show w.heap.size ≠ b; omega)]
      exact hN
    · have hkb : Kept (fun x _ => x = b) w w2 := ((Kept.refl _ w).drewN _).trans ((below_kept hbel).mono fun _ _ _ hf => hf.elim)
      exact ((hkb.trans (Kept.setCell rfl)).trans (Kept.setCell rfl)).trans (Kept.setCell rfl))

end Go.Proofs.YtfpihnfhmefeaaaGreatDoor
namespace Go.Proofs.YtfpihnfhmefeaaaGreatDoor
open Go.RowKit

theorem u8_size : (Tryz.prog.info? 5).map (·.size) = some 1 := by kernel_rfl

/-- What a write leaves: the buffer holds more; nothing below turns but the variable. -/
def WPost (P : Nat → Prop) (b n : Nat) (all : List Value) (w : World) (e : Ending) (w' : World) : Prop :=
  e = .returned (.tuple #[.int .i64 n, .nilIface]) ∧ ∃ g cap cur, Bf w' b g all.length cap cur ∧ cur.toList.take all.length = all ∧ P g ∧ Kept (fun x _ => x = b ∨ P x) w w'

/-- The row behind a copy. -/
theorem bf_written {W : World} {b g l n cap : Nat} {cur : Array Value} {bs cs : List Value} (h : Bf W b g (l + n) cap cur) (hb : cur.toList.take l = bs) (hl : bs.length = l) (hn : cs.length = n) :
    Bf (W.setRow g (cur.toList.take l ++ cs ++ cur.toList.drop (l + n)).toArray) b g (bs ++ cs).length cap (cur.toList.take l ++ cs ++ cur.toList.drop (l + n)).toArray ∧ ((cur.toList.take l ++ cs ++ cur.toList.drop (l + n)).toArray).toList.take (bs ++ cs).length = bs ++ cs := by
  obtain ⟨⟨lr, h1⟩, h2, h3, h4, h5, h6⟩ := h
  have hlen : (bs ++ cs).length = l + n := by rw [List.length_append, hl, hn]
  refine ⟨⟨⟨lr, ?_⟩, ?_, by rw [hlen]; exact h3, h4, ?_, h6⟩, ?_⟩
  · rw [setRow_other _ _ _ _ (fun e => h6 e.symm), hlen]; exact h1
  · exact setRow_heap _ _ _ _ _ _ h2
  · simp only [List.size_toArray, List.length_append, List.length_take, List.length_drop, Array.length_toList, h5]
    omega
  · rw [hlen, hb]
    simp only [List.append_assoc]
    rw [← List.append_assoc, List.take_append_of_le_length (by rw [hlen]; exact Nat.le_refl _), List.take_of_length_le (by rw [hlen]; exact Nat.le_refl _)]
theorem kept_setRow {w : World} {g : Nat} {cs cur : Array Value} {t : TypeId} (R : Nat → Nat → Prop) (hR : ∀ y, R g y) (hg : w.heap[g]? = some (.cells cur t (0, 0))) : Kept R w (w.setRow g cs) := by
  refine ⟨rfl, rfl, rfl, by simp, fun x hx hr => setRow_other _ _ _ _ (fun e => hr 0 (by subst e; exact hR 0)), fun x y hx hr => cell_setRow_other _ _ _ _ (fun e => hr (by subst e; exact hR y)), fun x y hx => ?_⟩
  by_cases e : x = g
  · subst e
    rw [free_of_block (setRow_heap _ _ _ _ _ _ hg), free_of_block hg]
  · exact World.frozen?_of_block (w := w) (setRow_other _ _ _ _ e)

set_option maxHeartbeats 4000000 in
set_option maxRecDepth 100000 in
/-- A write of some bytes to a buffer that holds some. -/
theorem write_row (P : Nat → Prop) (b g l cap n c : Nat) (cur : Array Value) (bs cs : List Value) (a : Addr) (w : World) (h : Bf w b g l cap cur) (hb : cur.toList.take l = bs) (hl : bs.length = l) (_hbB : ¬ P b) (hBw : ∀ x, w.heap.size ≤ x → P x) (hBg : P g) (hl0 : 0 < l) (hone : ∀ v ∈ bs, v.oneCell' = true)
    (hn : cs.length = n) (hn0 : 0 < n) (hab : a.block ≠ b) (haB : ¬ P a.block) (hsrc : ∀ j v, cs[j]? = some v → w.cell? (a.add j) = some v) (hone' : ∀ v ∈ cs, v.oneCell' = true) (hlim : l + n ≤ 140737488355328) :
    Calls Tryz.prog 146 #[.pointer (some ⟨b, 0, none⟩), .slice (some a) n c] w (WPost P b n (bs ++ cs) w) := by
  have h0 := h
  obtain ⟨⟨lr, h1⟩, h2, h3, h4, h5, h6⟩ := h0
  obtain ⟨c0, c1, c2, hf⟩ := bf_cell h1
  have f2 := hf 2
  -- the world behind 'b.lastRead = opInvalid'
  obtain ⟨w0, hw0⟩ : ∃ w0, w0 = w.setCell ⟨b, 2, none⟩ (.int .i8 0) := ⟨_, rfl⟩
  have hk0 : Kept (fun x _ => x = b ∨ P x) w w0 := by rw [hw0]; exact Kept.setCell (.inl rfl)
  have hs0 : w0.heap.size = w.heap.size := by rw [hw0]; simp [World.setCell]
  have hB0 : Bf w0 b g l cap cur := by
    refine ⟨⟨0, ?_⟩, ?_, h3, h4, h5, h6⟩
    · rw [hw0]; simpa using Lib.heap_setCell_same (i := 2) h1 (.int .i8 0)
    · rw [hw0, Below.heap_setCell _ _ _ _ h6]; exact h2
  have HS0 : Hid (∀ j v, cs[j]? = some v → w0.cell? (a.add j) = some v) := Lib.hid fun j v hj => by
    rw [hw0]
    exact (World.cell?_setCell_other _ _ _ _ (fun e => hab (by have := congrArg Addr.block e; rw [Lib.block_add] at this; exact this.symm))).trans (hsrc j v hj)
  obtain ⟨⟨lr0, g1⟩, _⟩ := id hB0
  obtain ⟨d0, d1, _, hfd⟩ := bf_cell g1
  have HT : Hid (∀ W g' cap' cur', Bf W b g' (l + n) cap' cur' → cur'.toList.take l = bs → P g' → Kept (fun x _ => x = b ∨ P x) w0 W →
      (∀ t ty, (Builtin.copy_ #[22, 22] ty #[.slice (some ⟨g', l, none⟩) n (cap' - l), .slice (some a) n t]).run Tryz.prog W = .ok (.int .i64 n) (W.setRow g' (cur'.toList.take l ++ (cs ++ cur'.toList.drop (l + n))).toArray)) ∧
      WPost P b n (bs ++ cs) w (.returned (.tuple #[.int .i64 n, .nilIface])) (W.setRow g' (cur'.toList.take l ++ (cs ++ cur'.toList.drop (l + n))).toArray)) := Lib.hid fun W g' cap' cur' hW hbW hBg' hkW => by
    rw [← List.append_assoc]
    refine ⟨fun t ty => ?_, rfl, g', cap', _, (bf_written hW hbW hl hn).1, (bf_written hW hbW hl hn).2, hBg', (hk0.trans hkW).trans (kept_setRow _ (fun _ => .inr hBg') hW.row)⟩
    have hcp := run_copy_row (P := Tryz.prog) W 22 22 ty 5 g' l n (cap' - l) a n t cur' 5 cs Tryz.underlying22 u8_size hW.row (by rw [hn]; exact (Nat.min_self n).symm)
      (fun j v hj => by
        have h8 := HS0.out j v hj
        have hlt : a.block < w0.heap.size := by rw [hs0]; exact Nat.lt_of_not_le fun hh => haB (hBw _ hh)
        have : W.heap[a.block]? = w0.heap[a.block]? := hkW.block _ hlt (fun y hr => by rcases hr with hr | hr; exact hab hr; exact haB hr)
        exact (World.cell?_of_block (w := w0) (by rw [Lib.block_add]; exact this)).trans h8) (by rw [hn, hW.size]; exact hW.le) hone'
    rw [hn] at hcp
    exact hcp
  by_cases hroom : n ≤ cap - l
  · have hb0' := hfd 0
    have HG := Lib.hid (tg_room b l cap n ⟨g, 0, none⟩ w0 d0 hb0' h3 h4 hroom)
    obtain ⟨W, hW⟩ : ∃ W, W = w0.setCell ⟨b, 0, none⟩ (.slice (some ⟨g, 0, none⟩) (l + n) cap) := ⟨_, rfl⟩
    have hBW : Bf W b g (l + n) cap cur := by
      refine ⟨⟨lr0, ?_⟩, ?_, by omega, h4, h5, h6⟩
      · rw [hW]; simpa using Lib.heap_setCell_same (i := 0) g1 (.slice (some ⟨g, 0, none⟩) (l + n) cap)
      · rw [hW, Below.heap_setCell _ _ _ _ h6]; exact hB0.row
    obtain ⟨hcp, hpost⟩ := HT.out W g cap cur hBW hb hBg (by rw [hW]; exact Kept.setCell (.inl rfl))
    obtain ⟨⟨lr1, g2⟩, _⟩ := id hBW
    have e0 := (bf_cell g2).1
    have q1 : ¬ cap = l := by omega
    have q2 : (l : Int) ≤ (l : Int) + (n : Int) := by omega
    have HW := Lib.hid hW
    have HW0 := Lib.hid hw0
    have HP := Lib.hid hpost
    clear hW hw0 hpost g1 g2 h1 h2 hf hfd hsrc hone hone' hb hk0 d0 d1 hb0' c0 c1 h5
    go_enter Tryz.func146, Tryz.ntmps146
    go_wp2_with fail
    rw [← HW0.out]
    refine HG.out.mono ?_
    rintro e w2 ⟨rfl, rfl⟩
    rw [← HW.out]
    go_wp2_with fail
    go_ret2
    exact HP.out
  · have HG := Lib.hid (tg_none b l cap n (some ⟨g, 0, none⟩) w0 d0 h3 h4 (by omega))
    have HGR := Lib.hid (grow_row b g l cap n cur w0 hB0 (by omega) (by omega) hlim hl0 (by rw [hb]; exact hone))
    have HW0 := Lib.hid hw0
    have HBS := Lib.hid hb
    clear hw0 g1 h1 h2 hf hfd hsrc hone hone' hb hk0 d0 d1 c0 c1 h5
    go_enter Tryz.func146, Tryz.ntmps146
    go_wp2_with fail
    rw [← HW0.out]
    refine HG.out.mono ?_
    rintro e w2 ⟨rfl, rfl⟩
    go_wp2_with fail
    refine HGR.out.mono ?_
    rintro e W ⟨rfl, cap', cur', hBW, hbW, hkW⟩
    rw [hs0] at hBW
    obtain ⟨hcp, hpost⟩ := HT.out W w.heap.size cap' cur' hBW (hbW.trans HBS.out) (hBw _ (Nat.le_refl _)) (hkW.mono fun _ _ _ hx => .inl hx)
    obtain ⟨⟨lr1, g2⟩, _⟩ := id hBW
    have e0 := (bf_cell g2).1
    have hle := hBW.le
    have hmo := hBW.most
    have q1 : ¬ cap' = l := by omega
    have q2 : (l : Int) ≤ (l : Int) + (n : Int) := by omega
    have HP := Lib.hid hpost
    clear hpost g2 hkW hbW hBW
    go_wp2_with fail
    go_ret2
    exact HP.out

set_option maxHeartbeats 4000000 in
set_option maxRecDepth 100000 in
/-- The first write: of few bytes, to a buffer that holds nothing. -/
theorem write_first (P : Nat → Prop) (b n c : Nat) (lr : Int) (cs : List Value) (a : Addr) (w : World) (h1 : w.heap[b]? = some (.cells #[.slice none 0 0, .int .i64 0, .int .i8 lr] 43 (0, 0))) (hBw : ∀ x, w.heap.size ≤ x → P x)
    (hn : cs.length = n) (hn0 : 1 ≤ n) (hn64 : n ≤ 64) (hab : a.block ≠ b) (haB : ¬ P a.block) (hsrc : ∀ j v, cs[j]? = some v → w.cell? (a.add j) = some v) (hone' : ∀ v ∈ cs, v.oneCell' = true) :
    Calls Tryz.prog 146 #[.pointer (some ⟨b, 0, none⟩), .slice (some a) n c] w (WPost P b n cs w) := by
  obtain ⟨c0, c1, c2, hf⟩ := bf_cell h1
  have f2 := hf 2
  obtain ⟨w0, hw0⟩ : ∃ w0, w0 = w.setCell ⟨b, 2, none⟩ (.int .i8 0) := ⟨_, rfl⟩
  have hk0 : Kept (fun x _ => x = b ∨ P x) w w0 := by rw [hw0]; exact Kept.setCell (.inl rfl)
  have hs0 : w0.heap.size = w.heap.size := by rw [hw0]; simp [World.setCell]
  have hB0 : w0.heap[b]? = some (.cells #[.slice none 0 0, .int .i64 0, .int .i8 0] 43 (0, 0)) := by
    rw [hw0]; simpa using Lib.heap_setCell_same (i := 2) h1 (.int .i8 0)
  have HS0 : Hid (∀ j v, cs[j]? = some v → w0.cell? (a.add j) = some v) := Lib.hid fun j v hj => by
    rw [hw0]
    exact (World.cell?_setCell_other _ _ _ _ (fun e => hab (by have := congrArg Addr.block e; rw [Lib.block_add] at this; exact this.symm))).trans (hsrc j v hj)
  obtain ⟨d0, d1, _, hfd⟩ := bf_cell hB0
  have HG := Lib.hid (tg_none b 0 0 n none w0 d0 (by omega) (by omega) (by omega))
  have HGR := Lib.hid (grow_first b n 0 w0 hB0 hn0 hn64)
  have HT : Hid (∀ W g' cap' cur', Bf W b g' n cap' cur' → P g' → Kept (fun x _ => x = b ∨ P x) w0 W →
      (∀ t ty, (Builtin.copy_ #[22, 22] ty #[.slice (some ⟨g', 0, none⟩) n cap', .slice (some a) n t]).run Tryz.prog W = .ok (.int .i64 n) (W.setRow g' (cs ++ cur'.toList.drop n).toArray)) ∧
      WPost P b n cs w (.returned (.tuple #[.int .i64 n, .nilIface])) (W.setRow g' (cs ++ cur'.toList.drop n).toArray)) := Lib.hid fun W g' cap' cur' hW hBg' hkW => by
    have hW2 : Bf W b g' (0 + n) cap' cur' := by rw [Nat.zero_add]; exact hW
    have hw1 := bf_written (bs := []) (cs := cs) hW2 (by simp) rfl hn
    simp only [List.take_zero, List.nil_append, Nat.zero_add] at hw1
    refine ⟨fun t ty => ?_, rfl, g', cap', _, hw1.1, hw1.2, hBg', (hk0.trans hkW).trans (kept_setRow _ (fun _ => .inr hBg') hW.row)⟩
    have hcp := run_copy_row (P := Tryz.prog) W 22 22 ty 5 g' 0 n cap' a n t cur' 5 cs Tryz.underlying22 u8_size hW.row (by rw [hn]; exact (Nat.min_self n).symm)
      (fun j v hj => by
        have h8 := HS0.out j v hj
        have hlt : a.block < w0.heap.size := by rw [hs0]; exact Nat.lt_of_not_le fun hh => haB (hBw _ hh)
        have : W.heap[a.block]? = w0.heap[a.block]? := hkW.block _ hlt (fun y hr => by rcases hr with hr | hr; exact hab hr; exact haB hr)
        exact (World.cell?_of_block (w := w0) (by rw [Lib.block_add]; exact this)).trans h8) (by rw [hn, hW.size, Nat.zero_add]; exact hW.le) hone'
    rw [hn] at hcp
    simp only [List.take_zero, List.nil_append, Nat.zero_add] at hcp
    exact hcp
  have HW0 := Lib.hid hw0
  clear hw0 hB0 h1 hf hfd hsrc hone' hk0 d0 d1 c0 c1
  go_enter Tryz.func146, Tryz.ntmps146
  go_wp2_with fail
  rw [← HW0.out]
  refine HG.out.mono ?_
  rintro e w2 ⟨rfl, rfl⟩
  go_wp2_with fail
  refine HGR.out.mono ?_
  rintro e W ⟨rfl, cap', cur', hBW, hbW, hkW⟩
  rw [hs0, Nat.zero_add] at hBW
  obtain ⟨hcp, hpost⟩ := HT.out W w.heap.size cap' cur' hBW (hBw _ (Nat.le_refl _)) (hkW.mono fun _ _ _ hx => .inl hx)
  obtain ⟨⟨lr1, g2⟩, _⟩ := id hBW
  have e0 := (bf_cell g2).1
  have hle := hBW.le
  have hmo := hBW.most
  have q1 : ¬ cap' = 0 := by omega
  have HP := Lib.hid hpost
  clear hpost g2 hkW hbW hBW
  go_wp2_with fail
  go_ret2
  exact HP.out

set_option maxHeartbeats 4000000 in
set_option maxRecDepth 100000 in
/-- A write of no byte to a buffer that holds some. -/
theorem write_none (P : Nat → Prop) (b g l cap c : Nat) (cur : Array Value) (bs : List Value) (a : Option Addr) (w : World) (h : Bf w b g l cap cur) (hb : cur.toList.take l = bs) (hl : bs.length = l) (hBg : P g) :
    Calls Tryz.prog 146 #[.pointer (some ⟨b, 0, none⟩), .slice a 0 c] w (WPost P b 0 bs w) := by
  obtain ⟨⟨lr, h1⟩, h2, h3, h4, h5, h6⟩ := h
  obtain ⟨c0, c1, c2, hf⟩ := bf_cell h1
  have f2 := hf 2
  obtain ⟨w0, hw0⟩ : ∃ w0, w0 = w.setCell ⟨b, 2, none⟩ (.int .i8 0) := ⟨_, rfl⟩
  have hk0 : Kept (fun x _ => x = b ∨ P x) w w0 := by rw [hw0]; exact Kept.setCell (.inl rfl)
  have g1 : w0.heap[b]? = some (.cells #[.slice (some ⟨g, 0, none⟩) l cap, .int .i64 0, .int .i8 0] 43 (0, 0)) := by
    rw [hw0]; simpa using Lib.heap_setCell_same (i := 2) h1 (.int .i8 0)
  have hg0 : w0.heap[g]? = some (.cells cur 5 (0, 0)) := by rw [hw0, Below.heap_setCell _ _ _ _ h6]; exact h2
  obtain ⟨d0, d1, _, hfd⟩ := bf_cell g1
  have hb0' := hfd 0
  have HG := Lib.hid (tg_room b l cap 0 ⟨g, 0, none⟩ w0 d0 hb0' h3 h4 (by omega))
  obtain ⟨W, hW⟩ : ∃ W, W = w0.setCell ⟨b, 0, none⟩ (.slice (some ⟨g, 0, none⟩) (l + 0) cap) := ⟨_, rfl⟩
  have hBW : Bf W b g bs.length cap cur := by
    rw [hl]
    refine ⟨⟨0, ?_⟩, ?_, h3, h4, h5, h6⟩
    · rw [hW]; simpa using Lib.heap_setCell_same (i := 0) g1 (.slice (some ⟨g, 0, none⟩) (l + 0) cap)
    · rw [hW, Below.heap_setCell _ _ _ _ h6]; exact hg0
  have hpost : WPost P b 0 bs w (.returned (.tuple #[.int .i64 0, .nilIface])) W := ⟨rfl, g, cap, cur, hBW, by rw [hl]; exact hb, hBg, hk0.trans (by rw [hW]; exact Kept.setCell (.inl rfl))⟩
  have hcp : ∀ d x y ty, (Builtin.copy_ #[22, 22] ty #[.slice d x y, .slice a 0 c]).run Tryz.prog W = .ok (.int .i64 0) W := fun d x y ty => run_copy_none W 22 22 ty 5 d a x y 0 c Tryz.underlying22 u8_size (by simp)
  obtain ⟨⟨lr1, g2⟩, _⟩ := id hBW
  rw [hl] at g2
  have e0 := (bf_cell g2).1
  have q2 : (l : Int) ≤ (l : Int) := Int.le_refl _
  have HW := Lib.hid hW
  have HW0 := Lib.hid hw0
  have HP := Lib.hid hpost
  clear hW hw0 hpost g1 g2 h1 h2 hf hfd hb hk0 d0 d1 hb0' c0 c1 h5 hg0 hBW
  go_enter Tryz.func146, Tryz.ntmps146
  go_wp2_with fail
  rw [← HW0.out]
  refine HG.out.mono ?_
  rintro e w2 ⟨rfl, rfl⟩
  rw [← HW.out]
  go_wp2_with fail
  all_goals go_ret2
  all_goals exact HP.out

end Go.Proofs.YtfpihnfhmefeaaaGreatDoor
namespace Go.Proofs.YtfpihnfhmefeaaaGreatDoor
open Go.Lib

/-- What is laid is read. -/
theorem dec_uv : ∀ (k x i acc : Nat) (r : List UInt8), x < 128 ^ (k + 1) → i + k < 9 → uvarintFrom i acc (uvarint x ++ r) = (acc + x * 2 ^ (7 * i), ((i + (uvarint x).length : Nat) : Int)) := by
  have small : ∀ (x i acc : Nat) (r : List UInt8), x < 128 → i < 9 → uvarintFrom i acc (uvarint x ++ r) = (acc + x * 2 ^ (7 * i), ((i + (uvarint x).length : Nat) : Int)) := fun x i acc r hx hi => by
    have hn : x.toUInt8.toNat = x := by simp only [Nat.toUInt8, UInt8.toNat_ofNat']; omega
    rw [uvarint_small hx]
    simp only [List.cons_append, List.nil_append, uvarintFrom, hn, List.length_singleton]
    rw [if_neg (by omega), if_pos hx, if_neg (by omega)]
    simp
  intro k
  induction k with
  | zero => intro x i acc r hx hi; exact small x i acc r (by simpa using hx) (by omega)
  | succ k ih =>
    intro x i acc r hx hi
    by_cases h : x < 128
    · exact small x i acc r h (by omega)
    · have hn : (x % 128 + 128).toUInt8.toNat = x % 128 + 128 := by simp only [Nat.toUInt8, UInt8.toNat_ofNat']; omega
      have hx2 : x / 128 < 128 ^ (k + 1) := by
        rw [Nat.pow_succ] at hx
        exact Nat.div_lt_of_lt_mul (by rw [Nat.mul_comm]; exact hx)
      rw [uvarint_big (by omega)]
      simp only [List.cons_append, uvarintFrom, hn, List.length_cons]
      rw [if_neg (by omega), if_neg (by omega), ih (x / 128) (i + 1) _ r hx2 (by omega)]
      have e1 : 2 ^ (7 * (i + 1)) = 128 * 2 ^ (7 * i) := by rw [show 7 * (i + 1) = 7 + 7 * i by omega, Nat.pow_add]
      have e2 : (x % 128 + 128) % 128 = x % 128 := by omega
      have e3 : x % 128 * 2 ^ (7 * i) + x / 128 * (128 * 2 ^ (7 * i)) = x * 2 ^ (7 * i) := by
        rw [← Nat.mul_assoc, ← Nat.add_mul]
        congr 1
        omega
      rw [e1, e2, Nat.add_assoc, e3, show i + 1 + (uvarint (x / 128)).length = i + ((uvarint (x / 128)).length + 1) by omega]

theorem uvarint_dec {x : Nat} (hx : x < 4294967296) (r : List UInt8) : uvarintDec (uvarint x ++ r) = (x, ((uvarint x).length : Int)) := by
  have h := dec_uv 4 x 0 0 r (Nat.lt_of_lt_of_le hx (by decide)) (by omega)
  simpa [uvarintDec] using h
theorem zigzag_nat (n : Nat) : zigzag (n : Int) = 2 * n := by unfold zigzag; rw [if_pos (by omega)]; omega
theorem varint_dec {n : Nat} (hn : n < 2147483648) (r : List UInt8) : varintDec (uvarint (zigzag (n : Int)) ++ r) = ((n : Int), ((uvarint (zigzag (n : Int))).length : Int)) := by
  rw [zigzag_nat]
  unfold varintDec
  rw [uvarint_dec (by omega)]
  simp [unzigzag]
theorem uvarint_five {x : Nat} (hx : x < 4294967296) : (uvarint x).length ≤ 5 := uvarint_length 4 x (Nat.lt_of_lt_of_le hx (by decide))

/-- k numbers, laid one behind the other. -/
def encs (f : Nat → Nat) : Nat → List UInt8
  | 0 => []
  | k + 1 => encs f k ++ uvarint (f k)
theorem encs_succ (f : Nat → Nat) (k : Nat) : encs f (k + 1) = encs f k ++ uvarint (f k) := rfl
theorem encs_pre (f : Nat → Nat) : ∀ (k d : Nat), ∃ r, encs f (k + d) = encs f k ++ r
  | k, 0 => ⟨[], by simp⟩
  | k, d + 1 => by
    obtain ⟨r, hr⟩ := encs_pre f k d
    exact ⟨r ++ uvarint (f (k + d)), by rw [← Nat.add_assoc, encs_succ, hr, List.append_assoc]⟩
theorem encs_lt (f : Nat → Nat) {k : Nat} : ∀ {m : Nat}, k < m → (encs f k).length < (encs f m).length
  | 0, h => absurd h (Nat.not_lt_zero _)
  | m + 1, h => by
    rw [encs_succ, List.length_append]
    have := uvarint_pos (f m)
    rcases Nat.lt_or_ge k m with h1 | h1
    · have := encs_lt f h1; omega
    · have : k = m := by omega
      subst this; omega
theorem encs_congr {f g : Nat → Nat} : ∀ {k : Nat}, (∀ t, t < k → f t = g t) → encs f k = encs g k
  | 0, _ => rfl
  | k + 1, h => by rw [encs_succ, encs_succ, encs_congr (k := k) fun t ht => h t (by omega), h k (by omega)]

/-- The head of ten bytes that says a number. -/
def IsHead (n : Nat) (h : List UInt8) : Prop := h.length = 10 ∧ ∃ r, h = uvarint (zigzag (n : Int)) ++ r
/-- The stretches, s of them, in which the numbers from the i-th on are laid. -/
def PackedN (f : Nat → Nat) (m : Nat) : Nat → Nat → List UInt8 → Prop
  | 0, i, p => i = m ∧ p = []
  | s + 1, i, p => ∃ k h r, p = h ++ (encs (fun t => f (i + t)) k ++ r) ∧ 0 < k ∧ i + k ≤ m ∧ IsHead (10 + (encs (fun t => f (i + t)) k).length) h ∧ 10 + (encs (fun t => f (i + t)) k).length ≤ 16384 ∧ PackedN f m s (i + k) r
/-- The stretches in which the numbers from the i-th on are laid. -/
def IsPacked (f : Nat → Nat) (m i : Nat) (p : List UInt8) : Prop := ∃ s, PackedN f m s i p
theorem IsPacked.done {f : Nat → Nat} {m : Nat} : IsPacked f m m [] := ⟨0, rfl, rfl⟩
/-- A saved index: the text's length, the text, the numbers. -/
def IsSaved (t : List UInt8) (g : Nat → Nat) (l : List UInt8) : Prop := ∃ h p, l = h ++ (t ++ p) ∧ IsHead t.length h ∧ IsPacked g t.length 0 p

theorem head_dec {n : Nat} (hn : n < 2147483648) {h : List UInt8} (hh : IsHead n h) (r : List UInt8) : (varintDec (h ++ r)).1 = (n : Int) := by
  obtain ⟨_, q, rfl⟩ := hh
  rw [List.append_assoc, varint_dec hn]

end Go.Proofs.YtfpihnfhmefeaaaGreatDoor
namespace Go.Proofs.YtfpihnfhmefeaaaGreatDoor
open Go.RowKit

/-- Bytes laid in a row of bytes. -/
theorem Row.bytes {w : World} {g N : Nat} {D : Nat → UInt8} (h : Row w .u8 g 0 N (fun j => ((D j).toNat : Int))) (o : Nat) (l : List UInt8) (hl : o + l.length ≤ N) :
    Row (w.setCells g o (Lib.byteCells l)) .u8 g 0 N (fun j => (((if o ≤ j ∧ j < o + l.length then l.getD (j - o) 0 else D j)).toNat : Int)) := by
  have hlen : (Lib.byteCells l).length = l.length := by simp [Lib.byteCells]
  refine ⟨fun j hj => ?_, fun j hj => by rw [World.frozen?_setCells]; exact h.free j hj⟩
  rw [Nat.zero_add]
  by_cases e : o ≤ j ∧ j < o + l.length
  · have h1 := World.cell?_setCells_in g (Lib.byteCells l) o w (fun x hx => by have := h.cell (o + x) (by rw [hlen] at hx; omega); rw [Nat.zero_add] at this; rw [this]; rfl) (j - o) (by rw [hlen]; omega)
    rw [show o + (j - o) = j by omega] at h1
    rw [h1, if_pos e]
    simp [Lib.byteCells, List.getD, show j - o < l.length by omega]
  · rw [World.cell?_setCells_out g _ o w ⟨g, j, none⟩ (fun _ _ => by rw [hlen]; show j < o ∨ o + l.length ≤ j; omega), if_neg e]
    have := h.cell j hj
    rwa [Nat.zero_add] at this
/-- The first n bytes of a row. -/
def frontB (D : Nat → UInt8) (n : Nat) : List UInt8 := (List.range n).map D
theorem front_len (D : Nat → UInt8) (n : Nat) : (frontB D n).length = n := by simp [frontB]
theorem front_src {w : World} {g N : Nat} {D : Nat → UInt8} (h : Row w .u8 g 0 N (fun j => ((D j).toNat : Int))) {n : Nat} (hn : n ≤ N) : ∀ j v, (Lib.byteCells (frontB D n))[j]? = some v → w.cell? ((⟨g, 0, none⟩ : Addr).add j) = some v := fun j v hv => by
  have hj : j < n := by
    have := (List.getElem?_eq_some_iff.1 hv).1
    simpa [Lib.byteCells, frontB] using this
  have := h.cell j (by omega)
  rw [Addr.add_lit, this]
  simp [Lib.byteCells, frontB, hj] at hv
  rw [← hv]

end Go.Proofs.YtfpihnfhmefeaaaGreatDoor
namespace Go.Proofs.YtfpihnfhmefeaaaGreatDoor
open Go.RowKit

/-- A buffer's content. -/
def Holds (w : World) (P : Nat → Prop) (b : Nat) (l : List UInt8) : Prop := ∃ g cap cur, Bf w b g l.length cap cur ∧ cur.toList.take l.length = Lib.byteCells l ∧ P g
theorem WPost.holds {P : Nat → Prop} {b n : Nat} {l : List UInt8} {w : World} {e : Ending} {w' : World} (h : WPost P b n (Lib.byteCells l) w e w') : e = .returned (.tuple #[.int .i64 n, .nilIface]) ∧ Holds w' P b l ∧ Kept (fun x _ => x = b ∨ P x) w w' := by
  obtain ⟨he, g, cap, cur, hB, ht, hg, hk⟩ := h
  have hlen : (Lib.byteCells l).length = l.length := by simp [Lib.byteCells]
  rw [hlen] at hB ht
  exact ⟨he, ⟨g, cap, cur, hB, ht, hg⟩, hk⟩
theorem cells_app (a b : List UInt8) : Lib.byteCells a ++ Lib.byteCells b = Lib.byteCells (a ++ b) := by simp [Lib.byteCells]

/-- PutVarint at the row's head. -/
theorem put_head (fb N c x : Nat) (D : Nat → UInt8) (w : World) (hx : x < 2147483648) (hD : Row w .u8 fb 0 N (fun j => ((D j).toNat : Int))) (hN : 10 ≤ N) :
    ∃ (D' : Nat → UInt8) (w1 : World), (∀ n, 10 ≤ n → Calls Tryz.prog 42 #[.slice (some ⟨fb, 0, none⟩) n c, .int .i64 x] w fun e w' => (∃ v, e = .returned (.int .i64 v)) ∧ w' = w1) ∧ Row w1 .u8 fb 0 N (fun j => ((D' j).toNat : Int)) ∧
      Kept (fun y _ => y = fb) w w1 ∧ IsHead x (frontB D' 10) ∧ (∀ j, 10 ≤ j → D' j = D j) := by
  have hl : (Lib.uvarint (Lib.zigzag (x : Int))).length ≤ 10 := Nat.le_trans (uvarint_five (by rw [zigzag_nat]; omega)) (by omega)
  generalize hL : Lib.uvarint (Lib.zigzag (x : Int)) = L at hl
  have hR := hD.bytes 0 L (by omega)
  refine ⟨_, _, fun n hn => ?_, hR, Kept.setCells _ _ _ fun _ _ => rfl, ⟨front_len _ _, (frontB (fun j => if 0 ≤ j ∧ j < 0 + L.length then L.getD (j - 0) 0 else D j) 10).drop L.length, ?_⟩, fun j hj => ?_⟩
  · have h := Any.binary_PutVarint Tryz.pvL fb 0 n c (x : Int) (by omega) (by omega) w (by rw [hL]; omega) (fun j hj => by
      rw [hL] at hj
      have h1 := hD.cell j (by omega)
      exact ⟨by rw [h1]; rfl, hD.free j (by omega)⟩)
    rw [hL] at h
    change Calls Tryz.prog 42 _ _ _ at h
    exact h.mono fun e w' ⟨h1, h2⟩ => ⟨⟨_, h1⟩, h2⟩
  · have : (frontB (fun j => if 0 ≤ j ∧ j < 0 + L.length then L.getD (j - 0) 0 else D j) 10).take L.length = L := by
      apply List.ext_getElem
      · simp [frontB]; omega
      · intro i h1 h2
        simp [frontB, h2]
    rw [hL]
    conv => lhs; rw [← List.take_append_drop L.length (frontB (fun j => if 0 ≤ j ∧ j < 0 + L.length then L.getD (j - 0) 0 else D j) 10)]
    rw [this]
  · show (if 0 ≤ j ∧ j < 0 + L.length then L.getD (j - 0) 0 else D j) = D j
    rw [if_neg (by omega)]

/-- The writer's method is the buffer's own. (280: the fuel that the walk shows at this program.) -/
theorem nil_write (a : Addr) (w : World) : (nilAhead 280 49 (.pointer (some a)) "Write").run Tryz.prog w = .ok (some false) w := by kernel_rfl
theorem meth_write (a : Addr) (w : World) : (method 280 49 (.pointer (some a)) "Write").run Tryz.prog w = .ok (146, .pointer (some a)) w := by kernel_rfl

set_option maxHeartbeats 4000000 in
set_option maxRecDepth 100000 in
/-- The head of a saved index. -/
theorem writeInt_first (P : Nat → Prop) (b fb x : Nat) (lr : Int) (D : Nat → UInt8) (w : World) (h1 : w.heap[b]? = some (.cells #[.slice none 0 0, .int .i64 0, .int .i8 lr] 43 (0, 0))) (hx : x < 2147483648) (hD : Row w .u8 fb 0 16384 (fun j => ((D j).toNat : Int))) (_hbB : ¬ P b) (hBw : ∀ x, w.heap.size ≤ x → P x) (hfb : ¬ P fb) (hne : fb ≠ b) :
    Calls Tryz.prog 30 #[.iface 49 (.pointer (some ⟨b, 0, none⟩)), .slice (some ⟨fb, 0, none⟩) 16384 16384, .int .i64 x] w fun e w' =>
      e = .returned .nilIface ∧ ∃ (h : List UInt8) (D' : Nat → UInt8), IsHead x h ∧ Holds w' P b h ∧ Row w' .u8 fb 0 16384 (fun j => ((D' j).toNat : Int)) ∧ Kept (fun y _ => y = b ∨ P y ∨ y = fb) w w' := by
  obtain ⟨D', w1, hP, hR1, hk1, hh, _⟩ := put_head fb 16384 16384 x D w hx hD (by omega)
  have hb1 : w1.heap[b]? = some (.cells #[.slice none 0 0, .int .i64 0, .int .i8 lr] 43 (0, 0)) := (hk1.block b (Array.getElem?_eq_some_iff.1 h1).1 (fun _ e => hne e.symm)).trans h1
  have hs1 := hk1.size
  have HW : Hid (∀ k, Calls Tryz.prog 146 #[.pointer (some ⟨b, 0, none⟩), .slice (some ⟨fb, 0, none⟩) 10 16384] (w1.drewN k) fun e w' => WPost P b 10 (Lib.byteCells (frontB D' 10)) (w1.drewN k) e w') := Lib.hid fun k =>
    write_first P b 10 16384 lr (Lib.byteCells (frontB D' 10)) ⟨fb, 0, none⟩ (w1.drewN k) hb1 (fun x hx => hBw x (by have : w1.heap.size ≤ x := hx; omega)) (by simp [Lib.byteCells, frontB]) (by omega) (by omega) hne hfb (front_src (hR1.drewN k) (by omega)) (Lib.byteCells_one _)
  have HP := Lib.hid (hP 16384 (by omega))
  have HH := Lib.hid (And.intro hh (And.intro hR1 hk1))
  have hna := nil_write ⟨b, 0, none⟩
  have hme := meth_write ⟨b, 0, none⟩
  clear hP hh hR1 hk1 hb1 h1 hD
  go_enter Tryz.func30, Tryz.ntmps30
  go_wp2_with fail
  refine HP.out.mono ?_
  rintro e w2 ⟨⟨v, rfl⟩, rfl⟩
  go_wp2_with fail
  go_region_with (go_at_call 146; refine (HW.out _).mono ?_; rintro e w' hp; obtain ⟨rfl, hhold, hkw⟩ := hp.holds; clear hp)
  all_goals (
    go_wp2_with fail
    go_ret
    refine ⟨rfl, frontB D' 10, D', HH.out.1, hhold, (HH.out.2.1.drewN _).kept hkw (fun j _ hr => by rcases hr with hr | hr; exact hne hr; exact hfb hr), ?_⟩
    exact (HH.out.2.2.mono fun _ _ _ hr => .inr (.inr hr)).trans (((Kept.refl _ _).drewN _).trans (hkw.mono fun y _ _ hr => by rcases hr with hr | hr; exact .inl hr; exact .inr (.inl hr))))

theorem Holds.kept {w w' : World} {P : Nat → Prop} {b : Nat} {L : List UInt8} {R : Nat → Nat → Prop} (h : Holds w P b L) (k : Kept R w w') (hb : ∀ y, ¬ R b y) (hB : ∀ x y, P x → ¬ R x y) : Holds w' P b L := by
  obtain ⟨g, cap, cur, ⟨⟨lr, h1⟩, h2, h3, h4, h5, h6⟩, ht, hg⟩ := h
  have hbs : b < w.heap.size := (Array.getElem?_eq_some_iff.1 h1).1
  have hgs : g < w.heap.size := (Array.getElem?_eq_some_iff.1 h2).1
  exact ⟨g, cap, cur, ⟨⟨lr, (k.block b hbs hb).trans h1⟩, (k.block g hgs fun y => hB g y hg).trans h2, h3, h4, h5, h6⟩, ht, hg⟩
theorem bytes_one (L : List UInt8) : ∀ v ∈ Lib.byteCells L, v.oneCell' = true := Lib.byteCells_one L
/-- A write behind what the buffer holds. -/
theorem write_holds (P : Nat → Prop) (b fb n c : Nat) (L : List UInt8) (D : Nat → UInt8) (w : World) (h : Holds w P b L) (hL : 0 < L.length) (hbB : ¬ P b) (hBw : ∀ x, w.heap.size ≤ x → P x) (N : Nat) (hD : Row w .u8 fb 0 N (fun j => ((D j).toNat : Int))) (hn : n ≤ N) (hn0 : 0 < n) (hfb : ¬ P fb) (hne : fb ≠ b) (hlim : L.length + n ≤ 140737488355328) :
    Calls Tryz.prog 146 #[.pointer (some ⟨b, 0, none⟩), .slice (some ⟨fb, 0, none⟩) n c] w fun e w' => e = .returned (.tuple #[.int .i64 n, .nilIface]) ∧ Holds w' P b (L ++ frontB D n) ∧ Kept (fun x _ => x = b ∨ P x) w w' := by
  obtain ⟨g, cap, cur, hB, ht, hg⟩ := h
  refine (write_row P b g L.length cap n c cur (Lib.byteCells L) (Lib.byteCells (frontB D n)) ⟨fb, 0, none⟩ w hB ht (by simp [Lib.byteCells]) hbB hBw hg hL (bytes_one L) (by simp [Lib.byteCells, frontB]) hn0 hne hfb (front_src hD hn) (bytes_one _) hlim).mono fun e w' hp => ?_
  rw [cells_app] at hp
  exact hp.holds

set_option maxHeartbeats 1000000 in
set_option maxRecDepth 100000 in
/-- A number of a stretch. -/
theorem get_of (xb sb i d sc k : Nat) (v : Nat) (w : World) (h1 : w.cell? ⟨xb, 0, none⟩ = some (.slice (some ⟨sb, i, none⟩) d sc)) (h3 : w.cell? ⟨sb, i + k, none⟩ = some (.int .i32 (v : Int))) (hk : k < d) (hv : v < 1073741824) :
    Calls Tryz.prog 44 #[.pointer (some ⟨xb, 0, none⟩), .int .i64 k] w fun e w' => e = .returned (.int .i64 (v : Int)) ∧ w' = w := by
  have q1 : ∀ (w : World) (a : Option Addr) (n c n' c' : Nat), (binOp .neq 51 (.slice a n c) (.slice none n' c')).run Tryz.prog w = .ok (.bool !a.isNone) w := fun w a n c n' c' => run_neq_slice_nil_any w _ _ a n c n' c' Tryz.underlying51
  go_enter Tryz.func44, Tryz.ntmps44
  go_wp2_with fail
  go_ret
  exact ⟨rfl, rfl⟩
/-- A number, seven bits a byte. -/
theorem put_num (fb p n c x : Nat) (D : Nat → UInt8) (w : World) (hx : x < 1073741824) (hD : Row w .u8 fb 0 16384 (fun j => ((D j).toNat : Int))) (hp : p + 10 ≤ 16384) (hn : 10 ≤ n) :
    Calls Tryz.prog 43 #[.slice (some ⟨fb, p, none⟩) n c, .int .u64 x] w fun e w' => e = .returned (.int .i64 (Lib.uvarint x).length) ∧ w' = w.setCells fb p (Lib.byteCells (Lib.uvarint x)) := by
  have hl := uvarint_five (show x < 4294967296 by omega)
  exact Any.binary_PutUvarint Tryz.puL fb p n c x (by omega) w (by omega) (fun j hj => by
    have h1 := hD.cell (p + j) (by omega)
    rw [Nat.zero_add] at h1
    have h2 := hD.free (p + j) (by omega)
    rw [Nat.zero_add] at h2
    exact ⟨by rw [h1]; rfl, h2⟩)

set_option maxHeartbeats 4000000 in
set_option maxRecDepth 100000 in
/-- A stretch of numbers is written: the box of the slice in block xb; the numbers from the i-th on lie in block sb. -/
theorem writeSlice_any (P : Nat → Prop) (b fb sb i d : Nat) (f : Nat → Nat) (D : Nat → UInt8) (L : List UInt8) (sc : Nat) (w : World) (hL : 0 < L.length) (hH : Holds w P b L) (hlim : L.length + 16384 ≤ 140737488355328) (hD : Row w .u8 fb 0 16384 (fun j => ((D j).toNat : Int)))
    (hN : ∀ j, j < d → w.cell? ⟨sb, i + j, none⟩ = some (.int .i32 (f (i + j) : Int))) (hf : ∀ j, f j < 1073741824) (hd : 0 < d) (hdn : d ≤ 1073741824) (hsf : sb ≠ fb) (hbB : ¬ P b) (hBw : ∀ x, w.heap.size ≤ x → P x) (hfb : ¬ P fb) (hne : fb ≠ b) :
    Calls Tryz.prog 32 #[.iface 49 (.pointer (some ⟨b, 0, none⟩)), .slice (some ⟨fb, 0, none⟩) 16384 16384, .agg #[.slice (some ⟨sb, i, none⟩) d sc, .slice none 0 0]] w fun e w' =>
      ∃ (k : Nat) (h : List UInt8) (D' : Nat → UInt8), e = .returned (.tuple #[.int .i64 k, .nilIface]) ∧ 0 < k ∧ k ≤ d ∧ IsHead (10 + (encs (fun t => f (i + t)) k).length) h ∧ 10 + (encs (fun t => f (i + t)) k).length ≤ 16384 ∧
        Holds w' P b (L ++ (h ++ encs (fun t => f (i + t)) k)) ∧ Row w' .u8 fb 0 16384 (fun j => ((D' j).toNat : Int)) ∧ Kept (fun y _ => y = b ∨ P y ∨ y = fb) w w' := by
  have hsb : sb < w.heap.size := cell_lt (hN 0 hd)
  have hflt : fb < w.heap.size := hD.lt (by omega)
  -- the box of the slices
  obtain ⟨W, hW⟩ : ∃ W, W = w.alloc (.cells #[.slice (some ⟨sb, i, none⟩) d sc, .slice none 0 0] 54) := ⟨_, rfl⟩
  have hkW : Kept (fun _ _ => False) w W := by rw [hW]; exact Kept.alloc _ _
  have hx0 : W.cell? ⟨w.heap.size, 0, none⟩ = some (.slice (some ⟨sb, i, none⟩) d sc) := by rw [hW, World.cell?_alloc_at _ _ _ _ rfl]; rfl
  have hx1 : W.cell? ⟨w.heap.size, 1, none⟩ = some (.slice none 0 0) := by rw [hW, World.cell?_alloc_at _ _ _ _ rfl]; rfl
  have hsz : W.heap.size = w.heap.size + 1 := by rw [hW]; simp
  have HN := Lib.hid hN
  have HF := Lib.hid hf
  have HL1 := Lib.hid (len_of w.heap.size 0 d sc (some ⟨sb, i, none⟩) W hx0 hx1 hdn)
  have HX := Lib.hid (And.intro hx0 hx1)
  have HW := Lib.hid hW
  have HD := Lib.hid (hD.keptAll hkW)
  have HHO := Lib.hid hH
  clear hN hf hx0 hx1 hW hD hH
  go_enter Tryz.func32, Tryz.ntmps32
  go_wp2_with fail
  rw [← HW.out]
  refine HL1.out.mono ?_
  rintro e w1 ⟨rfl, q, rfl⟩
  go_wp2_with fail
  go_loopw [6, 8] (fun u v wr => ∃ (k : Nat) (D1 : Nat → UInt8), k ≤ d ∧ u = .int .i64 k ∧ v = .int .i64 ((10 + (encs (fun t => f (i + t)) k).length : Nat) : Int) ∧ 10 + (encs (fun t => f (i + t)) k).length ≤ 16384 ∧ (k < d → k = 0 → 10 + (encs (fun t => f (i + t)) k).length = 10) ∧
      Row wr .u8 fb 0 16384 (fun j => ((D1 j).toNat : Int)) ∧ (∀ j, j < (encs (fun t => f (i + t)) k).length → D1 (10 + j) = (encs (fun t => f (i + t)) k).getD j 0) ∧ Kept (fun y _ => y = fb) W wr)
    (fun u _ _ => d - (intOf u).toNat)
  case atStart => exact ⟨0, D, Nat.zero_le _, rfl, rfl, by simp [encs], fun _ _ => by simp [encs], HD.out.drewN q, fun j hj => absurd hj (by simp [encs]), (Kept.refl _ _).drewN q⟩
  case round =>
    obtain ⟨k, D1, hk, rfl, rfl, hp, hp0, hR, hE, hK⟩ := hrel
    have HE := Lib.hid hE
    have HP0 := Lib.hid hp0
    obtain ⟨p, hpe⟩ : ∃ p, p = 10 + (encs (fun t => f (i + t)) k).length := ⟨_, rfl⟩
    rw [← hpe] at hp ⊢
    have HPE := Lib.hid hpe
    clear hE hp0 hpe
    have hkWr : Kept (fun y _ => y = fb) w wr := (hkW.mono fun _ _ _ hf => hf.elim).trans hK
    have hx0 : wr.cell? ⟨w.heap.size, 0, none⟩ = some (.slice (some ⟨sb, i, none⟩) d sc) := by rw [hK.cell _ _ (cell_lt HX.out.1) (fun hr => by omega)]; exact HX.out.1
    by_cases hgo : k < d ∧ p + 10 ≤ 16384
    · have hfk := HF.out (i + k)
      have hcx : wr.cell? ⟨sb, i + k, none⟩ = some (.int .i32 (f (i + k) : Int)) := by
        have h7 := HN.out k hgo.1
        rw [hkWr.cell _ _ (cell_lt h7) (fun hr => hsf hr)]; exact h7
      have HG := Lib.hid (get_of w.heap.size sb i d sc k (f (i + k)) wr.drew hx0 hcx hgo.1 hfk)
      have HPU := Lib.hid (put_num fb p (16384 - p) (16384 - p) (f (i + k)) D1 wr.drew hfk hR.drew hgo.2 (by omega))
      have hl5 := uvarint_five (show f (i + k) < 4294967296 by omega)
      have hl1 := Lib.uvarint_pos (f (i + k))
      obtain ⟨U, hU⟩ : ∃ U, U = Lib.uvarint (f (i + k)) := ⟨_, rfl⟩
      rw [← hU] at HPU hl5 hl1
      have HU := Lib.hid hU
      clear hU
      have hwu : IntKind.u64.wrap (f (i + k) : Int) = (f (i + k) : Int) := by rw [IntKind.wrap_u64]; omega
      have hwp : IntKind.i64.wrap ((p : Int) + (U.length : Int)) = (p : Int) + (U.length : Int) := IntWalk.i64_in _ (by omega)
      have q1 : (k : Int) < (d : Int) := by omega
      have q2 : (p : Int) + 10 ≤ 16384 := by omega
      have q3 : ¬ 16384 = p := by omega
      have q4 : (p : Int) ≤ 16384 := by omega
      have q5 : p ≤ 16384 := by omega
      clear hx0 hcx
      go_wp2_with fail
      go_region_with (first
        | (go_at_call 44; with_reducible refine HG.out.mono ?_; rintro e w' ⟨rfl, rfl⟩)
        | (go_at_call 43; with_reducible refine HPU.out.mono ?_; rintro e w' ⟨rfl, rfl⟩))
      all_goals (
        go_wp2_with fail
        go_roundw
        case rel =>
          have hR2 := hR.drew.bytes p U (by omega)
          have hpe := HPE.out
          have e1 : (encs (fun t => f (i + t)) (k + 1)).length = (encs (fun t => f (i + t)) k).length + U.length := by rw [encs_succ, List.length_append, HU.out]
          refine ⟨k + 1, _, by omega, by simp, by rw [e1]; simp; omega, by rw [e1]; omega, fun _ h => by omega, hR2, fun j hj => ?_, (hK.drew).trans (Kept.setCells _ _ _ fun _ _ => rfl)⟩
          rw [e1] at hj
          show (if p ≤ 10 + j ∧ 10 + j < p + U.length then U.getD (10 + j - p) 0 else D1 (10 + j)) = (encs (fun t => f (i + t)) (k + 1)).getD j 0
          rw [encs_succ, ← HU.out]
          by_cases e : j < (encs (fun t => f (i + t)) k).length
          · rw [if_neg (by omega), HE.out j e]
            simp [List.getD, List.getElem?_append_left e]
          · rw [if_pos (by omega)]
            simp only [List.getD, List.getElem?_append_right (by omega : (encs (fun t => f (i + t)) k).length ≤ j)]
            rw [show 10 + j - p = j - (encs (fun t => f (i + t)) k).length by omega]
        case measure => simp [intOf]; omega)
    · -- the stretch is written
      have hkp : 0 < k := by
        rcases Nat.eq_zero_or_pos k with h | h
        · exfalso
          subst h
          have := HP0.out hd rfl
          have := HPE.out
          exact hgo ⟨hd, by omega⟩
        · exact h
      have hpe := HPE.out
      have hlen5 : ∀ x, p < 2147483648 := fun _ => by omega
      obtain ⟨D2, w1, hPV, hR1, hk1, hh, hsame⟩ := put_head fb 16384 16384 p D1 wr (by omega) hR (by omega)
      have hHw1 : Holds w1 P b L := HHO.out.kept (hkWr.trans hk1) (fun _ hr => hne hr.symm) (fun x _ hx hr => hfb (hr ▸ hx))
      have hs1 : ∀ x, w1.heap.size ≤ x → P x := fun x hx => hBw x (by have := (hkWr.trans hk1).size; omega)
      have hfront : frontB D2 p = frontB D2 10 ++ encs (fun t => f (i + t)) k := by
        apply List.ext_getElem
        · simp [frontB]; omega
        · intro j h1 h2
          have hj : j < p := by simpa [frontB] using h1
          by_cases e : j < 10
          · rw [List.getElem_append_left (by simpa [frontB] using e)]
            simp [frontB]
          · rw [List.getElem_append_right (by simp [frontB]; omega)]
            have h3 := HE.out (j - 10) (by omega)
            rw [show 10 + (j - 10) = j by omega, ← hsame j (by omega)] at h3
            simp only [frontB, List.getElem_map, List.getElem_range, List.length_map, List.length_range]
            rw [h3]
            simp [List.getD, show j - 10 < (encs (fun t => f (i + t)) k).length by omega]
      have HWR := Lib.hid (write_holds P b fb p 16384 L D2 w1.drew (hHw1.kept (Kept.refl (fun _ _ => False) w1).drew (fun _ h => h) (fun _ _ _ h => h)) hL hbB (fun x hx => hs1 x hx) 16384 hR1.drew hp (by omega) hfb hne (by omega))
      rw [hfront] at HWR
      have HPV := Lib.hid (hPV 16384 (by omega))
      rw [hpe] at hh
      have HFIN := Lib.hid (And.intro hh (And.intro hR1 (hkWr.trans hk1)))
      have hna := nil_write ⟨b, 0, none⟩
      have hme := meth_write ⟨b, 0, none⟩
      have qp : (p : Int) ≤ 16384 := by omega
      clear hPV hR1 hk1 hh hsame hHw1 hs1 hfront hlen5 hR hK hkWr hpe hx0
      by_cases hk2 : k < d
      · have q1 : (k : Int) < (d : Int) := by omega
        have q2 : ¬ (p : Int) + 10 ≤ 16384 := by omega
        go_wp2_with fail
        refine HPV.out.mono ?_
        rintro e w2 ⟨⟨v, rfl⟩, rfl⟩
        go_wp2_with fail
        go_region_with (go_at_call 146; with_reducible refine HWR.out.mono ?_; rintro e w' ⟨rfl, hhold, hkw⟩)
        all_goals (
          go_wp2_with fail
          go_ret2
          refine ⟨k, frontB D2 10, D2, rfl, hkp, hk, HFIN.out.1, by rw [← HPE.out]; exact hp, hhold, (HFIN.out.2.1.drew).kept hkw (fun j _ hr => by rcases hr with hr | hr; exact hne hr; exact hfb hr), ?_⟩
          exact (HFIN.out.2.2.mono fun _ _ _ hr => .inr (.inr hr)).trans (((Kept.refl _ _).drew).trans (hkw.mono fun y _ _ hr => by rcases hr with hr | hr; exact .inl hr; exact .inr (.inl hr))))
      · have q1 : ¬ (k : Int) < (d : Int) := by omega
        go_wp2_with fail
        refine HPV.out.mono ?_
        rintro e w2 ⟨⟨v, rfl⟩, rfl⟩
        go_wp2_with fail
        go_region_with (go_at_call 146; with_reducible refine HWR.out.mono ?_; rintro e w' ⟨rfl, hhold, hkw⟩)
        all_goals (
          go_wp2_with fail
          go_ret2
          refine ⟨k, frontB D2 10, D2, rfl, hkp, hk, HFIN.out.1, by rw [← HPE.out]; exact hp, hhold, (HFIN.out.2.1.drew).kept hkw (fun j _ hr => by rcases hr with hr | hr; exact hne hr; exact hfb hr), ?_⟩
          exact (HFIN.out.2.2.mono fun _ _ _ hr => .inr (.inr hr)).trans (((Kept.refl _ _).drew).trans (hkw.mono fun y _ _ hr => by rcases hr with hr | hr; exact .inl hr; exact .inr (.inl hr))))

end Go.Proofs.YtfpihnfhmefeaaaGreatDoor
namespace Go.Proofs.YtfpihnfhmefeaaaGreatDoor
open Go.Lib

/-- All of p is there, and perhaps more. -/
def AllOf (p l : List UInt8) : Prop := ∃ r, l = p ++ r
/-- p is cut off. -/
def CutOff (p l : List UInt8) : Prop := ∃ x, x ≠ [] ∧ l ++ x = p
theorem AllOf.step {a b l : List UInt8} (h : AllOf (a ++ b) l) : ∃ l', l = a ++ l' ∧ AllOf b l' := by
  obtain ⟨r, rfl⟩ := h
  exact ⟨b ++ r, by rw [List.append_assoc], r, rfl⟩
theorem CutOff.step {a b l : List UInt8} (h : CutOff (a ++ b) l) : l.length < a.length ∨ ∃ l', l = a ++ l' ∧ CutOff b l' := by
  obtain ⟨x, hx, he⟩ := h
  rcases List.append_eq_append_iff.1 he with ⟨c, h1, h2⟩ | ⟨c, h1, h2⟩
  · by_cases hc : c = []
    · subst hc
      refine .inr ⟨[], by simpa using h1.symm, x, hx, by simpa using h2⟩
    · refine .inl ?_
      rw [h1, List.length_append]
      have : 0 < c.length := List.length_pos_iff.2 hc
      omega
  · exact .inr ⟨c, h1, x, hx, h2.symm⟩
theorem CutOff.nil {l : List UInt8} : ¬ CutOff [] l := by
  rintro ⟨x, hx, he⟩
  exact hx (List.append_eq_nil_iff.1 he).2

/-- The stretches that are left: of none nothing is left; else there is a first. -/
theorem IsPacked.cases {f : Nat → Nat} {m i : Nat} {p : List UInt8} (h : IsPacked f m i p) : (i = m ∧ p = []) ∨ (i < m ∧ ∃ k hd r, p = hd ++ (encs (fun t => f (i + t)) k ++ r) ∧ 0 < k ∧ i + k ≤ m ∧ IsHead (10 + (encs (fun t => f (i + t)) k).length) hd ∧ 10 + (encs (fun t => f (i + t)) k).length ≤ 16384 ∧ IsPacked f m (i + k) r) := by
  obtain ⟨s, h⟩ := h
  cases s with
  | zero => exact .inl h
  | succ s =>
    obtain ⟨k, hd, r, h0, h1, h2, h3, h4, h5⟩ := h
    exact .inr ⟨by omega, k, hd, r, h0, h1, h2, h3, h4, s, h5⟩
theorem IsPacked.le {f : Nat → Nat} {m i : Nat} {p : List UInt8} (h : IsPacked f m i p) : i ≤ m := by
  rcases h.cases with h | h <;> omega
/-- A stretch more at the end. -/
theorem PackedN.snoc {f : Nat → Nat} {m : Nat} (k : Nat) (hd : List UInt8) (hk : 0 < k) (hh : IsHead (10 + (encs (fun t => f (m + t)) k).length) hd) (hle : 10 + (encs (fun t => f (m + t)) k).length ≤ 16384) : ∀ (s : Nat) {i : Nat} {p : List UInt8}, PackedN f m s i p → PackedN f (m + k) (s + 1) i (p ++ (hd ++ encs (fun t => f (m + t)) k))
  | 0, i, p, h => by
    obtain ⟨rfl, rfl⟩ := h
    exact ⟨k, hd, [], by simp, hk, Nat.le_refl _, hh, hle, rfl, rfl⟩
  | s + 1, i, p, h => by
    obtain ⟨k', hd', r, rfl, h1, h2, h3, h4, h5⟩ := h
    exact ⟨k', hd', r ++ (hd ++ encs (fun t => f (m + t)) k), by simp [List.append_assoc], h1, by omega, h3, h4, PackedN.snoc k hd hk hh hle s h5⟩
theorem IsPacked.snoc {f : Nat → Nat} {m : Nat} (k : Nat) (hd : List UInt8) (hk : 0 < k) {i : Nat} {p : List UInt8} (h : IsPacked f m i p) (hh : IsHead (10 + (encs (fun t => f (m + t)) k).length) hd) (hle : 10 + (encs (fun t => f (m + t)) k).length ≤ 16384) : IsPacked f (m + k) i (p ++ (hd ++ encs (fun t => f (m + t)) k)) := by
  obtain ⟨s, h⟩ := h
  exact ⟨s + 1, PackedN.snoc k hd hk hh hle s h⟩

theorem encs_length_le (f : Nat → Nat) (hf : ∀ t, f t < 1073741824) : ∀ k, (encs f k).length ≤ 5 * k
  | 0 => by simp [encs]
  | k + 1 => by
    have h1 := encs_length_le f hf k
    have h2 := uvarint_five (show f k < 4294967296 by have := hf k; omega)
    rw [encs_succ, List.length_append]; omega
theorem encs_length_ge (f : Nat → Nat) : ∀ k, k ≤ (encs f k).length
  | 0 => by simp
  | k + 1 => by
    have h1 := encs_length_ge f k
    have h2 := uvarint_pos (f k)
    rw [encs_succ, List.length_append]; omega
/-- The first number of a stretch, behind k others. -/
theorem encs_at (f : Nat → Nat) {k K : Nat} (h : k < K) : ∃ r, encs f K = encs f k ++ (uvarint (f k) ++ r) := by
  obtain ⟨d, rfl⟩ : ∃ d, K = k + 1 + d := ⟨K - (k + 1), by omega⟩
  obtain ⟨r, hr⟩ := encs_pre f (k + 1) d
  exact ⟨r, by rw [hr, encs_succ, List.append_assoc]⟩

/-- How long the stretches are. -/
theorem PackedN.len {f : Nat → Nat} (hf : ∀ t, f t < 1073741824) {m : Nat} : ∀ (s : Nat) {i : Nat} {p : List UInt8}, PackedN f m s i p → p.length + 15 * i ≤ 15 * m
  | 0, i, p, h => by
    obtain ⟨rfl, rfl⟩ := h
    simp
  | s + 1, i, p, h => by
    obtain ⟨k, hd, r, rfl, h1, h2, h3, h4, h5⟩ := h
    have ih := PackedN.len hf s h5
    have h6 := encs_length_le (fun t => f (i + t)) (fun t => hf _) k
    have h7 := h3.1
    rw [List.length_append, List.length_append, h7]
    omega
theorem IsPacked.len {f : Nat → Nat} (hf : ∀ t, f t < 1073741824) {m i : Nat} {p : List UInt8} (h : IsPacked f m i p) : p.length + 15 * i ≤ 15 * m := by
  obtain ⟨s, h⟩ := h
  exact PackedN.len hf s h
theorem IsSaved.len {t : List UInt8} {f : Nat → Nat} (hf : ∀ j, f j < 1073741824) {L : List UInt8} (h : IsSaved t f L) : 10 ≤ L.length ∧ L.length ≤ 10 + 16 * t.length := by
  obtain ⟨hd, p, rfl, hh, hp⟩ := h
  have := hp.len hf
  have := hh.1
  rw [List.length_append, List.length_append]
  omega

/-- A text's bytes. -/
def textOf (T : Nat → Nat) (n : Nat) : List UInt8 := (List.range n).map fun j => (T j).toUInt8
theorem textOf_len (T : Nat → Nat) (n : Nat) : (textOf T n).length = n := by simp [textOf]
theorem textOf_get (T : Nat → Nat) (n j : Nat) (hj : j < n) (hT : T j < 256) : ((textOf T n).getD j 0).toNat = T j := by
  simp only [textOf, List.getD, List.getElem?_map, List.getElem?_range hj, Option.map_some, Option.getD_some, Nat.toUInt8, UInt8.toNat_ofNat']
  omega

end Go.Proofs.YtfpihnfhmefeaaaGreatDoor
