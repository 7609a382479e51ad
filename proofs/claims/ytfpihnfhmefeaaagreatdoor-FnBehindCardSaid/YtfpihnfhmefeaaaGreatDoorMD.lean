/-
  A saved index, all of it there, is loaded: the text, and what is found in it. No condition but those typed.
  An append of one number to a slice of the call's own, and whose block it then lies in. No condition.
  Walks over the places of a piece as the specification tells them, over the search of a number in a slice, and over the check of sizes. No condition but those typed.
  Walks over slices.Clone, slices.Sort (by its contract) and the sorted copy of some numbers. No condition but those typed.
  Walks over the comparison of two slices. No condition but those typed.
-/
import Derived.Test.YtfpihnfhmefeaaaGreatDoorMC
import Derived.Test.YtfpihnfhmefeaaaGreatDoorByt
import Derived.Test.YtfpihnfhmefeaaaGreatDoorIn
import Derived.Test.YtfpihnfhmefeaaaGreatDoorIml
import Derived.Test.YtfpihnfhmefeaaaGreatDoorFound
import Derived.Test.YtfpihnfhmefeaaaGreatDoorLayM
import Derived.Deep.QuietTactic
import Derived.BigQuiet
namespace Go.Proofs.YtfpihnfhmefeaaaGreatDoor
open Go.RowKit

theorem sg_congr {T T' : Nat → Nat} {n : Nat} (h : ∀ j, j < n → T' j = T j) (x : Nat) : sg T' n x = sg T n x := by
  unfold sg seg
  congr 1
  exact List.map_congr_left fun y hy => by
    have := List.mem_range.1 hy
    rw [h (x + y) (by omega)]
theorem plcs_congr {T T' : Nat → Nat} {n : Nat} (h : ∀ j, j < n → T' j = T j) (s : List UInt8) : plcs T' n s = plcs T n s := by
  unfold plcs
  split
  · rfl
  · exact List.filter_congr fun x _ => by rw [sg_congr h]
theorem Found.congr {T T' : Nat → Nat} {n : Nat} {s : List UInt8} {k : Int} {c : Nat} {f : Nat → Nat} (e : ∀ j, j < n → T' j = T j) (h : Found T' n s k c f) : Found T n s k c f := by
  obtain ⟨h1, h2, h3, h4⟩ := h
  rw [plcs_congr e] at h1 h3 h4
  exact ⟨h1, h2, h3, h4⟩

/-- What a loading leaves where all is there. -/
def LoadPost (T : Nat → Nat) (n : Nat) (s : List UInt8) (k : Int) (w : World) (e : Ending) (w' : World) : Prop :=
  ∃ a c v cc f, e = .returned (.tuple #[.slice a n c, v, .bool true]) ∧ Came w' a n T ∧ Found T n s k cc f ∧ (cc = 0 → ∃ a' c', v = .slice a' 0 c') ∧ (0 < cc → ∃ rb cap, v = .slice (some ⟨rb, 0, none⟩) cc cap ∧ Row w' .i64 rb 0 cc (fun x => (f x : Int))) ∧ Kept (fun _ _ => False) w w'

theorem loaded_ok (sa : Option Addr) (sc : Nat) (T : Nat → Nat) (n : Nat) (L r : List UInt8) (f : Nat → Nat) (qa : Option Addr) (m qc : Nat) (S : Nat → Nat) (k : Int) (q1 q2 : Addr) (w : World) (hL : IsSaved (textOf T n) f L) (hT : ∀ i, i < n → T i < 256) (hn : n ≤ 1048576) (hf : IsSA T n f)
    (hs : Came w sa (L ++ r).length (fun j => ((L ++ r).getD j 0).toNat)) (hN : (L ++ r).length ≤ 1073741824) (hq : Came w qa m S) (hm : m ≤ 4294967296) (hQ : Laid q1 q2 w) :
    Calls Tryz.prog 9 #[.slice sa (L ++ r).length sc, .slice qa m qc, .int .i64 k] w (LoadPost T n (sg S m 0) k w) := by
  have hT' : ∀ j, j < n → ((textOf T n).getD j 0).toNat = T j := fun j hj => textOf_get T n j hj (hT j hj)
  refine (loaded_any true sa sc (textOf T n) L (L ++ r) f qa m qc S k q1 q2 w hL (by show (if true = true then AllOf L (L ++ r) else CutOff L (L ++ r)); rw [if_pos rfl]; exact ⟨r, rfl⟩) (by rw [textOf_len]; exact hn) (isSA_text hf hT) hs hN hq hm hQ).mono ?_
  rintro e w' ⟨hk, ⟨_, a, c, v, cc, f', rfl, hc, hF, hz, hp⟩ | ⟨h, _⟩⟩
  · rw [textOf_len] at hc hF ⊢
    exact ⟨a, c, v, cc, f', rfl, fun h0 => by
      obtain ⟨b, o, hb, hcc⟩ := hc h0
      exact ⟨b, o, hb, fun j hj => by rw [hcc j hj, show ((fun j => ((textOf T n).getD j 0).toNat) j) = T j from hT' j hj]⟩, hF.congr hT', hz, hp, hk⟩
  · cases h

/-- 'string(..)' of bytes that came in. -/
theorem conv_any (a : Option Addr) (n c : Nat) (T : Nat → Nat) (w : World) (h : Came w a n T) : (convert 22 9 (.slice a n c)).run Tryz.prog w = .ok (.string (strOfNums (lst T n))) w := by
  by_cases h0 : n = 0
  · subst h0
    rw [run_convert_bytes_string w 22 9 5 a 0 c Tryz.underlying22 Tryz.underlying5 Tryz.underlying9]
    cases a <;> simp [Conv.bytesToString, loadCells]
    all_goals rfl
  · obtain ⟨b, o, rfl, hc⟩ := h (by omega)
    exact conv_bytes b o n c T w hc

end Go.Proofs.YtfpihnfhmefeaaaGreatDoor
namespace Go.Proofs.YtfpihnfhmefeaaaGreatDoor
open Go.RowKit

/-- A slice of n numbers that the call owns. -/
def OwnL (w : World) (B : Nat) (e : TypeId) (k : IntKind) (v : Value) (n : Nat) (f : Nat → Int) : Prop := w.ownsRow B e 1 v n ((List.range n).map fun x => Value.int k (f x))
/-- Two slices of the call's own lie in two blocks. -/
def TwoBlocks (v u : Value) : Prop := ∀ g, v.ownBlock = some g → u.ownBlock ≠ some g

section
variable {w w' : World} {B : Nat} {e : TypeId} {k : IntKind} {v u : Value} {n : Nat} {f g : Nat → Int}
theorem OwnL.congr (h : OwnL w B e k v n f) (he : ∀ j, j < n → f j = g j) : OwnL w B e k v n g := by
  have : ((List.range n).map fun x => Value.int k (f x)) = (List.range n).map fun x => Value.int k (g x) := List.map_congr_left fun x hx => by rw [he x (by simpa using hx)]
  unfold OwnL at *
  rw [← this]; exact h
theorem OwnL.kept (h : OwnL w B e k v n f) (hg : w.grownBy w' u.ownBlock) (h2 : TwoBlocks v u) : OwnL w' B e k v n f := by
  refine World.ownsRow.kept h hg ?_
  cases hv : v.ownBlock with
  | none => exact .inl rfl
  | some x => exact .inr fun e => h2 x hv e.symm
theorem OwnL.keptAll (h : OwnL w B e k v n f) (hk : Kept (fun _ _ => False) w w') : OwnL w' B e k v n f :=
  World.ownsRow.kept (row := none) h ⟨hk.os, hk.tape, hk.output, hk.size, fun y hy _ => hk.block y hy fun _ hf => hf⟩ (by
    cases hv : v.ownBlock with
    | none => exact .inl rfl
    | some x => exact .inr fun e => by cases e)
theorem OwnL.below (h : OwnL w B e k v n f) : ∀ x, v.ownBlock = some x → B ≤ x ∧ x < w.heap.size := World.ownsRow.lt h
theorem TwoBlocks.symm (h : TwoBlocks v u) : TwoBlocks u v := fun x h1 h2 => h x h2 h1

/-- An append of one number. -/
theorem append_one {P : Program} (t ty : TypeId) (i : TypeInfo) (ht : P.underlying t = some (.slice e)) (hi : P.info? e = some i) (hz : i.zero = some (.int k 0)) (hsz : i.size = 1) (hby : i.bytes ≤ 8)
    (h : OwnL w B e k v n f) (hn : n < 1073741824) (hB : B ≤ w.heap.size) (x : Int) :
    ∃ v' w', (Builtin.append_ #[t, t] ty #[v, .slice (some ⟨w.heap.size, 0, none⟩) 1 1]).run P (w.alloc (.cells #[.int k x] e)) = .ok v' w' ∧ OwnL w' B e k v' (n + 1) (fun j => if j < n then f j else x) ∧ w.grownBy w' v.ownBlock ∧
      (v'.ownBlock = v.ownBlock ∨ ∃ b, v'.ownBlock = some b ∧ w.heap.size ≤ b) := by
  have hal : OwnL (w.alloc (.cells #[.int k x] e)) B e k v n f := World.ownsRow.alloc h _
  have hnews : ∀ j u, [Value.int k x][j]? = some u → (w.alloc (.cells #[.int k x] e)).cell? ((⟨w.heap.size, 0, none⟩ : Addr).add j) = some u := fun j u hj => by
    match j, hj with
    | 0, hj => simp at hj; subst hj; simp [Addr.add]
  have h1 : ∀ u ∈ [Value.int k x], u.oneCell' = true := fun u hu => by simp at hu; subst hu; rfl
  have hbytes : (n + 1) * i.bytes ≤ 140737488355328 := by
    have : (n + 1) * i.bytes ≤ 1073741824 * 8 := Nat.mul_le_mul (by omega) hby
    omega
  obtain ⟨v', w', hr, hown, hg, _⟩ := run_append_own (P := P) (w.alloc (.cells #[.int k x] e)) B t ty e i (.int k 0) 1 i.bytes ht hi hz hsz rfl rfl (by omega) v n _ hal ⟨w.heap.size, 0, none⟩ 1 1 [.int k x] rfl hnews h1 (by unfold maxLen; omega) hbytes (by simp; omega)
  have hsize : (w.alloc (.cells #[.int k x] e)).heap.size = w.heap.size + 1 := by simp
  refine ⟨v', w', hr, ?_, ⟨hg.os, hg.tape, hg.output, by have := hg.size; omega, fun y hy hne => (hg.block y (by omega) hne).trans (Below.heap_alloc w _ y hy)⟩, ?_⟩
  · unfold OwnL
    have : ((List.range n).map fun y => Value.int k (f y)) ++ [Value.int k x] = (List.range (n + 1)).map fun y => Value.int k (if y < n then f y else x) := by
      rw [List.range_succ, List.map_append]
      congr 1
      · exact List.map_congr_left fun y hy => by rw [if_pos (by simpa using hy)]
      · simp
    rw [← this]; exact hown
  · rcases hal.2 with ⟨rfl, rfl⟩ | ⟨b, cap, cur, rfl, hb, hbb, hnc, hcm, hcs, htake⟩
    · have := run_append_nil (P := P) (w.alloc (.cells #[.int k x] e)) t ty e i (.int k 0) ht hi hz ⟨w.heap.size, 0, none⟩ 1 1 [.int k x] (by rw [hsz]; rfl) hnews (by omega) (by omega) (by omega)
      rw [hr] at this
      simp only [Result.ok.injEq] at this
      rw [this.1]
      exact .inr ⟨_, rfl, by show w.heap.size ≤ (w.alloc _).heap.size; rw [hsize]; omega⟩
    · by_cases hroom : n + 1 ≤ cap
      · have := run_append_room (P := P) (w.alloc (.cells #[.int k x] e)) t ty e i ht hi b n cap cur hbb ⟨w.heap.size, 0, none⟩ 1 1 [.int k x] (by rw [hsz]; rfl) hnews h1 hroom (by rw [hsz, hcs]; simp; omega)
        rw [hr] at this
        simp only [Result.ok.injEq] at this
        rw [this.1]
        exact .inl rfl
      · have := run_append_grow (P := P) (w.alloc (.cells #[.int k x] e)) t ty e i (.int k 0) ht hi hz ⟨b, 0, none⟩ n cap _ (by rw [hsz]; exact hal.1) (fun j u hj => World.ownsRow.cells hal (g := b) rfl j u hj) ⟨w.heap.size, 0, none⟩ 1 1 [.int k x] (by rw [hsz]; rfl) hnews (by omega) (by omega) (growslice_fits (by omega) hbytes)
        rw [hr] at this
        simp only [Result.ok.injEq] at this
        rw [this.1]
        exact .inr ⟨_, rfl, by show w.heap.size ≤ (w.alloc _).heap.size; rw [hsize]; omega⟩

/-- Behind an append: the other slice lies elsewhere still. -/
theorem TwoBlocks.appended {v' : Value} (h : TwoBlocks u v) (hu : ∀ x, u.ownBlock = some x → x < w.heap.size) (hb : v'.ownBlock = v.ownBlock ∨ ∃ b, v'.ownBlock = some b ∧ w.heap.size ≤ b) : TwoBlocks u v' := fun x h1 h2 => by
  rcases hb with hb | ⟨b, hb, hle⟩
  · rw [hb] at h2; exact h x h1 h2
  · rw [hb] at h2
    have := hu x h1
    simp at h2; omega
end

end Go.Proofs.YtfpihnfhmefeaaaGreatDoor
namespace Go.Proofs.YtfpihnfhmefeaaaGreatDoor
open Go.RowKit

/-- The places below k where a piece stands. -/
def upTo (T : Nat → Nat) (n : Nat) (s : List UInt8) (k : Nat) : List Nat := (List.range k).filter fun x => s.isPrefixOf (sg T n x)
theorem upTo_yes {T : Nat → Nat} {n : Nat} {s : List UInt8} {k : Nat} (h : s.isPrefixOf (sg T n k) = true) : upTo T n s (k + 1) = upTo T n s k ++ [k] := by simp [upTo, List.range_succ, h]
theorem upTo_no {T : Nat → Nat} {n : Nat} {s : List UInt8} {k : Nat} (h : s.isPrefixOf (sg T n k) = false) : upTo T n s (k + 1) = upTo T n s k := by simp [upTo, List.range_succ, h]
theorem upTo_len (T : Nat → Nat) (n : Nat) (s : List UInt8) (k : Nat) : (upTo T n s k).length ≤ k := Nat.le_trans (List.length_filter_le _ _) (by simp)

/-- A list of numbers that is told: none, or a stretch. -/
def ListPost (l : List Nat) (w : World) (e : Ending) (w' : World) : Prop :=
  ∃ v, e = .returned v ∧ (l.length = 0 → ∃ a' c', v = .slice a' 0 c') ∧ (0 < l.length → ∃ rb cap, v = .slice (some ⟨rb, 0, none⟩) l.length cap ∧ Row w' .i64 rb 0 l.length (fun x => (l.getD x 0 : Int))) ∧ Kept (fun _ _ => False) w w'
theorem own_list {l : List Nat} {w w' : World} {v : Value} (h : OwnL w' w.heap.size 3 .i64 v l.length (fun x => (l.getD x 0 : Int))) (hk : Kept (fun _ _ => False) w w') : ListPost l w (.returned v) w' := by
  refine ⟨v, rfl, fun h0 => ?_, fun h0 => ?_, hk⟩
  · rw [h0] at h
    exact own_zero h
  · obtain ⟨g, cap, rfl, _, _, hR⟩ := own_row h h0
    exact ⟨g, cap, rfl, hR⟩

set_option maxHeartbeats 4000000 in
set_option maxRecDepth 100000 in
/-- The places of a piece of some bytes. -/
theorem places_some (a : Option Addr) (n c : Nat) (T : Nat → Nat) (qb qo m d : Nat) (S : Nat → Nat) (w : World) (hin : Came w a n T) (hT : ∀ i, i < n → T i < 256) (hq : ∀ j, j < m → w.cell? ⟨qb, qo + j, none⟩ = some (.int .u8 (S j : Int))) (hS : ∀ i, i < m → S i < 256) (hm : 0 < m) (hn : n ≤ 1048576) (hmn : m ≤ 4294967296) (hnc : n ≤ c) :
    Calls Tryz.prog 13 #[.slice a n c, .slice (some ⟨qb, qo, none⟩) m d] w (ListPost (plcs T n (sg S m 0)) w) := by
  have hsne : sg S m 0 ≠ [] := by rw [sg_step S m 0 hm]; simp
  have hpl : plcs T n (sg S m 0) = upTo T n (sg S m 0) (n + 1 - m) := (if_neg hsne).trans (places_cut hT hS hm)
  rw [hpl]
  obtain ⟨i0, hi, hz0, hz1, hz2⟩ := info_parts info_int
  have HI := Lib.hid (And.intro hi (And.intro hz0 (And.intro hz1 hz2)))
  have HIN := Lib.hid hin
  have HQ := Lib.hid hq
  have hqb : qb < w.heap.size := cell_lt (hq 0 hm)
  have HPRE : Hid (∀ k, k + m ≤ n → (sg S m 0).isPrefixOf (sg T n k) = (Lib.bytesOf (lst (fun x => T (k + x)) m) == Lib.bytesOf (lst S m))) := Lib.hid fun k hk => by
    have := pre_iff (fun x => T (k + x)) S (n - k) m
    rw [decide_eq_true (show m ≤ n - k by omega), Bool.true_and] at this
    rw [← this, ← lst_zero, ← lst_at]
  clear hin hT hq hS hpl hsne hi hz0 hz1 hz2
  generalize sg S m 0 = s at *
  go_enter Tryz.func13, Tryz.ntmps13
  go_wp2
  go_loopw [5, 6] (fun v i wr => ∃ k : Nat, k ≤ n + 1 - m ∧ i = .int .i64 k ∧ OwnL wr w.heap.size 3 .i64 v (upTo T n s k).length (fun x => ((upTo T n s k).getD x 0 : Int)) ∧ Below w.heap.size w wr)
    (fun _ i _ => n + 1 - m - (intOf i).toNat)
  case atStart =>
    exact ⟨0, Nat.zero_le _, rfl, World.ownsRow_made (base := w.heap.size) (e := 3) (size := 1) w #[] 0 (by simp) (by unfold maxLen; omega) rfl, (Below.refl _ _).alloc (Nat.le_refl _) _⟩
  case round =>
    obtain ⟨k, hk, rfl, ho, hnx⟩ := hrel
    have hsz := hnx.size
    have q1 : (0 : Int) < (m : Int) := by omega
    by_cases hkn : k + m ≤ n
    · obtain ⟨b, o, rfl, hc⟩ := HIN.out (by omega)
      have hb : b < w.heap.size := cell_lt (hc 0 (by omega))
      have HE := Lib.hid (fun cc => equal_two b (o + k) m cc qb qo m d (fun x => T (k + x)) S wr (fun j hj => by rw [Nat.add_assoc]; exact (hnx.cell hb).trans (hc (k + j) (by omega))) (fun j hj => (hnx.cell hqb).trans (HQ.out j hj)))
      have hpre := HPRE.out k hkn
      have q2 : (k : Int) + (m : Int) ≤ (n : Int) := by omega
      have q3 : (k : Int) + (m : Int) ≤ (c : Int) := by omega
      have q4 : ¬ c = k := by omega
      have hlen := upTo_len T n s k
      clear hc
      cases hp : s.isPrefixOf (sg T n k) with
      | true =>
        rw [hp] at hpre
        rw [← hpre] at HE
        obtain ⟨v', w1, hr1, hn1, hg1, _⟩ := append_one (P := Tryz.prog) 27 27 i0 Tryz.underlying27 HI.out.1 HI.out.2.1 HI.out.2.2.1 (by rw [HI.out.2.2.2]; omega) ho (by omega) hsz (k : Int)
        have hs1 := hg1.size
        have hnx' : Below w.heap.size w w1 := hnx.grown hg1 hsz fun x hx => (ho.below x hx).1
        have hN1 : OwnL w1 w.heap.size 3 .i64 v' (upTo T n s (k + 1)).length (fun x => ((upTo T n s (k + 1)).getD x 0 : Int)) := by
          rw [upTo_yes hp, List.length_append]
          refine hn1.congr fun j hj => ?_
          by_cases e : j < (upTo T n s k).length
          · simp [e, List.getD, List.getElem?_append_left e]
          · have hj' : j < (upTo T n s k).length + 1 := hj
            have : j = (upTo T n s k).length := by omega
            subst this; simp [List.getD]
        have HN1 := Lib.hid hN1
        have HNX := Lib.hid hnx'
        clear hn1 hN1 hg1 ho hnx hnx' hpre hp
        go_wp2_with fail
        refine (HE.out _).mono ?_
        rintro e w2 ⟨rfl, rfl⟩
        go_wp2_with (at_builtin; refine Lib.wpList_append_run_sl _ rfl _ _ _ rfl _ _ rfl rfl hr1 ?_)
        go_roundw
        case rel => exact ⟨k + 1, by omega, by simp, HN1.out, HNX.out⟩
        case measure => simp [intOf]; omega
      | false =>
        rw [hp] at hpre
        rw [← hpre] at HE
        rw [← upTo_no hp] at ho
        have HO := Lib.hid ho
        have HNX := Lib.hid hnx
        clear ho hnx hpre hp
        go_wp2_with fail
        refine (HE.out _).mono ?_
        rintro e w2 ⟨rfl, rfl⟩
        go_wp2_with fail
        go_roundw
        case rel => exact ⟨k + 1, by omega, by simp, HO.out, HNX.out⟩
        case measure => simp [intOf]; omega
    · have hkn : k = n + 1 - m := by omega
      have q2 : ¬ (k : Int) + (m : Int) ≤ (n : Int) := by omega
      have HO := Lib.hid (own_list ho (below_kept hnx))
      clear ho hnx
      go_wp2_with fail
      go_ret
      rw [← hkn]
      exact HO.out

set_option maxHeartbeats 1000000 in
set_option maxRecDepth 100000 in
/-- The places of a piece of nothing. -/
theorem places_none (a : Option Addr) (n c : Nat) (T : Nat → Nat) (b : Option Addr) (d : Nat) (w : World) :
    Calls Tryz.prog 13 #[.slice a n c, .slice b 0 d] w (ListPost (plcs T n []) w) := by
  rw [plcs_nil]
  go_enter Tryz.func13, Tryz.ntmps13
  go_wp2
  refine wp_loop_rounds 1 ?_
  rw [rounds_succ]
  go_wp2_with fail
  go_ret
  exact ⟨_, rfl, fun _ => ⟨_, _, rfl⟩, fun h => absurd h (Nat.not_lt_zero _), Kept.alloc _ _⟩

theorem places_any (a : Option Addr) (n c : Nat) (T : Nat → Nat) (b : Option Addr) (m d : Nat) (S : Nat → Nat) (w : World) (hin : Came w a n T) (hT : ∀ i, i < n → T i < 256) (hq : Came w b m S) (hS : ∀ i, i < m → S i < 256) (hn : n ≤ 1048576) (hmn : m ≤ 4294967296) (hnc : n ≤ c) :
    Calls Tryz.prog 13 #[.slice a n c, .slice b m d] w (ListPost (plcs T n (sg S m 0)) w) := by
  by_cases hm : m = 0
  · subst hm
    rw [show sg S 0 0 = [] from sg_n S 0]
    exact places_none a n c T b d w
  · obtain ⟨qb, qo, rfl, hc⟩ := hq (by omega)
    exact places_some a n c T qb qo m d S w hin hT hc hS (by omega) hn hmn hnc

set_option maxHeartbeats 1600000 in
set_option maxRecDepth 100000 in
/-- The check of one size. -/
theorem beyond_one (b m : Nat) (w : World) (hc : w.cell? ⟨b, 0, none⟩ = some (.int .i64 m)) :
    Calls Tryz.prog 6 #[.slice (some ⟨b, 0, none⟩) 1 1] w fun e w' => e = .returned (.bool (decide (1048576 < m))) ∧ w' = w := by
  by_cases hm : 1048576 < m
  · rw [decide_eq_true hm]
    have q1 : (1048576 : Int) < (m : Int) := by omega
    go_enter Tryz.func6, Tryz.ntmps6
    go_wp2
    refine wp_loop_rounds 1 ?_
    rw [rounds_succ]
    go_wp2_with fail
    go_ret
    exact ⟨rfl, rfl⟩
  · rw [decide_eq_false hm]
    have q1 : ¬ (1048576 : Int) < (m : Int) := by omega
    go_enter Tryz.func6, Tryz.ntmps6
    go_wp2
    refine wp_loop_rounds 2 ?_
    rw [rounds_succ]
    go_wp2_with fail
    rw [rounds_succ]
    go_wp2_with fail
    go_ret
    exact ⟨rfl, rfl⟩

end Go.Proofs.YtfpihnfhmefeaaaGreatDoor
namespace Go.Proofs.YtfpihnfhmefeaaaGreatDoor
open Go.RowKit

/-- Numbers as a list. -/
def ints (f : Nat → Int) (n : Nat) : List Int := (List.range n).map f
theorem ints_len (f : Nat → Int) (n : Nat) : (ints f n).length = n := by simp [ints]
theorem ints_get (f : Nat → Int) {n x : Nat} (h : x < n) : (ints f n)[x]? = some (f x) := by simp [ints, h]

set_option maxHeartbeats 1000000 in
set_option maxRecDepth 100000 in
/-- slices.Clone at some numbers. -/
theorem clone_row (b o n c : Nat) (f : Nat → Int) (w : World) (hR : Row w .i64 b o n f) (h0 : 0 < n) (hn : n ≤ 1073741824) :
    Calls Tryz.prog 25 #[.slice (some ⟨b, o, none⟩) n c] w fun e w' =>
      ∃ g cap, e = .returned (.slice (some ⟨g, 0, none⟩) n cap) ∧ w.heap.size ≤ g ∧ Row w' .i64 g 0 n f ∧ Kept (fun _ _ => False) w w' := by
  obtain ⟨i0, hi, hz0, hz1, hz2⟩ := info_parts info_int
  have hb : b < w.heap.size := hR.lt h0
  have h2 := World.ownsRow_made (base := w.heap.size) (e := 3) (size := 1) w #[] 0 (by simp) (by unfold maxLen; omega) rfl
  have hsize : (w.alloc (.cells #[] 3)).heap.size = w.heap.size + 1 := by simp
  obtain ⟨v', w', hr, hown, hg, _⟩ := run_append_own (P := Tryz.prog) (w.alloc (.cells #[] 3)) w.heap.size 27 27 3 i0 (.int .i64 0) 1 i0.bytes Tryz.underlying27 hi hz0 hz1 rfl rfl (by omega) (.slice (some ⟨w.heap.size, 0, none⟩) 0 0) 0 [] h2 ⟨b, o, none⟩ n c ((List.range n).map fun x => Value.int .i64 (f x)) (by simp)
    (fun j u hj => by
      have hjn : j < n := by have := (List.getElem?_eq_some_iff.1 hj).1; simpa using this
      have e1 : ((List.range n).map fun x => Value.int .i64 (f x))[j]? = some (.int .i64 (f j)) := by simp [hjn]
      rw [e1] at hj
      rw [Addr.add_lit, World.cell?_alloc_past _ _ _ (by exact hb), hR.cell j hjn]; exact hj)
    (fun u hu => by simp only [List.mem_map] at hu; obtain ⟨x, _, rfl⟩ := hu; rfl) (by unfold maxLen; omega) (by rw [hz2]; omega) (by rw [hsize]; omega)
  have hk : Kept (fun _ _ => False) w w' := below_kept (((Below.refl _ _).alloc (Nat.le_refl _) _).grown hg (by rw [hsize]; omega) fun x hx => by simp [Value.ownBlock] at hx; omega)
  rw [List.nil_append, Nat.zero_add] at hown
  obtain ⟨g, cap, rfl, hgb, _, hR'⟩ := own_row hown h0
  have HR := Lib.hid hR'
  have HK := Lib.hid hk
  clear hi hz0 hz1 hz2 hR hown hg h2 hR' hk
  have q1 : ∀ (w : World) (a : Option Addr) (n c n' c' : Nat), (binOp .eql 27 (.slice a n c) (.slice none n' c')).run Tryz.prog w = .ok (.bool a.isNone) w := fun w a n c n' c' => Lib.run_eql_slice_nil w _ _ a n c n' c' Tryz.underlying27
  go_enter Tryz.func25, Tryz.ntmps25
  go_wp2_with (at_builtin; refine Lib.wpList_append_run_sl _ rfl _ _ _ rfl _ _ rfl rfl hr ?_)
  go_ret
  exact ⟨g, cap, rfl, hgb, HR.out, HK.out⟩

set_option maxHeartbeats 1000000 in
set_option maxRecDepth 100000 in
/-- slices.Clone at no number. -/
theorem clone_zero (a : Option Addr) (c : Nat) (w : World) :
    Calls Tryz.prog 25 #[.slice a 0 c] w fun e w' => ∃ a' c', e = .returned (.slice a' 0 c') ∧ Kept (fun _ _ => False) w w' := by
  obtain ⟨i0, hi, hz0, hz1, hz2⟩ := info_parts info_int
  have q1 : ∀ (w : World) (a : Option Addr) (n c n' c' : Nat), (binOp .eql 27 (.slice a n c) (.slice none n' c')).run Tryz.prog w = .ok (.bool a.isNone) w := fun w a n c n' c' => Lib.run_eql_slice_nil w _ _ a n c n' c' Tryz.underlying27
  cases a with
  | none =>
    go_enter Tryz.func25, Tryz.ntmps25
    go_wp2_with fail
    go_ret
    exact ⟨_, _, rfl, Kept.refl _ _⟩
  | some a =>
    have h2 := World.ownsRow_made (base := w.heap.size) (e := 3) (size := 1) w #[] 0 (by simp) (by unfold maxLen; omega) rfl
    have hsize : (w.alloc (.cells #[] 3)).heap.size = w.heap.size + 1 := by simp
    obtain ⟨v', w', hr, hown, hg, _⟩ := run_append_own (P := Tryz.prog) (w.alloc (.cells #[] 3)) w.heap.size 27 27 3 i0 (.int .i64 0) 1 i0.bytes Tryz.underlying27 hi hz0 hz1 rfl rfl (by omega) (.slice (some ⟨w.heap.size, 0, none⟩) 0 0) 0 [] h2 a 0 c [] (by simp)
      (fun j u hj => by simp at hj) (fun u hu => by simp at hu) (by unfold maxLen; omega) (by rw [hz2]; omega) (by rw [hsize]; omega)
    have hk : Kept (fun _ _ => False) w w' := below_kept (((Below.refl _ _).alloc (Nat.le_refl _) _).grown hg (by rw [hsize]; omega) fun x hx => by simp [Value.ownBlock] at hx; omega)
    obtain ⟨a', cap, rfl⟩ := own_zero hown
    have HK := Lib.hid hk
    clear hi hz0 hz1 hz2 hown hg h2 hk
    go_enter Tryz.func25, Tryz.ntmps25
    go_wp2_with (at_builtin; refine Lib.wpList_append_run_sl _ rfl _ _ _ rfl _ _ rfl rfl hr ?_)
    go_ret
    exact ⟨⟨a', cap, rfl⟩, HK.out⟩

/-- slices.Sort at some numbers. -/
theorem sort_row (g n cap : Nat) (f : Nat → Int) (w : World) (h0 : 0 < n) (hn : n ≤ 1073741824) (hR : Row w .i64 g 0 n f) :
    Calls Tryz.prog 26 #[.slice (some ⟨g, 0, none⟩) n cap] w fun e w' =>
      e = .returned (.tuple #[]) ∧ Row w' .i64 g 0 n (fun x => (up (ints f n)).getD x 0) ∧ Kept (reg g 0 n) w w' := by
  have hgl : g < w.heap.size := hR.lt h0
  have hH : Go.Sort.Holds (Value.int .i64) w g 0 (ints f n).toArray := fun j hj => by
    have hj' : j < n := by simpa [ints] using hj
    have : (ints f n).toArray[j]! = f j := by rw [getElem!_pos (ints f n).toArray j hj]; simp [ints]
    rw [this]
    exact ⟨hR.cell j hj', hR.free j hj'⟩
  have hS := AnyM.slices_Sort_int Tryz.srtL g 0 cap (ints f n) w hH hgl (by rw [ints_len]; omega)
  rw [ints_len] at hS
  change Calls Tryz.prog 26 _ _ _ at hS
  refine hS.mono ?_
  rintro e w' ⟨rfl, m, os, rfl⟩
  have hlen : (up (ints f n)).length = n := by rw [up_length, ints_len]
  have hsz : ((up (ints f n)).toArray).size = n := by simpa using hlen
  refine ⟨rfl, ?_, ?_⟩
  · have h1 := Go.Sort.holds_grow _ _ os g 0 (up (ints f n)).toArray (by simpa using hgl) (Go.Sort.holds_putRow (Value.int .i64) (Go.Sort.ahead w m) g 0 (ints f n).toArray (up (ints f n)).toArray hH (by rw [hsz]; simp [ints]))
    refine ⟨fun j hj => ?_, fun j hj => (h1 j (by omega)).2⟩
    have h2 := (h1 j (by omega)).1
    rw [getElem!_pos (up (ints f n)).toArray j (by omega)] at h2
    rw [show (up (ints f n)).getD j 0 = (up (ints f n)).toArray[j]'(by omega) by simp [List.getD, show j < (up (ints f n)).length by omega]]
    exact h2
  · have k1 : Kept (reg g 0 n) w (Go.Sort.putRow (Value.int .i64) (Go.Sort.ahead w m) g 0 (up (ints f n)).toArray) := by
      refine ⟨rfl, rfl, rfl, by simp, fun x hx hr => ?_, fun x y hx hr => ?_, fun x y hx => by rw [Go.Sort.frozen?_putRow]; rfl⟩
      · have hne : x ≠ g := fun e => hr 0 ⟨e, Nat.zero_le _, by omega⟩
        unfold Go.Sort.putRow Go.Sort.mapBlock
        simp [Array.getElem?_modify, Ne.symm hne]
      · rw [Go.Sort.cell?_putRow_other _ _ _ _ _ _ (by
          by_cases e : x = g
          · right; right
            unfold reg at hr
            show 0 + (up (ints f n)).toArray.size ≤ y
            omega
          · left; exact e)]
        rfl
    refine k1.trans ⟨rfl, rfl, rfl, by simp, fun x hx _ => Go.Sort.heap_grow_old _ os hx, fun x y hx _ => Go.Sort.cell?_grow _ os _ hx, fun x y hx => Go.Sort.frozen?_grow _ os _ hx⟩

set_option maxHeartbeats 1000000 in
set_option maxRecDepth 100000 in
/-- The sorted copy of some numbers. -/
theorem sorted_row (b o n c : Nat) (f : Nat → Int) (w : World) (hR : Row w .i64 b o n f) (h0 : 0 < n) (hn : n ≤ 1073741824) :
    Calls Tryz.prog 12 #[.slice (some ⟨b, o, none⟩) n c] w fun e w' =>
      ∃ g cap, e = .returned (.slice (some ⟨g, 0, none⟩) n cap) ∧ Row w' .i64 g 0 n (fun x => (up (ints f n)).getD x 0) ∧ Kept (fun _ _ => False) w w' := by
  go_enter Tryz.func12, Tryz.ntmps12
  go_wp2_with fail
  refine (clone_row b o n c f w hR h0 hn).mono ?_
  rintro e w1 ⟨g, cap, rfl, hg, hR1, hk1⟩
  go_wp2_with fail
  refine (sort_row g n cap f w1 h0 hn hR1).mono ?_
  rintro e w2 ⟨rfl, hR2, hk2⟩
  go_wp2_with fail
  go_ret
  exact ⟨g, cap, rfl, hR2, hk1.fresh hk2 fun x y hr => by have := hr.1; omega⟩

set_option maxHeartbeats 1000000 in
set_option maxRecDepth 100000 in
/-- The sorted copy of no number. -/
theorem sorted_zero (a : Option Addr) (c : Nat) (w : World) :
    Calls Tryz.prog 12 #[.slice a 0 c] w fun e w' => ∃ a' c', e = .returned (.slice a' 0 c') ∧ Kept (fun _ _ => False) w w' := by
  have hS := fun a c W => AnyM.slices_Sort_int_none (P := Tryz.prog) (ρ := Tryz.srtL_ren) { Tryz.srtL with } a c W
  change ∀ a c W, Calls Tryz.prog 26 _ _ _ at hS
  go_enter Tryz.func12, Tryz.ntmps12
  go_wp2_with fail
  refine (clone_zero a c w).mono ?_
  rintro e w1 ⟨a1, c1, rfl, hk1⟩
  go_wp2_with fail
  refine (hS a1 c1 w1).mono ?_
  rintro e w2 ⟨rfl, rfl⟩
  go_wp2_with fail
  go_ret
  exact ⟨a1, c1, rfl, hk1⟩

end Go.Proofs.YtfpihnfhmefeaaaGreatDoor
namespace Go.Proofs.YtfpihnfhmefeaaaGreatDoor
open Go.RowKit

set_option maxHeartbeats 1600000 in
set_option maxRecDepth 100000 in
/-- Two slices that hold the same numbers. -/
theorem equal_same (b o n c b' o' c' : Nat) (f : Nat → Int) (w : World) (hR : Row w .i64 b o n f) (hR' : Row w .i64 b' o' n f) (hn : n ≤ 1073741824) :
    Calls Tryz.prog 11 #[.slice (some ⟨b, o, none⟩) n c, .slice (some ⟨b', o', none⟩) n c'] w fun e w' => e = .returned (.bool true) ∧ ∃ m, w' = w.drewN m := by
  go_enter Tryz.func11, Tryz.ntmps11
  go_wp2_with fail
  go_loopw [13] (fun i wr => ∃ k : Nat, k ≤ n ∧ i = .int .i64 k ∧ Row wr .i64 b o n f ∧ Row wr .i64 b' o' n f ∧ ∃ m, wr = w.drewN m)
    (fun i _ => n - (intOf i).toNat)
  case atStart => exact ⟨0, Nat.zero_le _, rfl, hR, hR', 0, rfl⟩
  case round =>
    obtain ⟨k, hk, rfl, hA, hB, hm⟩ := hrel
    have HM := Lib.hid hm
    clear hm
    by_cases hkn : k < n
    · have hc1 := hA.cell k hkn
      have hc2 := hB.cell k hkn
      go_wp2_with fail
      go_quiet (fail)
      go_wp2_with fail
      go_roundw
      case rel =>
        obtain ⟨m, hm⟩ := HM.out
        exact ⟨k + 1, by omega, by simp, hA.drewN _, hB.drewN _, m + nq, by rw [hm, World.drewN_drewN]⟩
      case measure => simp [intOf]; omega
    · have hkn : k = n := by omega
      subst hkn
      go_wp2_with fail
      go_ret
      exact ⟨rfl, HM.out⟩

set_option maxHeartbeats 1600000 in
set_option maxRecDepth 100000 in
theorem equal_zero (a a' : Option Addr) (c c' : Nat) (w : World) :
    Calls Tryz.prog 11 #[.slice a 0 c, .slice a' 0 c'] w fun e w' => e = .returned (.bool true) ∧ w' = w := by
  go_enter Tryz.func11, Tryz.ntmps11
  go_wp2_with fail
  refine wp_loop_rounds 1 ?_
  rw [rounds_succ]
  go_wp2_with fail
  go_ret
  exact ⟨rfl, rfl⟩

end Go.Proofs.YtfpihnfhmefeaaaGreatDoor
