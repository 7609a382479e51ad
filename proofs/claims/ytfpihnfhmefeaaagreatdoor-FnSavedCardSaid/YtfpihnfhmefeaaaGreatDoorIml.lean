/-
  A walk over the looking up of a piece in a text. No condition but those typed.
-/
import Derived.Test.YtfpihnfhmefeaaaGreatDoorLkp
namespace Go.Proofs.YtfpihnfhmefeaaaGreatDoor
open Go.RowKit

/-- Bytes that came in. -/
def Came (w : World) (a : Option Addr) (n : Nat) (T : Nat → Nat) : Prop := 0 < n → ∃ b o, a = some ⟨b, o, none⟩ ∧ ∀ j, j < n → w.cell? ⟨b, o + j, none⟩ = some (.int .u8 (T j : Int))
theorem Came.kept {a : Option Addr} {n : Nat} {T : Nat → Nat} {w w' : World} (h : Came w a n T) (hk : Kept (fun _ _ => False) w w') : Came w' a n T := fun h0 => by
  obtain ⟨b, o, rfl, hc⟩ := h h0
  exact ⟨b, o, rfl, fun j hj => by rw [hk.cell _ _ (cell_lt (hc j hj)) (fun hf => hf)]; exact hc j hj⟩

/-- The looking up in an index, of whatever piece. -/
theorem look_any (ib tb tc sb n m qc : Nat) (da qa : Option Addr) (k : Int) (T g S : Nat → Nat) (w : World) (h : Ix w ib da tb tc sb n T g) (hsa : IsSA T n g) (hT : ∀ i, i < n → T i < 256) (hq : Came w qa m S) (hn : n ≤ 1073741824) :
    Calls Tryz.prog 24 #[.pointer (some ⟨ib, 0, none⟩), .slice qa m qc, .int .i64 k] w (LookPost T n (sg S m 0) k w) := by
  by_cases hm : m = 0
  · subst hm
    rw [show sg S 0 0 = [] from sg_n S 0]
    exact look_none ib qc qa k T n w
  · obtain ⟨qb, qo, rfl, hc⟩ := hq (by omega)
    by_cases hk : k = 0
    · subst hk; exact look_zero ib m qc _ _ T n w (by omega)
    · exact look_some ib tb tc sb n qb qo m qc da k T g S w h hsa hT hc hn (by omega) hk

/-- The copy of bytes that came in. -/
theorem copied_any (a : Option Addr) (n c : Nat) (T : Nat → Nat) (w : World) (h : Came w a n T) (hn : n ≤ 4294967296) :
    Calls Tryz.prog 16 #[.slice a n c] w fun e w' => ∃ a' c', e = .returned (.slice a' n c') ∧ Came w' a' n T ∧ Kept (fun _ _ => False) w w' := by
  by_cases h0 : n = 0
  · subst h0
    refine (copied_zero a c w).mono ?_
    rintro e w1 ⟨rfl, hk1⟩
    exact ⟨_, _, rfl, fun h => absurd h (Nat.not_lt_zero _), hk1⟩
  · obtain ⟨qb, qo, rfl, hc⟩ := h (by omega)
    refine (copied_row qb qo n c T w hc (by omega) hn).mono ?_
    rintro e w1 ⟨cap, rfl, _, hR, hk1⟩
    exact ⟨_, _, rfl, fun _ => ⟨_, 0, rfl, hR.cell⟩, hk1⟩

/-- What is told of a piece in a text. -/
def FoundPost (T : Nat → Nat) (n : Nat) (s : List UInt8) (k : Int) (w : World) (e : Ending) (w' : World) : Prop :=
  ∃ v c f, e = .returned v ∧ Found T n s k c f ∧ (c = 0 → ∃ a' c', v = .slice a' 0 c') ∧ (0 < c → ∃ rb cap, v = .slice (some ⟨rb, 0, none⟩) c cap ∧ Row w' .i64 rb 0 c (fun x => (f x : Int))) ∧ Kept (fun _ _ => False) w w'

set_option maxHeartbeats 1000000 in
set_option maxRecDepth 100000 in
/-- The looking up of a piece in a text. -/
theorem lookup_any (a : Option Addr) (n c : Nat) (T : Nat → Nat) (b : Option Addr) (m d : Nat) (S : Nat → Nat) (k : Int) (w : World) (hin : Came w a n T) (hT : ∀ i, i < n → T i < 256) (hq : Came w b m S) (hn : n ≤ 1073741824) (hm : m ≤ 4294967296) (hM : Most w) :
    Calls Tryz.prog 14 #[.slice a n c, .slice b m d, .int .i64 k] w (FoundPost T n (sg S m 0) k w) := by
  have HN := Lib.hid (new_copy a n c T w hin hT hn hM)
  have HQ := Lib.hid hq
  have HT := Lib.hid hT
  have HB := Lib.hid (And.intro hn hm)
  have HC := Lib.hid (fun (w' : World) (hk : Kept (fun _ _ => False) w w') => copied_any b m d S w' (hq.kept hk) hm)
  clear hin hT hq hM hn hm
  go_enter Tryz.func14, Tryz.ntmps14
  go_wp2_with fail
  refine HN.out.mono ?_
  rintro e w1 ⟨v1, rfl, hk1, hnew⟩
  have HNW := Lib.hid hnew
  clear hnew hk1
  go_wp2_with fail
  refine HNW.out.mono ?_
  rintro e w2 ⟨ib, da, tb, tc, sb, g, rfl, hI, hg, hk2⟩
  have HI := Lib.hid hI
  have HG := Lib.hid hg
  clear hI hg
  go_wp2_with fail
  refine (HC.out w2 hk2).mono ?_
  rintro e w3 ⟨a', c', rfl, hq3, hk3⟩
  have HQ3 := Lib.hid hq3
  clear hq3
  go_wp2_with fail
  refine (look_any ib tb tc sb n m c' da a' k T g S w3 (HI.out.kept hk3) HG.out HT.out HQ3.out HB.out.1).mono ?_
  rintro e w4 ⟨v, cc, f, rfl, hF, hz, hs, hk4⟩
  have hk := (hk2.trans hk3).trans hk4
  have HF := Lib.hid hF
  by_cases h0 : cc = 0
  · obtain rfl := hz h0
    subst h0
    clear hz hs hF
    go_wp2_with fail
    refine (numbers_i_zero _ 0 w4).mono ?_
    rintro e w5 ⟨rfl, rfl⟩
    go_wp2_with fail
    go_ret
    exact ⟨_, 0, f, rfl, HF.out, fun _ => ⟨_, _, rfl⟩, fun h => absurd h (Nat.not_lt_zero _), hk⟩
  · obtain ⟨rb, rfl, hR⟩ := hs (by omega)
    have hsz := hk4.size
    have hle := hF.le
    have HB2 := Lib.hid (And.intro hle hsz)
    clear hz hs hF hle hsz
    go_wp2_with fail
    refine (numbers_i w4.heap.size rb 0 cc cc f w4 hR (fun x hx => by have := HF.out.lt hx; have := HB.out.1; omega) (by have := HB2.out.1; have := HB.out.1; omega) (Nat.le_refl _)).mono ?_
    rintro e w5 ⟨v, rfl, hown, hk5⟩
    obtain ⟨g5, cap, rfl, _, _, hR5⟩ := own_row hown (by omega)
    clear hown
    go_wp2_with fail
    go_ret
    exact ⟨_, cc, f, rfl, HF.out, fun h => absurd h h0, fun _ => ⟨g5, cap, rfl, hR5⟩, hk.trans hk5⟩

end Go.Proofs.YtfpihnfhmefeaaaGreatDoor

