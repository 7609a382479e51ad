/-
  Walks over the sorting functions (variant 8_32): text. No condition but those typed.
-/
import Derived.Test.YtfpihnfhmefeaaaGreatDoorWs832
import Derived.Test.YtfpihnfhmefeaaaGreatDoorWs32
import Derived.Test.YtfpihnfhmefeaaaGreatDoorIn
namespace Go.Proofs.YtfpihnfhmefeaaaGreatDoor
open Go.RowKit

set_option maxHeartbeats 1000000 in
set_option maxRecDepth 100000 in
/-- The sorting function: a text of no byte. -/
theorem sais_8_32_zero (ta sp ma : Option Addr) (tc sc mn mc : Nat) (w : World) (hmn : 256 ≤ mn) :
    Calls Tryz.prog 40 #[.slice ta 0 tc, .int .i64 256, .slice sp 0 sc, .slice ma mn mc] w fun e w' => e = .returned (.tuple #[]) ∧ Kept (fun _ _ => False) w w' := by
  go_enter Tryz.func40, Tryz.ntmps40
  go_wp2_with fail
  refine bodyPost_ret (results_none rfl _ _ _) rfl ?_
  exact ⟨rfl, Kept.refl _ _⟩

set_option maxHeartbeats 1000000 in
set_option maxRecDepth 100000 in
/-- The sorting function: a text of one byte. -/
theorem sais_8_32_one (ta ma : Option Addr) (tc sb so sc mn mc : Nat) (s : Nat → Int) (w : World) (hs : Row w .i32 sb so 1 s) (hmn : 256 ≤ mn) :
    Calls Tryz.prog 40 #[.slice ta 1 tc, .int .i64 256, .slice (some ⟨sb, so, none⟩) 1 sc, .slice ma mn mc] w fun e w' => e = .returned (.tuple #[]) ∧ Row w' .i32 sb so 1 (fun _ => 0) ∧ Kept (reg sb so 1) w w' := by
  have hc0 : w.cell? ⟨sb, so, none⟩ = some (.int .i32 (s 0)) := by have := hs.cell 0 (by omega); rw [Nat.add_zero] at this; exact this
  have hf0 : w.frozen? ⟨sb, so, none⟩ = false := by have := hs.free 0 (by omega); rw [Nat.add_zero] at this; exact this
  go_enter Tryz.func40, Tryz.ntmps40
  go_wp2_with fail
  refine bodyPost_ret (results_none rfl _ _ _) rfl ?_
  have h1 := hs.set (i := 0) (by omega) 0
  rw [Nat.add_zero] at h1
  refine ⟨rfl, h1.congr fun j hj => ?_, Kept.setCell ⟨rfl, by omega, by omega⟩⟩
  have : j = 0 := by omega
  subst this
  rw [put_same]

set_option maxHeartbeats 1000000 in
set_option maxRecDepth 100000 in
/-- The text's array, into a slice of zeros. -/
theorem text_32 (T : Nat → Nat) (tb tp tc n sb so sc : Nat) (s : Nat → Int) (w : World) (h0 : 0 < n) (hT : Row w .u8 tb tp n (fun i => (T i : Int))) (hs : Row w .i32 sb so n s) (hs0 : ∀ x, x < n → s x = 0) (hTS : Apart tb tp n sb so n) (hTK : ∀ i, i < n → T i < 256) (hnle : n ≤ 1073741824) (htc : n ≤ tc) (hsc : n ≤ sc) :
    Calls Tryz.prog 28 #[.slice (some ⟨tb, tp, none⟩) n tc, .slice (some ⟨sb, so, none⟩) n sc] w fun e w' => ∃ s', e = .returned (.tuple #[]) ∧ Row w' .i32 sb so n s' ∧ PostSA T n s' ∧ Kept (reg sb so n) w w' := by
  obtain ⟨i0, hi, hz0, hz1, hz2⟩ := info_parts info_i32
  obtain ⟨w1, hmk, hF, hk1, hlt⟩ := make_row (P := Tryz.prog) w 51 21 .i32 i0 Tryz.underlying51 hi hz0 hz1 (by rw [hz2]; omega) 512 (by omega)
  have hmk2 : (Instr.makeSlice 51 (.int .i64 512) (.int .i64 512)).run Tryz.prog w = .ok (.slice (some ⟨w.heap.size, 0, none⟩) 512 512) w1 := hmk
  have htb := hT.lt h0
  have hsb := hs.lt h0
  have hT1 := hT.keptAll hk1
  have hs1 := hs.keptAll hk1
  have HS0 := Lib.hid hs0
  have HTK := Lib.hid hTK
  have HZ2 := Lib.hid hz2
  clear hmk hs0 hTK hi hz0 hz1 hz2
  by_cases hn1 : n = 1
  · subst hn1
    go_enter Tryz.func28, Tryz.ntmps28
    go_wp2_with fail
    refine (sais_8_32_one _ _ tc sb so sc 512 512 s w1 hs1 (by omega)).mono ?_
    rintro e w2 ⟨rfl, hR, hk2⟩
    go_wp2_with fail
    go_end0
    exact ⟨_, rfl, hR, ⟨_, isSA_one T, fun _ _ => rfl⟩, (hk1.mono fun _ _ _ hf => hf.elim).trans hk2⟩
  · go_enter Tryz.func28, Tryz.ntmps28
    go_wp2_with fail
    refine (sais_8_32_core n (fun m _ => sais_32_spec m) T tb tp tc sb so sc w.heap.size 0 512 512 s (fun _ => 0) w1 hT1 hs1 HS0.out hF hTS (by unfold Apart; omega) (by unfold Apart; omega) HTK.out (by omega) (by omega) (by omega) (by omega) hnle htc hsc (by omega) (by omega)).mono ?_
    rintro e w2 ⟨s', F', rfl, hR, hP, _, _, hk2⟩
    go_wp2_with fail
    go_end0
    refine ⟨s', rfl, hR, hP, ((hk1.mono fun _ _ _ hf => hf.elim).trans hk2).mono fun x y hx hr => ?_⟩
    rcases hr with hr | ⟨hr, _⟩
    · exact hr
    · omega

set_option maxHeartbeats 1000000 in
set_option maxRecDepth 100000 in
theorem text_32_zero (ta sp : Option Addr) (tc sc : Nat) (w : World) :
    Calls Tryz.prog 28 #[.slice ta 0 tc, .slice sp 0 sc] w fun e w' => e = .returned (.tuple #[]) ∧ Kept (fun _ _ => False) w w' := by
  obtain ⟨i0, hi, hz0, hz1, hz2⟩ := info_parts info_i32
  obtain ⟨w1, hmk, hF, hk1, hlt⟩ := make_row (P := Tryz.prog) w 51 21 .i32 i0 Tryz.underlying51 hi hz0 hz1 (by rw [hz2]; omega) 512 (by omega)
  have hmk2 : (Instr.makeSlice 51 (.int .i64 512) (.int .i64 512)).run Tryz.prog w = .ok (.slice (some ⟨w.heap.size, 0, none⟩) 512 512) w1 := hmk
  clear hmk hi hz0 hz1 hz2
  go_enter Tryz.func28, Tryz.ntmps28
  go_wp2_with fail
  refine (sais_8_32_zero _ _ _ tc sc 512 512 w1 (by omega)).mono ?_
  rintro e w2 ⟨rfl, hk2⟩
  go_wp2_with fail
  go_end0
  exact ⟨rfl, hk1.trans hk2⟩


end Go.Proofs.YtfpihnfhmefeaaaGreatDoor

