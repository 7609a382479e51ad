/-
  Walks over the sorting functions (variant 8_32): array. No condition but those typed.
-/
import Derived.Test.YthmpjmohakdkmaaWs832
import Derived.Test.YthmpjmohakdkmaaWs32
import Derived.Test.YthmpjmohakdkmaaIn
namespace Go.Proofs.Ythmpjmohakdkmaa
open Go.RowKit

set_option maxHeartbeats 1000000 in
set_option maxRecDepth 100000 in
/-- The sorting function: a text of no byte. -/
theorem sais_8_32_zero (ta sp ma : Option Addr) (tc sc mn mc : Nat) (w : World) (hmn : 256 ≤ mn) :
    Calls Try.prog 31 #[.slice ta 0 tc, .int .i64 256, .slice sp 0 sc, .slice ma mn mc] w fun e w' => e = .returned (.tuple #[]) ∧ Kept (fun _ _ => False) w w' := by
  go_enter Try.func31, Try.ntmps31
  go_wp2_with fail
  refine bodyPost_ret (results_none rfl _ _ _) rfl ?_
  exact ⟨rfl, Kept.refl _ _⟩

set_option maxHeartbeats 1000000 in
set_option maxRecDepth 100000 in
/-- The sorting function: a text of one byte. -/
theorem sais_8_32_one (ta ma : Option Addr) (tc sb so sc mn mc : Nat) (s : Nat → Int) (w : World) (hs : Row w .i32 sb so 1 s) (hmn : 256 ≤ mn) :
    Calls Try.prog 31 #[.slice ta 1 tc, .int .i64 256, .slice (some ⟨sb, so, none⟩) 1 sc, .slice ma mn mc] w fun e w' => e = .returned (.tuple #[]) ∧ Row w' .i32 sb so 1 (fun _ => 0) ∧ Kept (reg sb so 1) w w' := by
  have hc0 : w.cell? ⟨sb, so, none⟩ = some (.int .i32 (s 0)) := by have := hs.cell 0 (by omega); rw [Nat.add_zero] at this; exact this
  have hf0 : w.frozen? ⟨sb, so, none⟩ = false := by have := hs.free 0 (by omega); rw [Nat.add_zero] at this; exact this
  go_enter Try.func31, Try.ntmps31
  go_wp2_with fail
  refine bodyPost_ret (results_none rfl _ _ _) rfl ?_
  have h1 := hs.set (i := 0) (by omega) 0
  rw [Nat.add_zero] at h1
  refine ⟨rfl, h1.congr fun j hj => ?_, Kept.setCell ⟨rfl, by omega, by omega⟩⟩
  have : j = 0 := by omega
  subst this
  rw [put_same]

set_option maxHeartbeats 1000000 in
set_option maxRecDepth 100000 in
/-- The text's array, into a slice of zeros. -/
theorem text_32 (T : Nat → Nat) (tb tp tc n sb so sc : Nat) (s : Nat → Int) (w : World) (h0 : 0 < n) (hT : Row w .u8 tb tp n (fun i => (T i : Int))) (hs : Row w .i32 sb so n s) (hs0 : ∀ x, x < n → s x = 0) (hTS : Apart tb tp n sb so n) (hTK : ∀ i, i < n → T i < 256) (hnle : n ≤ 1073741824) (htc : n ≤ tc) (hsc : n ≤ sc) :
    Calls Try.prog 25 #[.slice (some ⟨tb, tp, none⟩) n tc, .slice (some ⟨sb, so, none⟩) n sc] w fun e w' => ∃ s', e = .returned (.tuple #[]) ∧ Row w' .i32 sb so n s' ∧ PostSA T n s' ∧ Kept (reg sb so n) w w' := by
  obtain ⟨i0, hi, hz0, hz1, hz2⟩ := info_parts info_i32
  obtain ⟨w1, hmk, hF, hk1, hlt⟩ := make_row (P := Try.prog) w 36 21 .i32 i0 Try.underlying36 hi hz0 hz1 (by rw [hz2]; omega) 512 (by omega)
  have hmk2 : (Instr.makeSlice 36 (.int .i64 512) (.int .i64 512)).run Try.prog w = .ok (.slice (some ⟨w.heap.size, 0, none⟩) 512 512) w1 := hmk
  have htb := hT.lt h0
  have hsb := hs.lt h0
  have hT1 := hT.keptAll hk1
  have hs1 := hs.keptAll hk1
  have HS0 := Lib.hid hs0
  have HTK := Lib.hid hTK
  have HZ2 := Lib.hid hz2
  clear hmk hs0 hTK hi hz0 hz1 hz2
  by_cases hn1 : n = 1
  · subst hn1
    go_enter Try.func25, Try.ntmps25
    go_wp2_with fail
    refine (sais_8_32_one _ _ tc sb so sc 512 512 s w1 hs1 (by omega)).mono ?_
    rintro e w2 ⟨rfl, hR, hk2⟩
    go_wp2_with fail
    go_end0
    exact ⟨_, rfl, hR, ⟨_, isSA_one T, fun _ _ => rfl⟩, (hk1.mono fun _ _ _ hf => hf.elim).trans hk2⟩
  · go_enter Try.func25, Try.ntmps25
    go_wp2_with fail
    refine (sais_8_32_core n (fun m _ => sais_32_spec m) T tb tp tc sb so sc w.heap.size 0 512 512 s (fun _ => 0) w1 hT1 hs1 HS0.out hF hTS (by unfold Apart; omega) (by unfold Apart; omega) HTK.out (by omega) (by omega) (by omega) (by omega) hnle htc hsc (by omega) (by omega)).mono ?_
    rintro e w2 ⟨s', F', rfl, hR, hP, _, _, hk2⟩
    go_wp2_with fail
    go_end0
    refine ⟨s', rfl, hR, hP, ((hk1.mono fun _ _ _ hf => hf.elim).trans hk2).mono fun x y hx hr => ?_⟩
    rcases hr with hr | ⟨hr, _⟩
    · exact hr
    · omega

set_option maxHeartbeats 1000000 in
set_option maxRecDepth 100000 in
theorem text_32_zero (ta sp : Option Addr) (tc sc : Nat) (w : World) :
    Calls Try.prog 25 #[.slice ta 0 tc, .slice sp 0 sc] w fun e w' => e = .returned (.tuple #[]) ∧ Kept (fun _ _ => False) w w' := by
  obtain ⟨i0, hi, hz0, hz1, hz2⟩ := info_parts info_i32
  obtain ⟨w1, hmk, hF, hk1, hlt⟩ := make_row (P := Try.prog) w 36 21 .i32 i0 Try.underlying36 hi hz0 hz1 (by rw [hz2]; omega) 512 (by omega)
  have hmk2 : (Instr.makeSlice 36 (.int .i64 512) (.int .i64 512)).run Try.prog w = .ok (.slice (some ⟨w.heap.size, 0, none⟩) 512 512) w1 := hmk
  clear hmk hi hz0 hz1 hz2
  go_enter Try.func25, Try.ntmps25
  go_wp2_with fail
  refine (sais_8_32_zero _ _ _ tc sc 512 512 w1 (by omega)).mono ?_
  rintro e w2 ⟨rfl, hk2⟩
  go_wp2_with fail
  go_end0
  exact ⟨rfl, hk1.trans hk2⟩

set_option maxHeartbeats 1000000 in
set_option maxRecDepth 100000 in
/-- The array of a text. -/
theorem zz_32 (T : Nat → Nat) (tb tp tc n : Nat) (w : World) (h0 : 0 < n) (hT : Row w .u8 tb tp n (fun i => (T i : Int))) (hTK : ∀ i, i < n → T i < 256) (hnle : n ≤ 1073741824) (htc : n ≤ tc) :
    Calls Try.prog 18 #[.slice (some ⟨tb, tp, none⟩) n tc] w fun e w' => ∃ s', e = .returned (.slice (some ⟨w.heap.size, 0, none⟩) n n) ∧ Row w' .i32 w.heap.size 0 n s' ∧ PostSA T n s' ∧ Kept (fun _ _ => False) w w' := by
  obtain ⟨i0, hi, hz0, hz1, hz2⟩ := info_parts info_i32
  obtain ⟨w1, hmk, hF, hk1, hlt⟩ := make_row (P := Try.prog) w 36 21 .i32 i0 Try.underlying36 hi hz0 hz1 (by rw [hz2]; omega) n hnle
  have htb := hT.lt h0
  have hT1 := hT.keptAll hk1
  have HTK := Lib.hid hTK
  clear hTK hi hz0 hz1 hz2
  go_enter Try.func18, Try.ntmps18
  go_wp2_with fail
  refine (text_32 T tb tp tc n w.heap.size 0 n _ w1 h0 hT1 hF (fun _ _ => rfl) (by unfold Apart; omega) HTK.out hnle htc (Nat.le_refl _)).mono ?_
  rintro e w2 ⟨s', rfl, hR, hP, hk2⟩
  go_wp2_with fail
  go_ret
  exact ⟨s', rfl, hR, hP, hk1.fresh hk2 fun x y hr => by have := hr.1; omega⟩

set_option maxHeartbeats 1000000 in
set_option maxRecDepth 100000 in
theorem zz_32_zero (ta : Option Addr) (tc : Nat) (w : World) :
    Calls Try.prog 18 #[.slice ta 0 tc] w fun e w' => e = .returned (.slice (some ⟨w.heap.size, 0, none⟩) 0 0) ∧ Kept (fun _ _ => False) w w' := by
  obtain ⟨i0, hi, hz0, hz1, hz2⟩ := info_parts info_i32
  obtain ⟨w1, hmk, hF, hk1, hlt⟩ := make_row (P := Try.prog) w 36 21 .i32 i0 Try.underlying36 hi hz0 hz1 (by rw [hz2]; omega) 0 (by omega)
  have hmk2 : (Instr.makeSlice 36 (.int .i64 0) (.int .i64 0)).run Try.prog w = .ok (.slice (some ⟨w.heap.size, 0, none⟩) 0 0) w1 := hmk
  clear hmk hi hz0 hz1 hz2
  go_enter Try.func18, Try.ntmps18
  go_wp2_with fail
  refine (text_32_zero _ _ tc 0 w1).mono ?_
  rintro e w2 ⟨rfl, hk2⟩
  go_wp2_with fail
  go_ret
  exact ⟨rfl, hk1.trans hk2⟩

set_option maxHeartbeats 1600000 in
set_option maxRecDepth 100000 in
/-- Numbers, as numbers of the widest kind. -/
theorem numbers_32 (B b o n c : Nat) (f : Nat → Nat) (w : World) (hR : Row w .i32 b o n (fun x => (f x : Int))) (hf : ∀ x, x < n → f x < 1073741824) (hn : n ≤ 1073741824) (hB : B ≤ w.heap.size) :
    Calls Try.prog 17 #[.slice (some ⟨b, o, none⟩) n c] w fun e w' =>
      ∃ v, e = .returned v ∧ w'.ownsRow B 3 1 v n ((List.range n).map fun x => Value.int .i64 (f x : Int)) ∧ Kept (fun _ _ => False) w w' := by
  obtain ⟨i0, hi, hz0, hz1, hz2⟩ := info_parts info_int
  have HF := Lib.hid hf
  clear hf
  go_enter Try.func17, Try.ntmps17
  go_wp2
  go_loopw [3, 8] (fun v i wr => ∃ k : Nat, k ≤ n ∧ i = .int .i64 k ∧ wr.ownsRow w.heap.size 3 1 v k ((List.range k).map fun x => Value.int .i64 (f x : Int)) ∧ Below w.heap.size w wr)
    (fun _ i _ => n - (intOf i).toNat)
  case atStart => exact ⟨0, Nat.zero_le _, rfl, World.ownsRow_nil _ _ _ _, Below.refl _ _⟩
  case round =>
    obtain ⟨k, hk, rfl, hown, hnx⟩ := hrel
    by_cases hlt : k < n
    · have hfk := HF.out k hlt
      have hb : b < w.heap.size := hR.lt (by omega)
      have hcx : wr.cell? ⟨b, o + k, none⟩ = some (.int .i32 (f k : Int)) := (hnx.cell hb).trans (hR.cell k hlt)
      go_wp2_with (first
        | (at_builtin; refine wpList_append_own _ rfl _ _ 24 rfl w.heap.size 3 i0 (.int .i64 0) 1 8 Try.underlying24 hi hz0 hz1 hz2 rfl (by decide) _ _ _ rfl (hown.alloc _) ⟨wr.heap.size, 0, none⟩ 1 1 [.int .i64 (f k : Int)] rfl rfl ?c1 ?c2 ?c3 ?c4 ?c5 ?_)
        | go_in)
      case c1 =>
        intro j u hj
        match j, hj with
        | 0, hj => simp at hj; subst hj; simp [Addr.add]
      case c2 => intro u hu; simp at hu; subst hu; rfl
      case c3 => unfold maxLen; omega
      case c4 => omega
      case c5 => have := hnx.size; simp; omega
      · intro v' w1 hown' hgrow _
        have hlv := (hown.alloc (.cells #[.int .i64 (f k : Int)] 3)).lt
        have hnx' : Below w.heap.size w w1 := (hnx.alloc hnx.size _).grown hgrow (by have := hnx.size; simp; omega) fun x hx => (hlv x hx).1
        rw [show ((List.range k).map fun x => Value.int .i64 (f x : Int)) ++ [.int .i64 (f k : Int)] = (List.range (k + 1)).map fun x => Value.int .i64 (f x : Int) by rw [List.range_succ, List.map_append]; rfl] at hown'
        clear hgrow hown hnx hlv hcx
        go_wp2
        go_roundw
        case rel => exact ⟨k + 1, by omega, by simp, hown', hnx'⟩
        case measure => simp [intOf]; omega
    · have hkn : k = n := by omega
      subst hkn
      go_wp2
      go_ret
      obtain ⟨h1, h2⟩ := hown
      refine ⟨_, rfl, ⟨h1, h2.imp id ?_⟩, below_kept hnx⟩
      rintro ⟨g, cap, cur, e1, e2, e3⟩
      exact ⟨g, cap, cur, e1, by omega, e3⟩

set_option maxHeartbeats 1000000 in
set_option maxRecDepth 100000 in
theorem numbers_32_zero (a : Option Addr) (c : Nat) (w : World) :
    Calls Try.prog 17 #[.slice a 0 c] w fun e w' => e = .returned (.slice none 0 0) ∧ w' = w := by
  go_enter Try.func17, Try.ntmps17
  go_wp2
  refine wp_loop_rounds 1 ?_
  rw [rounds_succ]
  go_wp2
  go_ret
  exact ⟨rfl, rfl⟩

end Go.Proofs.Ythmpjmohakdkmaa
