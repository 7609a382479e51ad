/-
  Walks over the sorting functions (variant 32): sais. No condition but those typed.
-/
import Derived.Test.YtfpihnfhmefeaaaGreatDoorWb32
import Derived.Test.YtfpihnfhmefeaaaGreatDoorWc32
import Derived.Test.YtfpihnfhmefeaaaGreatDoorWd32
import Derived.Test.YtfpihnfhmefeaaaGreatDoorWe32
import Derived.Test.YtfpihnfhmefeaaaGreatDoorWr32
import Derived.Test.YtfpihnfhmefeaaaGreatDoorTmp
namespace Go.Proofs.YtfpihnfhmefeaaaGreatDoor
open Go.RowKit

set_option maxHeartbeats 4000000 in
set_option maxRecDepth 100000 in
theorem sais_32_core (n : Nat) (IH : ∀ m, m < n → SaisSpec_32 m) (T : Nat → Nat) (K : Nat) (tb tp tc sb so sc mb mo mn mc : Nat) (s F : Nat → Int) (w : World) (hT : Row w .i32 tb tp n (fun i => (T i : Int))) (hs : Row w .i32 sb so n s) (hs0 : ∀ x, x < n → s x = 0) (hF : Row w .i32 mb mo mn F)
    (hTS : Apart tb tp n sb so n) (hTM : Apart tb tp n mb mo mn) (hSM : Apart sb so n mb mo mn) (hTK : ∀ i, i < n → T i < K) (hK0 : 0 < K) (hK1 : K ≤ 1073741824) (hKm : K ≤ mn) (hn : 1 < n) (hnle : n ≤ 1073741824) (htc : n ≤ tc) (hsc : n ≤ sc) (hmc : mn ≤ mc) (hmle : mn ≤ 1073741824) :
    Calls Tryz.prog 97 #[.slice (some ⟨tb, tp, none⟩) n tc, .int .i64 (K : Int), .slice (some ⟨sb, so, none⟩) n sc, .slice (some ⟨mb, mo, none⟩) mn mc] w (SaisPost_32 T n sb so mb mo mn F w) := by
  have HIH := Lib.hid IH
  have HS0 := Lib.hid hs0
  have HTK := Lib.hid hTK
  clear IH hs0 hTK
  go_enter Tryz.func97, Tryz.ntmps97
  go_upto_if 36 with (fail)
  go_cut [8, 9] from 37 (fun v8 v9 wc => ∃ (c : Bool) (bc : Nat) (B : Nat → Int), v8 = (mkLay T n K tb tp sb so mb mo mc c).fv ∧ v9 = .slice (some ⟨mb, (mkLay T n K tb tp sb so mb mo mc c).bo, none⟩) K bc ∧ K ≤ bc ∧ (mkLay T n K tb tp sb so mb mo mc c).mn ≤ mn ∧
      Mem .i32 .i32 K (mkLay T n K tb tp sb so mb mo mc c) w wc s B)
  case first =>
    by_cases h2 : K + K ≤ mn
    · have hc0 : w.cell? ⟨mb, mo, none⟩ = some (.int .i32 (F 0)) := by have := hF.cell 0 (by omega); rw [Nat.add_zero] at this; exact this
      have hf0 : w.frozen? ⟨mb, mo, none⟩ = false := by have := hF.free 0 (by omega); rw [Nat.add_zero] at this; exact this
      go_wp2_with fail
      go_quiet (fail)
      go_wp2_with fail
      go_meet
      case rel =>
        refine ⟨true, mc - K, _, rfl, by rw [show 2 * K - K = K by omega]; rfl, by omega, h2, mem_start_c hT hs hF hTS hTM hSM HTK.out hK0 hK1 hnle (by omega) h2 nq⟩
    · go_wp2_with fail
      go_quiet (fail)
      go_wp2_with fail
      go_meet
      case rel =>
        exact ⟨false, mc, _, rfl, rfl, by omega, hKm, mem_start_b hT hs hF hTS hTM hSM HTK.out hK0 hK1 hnle hKm nq⟩
  case rest =>
    obtain ⟨c, bc, B, rfl, rfl, hbc, hmn, hM⟩ := hcut
    have hG := hF.part (mkLay T n K tb tp sb so mb mo mc c).mn (mn - (mkLay T n K tb tp sb so mb mo mc c).mn) (by omega)
    go_wp2_with fail
    refine (placeLMS_32 K (mkLay T n K tb tp sb so mb mo mc c) w wc s B hM HS0.out (by show 0 < n; omega) tc sc bc hbc).mono ?_
    rintro e w2 ⟨s1, B1, he, hM1, hle, hgt⟩
    have he : e = .returned (.int .i64 (many T n : Int)) := he
    subst he
    have hle : many T n ≤ 1 → PlaceAll T n s1 := hle
    have hgt : 1 < many T n → ∃ f, First T n f ∧ PlaceSub T n f s1 := hgt
    have HLE := Lib.hid hle
    have HGT := Lib.hid hgt
    clear hle hgt
    go_upto_if 56 with (fail)
    go_cut [] from 57 (fun wc => SaisMid .i32 .i32 T n K tb tp sb so mb mo mn mc c w wc)
    case first =>
      by_cases hm1 : many T n ≤ 1
      · go_wp2_with fail
        go_meet
        case rel => exact ⟨w, s1, B1, _, Kept.refl _ _, hM1, HLE.out hm1, hG⟩
      · obtain ⟨f, hf, hsub⟩ := HGT.out (by omega)
        have hm0 : 1 < many T n := by omega
        go_wp2_with fail
        refine (induceSubL_32 K (mkLay T n K tb tp sb so mb mo mc c) w w2 s1 B1 f hM1 hf hsub tc sc bc hbc).mono ?_
        rintro e w3 ⟨s2, B2, rfl, hM2, hpl⟩
        go_wp2_with fail
        refine (induceSubS_32 K (mkLay T n K tb tp sb so mb mo mc c) w w3 s2 B2 f hM2 hf hpl tc sc bc hbc).mono ?_
        rintro e w4 ⟨s3, B3, rfl, hM3, a, ha, ha1, ha2⟩
        have ha : Srt (lms T n) n (keyLt T n) (many T n) a := ha
        have ha1 : ∀ r, r < many T n → s3 (n - many T n + r) = (a r : Int) := ha1
        have ha2 : ∀ x, x + many T n < n → s3 x = 0 := ha2
        have HA1 := Lib.hid ha1
        have HA2 := Lib.hid ha2
        clear ha1 ha2
        go_wp2_with fail
        refine (length_32 K (mkLay T n K tb tp sb so mb mo mc c) w w4 s3 B3 hM3 hn tc sc _).mono ?_
        rintro e w5 ⟨s4, B4, cod, rfl, hM4, hcod, hc1, hc2⟩
        have hc1 : ∀ j, lms T n j = true → s4 (j / 2) = cod j := hc1
        have hc2 : ∀ x, (∀ j, lms T n j = true → j / 2 ≠ x) → s4 x = s3 x := hc2
        have hhalf : ∀ j, lms T n j = true → j / 2 + many T n < n := fun j hj => half_lt hj
        have hs4 : ∀ r, r < many T n → s4 (n - many T n + r) = (a r : Int) := fun r hr => by
          rw [hc2 _ (fun j hj e => by have := hhalf j hj; omega), HA1.out r hr]
        have HC1 := Lib.hid hc1
        have HC2 := Lib.hid hc2
        have HHALF := Lib.hid hhalf
        have HS4 := Lib.hid hs4
        clear hc1 hc2 hhalf hs4
        go_wp2_with fail
        refine (assignID_32 K (mkLay T n K tb tp sb so mb mo mc c) w w5 s4 B4 hM4 hn (many T n) rfl a ha cod hcod HS4.out HC1.out (by omega) tc sc htc hsc).mono ?_
        rintro e w6 ⟨s5, B5, he, hM5, hid, hkeep⟩
        have he : e = .returned (.int .i64 (idTo T n a (many T n) : Int)) := he
        have hid : ∀ q, q < many T n → s5 (a q / 2) = (idOf T n a q : Int) := hid
        subst he
        have HID := Lib.hid hid
        have HKEEP := Lib.hid hkeep
        clear hid hkeep
        have hidle := idTo_le T n a (many T n)
        have hidm : idTo T n a (many T n) = idOf T n a (many T n - 1) := by
          obtain ⟨q, hq⟩ : ∃ q, many T n = q + 1 := ⟨many T n - 1, by omega⟩
          rw [hq]; rfl
        have HIDM := Lib.hid hidm
        clear hidm
        have hmn2 : 2 * many T n < n := many_half (by omega)
        have irr : ∀ x, keyLt T n x x = false := fun x => by simp [keyLt, List.lt_irrefl]
        have HIRR := Lib.hid irr
        clear irr
        by_cases hlt : idTo T n a (many T n) < many T n
        · have hidb : ∀ j, lms T n j = true → 0 < s5 (j / 2) ∧ s5 (j / 2) ≤ 1073741824 := fun j hj => by
            obtain ⟨r, hr, rfl⟩ := ha.cover HIRR.out (lms_iff.1 hj).2.1 hj
            have h1 := idOf_pos T n a r
            have h2 := idOf_le_succ T n a r
            rw [HID.out r hr]; omega
          have hz5 : ∀ x, x + many T n < n → (∀ j, lms T n j = true → j / 2 ≠ x) → s5 x = 0 := fun x hx hno => by
            rw [HKEEP.out x (fun q hq => hno _ (ha.mem q hq).2), HC2.out x hno, HA2.out x hx]
          have HIDB := Lib.hid hidb
          have HZ5 := Lib.hid hz5
          clear hidb hz5
          go_wp2_with fail
          refine (map_32 w6 sb so n sc T s5 hM5.sa hn hnle HIDB.out HZ5.out _).mono ?_
          rintro e w7 ⟨s6, rfl, hR6, hk6, hmap⟩
          have hM6 := hM5.keptS hk6 hR6
          obtain ⟨N, T1, hN, hT1, hT1s, hT1K⟩ := names_text ha rfl HID.out hmap
          have hG6 : Row w7 .i32 mb (mo + (mkLay T n K tb tp sb so mb mo mc c).mn) (mn - (mkLay T n K tb tp sb so mb mo mc c).mn) _ := hG.kept hM6.kept fun j hj hr => by
            unfold Apart at hSM
            rcases hr with ⟨a, b, d⟩ | ⟨a, b, d⟩
            · have a' : mb = sb := a
              have b' : so ≤ mo + (mkLay T n K tb tp sb so mb mo mc c).mn + j := b
              have d' : mo + (mkLay T n K tb tp sb so mb mo mc c).mn + j < so + n := d
              omega
            · have d' : mo + (mkLay T n K tb tp sb so mb mo mc c).mn + j < mo + (mkLay T n K tb tp sb so mb mo mc c).mn := d
              omega
          obtain ⟨Fw, hFw, hFv⟩ := tmp_whole hM6 hG6 hmn
          have hKK : idTo T n a (many T n) = idOf T n a (many T n - 1) := HIDM.out
          have hK1p := idOf_pos T n a (many T n - 1)
          have HMAP := Lib.hid hmap
          have HNN := Lib.hid hN
          have HT1 := Lib.hid hT1
          have HT1S := Lib.hid hT1s
          have HT1K := Lib.hid hT1K
          have HKK := Lib.hid hKK
          have HFV := Lib.hid hFv
          clear hmap hN hT1 hT1s hT1K hKK hFv
          go_wp2_with fail
          refine (recurse_32 (many T n) (HIH.out _ (by omega)) w7 sb so n sc mb mo mn mc s6 Fw T1 (idTo T n a (many T n)) hM6.sa hFw hSM hmn2 hm0 hnle hsc hmc hmle HT1S.out (fun q hq => by rw [HKK.out]; exact HT1K.out q hq) (by rw [HKK.out]; omega) hlt).mono ?_
          rintro e w8 ⟨s7, F', g, rfl, hs7, hg, hgs, hF', hsame, hk7⟩
          obtain ⟨B7, hM7, hG7⟩ := mem_again hM6 hmn hTM HFV.out hs7 hF' hsame hk7
          have hall : Kept (fun x y => reg sb so n x y ∨ reg mb mo mn x y) w w8 := (hM6.kept.mono fun x y _ hr => by
            rcases hr with ⟨a, b, d⟩ | ⟨a, b, d⟩
            · exact .inl ⟨a, b, d⟩
            · refine .inr ⟨a, b, ?_⟩
              have d' : y < mo + (mkLay T n K tb tp sb so mb mo mc c).mn := d
              omega).trans hk7
          have hgm := hg.mem
          have HGM := Lib.hid hgm
          have HGS := Lib.hid hgs
          have HSAME := Lib.hid hsame
          clear hgm hgs hsame
          go_wp2_with fail
          refine (unmap_32 K (mkLay T n K tb tp sb so mb mo mc c) w8 w8 s7 B7 hM7 hn (many T n) rfl (by omega) g HGM.out HGS.out tc sc hsc).mono ?_
          rintro e w9 ⟨s8, B8, rfl, hM8, hpos⟩
          have hpos : ∀ r, r < many T n → s8 r = (pos T n (g r) : Int) := hpos
          have HPOS := Lib.hid hpos
          clear hpos
          go_wp2_with fail
          refine (expand_32 K (mkLay T n K tb tp sb so mb mo mc c) w8 w9 s8 B8 hM8 hn (many T n) (by omega) (fun r => pos T n (g r)) (ha.back HNN.out HT1.out hg) HPOS.out tc sc bc hbc).mono ?_
          rintro e w10 ⟨s9, B9, rfl, hM9, hpa⟩
          go_wp2_with fail
          go_meet
          case rel => exact ⟨w8, s9, B9, _, hall, hM9, hpa, hG7⟩
        · obtain ⟨w7, hcp, hR6, hk6⟩ := copy_row (P := Tryz.prog) hM5.sa 51 21 Tryz.underlying51 info1_i32 (n - many T n) (many T n) (by show n - many T n + many T n = n; omega)
          have hcp2 : ∀ (ty : TypeId) (x y : Nat), (Builtin.copy_ #[51, 51] ty #[.slice (some ⟨sb, so, none⟩) n x, .slice (some ⟨sb, so + (n - many T n), none⟩) (n - (n - many T n)) y]).run Tryz.prog w6 = .ok (goInt (many T n)) w7 := fun ty x y => by
            rw [show n - (n - many T n) = many T n by omega]; exact hcp ty x y
          have hM6 := hM5.keptS hk6 hR6
          have hfull : idOf T n a (many T n - 1) = many T n := by rw [← HIDM.out]; omega
          have HFULL := Lib.hid hfull
          have hs6 : ∀ r, r < many T n → (if r < many T n then s5 (n - many T n + r) else s5 r) = (a r : Int) := fun r hr => by
            rw [if_pos hr, HKEEP.out _ (fun q hq e => by have := HHALF.out _ (ha.mem q hq).2; omega), HS4.out r hr]
          have HS6 := Lib.hid hs6
          clear hfull hs6 hcp
          go_wp2_with fail
          clear hcp2
          refine (expand_32 K (mkLay T n K tb tp sb so mb mo mc c) w w7 _ B5 hM6 hn (many T n) (by omega) a (ha.full HFULL.out) HS6.out tc sc bc hbc).mono ?_
          rintro e w10 ⟨s9, B9, rfl, hM9, hpa⟩
          go_wp2_with fail
          go_meet
          case rel => exact ⟨w, s9, B9, _, Kept.refl _ _, hM9, hpa, hG⟩
    case rest =>
      obtain ⟨wref, s9, B9, G9, hkr, hM9, hpa, hG9⟩ := hcut
      go_wp2_with fail
      refine (induceL_32 K (mkLay T n K tb tp sb so mb mo mc c) wref wc s9 B9 hM9 hn hpa tc sc bc hbc).mono ?_
      rintro e w11 ⟨s10, B10, rfl, hM10, hla⟩
      go_wp2_with fail
      refine (induceS_32 K (mkLay T n K tb tp sb so mb mo mc c) wref w11 s10 B10 hM10 hla tc sc bc hbc).mono ?_
      rintro e w12 ⟨s11, B11, rfl, hM11, hsa⟩
      have hG11 : Row w12 .i32 mb (mo + (mkLay T n K tb tp sb so mb mo mc c).mn) (mn - (mkLay T n K tb tp sb so mb mo mc c).mn) G9 := hG9.kept hM11.kept fun j hj hr => by
        unfold Apart at hSM
        rcases hr with ⟨a, b, d⟩ | ⟨a, b, d⟩
        · have a' : mb = sb := a
          have b' : so ≤ mo + (mkLay T n K tb tp sb so mb mo mc c).mn + j := b
          have d' : mo + (mkLay T n K tb tp sb so mb mo mc c).mn + j < so + n := d
          omega
        · have d' : mo + (mkLay T n K tb tp sb so mb mo mc c).mn + j < mo + (mkLay T n K tb tp sb so mb mo mc c).mn := d
          omega
      obtain ⟨Fe, hFe, _⟩ := tmp_whole hM11 hG11 hmn
      have hc0 : w12.cell? ⟨mb, mo, none⟩ = some (.int .i32 (Fe 0)) := by have := hFe.cell 0 (by omega); rw [Nat.add_zero] at this; exact this
      have hf0 : w12.frozen? ⟨mb, mo, none⟩ = false := by have := hFe.free 0 (by omega); rw [Nat.add_zero] at this; exact this
      go_wp2_with fail
      go_end0
      have hst := hFe.set (i := 0) (by omega) (-1)
      rw [Nat.add_zero] at hst
      have hkst : Kept (reg mb mo mn) w12 (w12.setCell ⟨mb, mo, none⟩ (.int .i32 (-1))) := Kept.setCell ⟨rfl, by omega, by omega⟩
      refine ⟨s11, _, rfl, hM11.sa.keptReg hkst hSM, hsa, hst, .inr (by rw [put_same]), hkr.trans ((hM11.kept.mono fun x y _ hr => ?_).trans (hkst.mono fun x y _ hr => .inr hr))⟩
      rcases hr with ⟨a, b, d⟩ | ⟨a, b, d⟩
      · exact .inl ⟨a, b, d⟩
      · refine .inr ⟨a, b, ?_⟩
        have d' : y < mo + (mkLay T n K tb tp sb so mb mo mc c).mn := d
        omega

/-- What the function that calls itself does to every text. -/
theorem sais_32_spec : ∀ n, SaisSpec_32 n := by
  intro n
  induction n using Nat.strongRecOn with
  | _ n ih =>
    intro T K tb tp tc sb so sc mb mo mn mc s F w h1 h2 h3 h4 h5 h6 h7 h8 h9 h10 h11 h12 h13 h14 h15 h16 h17
    exact sais_32_core n ih T K tb tp tc sb so sc mb mo mn mc s F w h1 h2 h3 h4 h5 h6 h7 h8 h9 h10 h11 h12 h13 h14 h15 h16 h17

end Go.Proofs.YtfpihnfhmefeaaaGreatDoor

