/-
  Walks over the sorting functions (variant 8_32): freq, bkt, place. No condition but those typed.
-/
import Derived.Test.YtfpihnfhmefeaaaGreatDoorLay
import Derived.Test.YtfpihnfhmefeaaaGreatDoorRound
namespace Go.Proofs.YtfpihnfhmefeaaaGreatDoor
open Go.RowKit

set_option maxHeartbeats 400000 in
set_option maxRecDepth 100000 in
theorem freq_8_32_run (w w1 : World) (tb tp n tc fb fo fc : Nat) (x y : Value) (T : Nat → Nat) (_hK0 : 0 < 256) (hx : x = .slice none 0 0 ∧ y = .slice (some ⟨fb, fo, none⟩) 256 fc ∨ x = .slice (some ⟨fb, fo, none⟩) 256 fc ∧ ∃ v, w.cell? ⟨fb, fo, none⟩ = some (.int .i32 v) ∧ v < 0) (_hc : 256 ≤ fc)
    (hT : Row w1 .u8 tb tp n (fun i => (T i : Int))) (hTm : ∀ i, i < n → T i < 256) (hn : n ≤ 1073741824) (hA : Apart tb tp n fb fo 256)
    (hclr : ∀ (ty : TypeId) (c : Nat), (Builtin.clear_ #[51] ty #[.slice (some ⟨fb, fo, none⟩) 256 c]).run Tryz.prog w = .ok (.tuple #[]) w1) (hF : Row w1 .i32 fb fo 256 (fun _ => 0)) :
    Calls Tryz.prog 102 #[.slice (some ⟨tb, tp, none⟩) n tc, x, y] w fun e w' =>
      e = .returned (.slice (some ⟨fb, fo, none⟩) 256 fc) ∧ Row w' .i32 fb fo 256 (fun c => (occ T n c : Int)) ∧ Kept (reg fb fo 256) w1 w' := by
  have heq := fun (w : World) (a : Option Addr) (n c : Nat) => Lib.run_eql_slice_nil (P := Tryz.prog) w 51 21 a n c 0 0 Tryz.underlying51
  have hne := fun (w : World) (a : Option Addr) (n c : Nat) => run_neq_slice_nil_any (P := Tryz.prog) w 51 21 a n c 0 0 Tryz.underlying51
  rcases hx with ⟨rfl, rfl⟩ | ⟨rfl, v, hv, hneg⟩
  all_goals
    go_enter Tryz.func102, Tryz.ntmps102
    go_wp2_with fail
    clear hclr heq hne
    go_loopw [26] (fun v wr => ∃ i : Nat, i ≤ n ∧ v = .int .i64 i ∧ Row wr .i32 fb fo 256 (fun c => (occ T i c : Int)) ∧ Kept (reg fb fo 256) w1 wr) (fun v _ => n - (intOf v).toNat)
    case atStart => exact ⟨0, Nat.zero_le _, rfl, hF.congr (fun j _ => by simp [occ, cnt]), Kept.refl _ _⟩
    case round =>
      obtain ⟨i, hi, rfl, hR, hK⟩ := hrel
      have hTi := (hT.keptReg hK hA).cell
      have hRc := hR.cell
      have hRf := hR.free
      by_cases hlt : i < n
      · have hm := hTm i hlt
        have ho := occ_le T i (T i)
        go_wp2_with fail
        go_roundw
        case rel =>
          refine ⟨i + 1, by omega, by go_num, ?_, hK.trans (Kept.setCell ⟨rfl, by omega, by omega⟩)⟩
          refine (hR.set hm _).congr fun j _ => ?_
          by_cases hj : j = T i
          · subst hj; rw [put_same, occ_same]; rfl
          · rw [put_other _ _ _ _ hj, occ_other _ _ _ hj]
        case measure => (simp [intOf] <;> omega)
      · obtain rfl : i = n := by omega
        go_wp2_with fail
        go_ret
        exact ⟨rfl, hR, hK⟩

set_option maxHeartbeats 400000 in
set_option maxRecDepth 100000 in
theorem freq_8_32_have (w : World) (x y : Value) (fb fo fc : Nat) (f0 : Int) (hc : w.cell? ⟨fb, fo, none⟩ = some (.int .i32 f0)) (h0 : 0 ≤ f0) (_hK0 : 0 < 256) :
    Calls Tryz.prog 102 #[x, .slice (some ⟨fb, fo, none⟩) 256 fc, y] w fun e w' => e = .returned (.slice (some ⟨fb, fo, none⟩) 256 fc) ∧ w = w' := by
  have hne := fun (w : World) (a : Option Addr) (n c : Nat) => run_neq_slice_nil_any (P := Tryz.prog) w 51 21 a n c 0 0 Tryz.underlying51
  go_enter Tryz.func102, Tryz.ntmps102
  go_wp2_with fail
  go_ret
  exact ⟨rfl, rfl⟩

theorem freq_8_32 (L : Lay) (w0 w : World) (s B : Nat → Int) (h : Mem .i32 .u8 256 L w0 w s B) (tc bc : Nat) (hbc : 256 ≤ bc) :
    Calls Tryz.prog 102 #[.slice (some ⟨L.tb, L.tp, none⟩) L.n tc, L.fv, .slice (some ⟨L.mb, L.bo, none⟩) 256 bc] w (FreqPost .i32 .u8 256 L w0 s) := by
  have hin := h.inB
  have hK0 := h.Kle.1
  have aTM := h.aTM
  have aSM := h.aSM
  unfold Apart at aTM aSM
  rcases h.frq with hfv | ⟨fc, hfv, hfc, hsep, F, hF, hval⟩
  · obtain ⟨w1, hclr, hF1, hK1⟩ := clear_row (P := Tryz.prog) h.bkt 51 21 Tryz.underlying51 zero_i32 hK0
    have hA : Apart L.tb L.tp L.n L.mb L.bo 256 := by unfold Apart; omega
    have hS : Apart L.sb L.so L.n L.mb L.bo 256 := by unfold Apart; omega
    refine (freq_8_32_run w w1 L.tb L.tp L.n tc L.mb L.bo bc L.fv _ L.T hK0 (.inl ⟨hfv, rfl⟩) hbc (h.text.keptReg hK1 hA) h.small h.nle hA hclr hF1).mono ?_
    rintro e w' ⟨rfl, hR, hK2⟩
    have hK := hK1.trans hK2
    refine ⟨L.bo, bc, _, rfl, hbc, .inl rfl, { h with text := h.text.keptReg hK hA, sa := h.sa.keptReg hK hS, bkt := hR, frq := .inl hfv, kept := h.kept.trans (hK.mono fun x y _ hr => ?_) }, hR.cell⟩
    right; obtain ⟨a, b, c⟩ := hr; exact ⟨a, by omega, by omega⟩
  · rcases hval with hneg | hocc
    · obtain ⟨w1, hclr, hF1, hK1⟩ := clear_row (P := Tryz.prog) hF 51 21 Tryz.underlying51 zero_i32 hK0
      have hA : Apart L.tb L.tp L.n L.mb L.mo 256 := by unfold Apart; omega
      have hS : Apart L.sb L.so L.n L.mb L.mo 256 := by unfold Apart; omega
      have hB : Apart L.mb L.bo 256 L.mb L.mo 256 := by unfold Apart; omega
      refine (freq_8_32_run w w1 L.tb L.tp L.n tc L.mb L.mo fc L.fv _ L.T hK0 (.inr ⟨hfv, F 0, by have := hF.cell 0 hK0; rw [Nat.add_zero] at this; exact this, hneg⟩) hfc (h.text.keptReg hK1 hA) h.small h.nle hA hclr hF1).mono ?_
      rintro e w' ⟨rfl, hR, hK2⟩
      have hK := hK1.trans hK2
      refine ⟨L.mo, fc, B, rfl, hfc, .inr hsep, { h with text := h.text.keptReg hK hA, sa := h.sa.keptReg hK hS, bkt := h.bkt.keptReg hK hB, frq := .inr ⟨fc, hfv, hfc, hsep, _, hR, .inr fun _ _ => rfl⟩, kept := h.kept.trans (hK.mono fun x y _ hr => ?_) }, hR.cell⟩
      right; obtain ⟨a, b, c⟩ := hr; exact ⟨a, by omega, by omega⟩
    · have h0 : 0 ≤ F 0 := by rw [hocc 0 hK0]; omega
      rw [hfv]
      refine (freq_8_32_have w _ _ L.mb L.mo fc (F 0) (by have := hF.cell 0 hK0; rw [Nat.add_zero] at this; exact this) h0 hK0).mono ?_
      rintro e w' ⟨rfl, rfl⟩
      exact ⟨L.mo, fc, B, rfl, hfc, .inr hsep, h, fun j hj => by rw [hF.cell j hj, hocc j hj]⟩

set_option maxHeartbeats 400000 in
set_option maxRecDepth 100000 in
theorem bucketMax_8_32 (L : Lay) (w0 w : World) (s B : Nat → Int) (h : Mem .i32 .u8 256 L w0 w s B) (tc bc : Nat) (hbc : 256 ≤ bc) :
    Calls Tryz.prog 95 #[.slice (some ⟨L.tb, L.tp, none⟩) L.n tc, L.fv, .slice (some ⟨L.mb, L.bo, none⟩) 256 bc] w (BktPost .i32 .u8 256 L w0 s (fun c => (lo L.T L.n (c + 1) : Int))) := by
  have hnle := h.nle
  go_enter Tryz.func95, Tryz.ntmps95
  go_wp2_with fail
  refine (freq_8_32 L w0 w s B h tc bc hbc).mono ?_
  rintro e w1 ⟨fo, c, B1, rfl, hc, hfo, hM, hcell⟩
  go_wp2_with fail
  go_loopw [19, 6] (fun v t wr => ∃ (i : Nat) (B : Nat → Int), i ≤ 256 ∧ v = .int .i64 i ∧ t = .int .i32 (lo L.T L.n i : Int) ∧ Mem .i32 .u8 256 L w0 wr s B ∧ (∀ c, c < i → B c = (lo L.T L.n (c + 1) : Int)) ∧
      ∀ j, i ≤ j → j < 256 → wr.cell? ⟨L.mb, fo + j, none⟩ = some (.int .i32 (occ L.T L.n j : Int))) (fun v _ _ => 256 - (intOf v).toNat)
  case atStart => exact ⟨0, B1, Nat.zero_le _, rfl, by rw [lo_zero]; rfl, hM, fun c hc => by omega, fun j _ hj => hcell j hj⟩
  case round =>
    clear hcell hM
    obtain ⟨i, B, hi, rfl, rfl, hM, hB, hcell⟩ := hrel
    have hBc := hM.bkt.cell
    have hBf := hM.bkt.free
    by_cases hlt : i < 256
    · have hci := hcell i (Nat.le_refl _) hlt
      have h1 := lo_succ L.T L.n i
      have h2 := lo_le L.T L.n (i + 1)
      have H1 := Lib.hid h1
      clear h1
      have h3 : (lo L.T L.n i : Int) + (occ L.T L.n i : Int) ≤ 1073741824 := by have := H1.out; omega
      go_wp2_with fail
      go_roundw
      case rel =>
        refine ⟨i + 1, put B i ((lo L.T L.n i : Int) + (occ L.T L.n i : Int)), by omega, by go_num, by rw [H1.out]; go_num, hM.setB hlt _, fun c hc => ?_, fun j h4 h5 => ?_⟩
        · by_cases hci : c = i
          · subst hci; rw [put_same, H1.out]; omega
          · rw [put_other _ _ _ _ hci]; exact hB c (by omega)
        · rw [setCell_cell _ _ (by omega)]; exact hcell j (by omega) h5
      case measure => (simp [intOf] <;> omega)
    · obtain rfl : i = 256 := by omega
      go_wp2_with fail
      go_end0
      exact ⟨rfl, hM.congr (fun _ _ => rfl) hB⟩

set_option maxHeartbeats 400000 in
set_option maxRecDepth 100000 in
theorem bucketMin_8_32 (L : Lay) (w0 w : World) (s B : Nat → Int) (h : Mem .i32 .u8 256 L w0 w s B) (tc bc : Nat) (hbc : 256 ≤ bc) :
    Calls Tryz.prog 96 #[.slice (some ⟨L.tb, L.tp, none⟩) L.n tc, L.fv, .slice (some ⟨L.mb, L.bo, none⟩) 256 bc] w (BktPost .i32 .u8 256 L w0 s (fun c => (lo L.T L.n c : Int))) := by
  have hnle := h.nle
  go_enter Tryz.func96, Tryz.ntmps96
  go_wp2_with fail
  refine (freq_8_32 L w0 w s B h tc bc hbc).mono ?_
  rintro e w1 ⟨fo, c, B1, rfl, hc, hfo, hM, hcell⟩
  go_wp2_with fail
  go_loopw [19, 6] (fun v t wr => ∃ (i : Nat) (B : Nat → Int), i ≤ 256 ∧ v = .int .i64 i ∧ t = .int .i32 (lo L.T L.n i : Int) ∧ Mem .i32 .u8 256 L w0 wr s B ∧ (∀ c, c < i → B c = (lo L.T L.n c : Int)) ∧
      ∀ j, i ≤ j → j < 256 → wr.cell? ⟨L.mb, fo + j, none⟩ = some (.int .i32 (occ L.T L.n j : Int))) (fun v _ _ => 256 - (intOf v).toNat)
  case atStart => exact ⟨0, B1, Nat.zero_le _, rfl, by rw [lo_zero]; rfl, hM, fun c hc => by omega, fun j _ hj => hcell j hj⟩
  case round =>
    clear hcell hM
    obtain ⟨i, B, hi, rfl, rfl, hM, hB, hcell⟩ := hrel
    have hBc := hM.bkt.cell
    have hBf := hM.bkt.free
    by_cases hlt : i < 256
    · have hci := hcell i (Nat.le_refl _) hlt
      have h1 := lo_succ L.T L.n i
      have h2 := lo_le L.T L.n (i + 1)
      have H1 := Lib.hid h1
      clear h1
      have h3 : (lo L.T L.n i : Int) + (occ L.T L.n i : Int) ≤ 1073741824 := by have := H1.out; omega
      go_wp2_with fail
      go_roundw
      case rel =>
        refine ⟨i + 1, put B i (lo L.T L.n i : Int), by omega, by go_num, by rw [H1.out]; go_num, hM.setB hlt _, fun c hc => ?_, fun j h4 h5 => ?_⟩
        · by_cases hci : c = i
          · subst hci; rw [put_same]
          · rw [put_other _ _ _ _ hci]; exact hB c (by omega)
        · rw [setCell_cell _ _ (by omega)]; exact hcell j (by omega) h5
      case measure => (simp [intOf] <;> omega)
    · obtain rfl : i = 256 := by omega
      go_wp2_with fail
      go_end0
      exact ⟨rfl, hM.congr (fun _ _ => rfl) hB⟩

/-- What the first step leaves. -/
def PlacePost_8_32 (L : Lay) (w0 : World) (e : Ending) (w' : World) : Prop :=
  ∃ s B, e = .returned (.int .i64 (many L.T L.n : Int)) ∧ Mem .i32 .u8 256 L w0 w' s B ∧ (many L.T L.n ≤ 1 → PlaceAll L.T L.n s) ∧ (1 < many L.T L.n → ∃ f, First L.T L.n f ∧ PlaceSub L.T L.n f s)

set_option maxHeartbeats 1000000 in
set_option maxRecDepth 100000 in
theorem placeLMS_8_32 (L : Lay) (w0 w : World) (s B : Nat → Int) (h : Mem .i32 .u8 256 L w0 w s B) (hs : ∀ x, x < L.n → s x = 0) (hn : 0 < L.n) (tc sc bc : Nat) (hbc : 256 ≤ bc) :
    Calls Tryz.prog 66 #[.slice (some ⟨L.tb, L.tp, none⟩) L.n tc, .slice (some ⟨L.sb, L.so, none⟩) L.n sc, L.fv, .slice (some ⟨L.mb, L.bo, none⟩) 256 bc] w (PlacePost_8_32 L w0) := by
  have hnle := h.nle
  go_enter Tryz.func66, Tryz.ntmps66
  go_wp2_with fail
  refine (bucketMax_8_32 L w0 w s B h tc bc hbc).mono ?_
  rintro e w1 ⟨rfl, hM⟩
  go_wp2_with fail
  go_loopw [9, 10, 11, 13, 14] (fun v9 v10 v11 v13 v14 wr => ∃ (p : Nat) (q : Int) (s B : Nat → Int) (N : Nat) (last : Int), p ≤ L.n ∧ v14 = .int .i64 q ∧ q + 1 = p ∧ v9 = .int .i64 N ∧ v10 = .int .i32 last ∧ v11 = .int .u8 (nx L.T L.n p : Int) ∧ v13 = .bool (fl L.T L.n p) ∧
      Mem .i32 .u8 256 L w0 wr s B ∧ IPlace L.T L.n p s B N last) (fun _ _ _ _ v14 _ => (intOf v14 + 1).toNat)
  case atStart => exact ⟨L.n, (L.n : Int) - 1, s, _, 0, -1, Nat.le_refl _, rfl, by omega, rfl, rfl, by rw [nx_n]; rfl, by rw [fl_n], hM, place_start hs fun _ => rfl⟩
  case round =>
    clear hM
    obtain ⟨p, q, s, B, N, last, hp, rfl, hq, rfl, rfl, rfl, rfl, hM, hI⟩ := hrel
    by_cases hp0 : p = 0
    · subst hp0
      obtain rfl : q = -1 := by omega
      clear hq
      have hSc := hM.sa.cell
      have hSf := hM.sa.free
      by_cases hN : 1 < N
      · obtain ⟨hNm, f, hf, hlast, hfn, hsub⟩ := place_sub hI hN
        subst hlast
        have HN := Lib.hid hNm
        clear hNm
        go_wp2_with fail
        go_ret
        have hNm := HN.out
        exact ⟨_, B, by rw [← hNm]; rfl, hM.setS hfn 0, fun hc => by omega, fun _ => ⟨f, hf, hsub⟩⟩
      · obtain ⟨hNm, hall⟩ := place_all hI hn (by omega)
        have HN := Lib.hid hNm
        clear hNm
        go_wp2_with fail
        go_ret
        have hNm := HN.out
        exact ⟨s, B, by rw [← hNm]; rfl, hM, fun _ => hall, fun hc => by omega⟩
    · obtain ⟨i, rfl⟩ : ∃ i, p = i + 1 := ⟨p - 1, by omega⟩
      obtain rfl : q = (i : Int) := by omega
      have hTc := hM.cellT
      clear hq
      by_cases h1 : L.T i < nx L.T L.n (i + 1)
      · obtain ⟨hf1, hl1⟩ := iter_up (T := L.T) (n := L.n) (i := i) (by omega) h1
        have hI1 := place_stay hI (by omega) hl1
        go_wp2_with fail
        go_roundw
        case rel => exact ⟨i, (i : Int) - 1, s, B, N, last, by omega, rfl, by omega, rfl, rfl, by rw [nx_lt L.T L.n i (by omega)], by rw [hf1], hM, hI1⟩
        case measure => (simp [intOf] <;> omega)
      · by_cases h2 : nx L.T L.n (i + 1) < L.T i ∧ fl L.T L.n (i + 1) = true
        · obtain ⟨h2, hfl⟩ := h2
          obtain ⟨hf1, hl1, hin, hnx⟩ := iter_event (T := L.T) (n := L.n) (i := i) (by omega) h2 hfl
          obtain ⟨hBr, hrn, hNn, hI1⟩ := place_event hI hl1
          have hm := hM.small (i + 1) hin
          rw [hnx] at h1 h2 ⊢
          rw [hfl]
          have hBc : wr.cell? ⟨L.mb, L.bo + L.T (i + 1), none⟩ = some (.int .i32 ((rhoP L.T L.n (i + 1) : Int) + 1)) := by rw [hM.bkt.cell _ hm]; congr 2; omega
          have hBf := hM.bkt.free
          have HB := Lib.hid hBr
          have HF := Lib.hid hf1
          have HX := Lib.hid hnx
          have HL := Lib.hid hfl
          clear hBr hf1 hnx hfl hl1
          obtain ⟨r, hr⟩ : ∃ r, r = rhoP L.T L.n (i + 1) := ⟨_, rfl⟩
          rw [← hr] at hBc hrn
          have HR := Lib.hid hr
          clear hr
          go_upto_region 16 with (fail)
          have hM1 := hM.setB hm (r : Int)
          obtain ⟨w2, hw2⟩ : ∃ w2, w2 = wr.setCell ⟨L.mb, L.bo + L.T (i + 1), none⟩ (.int .i32 (r : Int)) := ⟨_, rfl⟩
          rw [← hw2] at hM1 ⊢
          clear hw2 hBc hBf
          have hSc := hM1.sa.cell
          have hSf := hM1.sa.free
          go_wp2_with fail
          go_roundw
          case rel =>
            refine ⟨i, (i : Int) - 1, _, _, N + 1, _, by omega, rfl, by omega, by go_num, rfl, by rw [nx_lt L.T L.n i (by omega)], by rw [HF.out], hM1.setS hrn _, ?_⟩
            rw [HB.out, ← HR.out] at hI1
            exact hI1
          case measure => (simp [intOf] <;> omega)
        · obtain ⟨hf1, hl1⟩ := iter_stay (T := L.T) (n := L.n) (i := i) (by omega) h1 (fun h3 => by
            cases hq : fl L.T L.n (i + 1) with
            | false => rfl
            | true => exact (h2 ⟨h3, hq⟩).elim)
          have hI1 := place_stay hI (by omega) hl1
          by_cases h3 : nx L.T L.n (i + 1) < L.T i
          · have hfl : fl L.T L.n (i + 1) = false := by
              cases hq : fl L.T L.n (i + 1) with
              | false => rfl
              | true => exact (h2 ⟨h3, hq⟩).elim
            rw [hfl] at hf1 ⊢
            have HF := Lib.hid hf1
            clear hf1 hfl h2 hl1
            go_wp2_with fail
            go_roundw
            case rel => exact ⟨i, (i : Int) - 1, s, B, N, last, by omega, rfl, by omega, rfl, rfl, by rw [nx_lt L.T L.n i (by omega)], by rw [HF.out], hM, hI1⟩
            case measure => (simp [intOf] <;> omega)
          · have HF := Lib.hid hf1
            clear hf1 h2 hl1
            go_wp2_with fail
            go_roundw
            case rel => exact ⟨i, (i : Int) - 1, s, B, N, last, by omega, rfl, by omega, rfl, rfl, by rw [nx_lt L.T L.n i (by omega)], by rw [HF.out], hM, hI1⟩
            case measure => (simp [intOf] <;> omega)

end Go.Proofs.YtfpihnfhmefeaaaGreatDoor

