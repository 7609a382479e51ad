/-
  Walks over the sorting functions (variant 32): subl, subs. No condition but those typed.
-/
import Derived.Test.YtfpihnfhmefeaaaGreatDoorWa32
namespace Go.Proofs.YtfpihnfhmefeaaaGreatDoor
open Go.RowKit

def SubLPost_32 (K : Nat) (L : Lay) (w0 : World) (f : Nat) (e : Ending) (w' : World) : Prop := ∃ s B, e = .returned (.tuple #[]) ∧ Mem .i32 .i32 K L w0 w' s B ∧ PostLs L.T L.n f s

set_option maxHeartbeats 1000000 in
set_option maxRecDepth 100000 in
theorem induceSubL_32 (K : Nat) (L : Lay) (w0 w : World) (s B : Nat → Int) (f : Nat) (h : Mem .i32 .i32 K L w0 w s B) (hf : First L.T L.n f) (hs : PlaceSub L.T L.n f s) (tc sc bc : Nat) (hbc : K ≤ bc) :
    Calls Tryz.prog 104 #[.slice (some ⟨L.tb, L.tp, none⟩) L.n tc, .slice (some ⟨L.sb, L.so, none⟩) L.n sc, L.fv, .slice (some ⟨L.mb, L.bo, none⟩) K bc] w (SubLPost_32 K L w0 f) := by
  have hnle := h.nle
  have hKle := h.Kle
  obtain ⟨m, hm⟩ : ∃ m, L.n = m + 2 := ⟨L.n - 2, by have := lms_bound hf.isLms; omega⟩
  have HM := Lib.hid hm
  have hm1 : m + 2 ≤ L.n := by omega
  clear hm
  go_enter Tryz.func104, Tryz.ntmps104
  go_wp2_with fail
  refine (bucketMin_32 K L w0 w s B h tc bc hbc).mono ?_
  rintro e w1 ⟨rfl, hM⟩
  obtain ⟨r, hBr, hrn, hI⟩ := subL_start (B := fun c => (lo L.T L.n c : Int)) hf hs (fun _ => rfl)
  have hTc := hM.cellT
  have hTm := hM.small (m + 1) (by omega)
  rw [show L.n - 1 = m + 1 by have := HM.out; omega] at hI hBr
  rw [show L.n - 2 = m by have := HM.out; omega] at hI
  have HB := Lib.hid hBr
  have hBc : w1.cell? ⟨L.mb, L.bo + L.T (m + 1), none⟩ = some (.int .i32 (r : Int)) := by rw [hM.bkt.cell _ hTm]; exact congrArg (fun z => some (Value.int .i32 z)) hBr
  clear hBr
  go_upto_region 2 with (fail)
  rw [show (L.n : Int) - 1 = ((m + 1 : Nat) : Int) by have := HM.out; omega]
  go_quiet (fail)
  have hSc := hM.sa.cell
  have hSf := hM.sa.free
  have hk1 : (m : Int) + 1 ≤ 1073741824 := by omega
  by_cases hc : L.T m < L.T (m + 1)
  all_goals
    first | rw [if_pos hc] at hI | rw [if_neg hc] at hI
    go_wp2_with fail
    go_loopw [11, 12, 13] (fun v11 v12 v13 wr => ∃ (i cB : Nat) (b : Int) (s Bk B : Nat → Int), i ≤ L.n ∧ v13 = .int .i64 i ∧ v11 = .int .i32 cB ∧ v12 = .int .i32 b ∧ Mem .i32 .i32 K L w0 wr s Bk ∧ Cached K Bk B cB b ∧ ILs L.T L.n f i s B) (fun _ _ v13 _ => L.n - (intOf v13).toNat)
    case atStart =>
      refine ⟨0, L.T (m + 1), (r : Int) + 1, _, _, put (fun c => (lo L.T L.n c : Int)) (L.T (m + 1)) ((r : Int) + 1), Nat.zero_le _, rfl, rfl, by go_num, (hM.drewN nq).setS hrn _, cached_start _ hTm _, ?_⟩
      first | exact hI | (rw [show -(1 : Int) + -(m : Int) = -((m + 1 : Nat) : Int) by omega]; exact hI) | (rw [show -((m : Int) + 1) = -((m + 1 : Nat) : Int) by omega]; exact hI)
    case round =>
      clear hTc hBc hSc hSf hI hM HB hc hTm hrn hk1
      obtain ⟨i, cB, b, s, Bk, B, hi, rfl, rfl, rfl, hM, hC, hI⟩ := hrel
      have hcB := hC.1
      have HC := Lib.hid hC
      clear hC
      by_cases hlt : i < L.n
      · have hSf := hM.sa.free
        rcases subL_round hf hI hlt with ⟨hs0, hI1⟩ | ⟨j, hj0, hjn, hsj, hI1⟩ | ⟨k, hk0, hkn, hsk, r', hBr, hir, hrn, hI1⟩
        · have hci : wr.cell? ⟨L.sb, L.so + i, none⟩ = some (.int .i32 0) := by rw [hM.sa.cell i hlt, hs0]
          have HS := Lib.hid hs0
          clear hs0
          go_wp2_with fail
          go_roundw
          case rel => exact ⟨i + 1, cB, b, s, Bk, B, by omega, by go_num, rfl, rfl, hM, HC.out, hI1⟩
          case measure => (simp [intOf] <;> omega)
        · have hci : wr.cell? ⟨L.sb, L.so + i, none⟩ = some (.int .i32 (-(j : Int))) := by rw [hM.sa.cell i hlt, hsj]
          have HS := Lib.hid hsj
          clear hsj
          go_wp2_with fail
          go_roundw
          case rel => exact ⟨i + 1, cB, b, _, Bk, B, by omega, by go_num, rfl, rfl, hM.setS hlt _, HC.out, by simpa using hI1⟩
          case measure => (simp [intOf] <;> omega)
        · have hci : wr.cell? ⟨L.sb, L.so + i, none⟩ = some (.int .i32 ((k : Int) + 1)) := by rw [hM.sa.cell i hlt, hsk]
          have HS := Lib.hid hsk
          have HB := Lib.hid hBr
          clear hsk hBr
          go_upto_region 17 with (fail)
          have hM2 := hM.setS hlt 0
          obtain ⟨w2, hw2⟩ : ∃ w2, w2 = wr.setCell ⟨L.sb, L.so + i, none⟩ (.int .i32 0) := ⟨_, rfl⟩
          rw [← hw2] at hM2 ⊢
          clear hw2 hci hSf
          have hTc := hM2.cellT
          have hSc := hM2.sa.cell
          have hSf := hM2.sa.free
          have hBf := hM2.bkt.free
          have hTm := hM2.small k (by omega)
          go_upto_region 18 with (fail)
          go_quiet (fail)
          have hM3 := hM2.drewN nq
          obtain ⟨w3, hw3⟩ : ∃ w3, w3 = w2.drewN nq := ⟨_, rfl⟩
          rw [← hw3] at hM3 ⊢
          clear hw3 hTc hSc hSf hBf hM2
          have hk1 : (k : Int) + 1 ≤ 1073741824 := by omega
          have hSc := hM3.sa.cell
          have hSf := hM3.sa.free
          by_cases hc2 : L.T (k - 1) < L.T k
          all_goals
            first | rw [if_pos hc2] at hI1 | rw [if_neg hc2] at hI1
            by_cases hcc : cB = L.T k
            · subst hcc
              have hbr : b = (r' : Int) := by rw [HC.out.2.1]; exact HB.out
              subst hbr
              go_wp2_with fail
              go_roundw
              case rel => exact ⟨i + 1, L.T k, (r' : Int) + 1, _, Bk, _, by omega, by go_num, rfl, by go_num, hM3.setS hrn _, HC.out.same _, hI1⟩
              case measure => (simp [intOf] <;> omega)
            · obtain ⟨hCt, hBt⟩ := HC.out.turn hTm (fun e => hcc e.symm) ((r' : Int) + 1)
              have hM4 := hM3.setB hcB b
              have hBc : (w3.setCell ⟨L.mb, L.bo + cB, none⟩ (.int .i32 b)).cell? ⟨L.mb, L.bo + L.T k, none⟩ = some (.int .i32 (r' : Int)) := by
                rw [hM4.bkt.cell _ hTm, hBt]; exact congrArg (fun z => some (Value.int .i32 z)) HB.out
              have HT := Lib.hid hBt
              have HBc := Lib.hid hBc
              clear hBt hBc hSc hSf
              have hBo := hM3.bkt.cell cB hcB
              have hBf := hM3.bkt.free cB hcB
              have hne : ((cB : Int) != (L.T k : Int)) = true := by rw [bne_iff_ne]; omega
              have HCC := Lib.hid hcc
              clear hcc
              go_upto_region 23 with (fail)
              have hBc := HBc.out
              obtain ⟨w4, hw4⟩ : ∃ w4, w4 = w3.setCell ⟨L.mb, L.bo + cB, none⟩ (.int .i32 b) := ⟨_, rfl⟩
              rw [← hw4] at hM4 hBc ⊢
              clear hw4 hBo hBf HBc hne
              have hSc := hM4.sa.cell
              have hSf := hM4.sa.free
              go_wp2_with fail
              go_roundw
              case rel => exact ⟨i + 1, L.T k, (r' : Int) + 1, _, _, _, by omega, by go_num, rfl, by go_num, hM4.setS hrn _, hCt, hI1⟩
              case measure => (simp [intOf] <;> omega)
      · go_wp2_with fail
        go_end0
        obtain rfl : i = L.n := by omega
        exact ⟨s, Bk, rfl, hM, subL_end hf hI⟩

def SubSPost_32 (K : Nat) (L : Lay) (w0 : World) (e : Ending) (w' : World) : Prop := ∃ s B, e = .returned (.tuple #[]) ∧ Mem .i32 .i32 K L w0 w' s B ∧ PostSs L.T L.n s

set_option maxHeartbeats 1000000 in
set_option maxRecDepth 100000 in
theorem induceSubS_32 (K : Nat) (L : Lay) (w0 w : World) (s B : Nat → Int) (f : Nat) (h : Mem .i32 .i32 K L w0 w s B) (hf : First L.T L.n f) (hs : PostLs L.T L.n f s) (tc sc bc : Nat) (hbc : K ≤ bc) :
    Calls Tryz.prog 105 #[.slice (some ⟨L.tb, L.tp, none⟩) L.n tc, .slice (some ⟨L.sb, L.so, none⟩) L.n sc, L.fv, .slice (some ⟨L.mb, L.bo, none⟩) K bc] w (SubSPost_32 K L w0) := by
  have hnle := h.nle
  have hKle := h.Kle
  go_enter Tryz.func105, Tryz.ntmps105
  go_wp2_with fail
  refine (bucketMax_32 K L w0 w s B h tc bc hbc).mono ?_
  rintro e w1 ⟨rfl, hM⟩
  obtain ⟨hI, hD, hP⟩ := subS_start (B := fun c => (lo L.T L.n (c + 1) : Int)) hf hs (fun _ => rfl)
  have HP := Lib.hid hP
  have hBc : w1.cell? ⟨L.mb, L.bo, none⟩ = some (.int .i32 (lo L.T L.n 1 : Int)) := by have := hM.bkt.cell 0 hKle.1; simpa using this
  clear hP
  go_wp2_with fail
  go_loopw [8, 9, 10, 11] (fun v8 v9 v10 v11 wr => ∃ (p cB top : Nat) (q b : Int) (s Bk B : Nat → Int), p ≤ L.n ∧ v11 = .int .i64 q ∧ q + 1 = p ∧ v10 = .int .i64 top ∧ v8 = .int .i32 cB ∧ v9 = .int .i32 b ∧ Mem .i32 .i32 K L w0 wr s Bk ∧ Cached K Bk B cB b ∧
      ISs L.T L.n f p s B ∧ DPs L.T L.n f p s ∧ top + packs L.T L.n f p = L.n) (fun _ _ _ v11 _ => (intOf v11 + 1).toNat)
  case atStart => exact ⟨L.n, 0, L.n, (L.n : Int) - 1, (lo L.T L.n 1 : Int), s, _, _, Nat.le_refl _, by go_num, by omega, rfl, rfl, rfl, hM, ⟨hKle.1, rfl, fun _ _ _ => rfl⟩, hI, hD, by rw [HP.out]; omega⟩
  case round =>
    clear hBc hI hM hD HP
    obtain ⟨p, cB, top, q, b, s, Bk, B, hp, rfl, hq, rfl, rfl, rfl, hM, hC, hI, hD, htop⟩ := hrel
    have hcB := hC.1
    have HC := Lib.hid hC
    have HT := Lib.hid htop
    clear hC htop
    by_cases hp0 : p = 0
    · subst hp0
      obtain rfl : q = -1 := by omega
      clear hq
      go_wp2_with fail
      go_end0
      exact ⟨s, Bk, rfl, hM, subS_end hf hD⟩
    · obtain ⟨i, rfl⟩ : ∃ i, p = i + 1 := ⟨p - 1, by omega⟩
      obtain rfl : q = (i : Int) := by omega
      clear hq
      have hlt : i < L.n := by omega
      have hSf := hM.sa.free
      rcases subS_round hf hI hD HT.out hlt with ⟨hs0, hI1, hD1, ht1⟩ | ⟨j, hj0, hjn, hsj, ht0, ht2, hI1, hD1, ht1⟩ | ⟨k, hk0, hkn, hsk, r, hBr, hri, hI1, hD1, ht1⟩
      · have hci : wr.cell? ⟨L.sb, L.so + i, none⟩ = some (.int .i32 0) := by rw [hM.sa.cell i hlt, hs0]
        have HS := Lib.hid hs0
        have HT1 := Lib.hid ht1
        clear hs0 ht1
        go_wp2_with fail
        go_roundw
        case rel => exact ⟨i, cB, top, (i : Int) - 1, b, s, Bk, B, by omega, by go_num, by omega, rfl, rfl, rfl, hM, HC.out, hI1, hD1, HT1.out⟩
        case measure => (simp [intOf] <;> omega)
      · have hci : wr.cell? ⟨L.sb, L.so + i, none⟩ = some (.int .i32 (-(j : Int))) := by rw [hM.sa.cell i hlt, hsj]
        have HS := Lib.hid hsj
        have HT1 := Lib.hid ht1
        clear hsj ht1
        obtain ⟨tp, rfl⟩ : ∃ tp, top = tp + 1 := ⟨top - 1, by omega⟩
        simp only [Nat.add_sub_cancel] at hI1 hD1
        go_upto_region 10 with (fail)
        have hM2 := hM.setS hlt 0
        obtain ⟨w2, hw2⟩ : ∃ w2, w2 = wr.setCell ⟨L.sb, L.so + i, none⟩ (.int .i32 0) := ⟨_, rfl⟩
        rw [← hw2] at hM2 ⊢
        clear hw2 hci hSf
        have hSc := hM2.sa.cell
        have hSf := hM2.sa.free
        go_wp2_with fail
        go_roundw
        case rel => exact ⟨i, cB, tp, (i : Int) - 1, b, _, Bk, B, by omega, by go_num, by omega, by go_num, rfl, rfl, hM2.setS (by omega) _, HC.out, by simpa using hI1, by simpa using hD1, by have := HT1.out; omega⟩
        case measure => (simp [intOf] <;> omega)
      · have hci : wr.cell? ⟨L.sb, L.so + i, none⟩ = some (.int .i32 ((k : Int) + 1)) := by rw [hM.sa.cell i hlt, hsk]
        have HS := Lib.hid hsk
        have HB := Lib.hid hBr
        have HT1 := Lib.hid ht1
        have hrn : r < L.n := by omega
        clear hsk hBr ht1
        go_upto_region 10 with (fail)
        have hM2 := hM.setS hlt 0
        obtain ⟨w2, hw2⟩ : ∃ w2, w2 = wr.setCell ⟨L.sb, L.so + i, none⟩ (.int .i32 0) := ⟨_, rfl⟩
        rw [← hw2] at hM2 ⊢
        clear hw2 hci hSf
        have hTc := hM2.cellT
        have hSc := hM2.sa.cell
        have hSf := hM2.sa.free
        have hTm := hM2.small k (by omega)
        by_cases hc2 : L.T k < L.T (k - 1)
        all_goals
          first | rw [if_pos hc2] at hI1 hD1 | rw [if_neg hc2] at hI1 hD1
          by_cases hcc : cB = L.T k
          · subst hcc
            have hbr : b = (r : Int) + 1 := by rw [HC.out.2.1]; exact HB.out
            subst hbr
            go_wp2_with fail
            go_roundw
            case rel => exact ⟨i, L.T k, top, (i : Int) - 1, (r : Int), _, Bk, _, by omega, by go_num, by omega, rfl, rfl, by go_num, hM2.setS hrn _, HC.out.same _, hI1, hD1, HT1.out⟩
            case measure => (simp [intOf] <;> omega)
          · obtain ⟨hCt, hBt⟩ := HC.out.turn hTm (fun e => hcc e.symm) (r : Int)
            have hM4 := hM2.setB hcB b
            have hBc : (w2.setCell ⟨L.mb, L.bo + cB, none⟩ (.int .i32 b)).cell? ⟨L.mb, L.bo + L.T k, none⟩ = some (.int .i32 ((r : Int) + 1)) := by
              rw [hM4.bkt.cell _ hTm, hBt]; exact congrArg (fun z => some (Value.int .i32 z)) HB.out
            have HBt := Lib.hid hBt
            have HBc := Lib.hid hBc
            clear hBt hBc hSc hSf
            have hBo := hM2.bkt.cell cB hcB
            have hBf := hM2.bkt.free cB hcB
            have hne : ((cB : Int) != (L.T k : Int)) = true := by rw [bne_iff_ne]; omega
            have HCC := Lib.hid hcc
            clear hcc
            go_upto_region 20 with (fail)
            have hBc := HBc.out
            obtain ⟨w4, hw4⟩ : ∃ w4, w4 = w2.setCell ⟨L.mb, L.bo + cB, none⟩ (.int .i32 b) := ⟨_, rfl⟩
            rw [← hw4] at hM4 hBc ⊢
            clear hw4 hBo hBf HBc hne
            have hSc := hM4.sa.cell
            have hSf := hM4.sa.free
            go_wp2_with fail
            go_roundw
            case rel => exact ⟨i, L.T k, top, (i : Int) - 1, (r : Int), _, _, _, by omega, by go_num, by omega, rfl, rfl, by go_num, hM4.setS hrn _, hCt, hI1, hD1, HT1.out⟩
            case measure => (simp [intOf] <;> omega)

end Go.Proofs.YtfpihnfhmefeaaaGreatDoor

