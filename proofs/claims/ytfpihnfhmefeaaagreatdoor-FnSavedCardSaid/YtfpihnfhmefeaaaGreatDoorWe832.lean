/-
  Walks over the sorting functions (variant 8_32): alll, alls. No condition but those typed.
-/
import Derived.Test.YtfpihnfhmefeaaaGreatDoorWa832
namespace Go.Proofs.YtfpihnfhmefeaaaGreatDoor
open Go.RowKit

def AllLPost_8_32 (L : Lay) (w0 : World) (e : Ending) (w' : World) : Prop := ∃ s B, e = .returned (.tuple #[]) ∧ Mem .i32 .u8 256 L w0 w' s B ∧ PostLa L.T L.n s

set_option maxHeartbeats 2000000 in
set_option maxRecDepth 100000 in
theorem induceL_8_32 (L : Lay) (w0 w : World) (s B : Nat → Int) (h : Mem .i32 .u8 256 L w0 w s B) (hn1 : 1 < L.n) (hs : PlaceAll L.T L.n s) (tc sc bc : Nat) (hbc : 256 ≤ bc) :
    Calls Tryz.prog 75 #[.slice (some ⟨L.tb, L.tp, none⟩) L.n tc, .slice (some ⟨L.sb, L.so, none⟩) L.n sc, L.fv, .slice (some ⟨L.mb, L.bo, none⟩) 256 bc] w (AllLPost_8_32 L w0) := by
  have hnle := h.nle
  obtain ⟨m, hm⟩ : ∃ m, L.n = m + 2 := ⟨L.n - 2, by omega⟩
  have HM := Lib.hid hm
  have hm1 : m + 2 ≤ L.n := by omega
  clear hm
  go_enter Tryz.func75, Tryz.ntmps75
  go_wp2_with fail
  refine (bucketMin_8_32 L w0 w s B h tc bc hbc).mono ?_
  rintro e w1 ⟨rfl, hM⟩
  obtain ⟨r, hBr, hrn, hI⟩ := allL_start (B := fun c => (lo L.T L.n c : Int)) hn1 hs (fun _ => rfl)
  have hTc := hM.cellT
  have hTm := hM.small (m + 1) (by omega)
  rw [show L.n - 1 = m + 1 by have := HM.out; omega] at hI hBr
  rw [show L.n - 2 = m by have := HM.out; omega] at hI
  have HB := Lib.hid hBr
  have hBc : w1.cell? ⟨L.mb, L.bo + L.T (m + 1), none⟩ = some (.int .i32 (r : Int)) := by rw [hM.bkt.cell _ hTm]; exact congrArg (fun z => some (Value.int .i32 z)) hBr
  clear hBr
  go_upto_region 3 with (fail)
  rw [show (L.n : Int) - 1 = ((m + 1 : Nat) : Int) by have := HM.out; omega]
  go_quiet (fail)
  have hM2 := hM.drewN nq
  obtain ⟨w2, hw2⟩ : ∃ w2, w2 = w1.drewN nq := ⟨_, rfl⟩
  rw [← World.cell?_drewN w1 nq, ← hw2] at hBc
  rw [← hw2] at hM2 ⊢
  clear hw2 hTc hM
  have hSc := hM2.sa.cell
  have hSf := hM2.sa.free
  obtain ⟨kv, hkv, hk1, hk2⟩ : ∃ kv : Int, kv = (if L.T m < L.T (m + 1) then -((m + 1 : Nat) : Int) else ((m + 1 : Nat) : Int)) ∧ -1073741824 ≤ kv ∧ kv ≤ 1073741824 := ⟨_, rfl, by split <;> omega, by split <;> omega⟩
  rw [← hkv] at hI
  have HKV := Lib.hid hkv
  clear hkv
  go_upto_if 38 with (fail)
  go_cut [8] from 39 (fun v8 wc => v8 = .int .i64 kv ∧ wc = w2)
  case first =>
    have hkv := HKV.out
    by_cases hc : L.T m < L.T (m + 1)
    · rw [if_pos hc] at hkv
      have HKV := Lib.hid hkv
      clear hkv
      go_wp2_with fail
      go_meet
      case rel => exact ⟨(by rw [HKV.out]; first | done | go_num), rfl⟩
    · rw [if_neg hc] at hkv
      have HKV := Lib.hid hkv
      clear hkv
      go_wp2_with fail
      go_meet
      case rel => exact ⟨(by rw [HKV.out]; first | done | go_num), rfl⟩
  case rest =>
    obtain ⟨rfl, rfl⟩ := hcut
    go_wp2_with fail
    go_loopw [11, 12, 13] (fun v11 v12 v13 wr => ∃ (i cB : Nat) (b : Int) (s Bk B : Nat → Int), i ≤ L.n ∧ v13 = .int .i64 i ∧ v11 = .int .u8 cB ∧ v12 = .int .i32 b ∧ Mem .i32 .u8 256 L w0 wr s Bk ∧ Cached 256 Bk B cB b ∧ ILa L.T L.n i s B) (fun _ _ v13 _ => L.n - (intOf v13).toNat)
    case atStart => exact ⟨0, L.T (m + 1), (r : Int) + 1, _, _, put (fun c => (lo L.T L.n c : Int)) (L.T (m + 1)) ((r : Int) + 1), Nat.zero_le _, rfl, rfl, by go_num, hM2.setS hrn _, cached_start _ hTm _, hI⟩
    case round =>
      clear hBc hSc hSf hI hM2 HB hTm hrn hk1 hk2 HKV
      obtain ⟨i, cB, b, s, Bk, B, hi, rfl, rfl, rfl, hM, hC, hI⟩ := hrel
      have hcB := hC.1
      have HC := Lib.hid hC
      clear hC
      by_cases hlt : i < L.n
      · rcases allL_round hn1 hI hlt with ⟨hs0, hs1, hI1⟩ | ⟨k, hkn, hsk, r', hBr, hir, hrn, hI1⟩
        · have hci := hM.sa.cell i hlt
          obtain ⟨sv, hsv⟩ : ∃ sv, sv = s i := ⟨_, rfl⟩
          rw [← hsv] at hci hs0 hs1
          have HS := Lib.hid hsv
          clear hsv
          go_wp2_with fail
          go_roundw
          case rel => exact ⟨i + 1, cB, b, s, Bk, B, by omega, by go_num, rfl, rfl, hM, HC.out, hI1⟩
          case measure => (simp [intOf] <;> omega)
        · have hci : wr.cell? ⟨L.sb, L.so + i, none⟩ = some (.int .i32 ((k : Int) + 1)) := by rw [hM.sa.cell i hlt, hsk]
          have HS := Lib.hid hsk
          have HB := Lib.hid hBr
          clear hsk hBr
          have hTc := hM.cellT
          have hTm := hM.small k (by omega)
          obtain ⟨kv, hkv, hk1, hk2⟩ : ∃ kv : Int, kv = (if 0 < k ∧ L.T (k - 1) < L.T k then -(k : Int) else (k : Int)) ∧ -1073741824 ≤ kv ∧ kv ≤ 1073741824 := ⟨_, rfl, by split <;> omega, by split <;> omega⟩
          rw [← hkv] at hI1
          have HKV := Lib.hid hkv
          clear hkv
          go_upto_if 73 with (fail)
          go_cut [15] from 53 to 102 (fun v15 wc => v15 = .int .i64 kv ∧ wc = wr)
          case first =>
            have hkv := HKV.out
            by_cases h0 : 0 < k
            · by_cases hc : L.T (k - 1) < L.T k
              · rw [if_pos ⟨h0, hc⟩] at hkv
                have HKV := Lib.hid hkv
                clear hkv
                go_wp2_with fail
                go_meet
                case rel => exact ⟨(by rw [HKV.out]; first | done | go_num), rfl⟩
              · rw [if_neg (fun q => hc q.2)] at hkv
                have HKV := Lib.hid hkv
                clear hkv
                go_wp2_with fail
                go_meet
                case rel => exact ⟨(by rw [HKV.out]; first | done | go_num), rfl⟩
            · rw [if_neg (fun q => h0 q.1)] at hkv
              have HKV := Lib.hid hkv
              clear hkv
              obtain rfl : k = 0 := by omega
              go_wp2_with fail
              go_meet
              case rel => exact ⟨(by rw [HKV.out]; first | done | go_num), rfl⟩
          case rest =>
            obtain ⟨rfl, rfl⟩ := hcut
            clear hci hTc
            have hSc := hM.sa.cell
            have hSf := hM.sa.free
            by_cases hcc : cB = L.T k
            · subst hcc
              have hbr : b = (r' : Int) := by rw [HC.out.2.1]; exact HB.out
              subst hbr
              go_wp2_with fail
              go_roundw
              case rel => exact ⟨i + 1, L.T k, (r' : Int) + 1, _, Bk, _, by omega, by go_num, rfl, by go_num, hM.setS hrn _, HC.out.same _, hI1⟩
              case measure => (simp [intOf] <;> omega)
            · obtain ⟨hCt, hBt⟩ := HC.out.turn hTm (fun e => hcc e.symm) ((r' : Int) + 1)
              have hM4 := hM.setB hcB b
              have hBc : (wc.setCell ⟨L.mb, L.bo + cB, none⟩ (.int .i32 b)).cell? ⟨L.mb, L.bo + L.T k, none⟩ = some (.int .i32 (r' : Int)) := by
                rw [hM4.bkt.cell _ hTm, hBt]; exact congrArg (fun z => some (Value.int .i32 z)) HB.out
              have HT := Lib.hid hBt
              have HBc := Lib.hid hBc
              clear hBt hBc hSc hSf
              have hBo := hM.bkt.cell cB hcB
              have hBf := hM.bkt.free cB hcB
              have hne : ((cB : Int) != (L.T k : Int)) = true := by rw [bne_iff_ne]; omega
              have HCC := Lib.hid hcc
              clear hcc
              go_upto_region 23 with (fail)
              have hBc := HBc.out
              obtain ⟨w4, hw4⟩ : ∃ w4, w4 = wc.setCell ⟨L.mb, L.bo + cB, none⟩ (.int .i32 b) := ⟨_, rfl⟩
              rw [← hw4] at hM4 hBc ⊢
              clear hw4 hBo hBf HBc hne
              have hSc := hM4.sa.cell
              have hSf := hM4.sa.free
              go_wp2_with fail
              go_roundw
              case rel => exact ⟨i + 1, L.T k, (r' : Int) + 1, _, _, _, by omega, by go_num, rfl, by go_num, hM4.setS hrn _, hCt, hI1⟩
              case measure => (simp [intOf] <;> omega)
      · obtain rfl : i = L.n := by omega
        go_wp2_with fail
        go_end0
        exact ⟨s, Bk, rfl, hM, allL_end hn1 hI⟩

def AllSPost_8_32 (L : Lay) (w0 : World) (e : Ending) (w' : World) : Prop := ∃ s B, e = .returned (.tuple #[]) ∧ Mem .i32 .u8 256 L w0 w' s B ∧ PostSA L.T L.n s

set_option maxHeartbeats 2000000 in
set_option maxRecDepth 100000 in
theorem induceS_8_32 (L : Lay) (w0 w : World) (s B : Nat → Int) (h : Mem .i32 .u8 256 L w0 w s B) (hs : PostLa L.T L.n s) (tc sc bc : Nat) (hbc : 256 ≤ bc) :
    Calls Tryz.prog 76 #[.slice (some ⟨L.tb, L.tp, none⟩) L.n tc, .slice (some ⟨L.sb, L.so, none⟩) L.n sc, L.fv, .slice (some ⟨L.mb, L.bo, none⟩) 256 bc] w (AllSPost_8_32 L w0) := by
  have hnle := h.nle
  have hKle := h.Kle
  go_enter Tryz.func76, Tryz.ntmps76
  go_wp2_with fail
  refine (bucketMax_8_32 L w0 w s B h tc bc hbc).mono ?_
  rintro e w1 ⟨rfl, hM⟩
  obtain ⟨hI, hD⟩ := allS_start (B := fun c => (lo L.T L.n (c + 1) : Int)) hs (fun _ => rfl)
  have hBc : w1.cell? ⟨L.mb, L.bo, none⟩ = some (.int .i32 (lo L.T L.n 1 : Int)) := by have := hM.bkt.cell 0 hKle.1; simpa using this
  go_wp2_with fail
  go_loopw [8, 9, 10] (fun v8 v9 v10 wr => ∃ (p cB : Nat) (q b : Int) (s Bk B : Nat → Int), p ≤ L.n ∧ v10 = .int .i64 q ∧ q + 1 = p ∧ v8 = .int .u8 cB ∧ v9 = .int .i32 b ∧ Mem .i32 .u8 256 L w0 wr s Bk ∧ Cached 256 Bk B cB b ∧
      ISa L.T L.n p s B ∧ DFa L.T L.n p s) (fun _ _ v10 _ => (intOf v10 + 1).toNat)
  case atStart => exact ⟨L.n, 0, (L.n : Int) - 1, (lo L.T L.n 1 : Int), s, _, _, Nat.le_refl _, by go_num, by omega, rfl, rfl, hM, ⟨hKle.1, rfl, fun _ _ _ => rfl⟩, hI, hD⟩
  case round =>
    clear hBc hI hM hD
    obtain ⟨p, cB, q, b, s, Bk, B, hp, rfl, hq, rfl, rfl, hM, hC, hI, hD⟩ := hrel
    have hcB := hC.1
    have HC := Lib.hid hC
    clear hC
    by_cases hp0 : p = 0
    · subst hp0
      obtain rfl : q = -1 := by omega
      clear hq
      go_wp2_with fail
      go_end0
      exact ⟨s, Bk, rfl, hM, allS_end hD⟩
    · obtain ⟨i, rfl⟩ : ∃ i, p = i + 1 := ⟨p - 1, by omega⟩
      obtain rfl : q = (i : Int) := by omega
      clear hq
      have hlt : i < L.n := by omega
      rcases allS_round hI hD hlt with ⟨hs0, hs1, hI1, hD1⟩ | ⟨k, hkn, hsk, r, hBr, hri, hI1, hD1⟩
      · have hci := hM.sa.cell i hlt
        obtain ⟨sv, hsv⟩ : ∃ sv, sv = s i := ⟨_, rfl⟩
        rw [← hsv] at hci hs0 hs1
        have HS := Lib.hid hsv
        clear hsv
        go_wp2_with fail
        go_roundw
        case rel => exact ⟨i, cB, (i : Int) - 1, b, s, Bk, B, by omega, by go_num, by omega, rfl, rfl, hM, HC.out, hI1, hD1⟩
        case measure => (simp [intOf] <;> omega)
      · have hci : wr.cell? ⟨L.sb, L.so + i, none⟩ = some (.int .i32 (-((k : Int) + 1))) := by rw [hM.sa.cell i hlt, hsk]
        have HS := Lib.hid hsk
        have HB := Lib.hid hBr
        have hrn : r < L.n := by omega
        have hSf := hM.sa.free
        clear hsk hBr
        go_upto_region 11 with (fail)
        have hM2 := hM.setS hlt ((k : Int) + 1)
        obtain ⟨w2, hw2⟩ : ∃ w2, w2 = wr.setCell ⟨L.sb, L.so + i, none⟩ (.int .i32 ((k : Int) + 1)) := ⟨_, rfl⟩
        rw [← hw2] at hM2 ⊢
        clear hw2 hci hSf
        have hTc := hM2.cellT
        have hTm := hM2.small k (by omega)
        obtain ⟨kv, hkv, hk1, hk2⟩ : ∃ kv : Int, kv = (if 0 < k ∧ L.T (k - 1) ≤ L.T k then -(k : Int) else (k : Int)) ∧ -1073741824 ≤ kv ∧ kv ≤ 1073741824 := ⟨_, rfl, by split <;> omega, by split <;> omega⟩
        rw [← hkv] at hI1 hD1
        have HKV := Lib.hid hkv
        clear hkv
        go_upto_if 53 with (fail)
        go_cut [12] from 28 to 82 (fun v12 wc => v12 = .int .i64 kv ∧ wc = w2)
        case first =>
          have hkv := HKV.out
          by_cases h0 : 0 < k
          · by_cases hc : L.T (k - 1) ≤ L.T k
            · rw [if_pos ⟨h0, hc⟩] at hkv
              have HKV := Lib.hid hkv
              clear hkv
              go_wp2_with fail
              go_meet
              case rel => exact ⟨(by rw [HKV.out]; first | done | go_num), rfl⟩
            · rw [if_neg (fun q => hc q.2)] at hkv
              have HKV := Lib.hid hkv
              clear hkv
              go_wp2_with fail
              go_meet
              case rel => exact ⟨(by rw [HKV.out]; first | done | go_num), rfl⟩
          · rw [if_neg (fun q => h0 q.1)] at hkv
            have HKV := Lib.hid hkv
            clear hkv
            obtain rfl : k = 0 := by omega
            go_wp2_with fail
            go_meet
            case rel => exact ⟨(by rw [HKV.out]; first | done | go_num), rfl⟩
        case rest =>
          obtain ⟨rfl, rfl⟩ := hcut
          clear hTc
          have hSc := hM2.sa.cell
          have hSf := hM2.sa.free
          by_cases hcc : cB = L.T k
          · subst hcc
            have hbr : b = (r : Int) + 1 := by rw [HC.out.2.1]; exact HB.out
            subst hbr
            go_wp2_with fail
            go_roundw
            case rel => exact ⟨i, L.T k, (i : Int) - 1, (r : Int), _, Bk, _, by omega, by go_num, by omega, rfl, by go_num, hM2.setS hrn _, HC.out.same _, hI1, hD1⟩
            case measure => (simp [intOf] <;> omega)
          · obtain ⟨hCt, hBt⟩ := HC.out.turn hTm (fun e => hcc e.symm) (r : Int)
            have hM4 := hM2.setB hcB b
            have hBc : (wc.setCell ⟨L.mb, L.bo + cB, none⟩ (.int .i32 b)).cell? ⟨L.mb, L.bo + L.T k, none⟩ = some (.int .i32 ((r : Int) + 1)) := by
              rw [hM4.bkt.cell _ hTm, hBt]; exact congrArg (fun z => some (Value.int .i32 z)) HB.out
            have HBt := Lib.hid hBt
            have HBc := Lib.hid hBc
            clear hBt hBc hSc hSf
            have hBo := hM2.bkt.cell cB hcB
            have hBf := hM2.bkt.free cB hcB
            have hne : ((cB : Int) != (L.T k : Int)) = true := by rw [bne_iff_ne]; omega
            have HCC := Lib.hid hcc
            clear hcc
            go_upto_region 19 with (fail)
            have hBc := HBc.out
            obtain ⟨w4, hw4⟩ : ∃ w4, w4 = wc.setCell ⟨L.mb, L.bo + cB, none⟩ (.int .i32 b) := ⟨_, rfl⟩
            rw [← hw4] at hM4 hBc ⊢
            clear hw4 hBo hBf HBc hne
            have hSc := hM4.sa.cell
            have hSf := hM4.sa.free
            go_wp2_with fail
            go_roundw
            case rel => exact ⟨i, L.T k, (i : Int) - 1, (r : Int), _, _, _, by omega, by go_num, by omega, rfl, by go_num, hM4.setS hrn _, hCt, hI1, hD1⟩
            case measure => (simp [intOf] <;> omega)

end Go.Proofs.YtfpihnfhmefeaaaGreatDoor

