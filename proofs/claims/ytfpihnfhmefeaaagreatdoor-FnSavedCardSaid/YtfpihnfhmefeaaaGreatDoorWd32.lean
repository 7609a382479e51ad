/-
  Walks over the sorting functions (variant 32): unmap, expand. No condition but those typed.
-/
import Derived.Test.YtfpihnfhmefeaaaGreatDoorWa32
import Derived.Test.YtfpihnfhmefeaaaGreatDoorGoto
import Derived.Test.YtfpihnfhmefeaaaGreatDoorExpand
namespace Go.Proofs.YtfpihnfhmefeaaaGreatDoor
open Go.RowKit

def UnmapPost_32 (K : Nat) (L : Lay) (w0 : World) (m : Nat) (g : Nat → Nat) (e : Ending) (w' : World) : Prop :=
  ∃ s' B, e = .returned (.tuple #[]) ∧ Mem .i32 .i32 K L w0 w' s' B ∧ ∀ r, r < m → s' r = (pos L.T L.n (g r) : Int)

set_option maxHeartbeats 2000000 in
set_option maxRecDepth 100000 in
theorem unmap_32 (K : Nat) (L : Lay) (w0 w : World) (s B : Nat → Int) (h : Mem .i32 .i32 K L w0 w s B) (hn : 1 < L.n) (m : Nat) (hm : m = many L.T L.n) (hm0 : 0 < m) (g : Nat → Nat) (hg : ∀ r, r < m → g r < m) (hs : ∀ r, r < m → s r = (g r : Int)) (tc sc : Nat) (hsc : L.n ≤ sc) :
    Calls Tryz.prog 108 #[.slice (some ⟨L.tb, L.tp, none⟩) L.n tc, .slice (some ⟨L.sb, L.so, none⟩) L.n sc, .int .i64 m] w (UnmapPost_32 K L w0 m g) := by
  have hnle := h.nle
  have hKle := h.Kle
  have hmn : 2 * m < L.n := by rw [hm]; exact many_half (by omega)
  have HMM := Lib.hid hm
  clear hm
  go_enter Tryz.func108, Tryz.ntmps108
  go_wp2_with fail
  go_loopw [7, 8, 10, 11] (fun v7 v8 v10 v11 wr => ∃ (p : Nat) (q : Int) (j : Nat) (s' : Nat → Int), p ≤ L.n ∧ v11 = .int .i64 q ∧ q + 1 = p ∧ v7 = .int .i64 j ∧ j = upto L.T L.n p ∧ j ≤ m ∧ v8 = .int .i32 (nx L.T L.n p : Int) ∧ v10 = .bool (fl L.T L.n p) ∧
      Mem .i32 .i32 K L w0 wr s' B ∧ (∀ r, r < m → s' r = (g r : Int)) ∧ ∀ r, j ≤ r → r < m → s' (L.n - m + r) = (pos L.T L.n r : Int)) (fun _ _ _ v11 _ => (intOf v11 + 1).toNat)
  case atStart => exact ⟨L.n, (L.n : Int) - 1, m, s, Nat.le_refl _, rfl, by omega, by rw [show L.n - (L.n - m) = m by omega], by rw [upto_n]; exact HMM.out, Nat.le_refl _, by rw [nx_n]; rfl, by rw [fl_n], h, hs, fun r h1 h2 => by omega⟩
  case round =>
    obtain ⟨p, q, j, s', hp, rfl, hq, rfl, hj, hjm, rfl, rfl, hM, hlow, hup⟩ := hrel
    by_cases hp0 : p = 0
    · subst hp0
      obtain rfl : q = -1 := by omega
      clear hq
      rw [upto_zero] at hj
      subst hj
      go_wp2_with fail
      go_loopw [12] (fun v12 wi => ∃ (r : Nat) (s2 : Nat → Int), r ≤ m ∧ v12 = .int .i64 r ∧ Mem .i32 .i32 K L w0 wi s2 B ∧ (∀ x, x < r → s2 x = (pos L.T L.n (g x) : Int)) ∧ (∀ x, r ≤ x → x < m → s2 x = (g x : Int)) ∧ ∀ x, x < m → s2 (L.n - m + x) = (pos L.T L.n x : Int)) (fun v12 _ => m - (intOf v12).toNat)
      case atStart => exact ⟨0, s', Nat.zero_le _, rfl, hM, fun x hx => by omega, fun x _ hx => hlow x hx, fun x hx => hup x (Nat.zero_le _) hx⟩
      case round =>
        clear hM hlow hup
        obtain ⟨r, s2, hr, rfl, hM, h1, h2, h3⟩ := hrel
        by_cases hlt : r < m
        · have hgr := hg r hlt
          have hc1 : wr.cell? ⟨L.sb, L.so + r, none⟩ = some (.int .i32 (g r : Int)) := by rw [hM.sa.cell r (by omega), h2 r (Nat.le_refl _) hlt]
          have hc2 : wr.cell? ⟨L.sb, L.so + (L.n - m) + g r, none⟩ = some (.int .i32 (pos L.T L.n (g r) : Int)) := by
            rw [show L.so + (L.n - m) + g r = L.so + (L.n - m + g r) by omega, hM.sa.cell _ (by omega), h3 (g r) hgr]
          have hSf := hM.sa.free
          have H1 := Lib.hid h1
          have H2 := Lib.hid h2
          have H3 := Lib.hid h3
          clear h1 h2 h3
          go_wp2_with fail
          go_roundw
          case rel => exact ⟨r + 1, _, by omega, by go_num, hM.setS (by omega) _, fun x hx => by
              by_cases hxr : x = r
              · rw [hxr, put_same]
              · rw [put_other _ _ _ _ hxr]; exact H1.out x (by omega), fun x hx hxm => by rw [put_other _ _ _ _ (by omega)]; exact H2.out x (by omega) hxm, fun x hx => by rw [put_other _ _ _ _ (by omega)]; exact H3.out x hx⟩
          case measure => (simp [intOf] <;> omega)
        · obtain rfl : r = m := by omega
          go_wp2_with fail
          go_end0
          exact ⟨s2, B, rfl, hM, h1⟩
    · obtain ⟨i, rfl⟩ : ∃ i, p = i + 1 := ⟨p - 1, by omega⟩
      obtain rfl : q = (i : Int) := by omega
      have hTc := hM.cellT
      have HJ := Lib.hid hj
      clear hq hj
      by_cases h1 : L.T i < nx L.T L.n (i + 1)
      · obtain ⟨hf1, hl1⟩ := iter_up (T := L.T) (n := L.n) (i := i) (by omega) h1
        have hu := upto_stay hl1
        have HF := Lib.hid hf1
        have HU := Lib.hid hu
        clear hf1 hu hl1
        go_wp2_with fail
        go_roundw
        case rel => exact ⟨i, (i : Int) - 1, j, s', by omega, by go_num, by omega, rfl, by rw [HU.out]; exact HJ.out, hjm, by rw [nx_lt L.T L.n i (by omega)], by rw [HF.out], hM, hlow, hup⟩
        case measure => (simp [intOf] <;> omega)
      · by_cases h2 : nx L.T L.n (i + 1) < L.T i ∧ fl L.T L.n (i + 1) = true
        · obtain ⟨h2, hfl⟩ := h2
          obtain ⟨hf1, hl1, hin, hnx⟩ := iter_event (T := L.T) (n := L.n) (i := i) (by omega) h2 hfl
          obtain ⟨hu1, hu2, hu3⟩ := upto_event hl1
          obtain ⟨jj, hjj⟩ : ∃ jj, jj = upto L.T L.n i := ⟨_, rfl⟩
          rw [← hjj] at hu1 hu2 hu3
          obtain rfl : j = jj + 1 := by rw [HJ.out, hu1]
          have hjjm : jj < m := by rw [HMM.out]; exact hu2
          have hSf : wr.frozen? ⟨L.sb, L.so + (L.n - m) + jj, none⟩ = false := by rw [show L.so + (L.n - m) + jj = L.so + (L.n - m + jj) by omega]; exact hM.sa.free _ (by omega)
          have hSc : wr.cell? ⟨L.sb, L.so + (L.n - m) + jj, none⟩ = some (.int .i32 (s' (L.n - m + jj))) := by rw [show L.so + (L.n - m) + jj = L.so + (L.n - m + jj) by omega]; exact hM.sa.cell _ (by omega)
          obtain ⟨sv, hsv⟩ : ∃ sv, sv = s' (L.n - m + jj) := ⟨_, rfl⟩
          rw [← hsv] at hSc
          rw [hnx] at h1 h2 ⊢
          rw [hfl]
          have HF := Lib.hid hf1
          have HU1 := Lib.hid hu1
          have HU3 := Lib.hid hu3
          have HJJ := Lib.hid hjj
          have HUP := Lib.hid hup
          have HLOW := Lib.hid hlow
          clear hf1 hu1 hu3 hu2 hjj hnx hfl hl1 hsv hup hlow
          go_wp2_with fail
          go_roundw
          case rel =>
            have hM2 := hM.setS (i := L.n - m + jj) (by omega) ((i : Int) + 1)
            rw [← show L.so + (L.n - m) + jj = L.so + (L.n - m + jj) by omega] at hM2
            exact ⟨i, (i : Int) - 1, jj, _, by omega, by go_num, by omega, by go_num, HJJ.out, by omega, by rw [nx_lt L.T L.n i (by omega)], by rw [HF.out], hM2, fun r hr => by rw [put_other _ _ _ _ (by omega)]; exact HLOW.out r hr, fun r h1 h2 => by
              by_cases hrj : r = jj
              · rw [hrj, put_same, HU3.out]; omega
              · rw [put_other _ _ _ _ (by omega)]; exact HUP.out r (by omega) h2⟩
          case measure => (simp [intOf] <;> omega)
        · obtain ⟨hf1, hl1⟩ := iter_stay (T := L.T) (n := L.n) (i := i) (by omega) h1 (fun h3 => by
            cases hq : fl L.T L.n (i + 1) with
            | false => rfl
            | true => exact (h2 ⟨h3, hq⟩).elim)
          have hu := upto_stay hl1
          have HU := Lib.hid hu
          clear hu hl1
          by_cases h3 : nx L.T L.n (i + 1) < L.T i
          · have hfl : fl L.T L.n (i + 1) = false := by
              cases hq : fl L.T L.n (i + 1) with
              | false => rfl
              | true => exact (h2 ⟨h3, hq⟩).elim
            rw [hfl] at hf1 ⊢
            have HF := Lib.hid hf1
            clear hf1 hfl h2
            go_wp2_with fail
            go_roundw
            case rel => exact ⟨i, (i : Int) - 1, j, s', by omega, by go_num, by omega, rfl, by rw [HU.out]; exact HJ.out, hjm, by rw [nx_lt L.T L.n i (by omega)], by rw [HF.out], hM, hlow, hup⟩
            case measure => (simp [intOf] <;> omega)
          · have HF := Lib.hid hf1
            clear hf1 h2
            go_wp2_with fail
            go_roundw
            case rel => exact ⟨i, (i : Int) - 1, j, s', by omega, by go_num, by omega, rfl, by rw [HU.out]; exact HJ.out, hjm, by rw [nx_lt L.T L.n i (by omega)], by rw [HF.out], hM, hlow, hup⟩
            case measure => (simp [intOf] <;> omega)

def ExpPost_32 (K : Nat) (L : Lay) (w0 : World) (e : Ending) (w' : World) : Prop :=
  ∃ s' B, e = .returned (.tuple #[]) ∧ Mem .i32 .i32 K L w0 w' s' B ∧ PlaceAll L.T L.n s'

set_option maxHeartbeats 2000000 in
set_option maxRecDepth 100000 in
theorem expand_32 (K : Nat) (L : Lay) (w0 w : World) (s B : Nat → Int) (h : Mem .i32 .i32 K L w0 w s B) (hn : 1 < L.n) (m : Nat) (hm0 : 0 < m) (g : Nat → Nat) (hg : Srt (lms L.T L.n) L.n (sl L.T L.n) m g) (hs : ∀ r, r < m → s r = (g r : Int)) (tc sc bc : Nat) (hbc : K ≤ bc) :
    Calls Tryz.prog 109 #[.slice (some ⟨L.tb, L.tp, none⟩) L.n tc, L.fv, .slice (some ⟨L.mb, L.bo, none⟩) K bc, .slice (some ⟨L.sb, L.so, none⟩) L.n sc, .int .i64 m] w (ExpPost_32 K L w0) := by
  have hnle := h.nle
  have hKle := h.Kle
  have hmn : 2 * m < L.n := by rw [hg.size]; exact many_half (by omega)
  go_enter Tryz.func109, Tryz.ntmps109
  go_wp2_with fail
  refine (bucketMax_32 K L w0 w s B h tc bc hbc).mono ?_
  rintro e w1 ⟨rfl, hM⟩
  obtain ⟨hB, hI⟩ := expand_start (B := fun c => (lo L.T L.n (c + 1) : Int)) (by omega) hg hm0 hs (fun _ => rfl)
  obtain ⟨x0, hx0⟩ : ∃ x0, m = x0 + 1 := ⟨m - 1, by omega⟩
  subst hx0
  simp only [Nat.add_sub_cancel] at hB hI
  obtain ⟨hgx0, _⟩ := hg.mem x0 (by omega)
  have hrn : rhoE L.T L.n (g x0) < L.n := ((lp_all (T := L.T) (n := L.n) (by omega)).toTwo.bound (.inr (hg.mem x0 (by omega)).2)).2.2
  obtain ⟨b, hb⟩ : ∃ b, b = rhoE L.T L.n (g x0) := ⟨_, rfl⟩
  rw [← hb] at hB hI hrn
  have hTm := hM.small (g x0) hgx0
  have hTc := hM.cellT
  have hSc : w1.cell? ⟨L.sb, L.so + x0, none⟩ = some (.int .i32 (g x0 : Int)) := by rw [hM.sa.cell x0 (by omega), hs x0 (by omega)]
  have hBc : w1.cell? ⟨L.mb, L.bo + L.T (g x0), none⟩ = some (.int .i32 ((b : Int) + 1)) := by rw [hM.bkt.cell _ hTm]; exact congrArg (fun z => some (Value.int .i32 z)) hB
  have hBf := hM.bkt.free
  have HB := Lib.hid hB
  have HBB := Lib.hid hb
  clear hB hb
  go_wp2_with fail
  go_loopw [10, 11, 13, 14] (fun v10 v11 v13 v14 wr => ∃ (p : Nat) (q : Int) (x b : Nat) (done : Bool) (s' B : Nat → Int), p ≤ L.n ∧ v14 = .int .i64 q ∧ q + 1 = p ∧ v10 = .int .i64 x ∧ v11 = .int .i32 (g x : Int) ∧ v13 = .int .i32 b ∧ b = rhoE L.T L.n (g x) ∧ b < L.n ∧
      Mem .i32 .i32 K L w0 wr s' B ∧ IX L.T L.n (x0 + 1) g p x done s' B) (fun _ _ _ v14 _ => (intOf v14 + 1).toNat)
  case atStart => exact ⟨L.n, (L.n : Int) - 1, x0, b, false, s, _, Nat.le_refl _, rfl, by omega, by go_num, rfl, by go_num, HBB.out, hrn, hM.setB hTm _, hI⟩
  case round =>
    clear hM hI hTc hSc hBc hBf hTm hrn HB HBB hgx0
    obtain ⟨p, q, x, b, done, s', B, hp, rfl, hq, rfl, rfl, rfl, hb, hbn, hM, hI⟩ := hrel
    have hxm := hI.lt
    by_cases hp0 : p = 0
    · subst hp0
      obtain rfl : q = -1 := by omega
      clear hq
      have HB := Lib.hid hb
      clear hb
      go_wp2_with fail
      go_end0
      exact ⟨s', B, rfl, hM, expand_end hg hI⟩
    · obtain ⟨i, rfl⟩ : ∃ i, p = i + 1 := ⟨p - 1, by omega⟩
      obtain rfl : q = (i : Int) := by omega
      clear hq
      have hlt : i < L.n := by omega
      have hSf := hM.sa.free
      obtain ⟨sv, hsv⟩ : ∃ sv, sv = s' i := ⟨_, rfl⟩
      have hSc : wr.cell? ⟨L.sb, L.so + i, none⟩ = some (.int .i32 sv) := by rw [hM.sa.cell i hlt, hsv]
      clear hsv
      by_cases hib : i = b
      · subst hib
        have hd : done = false := by
          cases done with
          | false => rfl
          | true => have := hI.here; simp at this; omega
        subst hd
        cases x with
        | zero =>
          have hI1 := hI
          rw [hb] at hI1
          have hI2 := expand_last (by omega) hg hI1
          rw [← hb] at hI2
          have HB := Lib.hid hb
          clear hb
          go_wp2_with fail
          go_roundw
          case rel => exact ⟨i, (i : Int) - 1, 0, i, true, _, B, by omega, by go_num, by omega, rfl, rfl, rfl, HB.out, hbn, hM.setS hlt _, hI2⟩
          case measure => (simp [intOf] <;> omega)
        | succ x =>
          have hI1 := hI
          rw [hb] at hI1
          obtain ⟨e1, e2, e3, e4, e5⟩ := expand_more (by omega) hg hI1
          rw [← hb] at e1 e3 e4 e5
          obtain ⟨b', hb'⟩ : ∃ b', b' = rhoE L.T L.n (g x) := ⟨_, rfl⟩
          rw [← hb'] at e2 e3 e5
          have HB := Lib.hid hb
          have HB' := Lib.hid hb'
          have E1 := Lib.hid e1
          have E2 := Lib.hid e2
          clear hb hb' e1 e2
          go_upto_region 12 with (fail)
          have hM2 := hM.setS hlt (g (x + 1) : Int)
          obtain ⟨w2, hw2⟩ : ∃ w2, w2 = wr.setCell ⟨L.sb, L.so + i, none⟩ (.int .i32 (g (x + 1) : Int)) := ⟨_, rfl⟩
          rw [← hw2] at hM2 ⊢
          clear hw2 hSc hSf
          have hgx := (hg.mem x (by omega)).1
          have hTm := hM2.small (g x) hgx
          have hTc := hM2.cellT
          have hSc : w2.cell? ⟨L.sb, L.so + x, none⟩ = some (.int .i32 (g x : Int)) := by rw [hM2.sa.cell x (by omega), E1.out]
          have hBc : w2.cell? ⟨L.mb, L.bo + L.T (g x), none⟩ = some (.int .i32 ((b' : Int) + 1)) := by rw [hM2.bkt.cell _ hTm]; exact congrArg (fun z => some (Value.int .i32 z)) E2.out
          have hBf := hM2.bkt.free
          go_wp2_with fail
          go_roundw
          case rel => exact ⟨i, (i : Int) - 1, x, b', false, _, _, by omega, by go_num, by omega, by go_num, rfl, by go_num, HB'.out, by omega, hM2.setB hTm _, e5⟩
          case measure => (simp [intOf] <;> omega)
      · have hI1 := expand_zero (by omega) hg hI (by rw [← hb]; exact hib)
        have hne : ((i : Int) != (b : Int)) = true := by rw [bne_iff_ne]; omega
        have HB := Lib.hid hb
        have HIB := Lib.hid hib
        clear hb hib
        go_wp2_with fail
        go_roundw
        case rel => exact ⟨i, (i : Int) - 1, x, b, done, _, B, by omega, by go_num, by omega, rfl, rfl, rfl, HB.out, hbn, hM.setS hlt _, hI1⟩
        case measure => (simp [intOf] <;> omega)

end Go.Proofs.YtfpihnfhmefeaaaGreatDoor

