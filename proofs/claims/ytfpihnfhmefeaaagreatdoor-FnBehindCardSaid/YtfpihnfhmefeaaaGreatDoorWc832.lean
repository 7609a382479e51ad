/-
  Walks over the sorting functions (variant 8_32): length, assign. No condition but those typed.
-/
import Derived.Test.YtfpihnfhmefeaaaGreatDoorWa832
import Derived.Test.YtfpihnfhmefeaaaGreatDoorGoto
import Derived.Test.YtfpihnfhmefeaaaGreatDoorExpand
namespace Go.Proofs.YtfpihnfhmefeaaaGreatDoor
open Go.RowKit

def LenPost_8_32 (L : Lay) (w0 : World) (s : Nat → Int) (e : Ending) (w' : World) : Prop :=
  ∃ s' B cod, e = .returned (.tuple #[]) ∧ Mem .i32 .u8 256 L w0 w' s' B ∧ CodeOK L.T L.n 4294967296 cod ∧ (∀ j, lms L.T L.n j = true → s' (j / 2) = cod j) ∧ ∀ x, (∀ j, lms L.T L.n j = true → j / 2 ≠ x) → s' x = s x

set_option maxHeartbeats 1000000 in
set_option maxRecDepth 100000 in
theorem length_8_32 (L : Lay) (w0 w : World) (s B : Nat → Int) (h : Mem .i32 .u8 256 L w0 w s B) (hn : 1 < L.n) (tc sc : Nat) (nl : Value) :
    Calls Tryz.prog 69 #[.slice (some ⟨L.tb, L.tp, none⟩) L.n tc, .slice (some ⟨L.sb, L.so, none⟩) L.n sc, nl] w (LenPost_8_32 L w0 s) := by
  have hnle := h.nle
  go_enter Tryz.func69, Tryz.ntmps69
  go_wp2_with fail
  go_loopw [6, 7, 8, 10, 11] (fun v6 v7 v8 v10 v11 wr => ∃ (p : Nat) (q : Int) (s' : Nat → Int) (en cx : Nat), p ≤ L.n ∧ v11 = .int .i64 q ∧ q + 1 = p ∧ v6 = .int .i64 en ∧ v7 = .int .u32 cx ∧ Fits 4 cx ∧ (nxt L.T L.n p < L.n → cx = cxAt L.T (256 ^ 4) (nxt L.T L.n p) (p + 1)) ∧ v8 = .int .u8 (nx L.T L.n p : Int) ∧ v10 = .bool (fl L.T L.n p) ∧
      Mem .i32 .u8 256 L w0 wr s' B ∧ en = (if nxt L.T L.n p < L.n then nxt L.T L.n p + 1 else 0) ∧ (∀ j, lms L.T L.n j = true → p < j → s' (j / 2) = (codB L.T L.n 4 wrap32) j) ∧ ∀ x, (∀ j, lms L.T L.n j = true → p < j → j / 2 ≠ x) → s' x = s x) (fun _ _ _ _ v11 _ => (intOf v11 + 1).toNat)
  case atStart =>
    have hnn : nxt L.T L.n L.n = L.n := by simp [nxt, nxtAux]
    refine ⟨L.n, (L.n : Int) - 1, s, 0, 0, Nat.le_refl _, rfl, by omega, rfl, rfl, Nat.pow_pos (by omega), fun hc => by rw [hnn] at hc; omega, by rw [nx_n]; rfl, by rw [fl_n], h, by rw [hnn, if_neg (by omega)], fun j hj hp => ?_, fun _ _ => rfl⟩
    have := (lms_iff.1 hj).2.1; omega
  case round =>
    obtain ⟨p, q, s', en, cx, hp, rfl, hq, rfl, rfl, hfit, hcx, rfl, rfl, hM, hen, hset, hkeep⟩ := hrel
    by_cases hp0 : p = 0
    · subst hp0
      obtain rfl : q = -1 := by omega
      clear hq
      have HE := Lib.hid hen
      clear hen
      go_wp2_with fail
      go_end0
      refine ⟨s', B, (codB L.T L.n 4 wrap32), rfl, hM, ?_, fun j hj => hset j hj (lms_iff.1 hj).1, fun x hx => hkeep x fun j hj _ => hx j hj⟩
      exact codB_ok (by rfl) (by omega) (by omega) h.small (fun d hd => sg32 d hd)
    · obtain ⟨i, rfl⟩ : ∃ i, p = i + 1 := ⟨p - 1, by omega⟩
      obtain rfl : q = (i : Int) := by omega
      have hTc := hM.cellT
      clear hq
      obtain ⟨cx', hcx'⟩ : ∃ cx' : Nat, cx' = cx * 256 % 256 ^ 4 + (nx L.T L.n (i + 1) + 1) % 256 := ⟨_, rfl⟩
      have hfit' : Fits 4 cx' := by rw [hcx']; exact fits_next 4 cx _ (by omega)
      have hor := cx_or_u32 cx (nx L.T L.n (i + 1))
      rw [← hcx'] at hor
      have HCX := Lib.hid hcx'
      clear hcx'
      have HE := Lib.hid hen
      clear hen
      -- no beginning at i + 1: only the word grows
      have stay : lms L.T L.n (i + 1) = false → nxt L.T L.n i = nxt L.T L.n (i + 1) ∧ (∀ j, lms L.T L.n j = true → i < j → s' (j / 2) = (codB L.T L.n 4 wrap32) j) ∧ (∀ x, (∀ j, lms L.T L.n j = true → i < j → j / 2 ≠ x) → s' x = s x) ∧ (nxt L.T L.n i < L.n → cx' = cxAt L.T (256 ^ 4) (nxt L.T L.n i) (i + 1)) := fun hl => by
        have hnx : nxt L.T L.n i = nxt L.T L.n (i + 1) := by
          by_cases hin : i + 1 = L.n
          · rw [nxt_z (by omega) (by rw [hin]; exact lmz_n _ _), hin]; simp [nxt, nxtAux]
          · exact nxt_on (by omega) (by simp [lmz, hl]; omega)
        have hne : ∀ j, lms L.T L.n j = true → i < j → i + 1 < j := fun j hj hij => by
          have : j ≠ i + 1 := by rintro rfl; rw [hl] at hj; simp at hj
          omega
        refine ⟨hnx, fun j hj hij => hset j hj (hne j hj hij), fun x hx => hkeep x fun j hj hij => hx j hj (by omega), fun hlt => ?_⟩
        have hlt' : nxt L.T L.n (i + 1) < L.n := by rw [← hnx]; exact hlt
        have hin : i + 1 < L.n := by
          rcases Nat.lt_or_ge (i + 1) L.n with h' | h'
          · exact h'
          · rw [show i + 1 = L.n by omega] at hlt'; simp [nxt, nxtAux] at hlt'
        have hg := nxt_gt (T := L.T) hin
        rw [HCX.out, hcx hlt', hnx, nx_lt L.T L.n _ hin, ← cxAt_step (by omega)]
      by_cases h1 : L.T i < nx L.T L.n (i + 1)
      · obtain ⟨hf1, hl1⟩ := iter_up (T := L.T) (n := L.n) (i := i) (by omega) h1
        have st := stay hl1
        clear stay
        have HF := Lib.hid hf1
        clear hf1
        go_wp2_with fail
        go_roundw
        case rel => exact ⟨i, (i : Int) - 1, s', en, cx', by omega, by go_num, by omega, rfl, rfl, hfit', st.2.2.2, by rw [nx_lt L.T L.n i (by omega)], by rw [HF.out], hM, by rw [st.1]; exact HE.out, st.2.1, st.2.2.1⟩
        case measure => (simp [intOf] <;> omega)
      · by_cases h2 : nx L.T L.n (i + 1) < L.T i ∧ fl L.T L.n (i + 1) = true
        · obtain ⟨h2, hfl⟩ := h2
          obtain ⟨hf1, hl1, hin, hnx⟩ := iter_event (T := L.T) (n := L.n) (i := i) (by omega) h2 hfl
          have hm := hM.small (i + 1) hin
          have hzi : nxt L.T L.n i = i + 1 := nxt_z (by omega) (by simp [lmz, hl1])
          have hSf := hM.sa.free
          have hSc := hM.sa.cell ((i + 1) / 2) (by omega)
          obtain ⟨sv, hsv⟩ : ∃ sv, sv = s' ((i + 1) / 2) := ⟨_, rfl⟩
          rw [← hsv] at hSc
          clear hsv
          -- what the round leaves, whatever the word
          have fin : ∀ v : Int, v = (codB L.T L.n 4 wrap32) (i + 1) → (∀ j, lms L.T L.n j = true → i < j → put s' ((i + 1) / 2) v (j / 2) = (codB L.T L.n 4 wrap32) j) ∧ ∀ x, (∀ j, lms L.T L.n j = true → i < j → j / 2 ≠ x) → put s' ((i + 1) / 2) v x = s x := fun v hv => by
            refine ⟨fun j hj hij => ?_, fun x hx => ?_⟩
            · by_cases hji : j = i + 1
              · subst hji; rw [put_same, hv]
              · rw [put_other _ _ _ _ (fun e => hji (half_inj hj hl1 e))]; exact hset j hj (by omega)
            · rw [put_other _ _ _ _ (fun e => hx (i + 1) hl1 (by omega) e.symm)]
              exact hkeep x fun j hj hij => hx j hj (by omega)
          have henx : i + 2 = (if nxt L.T L.n i < L.n then nxt L.T L.n i + 1 else 0) := by rw [hzi, if_pos hin]
          rw [hnx] at h1 h2 ⊢
          rw [hnx] at hor
          rw [hfl]
          have HF := Lib.hid hf1
          have HZ := Lib.hid hzi
          have HN := Lib.hid hnx
          have HL := Lib.hid hfl
          have HEN := Lib.hid henx
          clear hf1 hzi hnx hfl henx stay
          have hcx2 : nxt L.T L.n i < L.n → (L.T (i + 1) + 1) % 256 = cxAt L.T (256 ^ 4) (nxt L.T L.n i) (i + 1) := fun _ => by rw [HZ.out, cxAt_self]
          have HC2 := Lib.hid hcx2
          clear hcx2
          by_cases hlast : nxt L.T L.n (i + 1) < L.n
          · have hg := nxt_gt (T := L.T) hin
            have hlen := len_small hl1 hlast
            have he := HE.out
            rw [if_pos hlast] at he
            have hcxv : cx' = cxAt L.T (256 ^ 4) (nxt L.T L.n (i + 1)) (i + 1) := by rw [HCX.out, hcx hlast, HN.out, ← cxAt_step (by omega)]
            have hen0 : 0 < en := by omega
            have hen1 : i + 2 < en := by omega
            have hen2 : en < L.n + 1 := by omega
            have hcodl : ¬ nxt L.T L.n (i + 1) = L.n := by omega
            have hcod : codB L.T L.n 4 wrap32 (i + 1) = if nxt L.T L.n (i + 1) + 1 - (i + 1) ≤ 4 ∧ L.n ≤ 256 ^ 4 - 1 - cx' then wrap32 ((256 ^ 4 - 1 - cx' : Nat) : Int) else ((nxt L.T L.n (i + 1) + 1 - (i + 1) : Nat) : Int) := by unfold codB; rw [if_neg hcodl, hcxv]
            obtain ⟨d, hd⟩ : ∃ d, d = 256 ^ 4 - 1 - cx' := ⟨_, rfl⟩
            have hx1 := cx_not_u32 cx' hfit'
            rw [← hd] at hx1 hcod
            have hx2 : bits .xor .u32 (if IntKind.u32.signed = true then -1 else IntKind.u32.max) (cx' : Int) = (d : Int) := hx1
            have HEE := Lib.hid he
            have HCV := Lib.hid hcxv
            have HCO := Lib.hid hcod
            have HD := Lib.hid hd
            clear he hcodl
            clear hcx
            clear hcxv hcod hd
            by_cases hle : (en : Int) - ((i : Int) + 1) ≤ 4
            · by_cases hnd : L.n ≤ d
              · have hv : wrap32 (d : Int) = codB L.T L.n 4 wrap32 (i + 1) := by rw [HCO.out, if_pos ⟨by have := HEE.out; omega, hnd⟩]
                have FV := fin _ hv
                clear fin hv
                go_wp2_with fail
                go_roundw
                case rel => exact ⟨i, (i : Int) - 1, _, i + 2, (L.T (i + 1) + 1) % 256, by omega, by go_num, by omega, by go_num, by go_num, fits_first 4 _ (by omega), HC2.out, by rw [nx_lt L.T L.n i (by omega)], by rw [HF.out], hM.setS (by omega) _, HEN.out, FV.1, FV.2⟩
                case measure => (simp [intOf] <;> omega)
              · have hv : (en : Int) - ((i : Int) + 1) = codB L.T L.n 4 wrap32 (i + 1) := by rw [HCO.out, if_neg (fun q => hnd q.2)]; have := HEE.out; omega
                have FV := fin _ hv
                clear fin hv
                go_wp2_with fail
                go_roundw
                case rel => exact ⟨i, (i : Int) - 1, _, i + 2, (L.T (i + 1) + 1) % 256, by omega, by go_num, by omega, by go_num, by go_num, fits_first 4 _ (by omega), HC2.out, by rw [nx_lt L.T L.n i (by omega)], by rw [HF.out], hM.setS (by omega) _, HEN.out, FV.1, FV.2⟩
                case measure => (simp [intOf] <;> omega)
            · have hv : (en : Int) - ((i : Int) + 1) = codB L.T L.n 4 wrap32 (i + 1) := by rw [HCO.out, if_neg (fun q => hle (by have := HEE.out; omega))]; have := HEE.out; omega
              have FV := fin _ hv
              clear fin hv
              go_wp2_with fail
              go_roundw
              case rel => exact ⟨i, (i : Int) - 1, _, i + 2, (L.T (i + 1) + 1) % 256, by omega, by go_num, by omega, by go_num, by go_num, fits_first 4 _ (by omega), HC2.out, by rw [nx_lt L.T L.n i (by omega)], by rw [HF.out], hM.setS (by omega) _, HEN.out, FV.1, FV.2⟩
              case measure => (simp [intOf] <;> omega)
          · have he := HE.out
            rw [if_neg hlast] at he
            subst he
            clear hcx
            have hle := nxt_le (T := L.T) hin
            have hv : (0 : Int) = (codB L.T L.n 4 wrap32) (i + 1) := by unfold codB; rw [if_pos (by omega)]
            have FV := fin _ hv
            clear fin hv
            go_wp2_with fail
            go_roundw
            case rel => exact ⟨i, (i : Int) - 1, _, i + 2, (L.T (i + 1) + 1) % 256, by omega, by go_num, by omega, by go_num, by go_num, fits_first 4 _ (by omega), HC2.out, by rw [nx_lt L.T L.n i (by omega)], by rw [HF.out], hM.setS (by omega) _, HEN.out, FV.1, FV.2⟩
            case measure => (simp [intOf] <;> omega)
        · obtain ⟨hf1, hl1⟩ := iter_stay (T := L.T) (n := L.n) (i := i) (by omega) h1 (fun h3 => by
            cases hq : fl L.T L.n (i + 1) with
            | false => rfl
            | true => exact (h2 ⟨h3, hq⟩).elim)
          have st := stay hl1
          clear stay
          by_cases h3 : nx L.T L.n (i + 1) < L.T i
          · have hfl : fl L.T L.n (i + 1) = false := by
              cases hq : fl L.T L.n (i + 1) with
              | false => rfl
              | true => exact (h2 ⟨h3, hq⟩).elim
            rw [hfl] at hf1 ⊢
            have HF := Lib.hid hf1
            clear hf1 hfl h2 hl1
            go_wp2_with fail
            go_roundw
            case rel => exact ⟨i, (i : Int) - 1, s', en, cx', by omega, by go_num, by omega, rfl, rfl, hfit', st.2.2.2, by rw [nx_lt L.T L.n i (by omega)], by rw [HF.out], hM, by rw [st.1]; exact HE.out, st.2.1, st.2.2.1⟩
            case measure => (simp [intOf] <;> omega)
          · have HF := Lib.hid hf1
            clear hf1 h2 hl1
            go_wp2_with fail
            go_roundw
            case rel => exact ⟨i, (i : Int) - 1, s', en, cx', by omega, by go_num, by omega, rfl, rfl, hfit', st.2.2.2, by rw [nx_lt L.T L.n i (by omega)], by rw [HF.out], hM, by rw [st.1]; exact HE.out, st.2.1, st.2.2.1⟩
            case measure => (simp [intOf] <;> omega)

def AsgPost_8_32 (L : Lay) (w0 : World) (s : Nat → Int) (m : Nat) (a : Nat → Nat) (e : Ending) (w' : World) : Prop :=
  ∃ s' B, e = .returned (.int .i64 (idTo L.T L.n a m : Int)) ∧ Mem .i32 .u8 256 L w0 w' s' B ∧ (∀ q, q < m → s' (a q / 2) = (idOf L.T L.n a q : Int)) ∧ ∀ x, (∀ q, q < m → a q / 2 ≠ x) → s' x = s x

set_option maxHeartbeats 2000000 in
set_option maxRecDepth 100000 in
theorem assignID_8_32 (L : Lay) (w0 w : World) (s B : Nat → Int) (h : Mem .i32 .u8 256 L w0 w s B) (hn : 1 < L.n) (m : Nat) (hm : m = many L.T L.n) (a : Nat → Nat) (ha : Srt (lms L.T L.n) L.n (keyLt L.T L.n) m a) (cod : Nat → Int) (hcod : CodeOK L.T L.n 4294967296 cod)
    (hs1 : ∀ r, r < m → s (L.n - m + r) = (a r : Int)) (hs2 : ∀ j, lms L.T L.n j = true → s (j / 2) = cod j) (hm0 : 0 < m) (tc sc : Nat) (htc : L.n ≤ tc) (hsc : L.n ≤ sc) :
    Calls Tryz.prog 70 #[.slice (some ⟨L.tb, L.tp, none⟩) L.n tc, .slice (some ⟨L.sb, L.so, none⟩) L.n sc, .int .i64 m] w (AsgPost_8_32 L w0 s m a) := by
  have hnle := h.nle
  have hmn : 2 * m < L.n := by rw [hm]; exact many_half (by omega)
  have HMM := Lib.hid hm
  have HCOD := Lib.hid hcod
  clear hm hcod
  go_enter Tryz.func70, Tryz.ntmps70
  go_wp2_with fail
  go_loopw [7, 8, 9, 24] (fun v7 v8 v9 v24 wr => ∃ (r p : Nat) (ll : Int) (s' : Nat → Int), r ≤ m ∧ v24 = .int .i64 r ∧ v7 = .int .i64 (idTo L.T L.n a r) ∧ v8 = .int .i32 ll ∧ v9 = .int .i32 p ∧ Mem .i32 .u8 256 L w0 wr s' B ∧
      (r = 0 → ll = -1) ∧ (0 < r → lms L.T L.n p = true ∧ subs L.T L.n p = subs L.T L.n (a (r - 1)) ∧ ll = cod p) ∧ (∀ q, q < r → s' (a q / 2) = (idOf L.T L.n a q : Int)) ∧ (∀ q, r ≤ q → q < m → s' (a q / 2) = cod (a q)) ∧ ∀ x, (∀ q, q < m → a q / 2 ≠ x) → s' x = s x)
      (fun _ _ _ v24 _ => m - (intOf v24).toNat)
  case atStart => exact ⟨0, 0, -1, s, Nat.zero_le _, rfl, rfl, rfl, rfl, h, fun _ => rfl, fun h0 => by omega, fun q hq => by omega, fun q _ hq => hs2 _ (ha.mem q hq).2, fun _ _ => rfl⟩
  case round =>
    obtain ⟨r, p, ll, s', hr, rfl, rfl, rfl, rfl, hM, hl0, hl1, hid1, hid2, hkeep⟩ := hrel
    by_cases hlt : r < m
    · obtain ⟨hjn, hjl⟩ := ha.mem r hlt
      have hid := idTo_le L.T L.n a r
      obtain ⟨c, hc⟩ : ∃ c, c = s' (a r / 2) := ⟨_, rfl⟩
      have hcc : c = cod (a r) := by rw [hc, hid2 r (Nat.le_refl _) hlt]
      have hhalf := half_lt hjl
      have hhalf2 : a r / 2 < L.n := by omega
      have hcj : wr.cell? ⟨L.sb, L.so + (L.n - m) + r, none⟩ = some (.int .i32 (a r : Int)) := by
        rw [show L.so + (L.n - m) + r = L.so + (L.n - m + r) by omega, hM.sa.cell _ (by omega), hkeep (L.n - m + r) (fun q hq e => by have := half_lt (ha.mem q hq).2; have := HMM.out; omega), hs1 r hlt]
      have hch : wr.cell? ⟨L.sb, L.so + a r / 2, none⟩ = some (.int .i32 c) := by rw [hM.sa.cell _ hhalf2, hc]
      have hSf := hM.sa.free
      -- what the round leaves
      have fin : ∀ v : Int, v = (idOf L.T L.n a r : Int) → (∀ q, q < r + 1 → put s' (a r / 2) v (a q / 2) = (idOf L.T L.n a q : Int)) ∧ (∀ q, r + 1 ≤ q → q < m → put s' (a r / 2) v (a q / 2) = cod (a q)) ∧ ∀ x, (∀ q, q < m → a q / 2 ≠ x) → put s' (a r / 2) v x = s x := fun v hv => by
        have hne : ∀ q, q < m → q ≠ r → a q / 2 ≠ a r / 2 := fun q hq hqr e => hqr (ha.inj (fun x => by simp [keyLt, List.lt_irrefl]) hq hlt (half_inj (ha.mem q hq).2 hjl e))
        refine ⟨fun q hq => ?_, fun q hq hqm => ?_, fun x hx => ?_⟩
        · by_cases hqr : q = r
          · rw [hqr, put_same, hv]
          · rw [put_other _ _ _ _ (hne q (by omega) hqr)]; exact hid1 q (by omega)
        · rw [put_other _ _ _ _ (hne q hqm (by omega))]; exact hid2 q (by omega) hqm
        · rw [put_other _ _ _ _ (fun e => hx r hlt e.symm)]; exact hkeep x hx
      have hlast : 0 < r → nxt L.T L.n (a r) = L.n → nxt L.T L.n p ≠ L.n := fun h0 hj hp => by
        obtain ⟨p1, p2, _⟩ := hl1 h0
        have q1 := (ha.mem (r - 1) (by omega)).2
        have q2 := (subs_last p1 q1 p2).1 hp
        have q3 := ha.inj (fun x => by simp [keyLt, List.lt_irrefl]) hlt (by omega) (last_uniq hjl q1 hj q2)
        omega
      obtain ⟨j, hj⟩ : ∃ j, j = a r := ⟨_, rfl⟩
      rw [← hj] at hjn hjl hhalf hhalf2 hcj hch hcc fin hlast
      have HJ := Lib.hid hj
      have HC := Lib.hid hcc
      have HID1 := Lib.hid hid1
      have HL0 := Lib.hid hl0
      have HL1 := Lib.hid hl1
      have FIN := Lib.hid fin
      have HLA := Lib.hid hlast
      clear hj hcc hc hid1 hid2 hkeep hl0 hl1 fin hlast hs1 hs2
      go_upto_block 1 with (fail)
      go_wp2_with fail
      refine wp_scope_fwd rfl rfl ?_
      by_cases hne : c = ll
      · have h0 : 0 < r := by
          rcases Nat.eq_zero_or_pos r with h0 | h0
          · exfalso
            have e1 := HL0.out h0
            rw [← hne, HC.out] at e1
            have lj := nxt_le (T := L.T) (lms_iff.1 hjl).2.1
            rcases Nat.lt_or_ge (nxt L.T L.n j) L.n with h1 | h1
            · exact (HCOD.out.kinds j hjl h1).2.1 e1
            · rw [HCOD.out.last j hjl (by omega)] at e1; omega
          · exact h0
        obtain ⟨p1, p2, p3⟩ := HL1.out h0
        have hcp : cod j = cod p := by rw [← HC.out, hne, p3]
        have hLA := HLA.out h0
        have pn := (lms_iff.1 p1).2.1
        subst hne
        by_cases hu : (L.n : Int) ≤ IntKind.u32.wrap c
        · have hu' : (L.n : Int) ≤ cod j % 4294967296 := by rw [← HC.out]; simpa [IntKind.wrap, IntKind.bits, IntKind.signed] using hu
          have hsame : idTo L.T L.n a r = idOf L.T L.n a r := idTo_same h0 (by rw [← HJ.out, asg_enc HCOD.out (by omega) hjl p1 hcp hu', p2])
          have hsubs : subs L.T L.n p = subs L.T L.n j := (asg_enc HCOD.out (by omega) hjl p1 hcp hu').symm
          have HSAME := Lib.hid hsame
          have HSUBS := Lib.hid hsubs
          have HP3 := Lib.hid p3
          have HP2 := Lib.hid p2
          have HCP := Lib.hid hcp
          have hu2 : (L.n : Int) ≤ c % 4294967296 := by rw [HC.out]; exact hu'
          clear hsame hsubs p3 p2 hcp hu' hLA
          go_wp2_with fail
          go_step3
          simp only [Exit.then]
          refine fwd2_to1 ?_
          go_wp2_with fail
          simp only [Exit.noGoto_normal]
          go_wp2_with fail
          go_roundw
          case rel =>
            have hf := FIN.out (idTo L.T L.n a r : Int) (by have := HSAME.out; omega)
            exact ⟨r + 1, p, c, _, by omega, by go_num, by rw [show idTo L.T L.n a (r + 1) = idTo L.T L.n a r from HSAME.out.symm], rfl, rfl, hM.setS hhalf2 _, fun h0 => by omega, fun _ => ⟨p1, by rw [Nat.add_sub_cancel, ← HJ.out]; exact HSUBS.out, HP3.out⟩, hf.1, hf.2.1, hf.2.2⟩
          case measure => (simp [intOf] <;> omega)
        · have hu' : cod j % 4294967296 < (L.n : Int) := by
            rw [← HC.out]
            have : ¬ (L.n : Int) ≤ c % 4294967296 := by simpa [IntKind.wrap, IntKind.bits, IntKind.signed] using hu
            omega
          obtain ⟨hjx, hpx, len, hlen, hjl2, hpl2⟩ := asg_len HCOD.out hjl p1 hLA hcp hu'
          have htext := asg_text hjl p1 hjx hpx hjl2 hpl2
          have gj := nxt_gt (T := L.T) hjn
          have gp := nxt_gt (T := L.T) pn
          obtain rfl : c = (len : Int) := by rw [HC.out, hlen]
          have hjlen : j + len ≤ L.n := by omega
          have hplen : p + len ≤ L.n := by omega
          have hlen0 : 0 < len := by omega
          have hlenn : len < L.n := by have := (lms_iff.1 hjl).1; omega
          have HP3 := Lib.hid p3
          have HP2 := Lib.hid p2
          have HTX := Lib.hid htext
          clear htext hjl2 hpl2 hlen hcp hu' p2 p3 hLA hjx hpx gj gp
          go_wp2_with fail
          go_loopw [16] (fun v16 wi => ∃ (e q : Nat), e ≤ len ∧ v16 = .int .i64 e ∧ wi = wr.drewN q ∧ ∀ x, x < e → L.T (j + x) = L.T (p + x)) (fun v16 _ => len - (intOf v16).toNat)
          case atStart => exact ⟨0, 0, Nat.zero_le _, rfl, rfl, fun x hx => by omega⟩
          case round =>
            obtain ⟨e, q, he, rfl, rfl, htx⟩ := hrel
            by_cases hel : e < len
            · have hTc1 : wr.cell? ⟨L.tb, L.tp + j + e, none⟩ = some (.int .u8 (L.T (j + e) : Int)) := by rw [Nat.add_assoc]; exact hM.cellT _ (by omega)
              have hTc2 : wr.cell? ⟨L.tb, L.tp + p + e, none⟩ = some (.int .u8 (L.T (p + e) : Int)) := by rw [Nat.add_assoc]; exact hM.cellT _ (by omega)
              have HTE := Lib.hid htx
              clear htx
              go_upto_region 16 with (fail)
              go_quiet (fail)
              by_cases hd : L.T (j + e) = L.T (p + e)
              · have HD := Lib.hid hd
                clear hd
                have hdd : ((L.T (j + e) : Int) != (L.T (p + e) : Int)) = false := by rw [bne_eq_false_iff_eq, HD.out]
                go_wp2_with fail
                go_roundw
                case rel => exact ⟨e + 1, _, by omega, by go_num, rfl, fun x hx => by
                  by_cases hxe : x = e
                  · rw [hxe]; exact HD.out
                  · exact HTE.out x (by omega)⟩
                case measure => (simp [intOf] <;> omega)
              · have hnew : idTo L.T L.n a r + 1 = idOf L.T L.n a r := idTo_new fun _ hs => hd (HTX.out.1 (by rw [HP2.out, ← hs, HJ.out]) e hel)
                have hdd : ((L.T (j + e) : Int) != (L.T (p + e) : Int)) = true := by rw [bne_iff_ne]; omega
                have HD := Lib.hid hd
                have HNEW := Lib.hid hnew
                clear hd hnew
                go_wp2_with fail
                go_step3
                go_big_unhide
                simp only [Exit.inBlock, Exit.then]
                refine fwd2_to0 ?_
                go_wp2_with fail
                go_step3
                go_wp2_with fail
                simp only [fwd1_normal]
                go_wp2_with fail
                go_roundw
                case rel =>
                  have hf := FIN.out ((idTo L.T L.n a r : Int) + 1) (by have := HNEW.out; omega)
                  exact ⟨r + 1, j, (len : Int), _, by omega, by go_num, by rw [← (show idTo L.T L.n a r + 1 = idTo L.T L.n a (r + 1) from HNEW.out)]; go_num, rfl, rfl, (hM.drewN _).setS hhalf2 _, fun h0 => by omega, fun _ => ⟨hjl, by rw [Nat.add_sub_cancel, HJ.out], HC.out⟩, hf.1, hf.2.1, hf.2.2⟩
                case measure => (simp [intOf] <;> omega)
            · have hee : e = len := by omega
              subst hee
              have hsame : idTo L.T L.n a r = idOf L.T L.n a r := idTo_same h0 (by rw [← HJ.out, HTX.out.2 htx, HP2.out])
              have hsubs : subs L.T L.n p = subs L.T L.n j := (HTX.out.2 htx).symm
              have HSAME := Lib.hid hsame
              have HSUBS := Lib.hid hsubs
              clear hsame hsubs htx
              go_wp2_with fail
              go_step3
              simp only [Exit.then]
              refine fwd2_to1 ?_
              go_wp2_with fail
              simp only [Exit.noGoto_normal]
              go_wp2_with fail
              go_roundw
              case rel =>
                have hf := FIN.out (idTo L.T L.n a r : Int) (by have := HSAME.out; omega)
                exact ⟨r + 1, p, (e : Int), _, by omega, by go_num, by rw [show idTo L.T L.n a (r + 1) = idTo L.T L.n a r from HSAME.out.symm], rfl, rfl, (hM.drewN q).setS hhalf2 _, fun h0 => by omega, fun _ => ⟨p1, by rw [Nat.add_sub_cancel, ← HJ.out]; exact HSUBS.out, HP3.out⟩, hf.1, hf.2.1, hf.2.2⟩
              case measure => (simp [intOf] <;> omega)
      · have hneb : (c != ll) = true := by rw [bne_iff_ne]; exact hne
        have hnew : idTo L.T L.n a r + 1 = idOf L.T L.n a r := idTo_new fun h0 => by
          obtain ⟨p1, p2, p3⟩ := HL1.out h0
          have := asg_new HCOD.out hjl p1 (by rw [← HC.out, ← p3]; exact hne)
          rw [p2, HJ.out] at this; exact this
        have HNE := Lib.hid hne
        have HNEW := Lib.hid hnew
        clear hne hnew
        go_wp2_with fail
        go_step3
        simp only [Exit.then]
        refine fwd2_to0 ?_
        go_wp2_with fail
        go_step3
        go_wp2_with fail
        simp only [fwd1_normal]
        go_wp2_with fail
        go_roundw
        case rel =>
          have hf := FIN.out ((idTo L.T L.n a r : Int) + 1) (by have := HNEW.out; omega)
          exact ⟨r + 1, j, c, _, by omega, by go_num, by rw [← (show idTo L.T L.n a r + 1 = idTo L.T L.n a (r + 1) from HNEW.out)]; go_num, rfl, rfl, hM.setS hhalf2 _, fun h0 => by omega, fun _ => ⟨hjl, by rw [Nat.add_sub_cancel, HJ.out], HC.out⟩, hf.1, hf.2.1, hf.2.2⟩
        case measure => (simp [intOf] <;> omega)
    · obtain rfl : r = m := by omega
      go_wp2_with fail
      go_ret
      exact ⟨s', B, rfl, hM, hid1, hkeep⟩

end Go.Proofs.YtfpihnfhmefeaaaGreatDoor

