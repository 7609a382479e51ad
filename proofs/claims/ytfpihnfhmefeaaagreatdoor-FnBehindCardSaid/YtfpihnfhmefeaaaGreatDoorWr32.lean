/-
  Walks over the sorting functions (variant 32): map, recurse. No condition but those typed.
-/
import Derived.Test.YtfpihnfhmefeaaaGreatDoorExpand
import Derived.Test.YtfpihnfhmefeaaaGreatDoorMake
namespace Go.Proofs.YtfpihnfhmefeaaaGreatDoor
open Go.RowKit

def MapPost_32 (sb so n : Nat) (T : Nat → Nat) (w : World) (s : Nat → Int) (e : Ending) (w' : World) : Prop :=
  ∃ s', e = .returned (.tuple #[]) ∧ Row w' .i32 sb so n s' ∧ Kept (reg sb so n) w w' ∧ ∀ q, q < many T n → s' (n - many T n + q) = s (pos T n q / 2) - 1

set_option maxHeartbeats 1000000 in
set_option maxRecDepth 100000 in
theorem map_32 (w : World) (sb so n sc : Nat) (T : Nat → Nat) (s : Nat → Int) (h : Row w .i32 sb so n s) (hn : 1 < n) (hnle : n ≤ 1073741824)
    (hid : ∀ j, lms T n j = true → 0 < s (j / 2) ∧ s (j / 2) ≤ 1073741824) (hz : ∀ x, x + many T n < n → (∀ j, lms T n j = true → j / 2 ≠ x) → s x = 0) (nl : Value) :
    Calls Tryz.prog 71 #[.slice (some ⟨sb, so, none⟩) n sc, nl] w (MapPost_32 sb so n T w s) := by
  obtain ⟨m, hm⟩ : ∃ m, m = many T n := ⟨_, rfl⟩
  have hmn : 2 * m < n := by rw [hm]; exact many_half (by omega)
  have HMM := Lib.hid hm
  clear hm
  go_enter Tryz.func71, Tryz.ntmps71
  go_wp2_with fail
  go_loopw [4, 5] (fun v4 v5 wr => ∃ (p : Nat) (q : Int) (u : Nat) (s' : Nat → Int), p ≤ n / 2 + 1 ∧ v5 = .int .i64 q ∧ q + 1 = p ∧ v4 = .int .i64 ((n - m + u : Nat) : Int) ∧ u = halfTo T n p ∧ u ≤ m ∧ Row wr .i32 sb so n s' ∧ Kept (reg sb so n) w wr ∧ (∀ x, x + m < n → s' x = s x) ∧
      ∀ q, u ≤ q → q < m → s' (n - m + q) = s (pos T n q / 2) - 1) (fun _ v5 _ => (intOf v5 + 1).toNat)
  case atStart => exact ⟨n / 2 + 1, (n / 2 : Nat), m, s, Nat.le_refl _, by go_num, by omega, by rw [show n - m + m = n by omega], by rw [halfTo_all]; exact HMM.out, Nat.le_refl _, h, Kept.refl _ _, fun _ _ => rfl, fun q h1 h2 => by omega⟩
  case round =>
    obtain ⟨p, q, u, s', hp, rfl, hq, rfl, hu, hum, hR, hK, hlow, hup⟩ := hrel
    by_cases hp0 : p = 0
    · subst hp0
      obtain rfl : q = -1 := by omega
      clear hq
      have HU := Lib.hid hu
      have HUP := Lib.hid hup
      have HLOW := Lib.hid hlow
      clear hu hup hlow
      go_wp2_with fail
      go_end0
      refine ⟨s', rfl, hR, hK, fun q hq => ?_⟩
      rw [← HMM.out] at hq ⊢
      exact HUP.out q (by rw [HU.out]; simp [halfTo, cnt]) hq
    · obtain ⟨i, rfl⟩ : ∃ i, p = i + 1 := ⟨p - 1, by omega⟩
      obtain rfl : q = (i : Int) := by omega
      clear hq
      have hlt : i < n := by omega
      have him : i + m < n := by omega
      have hSf := hR.free
      rcases half_dec (T := T) (n := n) (i := i) with ⟨j, hj, hji⟩ | hno
      · obtain ⟨e1, e2, e3⟩ := halfTo_one hj hji
        have hb := hid j hj
        obtain ⟨c, hc⟩ : ∃ c : Nat, s (j / 2) = (c : Int) + 1 := ⟨(s (j / 2) - 1).toNat, by omega⟩
        have hc2 : (c : Int) < 1073741824 := by omega
        have hci : wr.cell? ⟨sb, so + i, none⟩ = some (.int .i32 ((c : Int) + 1)) := by rw [hR.cell i hlt, hlow i him, ← hji, hc]
        obtain ⟨v, hv⟩ : ∃ v, v = halfTo T n i := ⟨_, rfl⟩
        rw [← hv] at e1 e2 e3
        have hvm : v < m := by rw [HMM.out]; exact e2
        obtain rfl : u = v + 1 := by rw [hu, e1]
        have hSc := hR.cell (n - m + v) (by omega)
        obtain ⟨sv, hsv⟩ : ∃ sv, sv = s' (n - m + v) := ⟨_, rfl⟩
        rw [← hsv] at hSc
        have HU := Lib.hid hu
        have HV := Lib.hid hv
        have HUP := Lib.hid hup
        have HLOW := Lib.hid hlow
        have HC := Lib.hid hc
        have HE3 := Lib.hid e3
        have HJI := Lib.hid hji
        clear hu hv hup hlow hc e1 e2 e3 hb hsv hji
        rw [show ((n - m + (v + 1) : Nat) : Int) = ((n - m + v : Nat) : Int) + 1 by omega]
        have hw1 : ((n - m + v : Nat) : Int) < n := by omega
        obtain ⟨z, hz⟩ : ∃ z, z = n - m + v := ⟨_, rfl⟩
        rw [← hz] at hw1 hSc ⊢
        have hzn : z < n := by omega
        have HZ := Lib.hid hz
        clear hz hw1
        go_wp2_with fail
        go_roundw
        case rel =>
          exact ⟨i, (i : Int) - 1, v, _, by omega, by go_num, by omega, by rw [← HZ.out], HV.out, by omega, hR.set hzn _, hK.trans (Kept.setCell ⟨rfl, by omega, by omega⟩), fun x hx => by rw [put_other _ _ _ _ (by have := HZ.out; omega)]; exact HLOW.out x hx, fun q h1 h2 => by
            by_cases hqv : q = v
            · rw [hqv, ← HZ.out, put_same, HE3.out, HC.out]; omega
            · rw [put_other _ _ _ _ (by have := HZ.out; omega)]; exact HUP.out q (by omega) h2⟩
        case measure => (simp [intOf] <;> omega)
      · have e1 := halfTo_none hno
        have hci : wr.cell? ⟨sb, so + i, none⟩ = some (.int .i32 0) := by rw [hR.cell i hlt, hlow i him, hz i (by rw [← HMM.out]; exact him) hno]
        have HU := Lib.hid hu
        have HUP := Lib.hid hup
        have HLOW := Lib.hid hlow
        have HE1 := Lib.hid e1
        clear hu hup hlow e1
        go_wp2_with fail
        go_roundw
        case rel => exact ⟨i, (i : Int) - 1, u, s', by omega, by go_num, by omega, rfl, by rw [← HE1.out]; exact HU.out, hum, hR, hK, HLOW.out, HUP.out⟩
        case measure => (simp [intOf] <;> omega)

def SaisPost_32 (T : Nat → Nat) (n sb so mb mo mn : Nat) (F : Nat → Int) (w : World) (e : Ending) (w' : World) : Prop :=
  ∃ s' F', e = .returned (.tuple #[]) ∧ Row w' .i32 sb so n s' ∧ PostSA T n s' ∧ Row w' .i32 mb mo mn F' ∧ ((∀ x, x < mn → F' x = F x) ∨ F' 0 = -1) ∧ Kept (fun x y => reg sb so n x y ∨ reg mb mo mn x y) w w'
/-- What the function that calls itself does to a text of n numbers. -/
def SaisSpec_32 (n : Nat) : Prop :=
  ∀ (T : Nat → Nat) (K tb tp tc sb so sc mb mo mn mc : Nat) (s F : Nat → Int) (w : World), Row w .i32 tb tp n (fun i => (T i : Int)) → Row w .i32 sb so n s → (∀ x, x < n → s x = 0) → Row w .i32 mb mo mn F →
    Apart tb tp n sb so n → Apart tb tp n mb mo mn → Apart sb so n mb mo mn → (∀ i, i < n → T i < K) → 0 < K → K ≤ 1073741824 → K ≤ mn → 1 < n → n ≤ 1073741824 → n ≤ tc → n ≤ sc → mn ≤ mc → mn ≤ 1073741824 →
    Calls Tryz.prog 97 #[.slice (some ⟨tb, tp, none⟩) n tc, .int .i64 K, .slice (some ⟨sb, so, none⟩) n sc, .slice (some ⟨mb, mo, none⟩) mn mc] w (SaisPost_32 T n sb so mb mo mn F w)

def RecPost_32 (T1 : Nat → Nat) (m sb so n mb mo mt : Nat) (F : Nat → Int) (w : World) (e : Ending) (w' : World) : Prop :=
  ∃ s' F' g, e = .returned (.tuple #[]) ∧ Row w' .i32 sb so n s' ∧ IsSA T1 m g ∧ (∀ r, r < m → s' r = (g r : Int)) ∧ Row w' .i32 mb mo mt F' ∧ ((∀ x, x < mt → F' x = F x) ∨ F' 0 = -1) ∧ Kept (fun x y => reg sb so n x y ∨ reg mb mo mt x y) w w'

/-- Behind the inner call: the array is whole again. -/
theorem rec_end_32 {T1 : Nat → Nat} {m sb so n mb mo mt : Nat} {s F : Nat → Int} {w w2 w' : World} {xb xo xn : Nat} {F2 : Nat → Int} {e : Ending} (hs : Row w .i32 sb so n s) (hF : Row w .i32 mb mo mt F) (hap : Apart sb so n mb mo mt) (hmn : 2 * m < n)
    (hk : Kept (reg sb so m) w w2) (hp : SaisPost_32 T1 m sb so xb xo xn F2 w2 e w')
    (hx : (xb = mb ∧ xo = mo ∧ xn = mt ∧ (∀ x, x < mt → F2 x = F x)) ∨ (xb = sb ∧ xo = so + m ∧ xn = n - m - m) ∨ w.heap.size ≤ xb) : RecPost_32 T1 m sb so n mb mo mt F w e w' := by
  obtain ⟨s', F', rfl, hs', ⟨g, hg, hgs⟩, hF', hf', hk'⟩ := hp
  unfold Apart at hap
  have hsb : sb < w.heap.size := hs.lt (by omega)
  have hall : Kept (fun x y => reg sb so m x y ∨ reg xb xo xn x y) w w' := (hk.mono fun x y _ h => .inl h).trans hk'
  -- the part behind the cut
  have htail : ∀ j, m ≤ j → j < n → (xb = sb ∧ xo = so + m ∧ xn = n - m - m ∧ j < n - m) ∨ (w'.cell? ⟨sb, so + j, none⟩ = some (.int .i32 (s j))) := fun j hj hjn => by
    by_cases hq : ¬ (fun x y => reg sb so m x y ∨ reg xb xo xn x y) sb (so + j)
    · right; rw [hall.cell sb (so + j) hsb hq]; exact hs.cell j hjn
    · left
      have hq' : reg sb so m sb (so + j) ∨ reg xb xo xn sb (so + j) := by
        by_cases h1 : reg sb so m sb (so + j) ∨ reg xb xo xn sb (so + j)
        · exact h1
        · exact (hq h1).elim
      rcases hq' with ⟨_, a, b⟩ | ⟨a, b, c⟩
      · omega
      · rcases hx with ⟨rfl, rfl, rfl, _⟩ | ⟨rfl, rfl, rfl⟩ | hx
        · omega
        · exact ⟨rfl, rfl, rfl, by omega⟩
        · omega
  have hcells : ∀ j, j < n → ∃ v : Int, w'.cell? ⟨sb, so + j, none⟩ = some (.int .i32 v) ∧ (j < m → v = (g j : Int)) := fun j hj => by
    by_cases hjm : j < m
    · exact ⟨s' j, hs'.cell j hjm, fun _ => hgs j hjm⟩
    · rcases htail j (by omega) hj with ⟨rfl, rfl, rfl, h4⟩ | h4
      · have := hF'.cell (j - m) (by omega)
        rw [show so + m + (j - m) = so + j by omega] at this
        exact ⟨_, this, fun h => (hjm h).elim⟩
      · exact ⟨_, h4, fun h => (hjm h).elim⟩
  have hrow : Row w' .i32 sb so n (fun j => match w'.cell? ⟨sb, so + j, none⟩ with | some (.int _ v) => v | _ => 0) := by
    refine ⟨fun j hj => ?_, fun j hj => by rw [hall.frozen sb (so + j) hsb]; exact hs.free j hj⟩
    obtain ⟨v, hv, _⟩ := hcells j hj
    simp [hv]
  have hK : Kept (fun x y => reg sb so n x y ∨ reg mb mo mt x y) w w' := hall.mono fun x y hx' hr => by
    rcases hr with ⟨a, b, c⟩ | ⟨a, b, c⟩
    · exact .inl ⟨a, b, by omega⟩
    · rcases hx with ⟨rfl, rfl, rfl, _⟩ | ⟨rfl, rfl, rfl⟩ | hx
      · exact .inr ⟨a, b, c⟩
      · exact .inl ⟨a, by omega, by omega⟩
      · omega
  have hsame : (xb = mb ∧ xo = mo ∧ xn = mt ∧ (∀ x, x < mt → F2 x = F x)) ∨ Row w' .i32 mb mo mt F := by
    by_cases hq : xb = mb ∧ xo = mo ∧ xn = mt ∧ (∀ x, x < mt → F2 x = F x)
    · exact .inl hq
    · right
      refine hF.kept hall fun j hj hr => ?_
      have hmb : mb < w.heap.size := hF.lt (by omega)
      rcases hr with ⟨a, b, c⟩ | ⟨a, b, c⟩
      · omega
      · rcases hx with hx | ⟨rfl, rfl, rfl⟩ | hx
        · exact hq hx
        · omega
        · omega
  refine (fun (h : ∃ F'', Row w' .i32 mb mo mt F'' ∧ ((∀ x, x < mt → F'' x = F x) ∨ F'' 0 = -1)) => ?_) ?_
  · obtain ⟨F'', h1, h2⟩ := h
    refine ⟨_, F'', g, rfl, hrow, hg, fun r hr => ?_, h1, h2, hK⟩
    obtain ⟨v, hv, hv'⟩ := hcells r (by omega)
    simp [hv, hv' hr]
  · rcases hsame with ⟨rfl, rfl, rfl, h4⟩ | h
    · exact ⟨F', hF', hf'.imp (fun h x hx => by rw [h x hx, h4 x hx]) id⟩
    · exact ⟨F, h, .inl fun _ _ => rfl⟩

set_option maxHeartbeats 2000000 in
set_option maxRecDepth 100000 in
theorem recurse_32 (m : Nat) (IH : SaisSpec_32 m) (w : World) (sb so n sc mb mo mt mc : Nat) (s F : Nat → Int) (T1 : Nat → Nat) (K1 : Nat) (hs : Row w .i32 sb so n s) (hF : Row w .i32 mb mo mt F) (hap : Apart sb so n mb mo mt)
    (hmn : 2 * m < n) (hm1 : 1 < m) (hnle : n ≤ 1073741824) (hsc : n ≤ sc) (hmc : mt ≤ mc) (hmt : mt ≤ 1073741824) (hT : ∀ q, q < m → s (n - m + q) = (T1 q : Int)) (hTK : ∀ q, q < m → T1 q < K1) (hK0 : 0 < K1) (hKm : K1 < m) :
    Calls Tryz.prog 72 #[.slice (some ⟨sb, so, none⟩) n sc, .slice (some ⟨mb, mo, none⟩) mt mc, .int .i64 m, .int .i64 K1] w (RecPost_32 T1 m sb so n mb mo mt F w) := by
  go_enter Tryz.func72, Tryz.ntmps72
  have HIH := Lib.hid IH
  have HTT := Lib.hid hT
  have HTK := Lib.hid hTK
  clear IH hT hTK
  go_wp2_with fail
  go_quiet (fail)
  have IH := HIH.out
  have hT := HTT.out
  have hTK := HTK.out
  have hsd := hs.drewN nq
  have hFd := hF.drewN nq
  have hkd : Kept (fun x y => reg sb so n x y ∨ reg mb mo mt x y) w (w.drewN nq) := (Kept.refl _ _).drewN nq
  obtain ⟨wd, hwd⟩ : ∃ wd, wd = w.drewN nq := ⟨_, rfl⟩
  rw [← hwd] at hsd hFd hkd ⊢
  clear hwd
  have back : ∀ e w', RecPost_32 T1 m sb so n mb mo mt F wd e w' → RecPost_32 T1 m sb so n mb mo mt F w e w' := fun e w' ⟨s', F', g, h1, h2, h3, h4, h5, h6, h7⟩ => ⟨s', F', g, h1, h2, h3, h4, h5, h6, hkd.trans h7⟩
  have hsb : sb < wd.heap.size := hsd.lt (by omega)
  -- what the inner call asks, once the room is chosen
  have call : ∀ (w1 : World) (xb xo xn xc : Nat) (F2 : Nat → Int), Kept (fun _ _ => False) wd w1 → Row w1 .i32 xb xo xn F2 → K1 ≤ xn → xn ≤ xc → xn ≤ 1073741824 → Apart sb (so + (n - m)) m xb xo xn → Apart sb so m xb xo xn →
      ((xb = mb ∧ xo = mo ∧ xn = mt ∧ (∀ x, x < mt → F2 x = F x)) ∨ (xb = sb ∧ xo = so + m ∧ xn = n - m - m) ∨ wd.heap.size ≤ xb) →
      ∃ w2, (∀ (ty : TypeId) (c : Nat), (Builtin.clear_ #[51] ty #[.slice (some ⟨sb, so, none⟩) m c]).run Tryz.prog w1 = .ok (.tuple #[]) w2) ∧
        ∀ tc, m ≤ tc → Calls Tryz.prog 97 #[.slice (some ⟨sb, so + (n - m), none⟩) m tc, .int .i64 K1, .slice (some ⟨sb, so, none⟩) m sc, .slice (some ⟨xb, xo, none⟩) xn xc] w2 (RecPost_32 T1 m sb so n mb mo mt F wd) := by
    intro w1 xb xo xn xc F2 hk1 hX hKx hxc hxn hA1 hA2 hx
    have hs1 : Row w1 .i32 sb so n s := hsd.kept hk1 fun _ _ h => h
    obtain ⟨w2, hclr, hd, hk2⟩ := clear_row (P := Tryz.prog) (hs1.head (m := m) (by omega)) 51 21 Tryz.underlying51 zero_i32 (by omega)
    refine ⟨w2, hclr, fun tc htc => ?_⟩
    have hX2 := hX.keptReg hk2 hA2.symm
    have ht2 : Row w2 .i32 sb (so + (n - m)) m (fun i => (T1 i : Int)) := ((hs1.part (n - m) m (by omega)).congr fun q hq => hT q hq).keptReg hk2 (by unfold Apart; omega)
    refine (IH T1 K1 sb (so + (n - m)) tc sb so sc xb xo xn xc _ F2 w2 ht2 hd (fun _ _ => rfl) hX2 (by unfold Apart; omega) hA1 hA2 hTK hK0 (by omega) hKx hm1 (by omega) htc (by omega) hxc hxn).mono fun e w' hp => ?_
    exact rec_end_32 hsd hFd hap hmn ((hk1.mono fun _ _ _ h => h.elim).trans hk2) hp hx
  have hap' := hap
  unfold Apart at hap'
  -- a fresh room
  have fresh : ∀ q : Nat, K1 ≤ q → q ≤ 1073741824 → ∃ w1 w2, (Instr.makeSlice 51 (.int .i64 (q : Int)) (.int .i64 (q : Int))).run Tryz.prog wd = .ok (.slice (some ⟨wd.heap.size, 0, none⟩) q q) w1 ∧
      (∀ (ty : TypeId) (c : Nat), (Builtin.clear_ #[51] ty #[.slice (some ⟨sb, so, none⟩) m c]).run Tryz.prog w1 = .ok (.tuple #[]) w2) ∧
      ∀ tc, m ≤ tc → Calls Tryz.prog 97 #[.slice (some ⟨sb, so + (n - m), none⟩) m tc, .int .i64 K1, .slice (some ⟨sb, so, none⟩) m sc, .slice (some ⟨wd.heap.size, 0, none⟩) q q] w2 (RecPost_32 T1 m sb so n mb mo mt F wd) := by
    intro q hq hq2
    obtain ⟨i, hi, hz0, hz1, hz2⟩ := info_parts info_i32
    obtain ⟨w1, hmk, hR, hk, _⟩ := make_row (P := Tryz.prog) wd 51 21 .i32 i Tryz.underlying51 hi hz0 hz1 (by rw [hz2]; omega) q hq2
    obtain ⟨w2, hclr, hcall⟩ := call w1 wd.heap.size 0 q q _ hk hR hq (Nat.le_refl _) hq2 (by unfold Apart; omega) (by unfold Apart; omega) (.inr (.inr (Nat.le_refl _)))
    exact ⟨w1, w2, hmk, hclr, hcall⟩
  have HB := Lib.hid back
  clear IH hT hTK HIH HTT HTK back
  have htc : m ≤ sc - (n - m) := by omega
  by_cases c1 : mt < n - m - m
  · by_cases c2 : n - m - m < m
    · by_cases c3 : K1 < m / 2
      · obtain ⟨w1, w2, hmk, hclr, hcall⟩ := fresh (m / 2) (by omega) (by omega)
        rw [show ((m / 2 : Nat) : Int) = (m : Int) / 2 by omega] at hmk
        have HC := Lib.hid hcall
        clear hcall fresh call
        go_wp2_with fail
        rw [show n - (n - m) = m by omega]
        refine (HC.out _ htc).mono ?_
        rintro e w' ⟨s', F', g, rfl, hrest⟩
        have HR := Lib.hid hrest
        clear hrest
        go_wp2_with fail
        go_end0
        exact HB.out _ _ ⟨s', F', g, rfl, HR.out⟩
      · obtain ⟨w1, w2, hmk, hclr, hcall⟩ := fresh (K1) (by omega) (by omega)
        have HC := Lib.hid hcall
        clear hcall fresh call
        go_wp2_with fail
        rw [show n - (n - m) = m by omega]
        refine (HC.out _ htc).mono ?_
        rintro e w' ⟨s', F', g, rfl, hrest⟩
        have HR := Lib.hid hrest
        clear hrest
        go_wp2_with fail
        go_end0
        exact HB.out _ _ ⟨s', F', g, rfl, HR.out⟩
    · obtain ⟨w2, hclr, hcall⟩ := call wd sb (so + m) (n - m - m) (sc - m) (fun j => s (m + j)) (Kept.refl _ _) ((hsd.part m (n - m - m) (by omega))) (by omega) (by omega) (by omega) (by unfold Apart; omega) (by unfold Apart; omega) (.inr (.inl ⟨rfl, rfl, rfl⟩))
      have HC := Lib.hid hcall
      clear hcall fresh call
      go_wp2_with fail
      rw [show n - (n - m) = m by omega]
      refine (HC.out _ htc).mono ?_
      rintro e w' ⟨s', F', g, rfl, hrest⟩
      have HR := Lib.hid hrest
      clear hrest
      go_wp2_with fail
      go_end0
      exact HB.out _ _ ⟨s', F', g, rfl, HR.out⟩
  · by_cases c2 : mt < m
    · by_cases c3 : K1 < m / 2
      · obtain ⟨w1, w2, hmk, hclr, hcall⟩ := fresh (m / 2) (by omega) (by omega)
        rw [show ((m / 2 : Nat) : Int) = (m : Int) / 2 by omega] at hmk
        have HC := Lib.hid hcall
        clear hcall fresh call
        go_wp2_with fail
        rw [show n - (n - m) = m by omega]
        refine (HC.out _ htc).mono ?_
        rintro e w' ⟨s', F', g, rfl, hrest⟩
        have HR := Lib.hid hrest
        clear hrest
        go_wp2_with fail
        go_end0
        exact HB.out _ _ ⟨s', F', g, rfl, HR.out⟩
      · obtain ⟨w1, w2, hmk, hclr, hcall⟩ := fresh (K1) (by omega) (by omega)
        have HC := Lib.hid hcall
        clear hcall fresh call
        go_wp2_with fail
        rw [show n - (n - m) = m by omega]
        refine (HC.out _ htc).mono ?_
        rintro e w' ⟨s', F', g, rfl, hrest⟩
        have HR := Lib.hid hrest
        clear hrest
        go_wp2_with fail
        go_end0
        exact HB.out _ _ ⟨s', F', g, rfl, HR.out⟩
    · obtain ⟨w2, hclr, hcall⟩ := call wd mb mo mt mc F (Kept.refl _ _) hFd (by omega) hmc hmt (by unfold Apart; omega) (by unfold Apart; omega) (.inl ⟨rfl, rfl, rfl, fun _ _ => rfl⟩)
      have HC := Lib.hid hcall
      clear hcall fresh call
      go_wp2_with fail
      rw [show n - (n - m) = m by omega]
      refine (HC.out _ htc).mono ?_
      rintro e w' ⟨s', F', g, rfl, hrest⟩
      have HR := Lib.hid hrest
      clear hrest
      go_wp2_with fail
      go_end0
      exact HB.out _ _ ⟨s', F', g, rfl, HR.out⟩

end Go.Proofs.YtfpihnfhmefeaaaGreatDoor

