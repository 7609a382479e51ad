/-
  The room for counts and buckets as one stretch, before and behind the inner call. No condition.
-/
import Derived.Test.YtfpihnfhmefeaaaGreatDoorMake
import Derived.Test.YtfpihnfhmefeaaaGreatDoorExpand
namespace Go.Proofs.YtfpihnfhmefeaaaGreatDoor
open Go.RowKit

/-- The two ways in which the room is parted: counts and buckets (c), or buckets alone. -/
def mkLay (T : Nat → Nat) (n K tb tp sb so mb mo mc : Nat) (c : Bool) : Lay :=
  { T := T, n := n, tb := tb, tp := tp, sb := sb, so := so, mb := mb, mo := mo, mn := if c then K + K else K, bo := if c then mo + K else mo, fv := if c then .slice (some ⟨mb, mo, none⟩) K mc else .slice none 0 0 }

section
variable {ik tk : IntKind} {T : Nat → Nat} {n K tb tp sb so mb mo mc mn : Nat} {c : Bool} {w0 w w' : World} {s s' B : Nat → Int}

/-- The room as one stretch; its first number is the counts' where there are counts. -/
theorem tmp_whole (h : Mem ik tk K (mkLay T n K tb tp sb so mb mo mc c) w0 w s B) {G : Nat → Int} (hG : Row w ik mb (mo + (mkLay T n K tb tp sb so mb mo mc c).mn) (mn - (mkLay T n K tb tp sb so mb mo mc c).mn) G) (hmn : (mkLay T n K tb tp sb so mb mo mc c).mn ≤ mn) :
    ∃ F, Row w ik mb mo mn F ∧ (c = true → F 0 < 0 ∨ ∀ x, x < K → F x = (occ T n x : Int)) := by
  have hK := h.Kle.1
  cases c with
  | true =>
    rcases h.frq with hf | ⟨fc, hf, hfc, hsep, F, hF, hval⟩
    · simp [mkLay] at hf
    · have hb := h.bkt
      simp only [mkLay, if_true] at hF hb hG hmn hval
      have h1 := (hF.join hb).join (by rw [show mo + (K + K) = mo + (K + K) from rfl] at hG; exact hG)
      rw [show K + K + (mn - (K + K)) = mn by omega] at h1
      refine ⟨_, h1, fun _ => ?_⟩
      rcases hval with hv | hv
      · left
        have : 0 < K + K := by omega
        simp [this, hK, hv]
      · right
        intro x hx
        have : x < K + K := by omega
        simp [this, hx, hv x hx]
  | false =>
    have hb := h.bkt
    simp only [mkLay, Bool.false_eq_true, if_false] at hb hG hmn
    have h1 := hb.join hG
    rw [show K + (mn - K) = mn by omega] at h1
    exact ⟨_, h1, fun q => by simp at q⟩

/-- The memory behind the inner call, seen anew. -/
theorem mem_again (h : Mem ik tk K (mkLay T n K tb tp sb so mb mo mc c) w0 w s B) (hmn : (mkLay T n K tb tp sb so mb mo mc c).mn ≤ mn) (hTM : Apart tb tp n mb mo mn) {F F' : Nat → Int} (hF : c = true → F 0 < 0 ∨ ∀ x, x < K → F x = (occ T n x : Int))
    (hs : Row w' ik sb so n s') (hF' : Row w' ik mb mo mn F') (hsame : (∀ x, x < mn → F' x = F x) ∨ F' 0 = -1) (hk : Kept (fun x y => reg sb so n x y ∨ reg mb mo mn x y) w w') :
    ∃ B', Mem ik tk K (mkLay T n K tb tp sb so mb mo mc c) w' w' s' B' ∧ Row w' ik mb (mo + (mkLay T n K tb tp sb so mb mo mc c).mn) (mn - (mkLay T n K tb tp sb so mb mo mc c).mn) (fun x => F' ((mkLay T n K tb tp sb so mb mo mc c).mn + x)) := by
  have hK := h.Kle.1
  have htext : Row w' tk tb tp n (fun i => (T i : Int)) := h.text.kept hk fun j hj hr => by
    have h1 := h.aTS
    unfold Apart at h1 hTM
    simp only [mkLay] at h1 hr hj
    rcases hr with ⟨a, b, d⟩ | ⟨a, b, d⟩ <;> omega
  have hrest := hF'.part (mkLay T n K tb tp sb so mb mo mc c).mn (mn - (mkLay T n K tb tp sb so mb mo mc c).mn) (by omega)
  cases c with
  | true =>
    simp only [mkLay, if_true] at hmn
    have hfrq : Row w' ik mb mo K F' := hF'.head (by omega)
    have hbk := hF'.part K K (by omega)
    refine ⟨_, { text := htext, sa := hs, bkt := hbk, frq := .inr ⟨mc, rfl, ?_, Nat.le_refl _, F', hfrq, ?_⟩, kept := Kept.refl _ _, inB := h.inB, aTS := h.aTS, aTM := h.aTM, aSM := h.aSM, small := h.small, nle := h.nle, Kle := h.Kle }, hrest⟩
    · rcases h.frq with hf | ⟨fc, hf, hfc, _⟩
      · simp [mkLay] at hf
      · simp [mkLay] at hf; omega
    · rcases hsame with hq | hq
      · rcases hF rfl with h1 | h1
        · left; rw [hq 0 (by omega)]; exact h1
        · right; intro x hx; rw [hq x (by omega)]; exact h1 x hx
      · left; omega
  | false =>
    simp only [mkLay, Bool.false_eq_true, if_false] at hmn
    exact ⟨_, { text := htext, sa := hs, bkt := hF'.head (by omega), frq := .inl rfl, kept := Kept.refl _ _, inB := h.inB, aTS := h.aTS, aTM := h.aTM, aSM := h.aSM, small := h.small, nle := h.nle, Kle := h.Kle }, hrest⟩
end

section
variable {ik tk : IntKind} {T : Nat → Nat} {n K tb tp sb so mb mo mc mn : Nat} {w : World} {s F : Nat → Int}
/-- The memory at the beginning, the room parted in two; the counts marked as not made. -/
theorem mem_start_c (hT : Row w tk tb tp n (fun i => (T i : Int))) (hs : Row w ik sb so n s) (hF : Row w ik mb mo mn F) (hTS : Apart tb tp n sb so n) (hTM : Apart tb tp n mb mo mn) (hSM : Apart sb so n mb mo mn) (hTK : ∀ i, i < n → T i < K) (hK0 : 0 < K) (hK1 : K ≤ 1073741824) (hnle : n ≤ 1073741824)
    (hmc : K ≤ mc) (h2 : K + K ≤ mn) (q : Nat) : Mem ik tk K (mkLay T n K tb tp sb so mb mo mc true) w ((w.drewN q).setCell ⟨mb, mo, none⟩ (.int ik (-1))) s (fun x => F (K + x)) := by
  have hk : Kept (reg mb mo K) w ((w.drewN q).setCell ⟨mb, mo, none⟩ (.int ik (-1))) := ((Kept.refl _ _).drewN q).trans (Kept.setCell ⟨rfl, by omega, by omega⟩)
  have h1 := ((hF.drewN q).head (m := K) (by omega)).set (i := 0) hK0 (-1)
  rw [Nat.add_zero] at h1
  unfold Apart at hTS hTM hSM
  exact { text := hT.keptReg hk (by unfold Apart; omega), sa := hs.keptReg hk (by unfold Apart; omega), bkt := (hF.part K K h2).keptReg hk (by unfold Apart; omega),
          frq := .inr ⟨mc, rfl, hmc, Nat.le_refl _, _, h1, .inl (by rw [put_same]; omega)⟩, kept := hk.mono fun x y _ hr => .inr (by obtain ⟨a, b, c⟩ := hr; exact ⟨a, b, by simp only [mkLay, if_true]; omega⟩),
          inB := by simp only [mkLay, if_true]; omega, aTS := hTS, aTM := by unfold Apart; simp only [mkLay, if_true]; omega, aSM := by unfold Apart; simp only [mkLay, if_true]; omega, small := hTK, nle := hnle, Kle := ⟨hK0, hK1⟩ }
/-- The memory at the beginning, the room for the buckets alone. -/
theorem mem_start_b (hT : Row w tk tb tp n (fun i => (T i : Int))) (hs : Row w ik sb so n s) (hF : Row w ik mb mo mn F) (hTS : Apart tb tp n sb so n) (hTM : Apart tb tp n mb mo mn) (hSM : Apart sb so n mb mo mn) (hTK : ∀ i, i < n → T i < K) (hK0 : 0 < K) (hK1 : K ≤ 1073741824) (hnle : n ≤ 1073741824)
    (h2 : K ≤ mn) (q : Nat) : Mem ik tk K (mkLay T n K tb tp sb so mb mo mc false) w (w.drewN q) s F := by
  unfold Apart at hTS hTM hSM
  exact { text := hT.drewN q, sa := hs.drewN q, bkt := (hF.drewN q).head h2, frq := .inl rfl, kept := (Kept.refl _ _).drewN q,
          inB := by simp [mkLay], aTS := hTS, aTM := by unfold Apart; simp only [mkLay, Bool.false_eq_true, if_false]; omega, aSM := by unfold Apart; simp only [mkLay, Bool.false_eq_true, if_false]; omega, small := hTK, nle := hnle, Kle := ⟨hK0, hK1⟩ }
end

/-- What the function has come to where the array's beginnings are laid. -/
def SaisMid (ik tk : IntKind) (T : Nat → Nat) (n K tb tp sb so mb mo mn mc : Nat) (c : Bool) (w wc : World) : Prop :=
  ∃ wref s B G, Kept (fun x y => reg sb so n x y ∨ reg mb mo mn x y) w wref ∧ Mem ik tk K (mkLay T n K tb tp sb so mb mo mc c) wref wc s B ∧ PlaceAll T n s ∧
    Row wref ik mb (mo + (mkLay T n K tb tp sb so mb mo mc c).mn) (mn - (mkLay T n K tb tp sb so mb mo mc c).mn) G

/-- The names of the pieces in the text's order: what the inner call is handed. -/
theorem names_text {T : Nat → Nat} {n m : Nat} {a : Nat → Nat} (ha : Srt (lms T n) n (keyLt T n) m a) {s s' : Nat → Int} (hm : m = many T n) (hid : ∀ q, q < m → s (a q / 2) = (idOf T n a q : Int))
    (hmap : ∀ q, q < m → s' (n - m + q) = s (pos T n q / 2) - 1) :
    ∃ N T1 : Nat → Nat, (∀ r, r < m → N (a r) = idOf T n a r) ∧ (∀ q, q < m → T1 q + 1 = N (pos T n q)) ∧ (∀ q, q < m → s' (n - m + q) = (T1 q : Int)) ∧ ∀ q, q < m → T1 q < idOf T n a (m - 1) := by
  have irr : ∀ x, keyLt T n x x = false := fun x => by simp [keyLt, List.lt_irrefl]
  have hpos : ∀ q, q < m → ∃ r, r < m ∧ a r = pos T n q := fun q hq => by
    obtain ⟨p1, p2, _⟩ := pos_spec (T := T) (n := n) (q := q) (by omega)
    exact ha.cover irr p1 p2
  refine ⟨fun j => (s (j / 2)).toNat, fun q => (s (pos T n q / 2)).toNat - 1, fun r hr => ?_, fun q hq => ?_, fun q hq => ?_, fun q hq => ?_⟩
  · show (s (a r / 2)).toNat = _
    rw [hid r hr, Int.toNat_natCast]
  all_goals
    obtain ⟨r, hr, hra⟩ := hpos q hq
    have h1 := hid r hr
    have h2 := idOf_pos T n a r
    have h3 := idOf_mono T n a (r := r) (r' := m - 1) (by omega)
    rw [hra] at h1
  · show (s (pos T n q / 2)).toNat - 1 + 1 = (s (pos T n q / 2)).toNat
    rw [h1, Int.toNat_natCast]; omega
  · show s' (n - m + q) = (((s (pos T n q / 2)).toNat - 1 : Nat) : Int)
    rw [hmap q hq, h1, Int.toNat_natCast]; omega
  · show (s (pos T n q / 2)).toNat - 1 < _
    rw [h1, Int.toNat_natCast]; omega

end Go.Proofs.YtfpihnfhmefeaaaGreatDoor

