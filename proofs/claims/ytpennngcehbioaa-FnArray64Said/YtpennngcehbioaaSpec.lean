/-
  Walks over the array of a text as the specification makes it, by a sort of the places, and over the comparison of two slices. No condition but those typed.
-/
import Derived.Test.YtpennngcehbioaaApp
import Derived.Test.YtpennngcehbioaaSort
import Derived.Test.YtpennngcehbioaaLayF
import Derived.Deep.QuietTactic
import Derived.BigQuiet
namespace Go.Proofs.Ytpennngcehbioaa
open Go.RowKit

set_option maxHeartbeats 1000000 in
set_option maxRecDepth 100000 in
/-- The comparison that the sort is handed. -/
theorem closure_any (pb b o n i j c : Nat) (T : Nat → Nat) (w : World) (hp : w.cell? ⟨pb, 0, none⟩ = some (.slice (some ⟨b, o, none⟩) n c)) (hc : ∀ x, x < n → w.cell? ⟨b, o + x, none⟩ = some (.int .u8 (T x : Int))) (hTK : ∀ i, i < n → T i < 256) (hi : i < n) (hj : j < n) (hn : n ≤ c) :
    Calls Try.prog 26 #[.int .i64 i, .int .i64 j, .pointer (some ⟨pb, 0, none⟩)] w fun e w' => e = .returned (.int .i64 (cmpT T n i j)) ∧ ∃ m, w' = w.drewN m := by
  have hcmp : ∀ (w : World), (∀ x, x < n → w.cell? ⟨b, o + x, none⟩ = some (.int .u8 (T x : Int))) → ∀ ci cj, Calls Try.prog 27 #[.slice (some ⟨b, o + i, none⟩) (n - i) ci, .slice (some ⟨b, o + j, none⟩) (n - j) cj] w fun e w' => e = .returned (.int .i64 (cmpT T n i j)) ∧ w' = w := fun w hc ci cj => compare_any b o n i j ci cj T w hc hTK hi hj
  have HC := Lib.hid hc
  have HCMP := Lib.hid hcmp
  clear hc hTK hcmp
  have q1 : (i : Int) ≤ (n : Int) := by omega
  have q2 : (j : Int) ≤ (n : Int) := by omega
  have q3 : ¬ c = i := by omega
  have q4 : ¬ c = j := by omega
  have q5 : i ≤ n := by omega
  have q6 : j ≤ n := by omega
  go_enter Try.func26, Try.ntmps26
  go_wp2_with fail
  go_quiet ((refine Calls.quiet_of_same (HCMP.out (w.drewN _) ?_ _ _); exact HC.out))
  go_wp2_with fail
  go_ret
  exact ⟨rfl, nq, rfl⟩

set_option maxHeartbeats 1600000 in
set_option maxRecDepth 100000 in
/-- Two slices that hold the same numbers. -/
theorem equal_same (b o n c b' o' c' : Nat) (f : Nat → Int) (w : World) (hR : Row w .i64 b o n f) (hR' : Row w .i64 b' o' n f) (hn : n ≤ 1073741824) :
    Calls Try.prog 17 #[.slice (some ⟨b, o, none⟩) n c, .slice (some ⟨b', o', none⟩) n c'] w fun e w' => e = .returned (.bool true) ∧ ∃ m, w' = w.drewN m := by
  go_enter Try.func17, Try.ntmps17
  go_wp2_with fail
  go_loopw [13] (fun i wr => ∃ k : Nat, k ≤ n ∧ i = .int .i64 k ∧ Row wr .i64 b o n f ∧ Row wr .i64 b' o' n f ∧ ∃ m, wr = w.drewN m)
    (fun i _ => n - (intOf i).toNat)
  case atStart => exact ⟨0, Nat.zero_le _, rfl, hR, hR', 0, rfl⟩
  case round =>
    obtain ⟨k, hk, rfl, hA, hB, hm⟩ := hrel
    have HM := Lib.hid hm
    clear hm
    by_cases hkn : k < n
    · have hc1 := hA.cell k hkn
      have hc2 := hB.cell k hkn
      go_wp2_with fail
      go_quiet (fail)
      go_wp2_with fail
      go_roundw
      case rel =>
        obtain ⟨m, hm⟩ := HM.out
        exact ⟨k + 1, by omega, by simp, hA.drewN _, hB.drewN _, m + nq, by rw [hm, World.drewN_drewN]⟩
      case measure => simp [intOf]; omega
    · have hkn : k = n := by omega
      subst hkn
      go_wp2_with fail
      go_ret
      exact ⟨rfl, HM.out⟩

set_option maxHeartbeats 1600000 in
set_option maxRecDepth 100000 in
theorem equal_zero (a a' : Option Addr) (c c' : Nat) (w : World) :
    Calls Try.prog 17 #[.slice a 0 c, .slice a' 0 c'] w fun e w' => e = .returned (.bool true) ∧ w' = w := by
  go_enter Try.func17, Try.ntmps17
  go_wp2_with fail
  refine wp_loop_rounds 1 ?_
  rw [rounds_succ]
  go_wp2_with fail
  go_ret
  exact ⟨rfl, rfl⟩

/-- The sort of the places. -/
theorem sort_any (pb b o n c g cap : Nat) (T : Nat → Nat) (w : World) (h0 : 0 < n) (hn : n ≤ 1073741824) (hp : w.cell? ⟨pb, 0, none⟩ = some (.slice (some ⟨b, o, none⟩) n c)) (hc : ∀ x, x < n → w.cell? ⟨b, o + x, none⟩ = some (.int .u8 (T x : Int))) (hTK : ∀ i, i < n → T i < 256) (hnc : n ≤ c)
    (hgp : pb ≠ g) (hgb : b ≠ g) (hR : Row w .i64 g 0 n (fun x => (x : Int))) :
    Calls Try.prog 25 #[.slice (some ⟨g, 0, none⟩) n cap, .func (.func 26) #[] #[.pointer (some ⟨pb, 0, none⟩)]] w fun e w' =>
      e = .returned (.tuple #[]) ∧ ∃ f, IsSA T n f ∧ Row w' .i64 g 0 n (fun x => (f x : Int)) ∧ Kept (reg g 0 n) w w' := by
  have : Inhabited (Fin n) := ⟨⟨0, h0⟩⟩
  have eg : ∀ args w, (callFunc 26 args).run Try.prog w = .ok (.enter 26 args) w := enters_of Try.func26 (by kernel_rfl) rfl
  have hgl : g < w.heap.size := hR.lt h0
  have hH : Go.Sort.Holds (fun x : Fin n => Value.int .i64 (x.val : Int)) w g 0 (places n) := fun j hj => by
    rw [places_size] at hj
    rw [places_at n j hj]
    exact ⟨hR.cell j hj, hR.free j hj⟩
  have hcmp : CmpReads Try.prog 26 #[.pointer (some ⟨pb, 0, none⟩)] (fun x : Fin n => Value.int .i64 (x.val : Int)) (cfT T n) g 0 (places n).size w := fun m os dk hdk x y => by
    have cellK : ∀ bx ox v, bx ≠ g → w.cell? ⟨bx, ox, none⟩ = some v → (sortWorld (fun x : Fin n => Value.int .i64 (x.val : Int)) w g 0 m dk os).cell? ⟨bx, ox, none⟩ = some v := fun bx ox v hb hv => by
      unfold sortWorld
      rw [Go.Sort.cell?_grow _ _ _ (by simpa using cell_lt hv), Go.Sort.cell?_putRow_other _ _ _ _ _ _ (.inl hb)]
      exact hv
    exact closure_any pb b o n x.val y.val c T _ (cellK _ _ _ hgp hp) (fun z hz => cellK _ _ _ hgb (hc z hz)) hTK x.isLt y.isLt hnc
  have hS := Any.slices_SortFunc Try.sortL (fun x : Fin n => Value.int .i64 (x.val : Int)) (fun _ => rfl) (cfT T n) (swoT T n) 26 #[.pointer (some ⟨pb, 0, none⟩)] g 0 cap (places n) w eg hcmp.lays hH hgl (by rw [places_size]; omega)
  rw [places_size] at hS
  change Calls Try.prog 25 _ _ _ at hS
  refine hS.mono ?_
  rintro e w' ⟨rfl, d', m, os, hp', hs', rfl⟩
  obtain ⟨hds, hsa⟩ := sorted_sa hp' hs'
  refine ⟨rfl, _, hsa, ?_, ?_⟩
  · have h1 := Go.Sort.holds_grow _ _ os g 0 d' (by simpa using hgl) (Go.Sort.holds_putRow (fun x : Fin n => Value.int .i64 (x.val : Int)) (Go.Sort.ahead w m) g 0 (places n) d' hH (by rw [hds, places_size]))
    exact ⟨fun j hj => (h1 j (by omega)).1, fun j hj => (h1 j (by omega)).2⟩
  · have k1 : Kept (reg g 0 n) w (Go.Sort.putRow (fun x : Fin n => Value.int .i64 (x.val : Int)) (Go.Sort.ahead w m) g 0 d') := by
      refine ⟨rfl, rfl, rfl, by simp, fun x hx hr => ?_, fun x y hx hr => ?_, fun x y hx => by rw [Go.Sort.frozen?_putRow]; rfl⟩
      · have hne : x ≠ g := fun e => hr 0 ⟨e, Nat.zero_le _, by omega⟩
        unfold Go.Sort.putRow Go.Sort.mapBlock
        simp [Array.getElem?_modify, Ne.symm hne]
      · rw [Go.Sort.cell?_putRow_other _ _ _ _ _ _ (by
          by_cases e : x = g
          · right; right
            unfold reg at hr
            show 0 + d'.size ≤ y
            omega
          · left; exact e)]
        rfl
    refine k1.trans ⟨rfl, rfl, rfl, by simp [sortWorld], fun x hx _ => Go.Sort.heap_grow_old _ os hx, fun x y hx _ => Go.Sort.cell?_grow _ os _ hx, fun x y hx => Go.Sort.frozen?_grow _ os _ hx⟩

set_option maxHeartbeats 4000000 in
set_option maxRecDepth 100000 in
/-- The array of a text of some bytes, as the specification makes it. -/
theorem specArray_row (b o n c : Nat) (T : Nat → Nat) (w : World) (h0 : 0 < n) (hn : n ≤ 1048576) (hc : ∀ x, x < n → w.cell? ⟨b, o + x, none⟩ = some (.int .u8 (T x : Int))) (hTK : ∀ i, i < n → T i < 256) (hnc : n ≤ c) :
    Calls Try.prog 18 #[.slice (some ⟨b, o, none⟩) n c] w fun e w' =>
      ∃ g cap f, e = .returned (.slice (some ⟨g, 0, none⟩) n cap) ∧ IsSA T n f ∧ Row w' .i64 g 0 n (fun x => (f x : Int)) ∧ Kept (fun _ _ => False) w w' := by
  obtain ⟨i0, hi, hz0, hz1, hz2⟩ := info_parts info_int
  have hmf : ∀ (fn : Fn) (first cap : Array Value) (w : World), (Instr.makeFunc fn first cap).run Try.prog w = .ok (.func fn first cap) w := fun _ _ _ _ => rfl
  have HC := Lib.hid hc
  have HTK := Lib.hid hTK
  have HI := Lib.hid (And.intro hi (And.intro hz0 (And.intro hz1 hz2)))
  have hb : b < w.heap.size := cell_lt (hc 0 h0)
  clear hc hTK hi hz0 hz1 hz2
  have hbx : (w.alloc (.cells #[.slice (some ⟨b, o, none⟩) n c] 22)).cell? ⟨w.heap.size, 0, none⟩ = some (.slice (some ⟨b, o, none⟩) n c) := by
    rw [World.cell?_alloc_at _ _ _ _ rfl]; rfl
  have hbx2 : ((w.alloc (.cells #[.slice (some ⟨b, o, none⟩) n c] 22)).alloc (.cells #[] 3)).cell? ⟨w.heap.size, 0, none⟩ = some (.slice (some ⟨b, o, none⟩) n c) := by
    rw [World.cell?_alloc_past _ _ _ (by simp)]; exact hbx
  go_enter Try.func18, Try.ntmps18
  go_wp2
  go_loopw [3, 8] (fun v i wr => ∃ k : Nat, k ≤ n ∧ i = .int .i64 k ∧ OwnL wr (w.heap.size + 1) 3 .i64 v k (fun x => (x : Int)) ∧ wr.cell? ⟨w.heap.size, 0, none⟩ = some (.slice (some ⟨b, o, none⟩) n c) ∧ w.heap.size + 1 ≤ wr.heap.size ∧ Below w.heap.size w wr)
    (fun _ i _ => n - (intOf i).toNat)
  case atStart =>
    have h2 := World.ownsRow_made (base := w.heap.size + 1) (e := 3) (size := 1) (w.alloc (.cells #[.slice (some ⟨b, o, none⟩) n c] 22)) #[] 0 (by simp) (by unfold maxLen; omega) rfl
    rw [show (w.alloc (.cells #[.slice (some ⟨b, o, none⟩) n c] 22)).heap.size = w.heap.size + 1 by simp] at h2
    exact ⟨0, Nat.zero_le _, rfl, h2, hbx2, by simp, ((Below.refl _ _).alloc (Nat.le_refl _) _).alloc (by simp) _⟩
  case round =>
    obtain ⟨k, hk, rfl, ho, hbox, hsz, hnx⟩ := hrel
    by_cases hkn : k < n
    · obtain ⟨v', w1, hr1, hn1, hg1, _⟩ := append_one (P := Try.prog) 25 25 i0 Try.underlying25 HI.out.1 HI.out.2.1 HI.out.2.2.1 (by rw [HI.out.2.2.2]; omega) ho (by omega) hsz (k : Int)
      have hs1 := hg1.size
      have hbox' := hg1.cell hbox (fun e => by have := (ho.below _ e.symm).1; show False; simp at this; omega)
      have hnx' : Below w.heap.size w w1 := hnx.grown hg1 (by omega) fun x hx => by have := (ho.below x hx).1; omega
      have hN1 := Lib.hid (hn1.congr (g := fun x => (x : Int)) fun j hj => by
        by_cases e : j < k
        · simp [e]
        · have : j = k := by omega
          subst this; simp)
      have hNX := Lib.hid hnx'
      have hBX := Lib.hid hbox'
      clear hn1 hnx' hg1 hnx ho hbox hbox' hbx hbx2
      go_wp2_with (first
        | (at_builtin; refine Lib.wpList_append_run_sl _ rfl _ _ _ rfl _ _ rfl rfl hr1 ?_)
        | go_in)
      go_roundw
      case rel => exact ⟨k + 1, by omega, by simp, hN1.out, hBX.out, by omega, hNX.out⟩
      case measure => simp [intOf]; omega
    · have hkn : k = n := by omega
      subst hkn
      obtain ⟨g, cap, rfl, hgb, _, hR⟩ := own_row ho h0
      clear hbx hbx2 ho
      go_wp2_with fail
      refine (sort_any w.heap.size b o k c g cap T wr h0 (by omega) hbox (fun x hx => (hnx.cell (p := ⟨b, o + x, none⟩) hb).trans (HC.out x hx)) HTK.out hnc (by omega) (by omega) hR).mono ?_
      rintro e w2 ⟨rfl, f, hf, hRf, hk2⟩
      go_wp2_with fail
      go_ret
      exact ⟨g, cap, f, rfl, hf, hRf, (below_kept hnx).fresh hk2 fun x y hr => by have := hr.1; omega⟩

set_option maxHeartbeats 4000000 in
set_option maxRecDepth 100000 in
/-- The array of a text of no byte, as the specification makes it. -/
theorem specArray_zero (a : Option Addr) (c : Nat) (w : World) :
    Calls Try.prog 18 #[.slice a 0 c] w fun e w' => ∃ a' c', e = .returned (.slice a' 0 c') ∧ Kept (fun _ _ => False) w w' := by
  have hmf : ∀ (fn : Fn) (first cap : Array Value) (w : World), (Instr.makeFunc fn first cap).run Try.prog w = .ok (.func fn first cap) w := fun _ _ _ _ => rfl
  have hS := fun fv W => AnyF.slices_SortFunc_none (P := Try.prog) (ρ := Try.sortL_ren) { Try.sortL with } (some ⟨w.heap.size + 1, 0, none⟩) 0 fv W
  change ∀ fv W, Calls Try.prog 25 _ _ _ at hS
  have hbx : (w.alloc (.cells #[.slice a 0 c] 22)).cell? ⟨w.heap.size, 0, none⟩ = some (.slice a 0 c) := by
    rw [World.cell?_alloc_at _ _ _ _ rfl]; rfl
  have hbx2 : ((w.alloc (.cells #[.slice a 0 c] 22)).alloc (.cells #[] 3)).cell? ⟨w.heap.size, 0, none⟩ = some (.slice a 0 c) := by
    rw [World.cell?_alloc_past _ _ _ (by simp)]; exact hbx
  have HS := Lib.hid hS
  clear hS
  go_enter Try.func18, Try.ntmps18
  go_wp2
  refine wp_loop_rounds 1 ?_
  rw [rounds_succ]
  go_wp2_with fail
  refine (HS.out _ _).mono ?_
  rintro e w2 ⟨rfl, rfl⟩
  go_wp2_with fail
  go_ret
  exact ⟨_, _, rfl, (Kept.alloc _ _).trans (Kept.alloc _ _)⟩

end Go.Proofs.Ytpennngcehbioaa
