/-
  The array of a text, by numbers of 32 bits or of 64, whatever its length. No condition but those typed.
-/
import Derived.Test.YthmpjmohakdkmaaWj832
import Derived.Test.YthmpjmohakdkmaaWj864
namespace Go.Proofs.Ythmpjmohakdkmaa
open Go.RowKit

theorem arr_any (wide : Bool) (a : Option Addr) (n c : Nat) (T : Nat → Nat) (w : World) (hin : 0 < n → ∃ b o, a = some ⟨b, o, none⟩ ∧ ∀ j, j < n → w.cell? ⟨b, o + j, none⟩ = some (.int .u8 (T j : Int))) (hTK : ∀ i, i < n → T i < 256) (hn : n ≤ 1073741824) :
    Calls Try.prog 9 #[.bool wide, .slice a n c] w (ArrPost T n w) := by
  cases wide
  · exact arr_32_any a n c T w hin hTK hn
  · exact arr_64_any a n c T w hin hTK hn

/-- What is handed on of an array: no slice is told of a text of no byte; a stretch of its own. -/
theorem ArrPost.some {T : Nat → Nat} {n : Nat} {w : World} {e : Ending} {w' : World} (h : ArrPost T n w e w') (h0 : 0 < n) :
    ∃ b c g, e = .returned (.slice (Option.some ⟨b, 0, none⟩) n c) ∧ n ≤ c ∧ w.heap.size ≤ b ∧ IsSA T n g ∧ Row w' .i64 b 0 n (fun x => (g x : Int)) ∧ Kept (fun _ _ => False) w w' := by
  obtain ⟨v, g, rfl, hg, ho, hk⟩ := h
  obtain ⟨b, c, rfl, hb, hc, hR⟩ := own_row ho h0
  exact ⟨b, c, g, rfl, hc, hb, hg, hR, hk⟩
theorem ArrPost.zero {T : Nat → Nat} {w : World} {e : Ending} {w' : World} (h : ArrPost T 0 w e w') : ∃ a c, e = .returned (.slice a 0 c) ∧ Kept (fun _ _ => False) w w' := by
  obtain ⟨v, g, rfl, hg, ho, hk⟩ := h
  obtain ⟨a, c, rfl⟩ := own_zero ho
  exact ⟨a, c, rfl, hk⟩

/-- What came in is still there. -/
theorem in_kept {a : Option Addr} {n : Nat} {T : Nat → Nat} {w w' : World} (h : 0 < n → ∃ b o, a = some ⟨b, o, none⟩ ∧ ∀ j, j < n → w.cell? ⟨b, o + j, none⟩ = some (.int .u8 (T j : Int))) (hk : Kept (fun _ _ => False) w w') :
    0 < n → ∃ b o, a = some ⟨b, o, none⟩ ∧ ∀ j, j < n → w'.cell? ⟨b, o + j, none⟩ = some (.int .u8 (T j : Int)) := fun h0 => by
  obtain ⟨b, o, rfl, hc⟩ := h h0
  exact ⟨b, o, rfl, fun j hj => by rw [hk.cell _ _ (cell_lt (hc j hj)) (fun hf => hf)]; exact hc j hj⟩

end Go.Proofs.Ythmpjmohakdkmaa
