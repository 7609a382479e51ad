/-
  A scope with two labels to which the run jumps forward: the walk goes on behind the label. No condition.
-/
import Derived.Test.YtfpihnfhmefeaaaGreatDoorBits
import Derived.WalkMore
import Derived.ScopeJumps
namespace Go.Proofs.YtfpihnfhmefeaaaGreatDoor

/-- As Q; by a goto to label 1: what follows it. -/
def fwd1 (P : Program) (r1 : Code) (Q : Exit → Act → World → Prop) : Exit → Act → World → Prop
  | .goto l, a, w => l = 1 ∧ r1.wp P (Exit.noGoto Q) a w
  | e, a, w => Q e a w
/-- As Q; by a goto to label 0 or 1: what follows it. -/
def fwd2 (P : Program) (r0 r1 : Code) (Q : Exit → Act → World → Prop) : Exit → Act → World → Prop
  | .goto l, a, w => (l = 0 ∧ r0.wp P (fwd1 P r1 Q) a w) ∨ (l = 1 ∧ r1.wp P (Exit.noGoto Q) a w)
  | e, a, w => Q e a w

section
variable {P : Program} {a : Act} {w : World} {Q : Exit → Act → World → Prop} {r0 r1 : Code}
@[go_sem] theorem fwd1_normal : fwd1 P r1 Q .normal a w = Q .normal a w := rfl
@[go_sem] theorem fwd2_normal : fwd2 P r0 r1 Q .normal a w = Q .normal a w := rfl
theorem fwd2_to0 (h : r0.wp P (fwd1 P r1 Q) a w) : fwd2 P r0 r1 Q (.goto 0) a w := .inl ⟨rfl, h⟩
theorem fwd2_to1 (h : r1.wp P (Exit.noGoto Q) a w) : fwd2 P r0 r1 Q (.goto 1) a w := .inr ⟨rfl, h⟩

theorem wp_scope_fwd {c : Code} (hf0 : findLabel c 0 = some r0) (hf1 : findLabel c 1 = some r1) (h : c.wp P (fwd2 P r0 r1 Q) a w) : (Code.scope c).wp P Q a w := by
  intro b k cs
  have hg0 : gotoIn 0 (.inScope c :: k) = some (.code r0 :: .inScope c :: k) := by simp [gotoIn, hf0]
  have hg1 : gotoIn 1 (.inScope c :: k) = some (.code r1 :: .inScope c :: k) := by simp [gotoIn, hf1]
  have key1 : ∀ a w, r1.wp P (Exit.noGoto Q) a w → ∃ e a' w', Q e a' w' ∧ Arrives P (lone (b.at a (.code r1 :: .inScope c :: k)) cs w) b k cs e a' w' := by
    intro a w h1
    obtain ⟨e, a₁, w₁, hq, harr⟩ := h1 b (.inScope c :: k) cs
    cases e with
    | normal => exact ⟨.normal, a₁, w₁, hq, Steps.trans harr (.one step_inScope)⟩
    | exit id => exact ⟨.exit id, a₁, w₁, hq, fun k' hk => harr k' (by simp [exitTo, hk])⟩
    | goto l' => exact hq.elim
    | ret => exact ⟨_, a₁, w₁, hq, harr⟩
    | panic ch => exact ⟨_, a₁, w₁, hq, harr⟩
    | outgrown => exact ⟨_, a₁, w₁, hq, harr⟩
  have key0 : ∀ a w, r0.wp P (fwd1 P r1 Q) a w → ∃ e a' w', Q e a' w' ∧ Arrives P (lone (b.at a (.code r0 :: .inScope c :: k)) cs w) b k cs e a' w' := by
    intro a w h0
    obtain ⟨e, a₁, w₁, hq, harr⟩ := h0 b (.inScope c :: k) cs
    cases e with
    | normal => exact ⟨.normal, a₁, w₁, hq, Steps.trans harr (.one step_inScope)⟩
    | exit id => exact ⟨.exit id, a₁, w₁, hq, fun k' hk => harr k' (by simp [exitTo, hk])⟩
    | goto l' =>
      obtain ⟨rfl, hJ⟩ := hq
      obtain ⟨e₂, a₂, w₂, hq₂, harr₂⟩ := key1 a₁ w₁ hJ
      exact ⟨e₂, a₂, w₂, hq₂, .of_steps (harr _ hg1) harr₂⟩
    | ret => exact ⟨_, a₁, w₁, hq, harr⟩
    | panic ch => exact ⟨_, a₁, w₁, hq, harr⟩
    | outgrown => exact ⟨_, a₁, w₁, hq, harr⟩
  obtain ⟨e, a₁, w₁, hq, harr⟩ := h b (.inScope c :: k) cs
  cases e with
  | normal => exact ⟨.normal, a₁, w₁, hq, .head step_scope (Steps.trans harr (.one step_inScope))⟩
  | exit id => exact ⟨.exit id, a₁, w₁, hq, fun k' hk => .head step_scope (harr k' (by simp [exitTo, hk]))⟩
  | goto l' =>
    rcases hq with ⟨rfl, hJ⟩ | ⟨rfl, hJ⟩
    · obtain ⟨e₂, a₂, w₂, hq₂, harr₂⟩ := key0 a₁ w₁ hJ
      exact ⟨e₂, a₂, w₂, hq₂, .of_steps (.head step_scope (harr _ hg0)) harr₂⟩
    · obtain ⟨e₂, a₂, w₂, hq₂, harr₂⟩ := key1 a₁ w₁ hJ
      exact ⟨e₂, a₂, w₂, hq₂, .of_steps (.head step_scope (harr _ hg1)) harr₂⟩
  | ret => exact ⟨_, a₁, w₁, hq, .of_steps (.one step_scope) harr⟩
  | panic ch => exact ⟨_, a₁, w₁, hq, .of_steps (.one step_scope) harr⟩
  | outgrown => exact ⟨_, a₁, w₁, hq, .of_steps (.one step_scope) harr⟩
end

end Go.Proofs.YtfpihnfhmefeaaaGreatDoor

