/- A scope in which the run jumps back to its one label: what holds at the label, by a number that falls. -/
import Derived.ScopeJumps
namespace Go.Proofs.YtmfihkgbfoapaaaDoor
open Go

section
variable {P : Program} {a : Act} {w : World} {Q : Exit → Act → World → Prop}

theorem wp_scope_redo {c X : Code} (l : Nat) (J : Nat → Act → World → Prop) (hf : findLabel c l = some (.seq .skip X))
    (pass : ∀ n a w, J n a w → X.wp P (Exit.jump l (fun a' w' => ∃ m, m < n ∧ J m a' w') Q) a w)
    (first : (∀ n a w, J n a w → X.wp P (Exit.jump l (fun a' w' => ∃ m, J m a' w') Q) a w) → c.wp P (Exit.jump l (fun a' w' => ∃ m, J m a' w') Q) a w) : (Code.scope c).wp P Q a w := by
  have hX : ∀ (a : Act) (w : World) (Q' : Exit → Act → World → Prop), X.wp P Q' a w → (Code.seq .skip X).wp P Q' a w := fun a w Q' h => wp_seq (wp_skip h)
  intro b k cs
  have hg : gotoIn l (.inScope c :: k) = some (.code (.seq .skip X) :: .inScope c :: k) := by simp [gotoIn, hf]
  have key : ∀ n a w, J n a w → ∃ e a' w', Q e a' w' ∧ Arrives P (lone (b.at a (.code (.seq .skip X) :: .inScope c :: k)) cs w) b k cs e a' w' := by
    intro n
    induction n using Nat.strongRecOn with
    | _ n ih =>
      intro a w hJ
      obtain ⟨e, a₁, w₁, hq, harr⟩ := hX _ _ _ (pass n a w hJ) b (.inScope c :: k) cs
      cases e with
      | normal => exact ⟨.normal, a₁, w₁, hq, Steps.trans harr (.one step_inScope)⟩
      | exit id => exact ⟨.exit id, a₁, w₁, hq, fun k' hk => harr k' (by simp [exitTo, hk])⟩
      | goto l' =>
        obtain ⟨rfl, m, hm, hJ'⟩ := hq
        obtain ⟨e₂, a₂, w₂, hq₂, harr₂⟩ := ih m hm a₁ w₁ hJ'
        exact ⟨e₂, a₂, w₂, hq₂, .of_steps (harr _ hg) harr₂⟩
      | ret => exact ⟨_, a₁, w₁, hq, harr⟩
      | panic ch => exact ⟨_, a₁, w₁, hq, harr⟩
      | outgrown => exact ⟨_, a₁, w₁, hq, harr⟩
  have pass' : ∀ n a w, J n a w → X.wp P (Exit.jump l (fun a' w' => ∃ m, J m a' w') Q) a w := by
    intro n a w hJ b' k' cs'
    obtain ⟨e, a₁, w₁, hq, harr⟩ := pass n a w hJ b' k' cs'
    refine ⟨e, a₁, w₁, ?_, harr⟩
    cases e with
    | goto l' => obtain ⟨h1, m, _, h2⟩ := hq; exact ⟨h1, m, h2⟩
    | normal => exact hq
    | exit id => exact hq
    | ret => exact hq
    | panic ch => exact hq
    | outgrown => exact hq
  obtain ⟨e, a₁, w₁, hq, harr⟩ := first pass' b (.inScope c :: k) cs
  cases e with
  | normal => exact ⟨.normal, a₁, w₁, hq, .head step_scope (Steps.trans harr (.one step_inScope))⟩
  | exit id => exact ⟨.exit id, a₁, w₁, hq, fun k' hk => .head step_scope (harr k' (by simp [exitTo, hk]))⟩
  | goto l' =>
    obtain ⟨rfl, m, hJ'⟩ := hq
    obtain ⟨e₂, a₂, w₂, hq₂, harr₂⟩ := key m a₁ w₁ hJ'
    exact ⟨e₂, a₂, w₂, hq₂, .of_steps (.head step_scope (harr _ hg)) harr₂⟩
  | ret => exact ⟨_, a₁, w₁, hq, .of_steps (.one step_scope) harr⟩
  | panic ch => exact ⟨_, a₁, w₁, hq, .of_steps (.one step_scope) harr⟩
  | outgrown => exact ⟨_, a₁, w₁, hq, .of_steps (.one step_scope) harr⟩
end
end Go.Proofs.YtmfihkgbfoapaaaDoor
