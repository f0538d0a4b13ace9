/- A scope whose label is jumped to from ahead of it, and out of which the run may jump to a label of a scope around it. -/
import Derived.WalkMore
import Derived.ScopeJumps
import Derived.LoopTactic
namespace Go.Proofs.YthnbifkcbeldmaaDoor
open Go
set_option linter.unusedVariables false

/-- by a goto to the scope's own label: J; by a goto to a label that the scope lacks: as Q says -/
def fwd (l : Nat) (c : Code) (J : Act → World → Prop) (Q : Exit → Act → World → Prop) : Exit → Act → World → Prop
  | .goto l', a, w => (l' = l ∧ J a w) ∨ (l' ≠ l ∧ findLabel c l' = none ∧ Q (.goto l') a w)
  | e, a, w => Q e a w
section
variable {P : Program} {a : Act} {w : World} {Q : Exit → Act → World → Prop} {l : Nat} {c : Code} {J : Act → World → Prop}
theorem fwd_ret : fwd l c J Q .ret a w = Q .ret a w := rfl
theorem fwd_of_ret (h : Q .ret a w) : fwd l c J Q .ret a w := h
theorem fwd_of_normal (h : Q .normal a w) : fwd l c J Q .normal a w := h
theorem fwd_normal : fwd l c J Q .normal a w = Q .normal a w := rfl
theorem fwd_exit (id : Nat) : fwd l c J Q (.exit id) a w = Q (.exit id) a w := rfl
theorem fwd_panic (ch : List PanicEntry) : fwd l c J Q (.panic ch) a w = Q (.panic ch) a w := rfl
theorem fwd_to (h : J a w) : fwd l c J Q (.goto l) a w := .inl ⟨rfl, h⟩
theorem fwd_out {l' : Nat} (h1 : l' ≠ l) (h2 : findLabel c l' = none) (h : Q (.goto l') a w) : fwd l c J Q (.goto l') a w := .inr ⟨h1, h2, h⟩
theorem wp_scope_fwd {rest : Code} (l : Nat) (J : Act → World → Prop) (hf : findLabel c l = some rest)
    (first : c.wp P (fwd l c J Q) a w)
    (pass : ∀ a w, J a w → rest.wp P (fwd l c (fun _ _ => False) Q) a w) : (Code.scope c).wp P Q a w := by
  intro b k cs
  have hg : gotoIn l (.inScope c :: k) = some (.code rest :: .inScope c :: k) := by simp [gotoIn, hf]
  have key : ∀ a w, J a w → ∃ e a' w', Q e a' w' ∧ Arrives P (lone (b.at a (.code rest :: .inScope c :: k)) cs w) b k cs e a' w' := by
    intro a w hJ
    obtain ⟨e, a₁, w₁, hq, harr⟩ := pass a w hJ b (.inScope c :: k) cs
    cases e with
    | normal => exact ⟨.normal, a₁, w₁, hq, Steps.trans harr (.one step_inScope)⟩
    | exit id => exact ⟨.exit id, a₁, w₁, hq, fun k' hk => harr k' (by simp [exitTo, hk])⟩
    | goto l' =>
      rcases hq with ⟨_, h⟩ | ⟨h1, h2, h3⟩
      · exact h.elim
      · exact ⟨.goto l', a₁, w₁, h3, fun k' hk => harr k' (by simp [gotoIn, h2, hk])⟩
    | ret => exact ⟨_, a₁, w₁, hq, harr⟩
    | panic ch => exact ⟨_, a₁, w₁, hq, harr⟩
    | outgrown => exact ⟨_, a₁, w₁, hq, harr⟩
  obtain ⟨e, a₁, w₁, hq, harr⟩ := first b (.inScope c :: k) cs
  cases e with
  | normal => exact ⟨.normal, a₁, w₁, hq, .head step_scope (Steps.trans harr (.one step_inScope))⟩
  | exit id => exact ⟨.exit id, a₁, w₁, hq, fun k' hk => .head step_scope (harr k' (by simp [exitTo, hk]))⟩
  | goto l' =>
    rcases hq with ⟨rfl, hJ⟩ | ⟨h1, h2, h3⟩
    · obtain ⟨e₂, a₂, w₂, hq₂, harr₂⟩ := key a₁ w₁ hJ
      exact ⟨e₂, a₂, w₂, hq₂, .of_steps (.head step_scope (harr _ hg)) harr₂⟩
    · exact ⟨.goto l', a₁, w₁, h3, fun k' hk => .head step_scope (harr k' (by simp [gotoIn, h2, hk]))⟩
  | ret => exact ⟨_, a₁, w₁, hq, .of_steps (.one step_scope) harr⟩
  | panic ch => exact ⟨_, a₁, w₁, hq, .of_steps (.one step_scope) harr⟩
  | outgrown => exact ⟨_, a₁, w₁, hq, .of_steps (.one step_scope) harr⟩
end
end Go.Proofs.YthnbifkcbeldmaaDoor
