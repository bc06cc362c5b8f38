import Derived.Test.Qxb6608627aDoorRound
import Derived.Scope
import Derived.ScopeJumps
namespace Go
section
variable {P : Program} {a : Act} {w : World} {Q : Exit → Act → World → Prop}
/-- As Q; by a goto: on at the label's place, from where no goto is taken. -/
def Proofs.Qxb6608627aDoor.fwd (P : Program) (c : Code) (Q : Exit → Act → World → Prop) : Exit → Act → World → Prop
  | .goto l, a, w => ∃ rest, findLabel c l = some rest ∧ rest.wp P (Exit.noGoto Q) a w
  | e, a, w => Q e a w
theorem Proofs.Qxb6608627aDoor.wp_scope_fwd {c : Code} (first : c.wp P (Proofs.Qxb6608627aDoor.fwd P c Q) a w) : (Code.scope c).wp P Q a w := by
  intro b k cs
  obtain ⟨e, a₁, w₁, hq, harr⟩ := first b (.inScope c :: k) cs
  cases e with
  | normal => exact ⟨.normal, a₁, w₁, hq, .head step_scope (Steps.trans harr (.one step_inScope))⟩
  | exit id => exact ⟨.exit id, a₁, w₁, hq, fun k' hk => .head step_scope (harr k' (by simp [exitTo, hk]))⟩
  | goto l' =>
    obtain ⟨rest, hf, hr⟩ := hq
    have hg : gotoIn l' (.inScope c :: k) = some (.code rest :: .inScope c :: k) := by simp [gotoIn, hf]
    obtain ⟨e₂, a₂, w₂, hq₂, harr₂⟩ := hr b (.inScope c :: k) cs
    cases e₂ with
    | normal => exact ⟨.normal, a₂, w₂, hq₂, .of_steps (.head step_scope (harr _ hg)) (Steps.trans harr₂ (.one step_inScope))⟩
    | exit id => exact ⟨.exit id, a₂, w₂, hq₂, .of_steps (.head step_scope (harr _ hg)) fun k' hk => harr₂ k' (by simp [exitTo, hk])⟩
    | goto l => exact hq₂.elim
    | ret => exact ⟨_, a₂, w₂, hq₂, .of_steps (.head step_scope (harr _ hg)) harr₂⟩
    | panic ch => exact ⟨_, a₂, w₂, hq₂, .of_steps (.head step_scope (harr _ hg)) harr₂⟩
    | outgrown => exact ⟨_, a₂, w₂, hq₂, .of_steps (.head step_scope (harr _ hg)) harr₂⟩
  | ret => exact ⟨_, a₁, w₁, hq, .of_steps (.one step_scope) harr⟩
  | panic ch => exact ⟨_, a₁, w₁, hq, .of_steps (.one step_scope) harr⟩
  | outgrown => exact ⟨_, a₁, w₁, hq, .of_steps (.one step_scope) harr⟩
theorem Proofs.Qxb6608627aDoor.fwd_goto {c rest : Code} {l : Nat} (hf : findLabel c l = some rest) (h : rest.wp P (Exit.noGoto Q) a w) : Proofs.Qxb6608627aDoor.fwd P c Q (.goto l) a w := ⟨rest, hf, h⟩
theorem Proofs.Qxb6608627aDoor.fwd_ret {c : Code} : Proofs.Qxb6608627aDoor.fwd P c Q .ret a w = Q .ret a w := rfl
end
end Go
