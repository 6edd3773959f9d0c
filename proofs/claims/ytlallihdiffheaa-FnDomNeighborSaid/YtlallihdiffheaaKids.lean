/- dom.AllChildNodes, dom.AllChildElements by hand, and the rows that they tell. -/
import Derived.Test.YtlallihdiffheaaLiving
namespace Go.Proofs.Ytlallihdiffheaa.Dom
open Go.RowKit Go.Proofs.YtlallihdiffheaaW.PrintWords Go.Proofs.YtlallihdiffheaaW.PrintLast Go.Proofs.YtlallihdiffheaaW.PrintMore Go.Proofs.Ytlallihdiffheaa.GT Go.Proofs.Ytlallihdiffheaa.Hand
set_option linter.unusedVariables false
set_option linter.unusedSimpArgs false

/-- The children that count, each with its place; from place i on. -/
def rowK (e : Bool) : F Pay → Nat → List (Nat × Nat)
  | .nil, _ => []
  | .node b p k r, i => if e = false ∨ p.type = 3 then (b, i) :: rowK e r (i + 1) else rowK e r (i + 1)
theorem rowK_app (e : Bool) : ∀ (a g : F Pay) (i : Nat), rowK e (a.app g) i = rowK e a i ++ rowK e g (i + a.len)
  | .nil, g, i => rfl
  | .node b p k r, g, i => by
    simp only [F.app, rowK, F.len]
    rw [rowK_app e r g (i + 1), show i + 1 + r.len = i + (r.len + 1) by omega]
    split <;> simp
/-- Each of them stands at its place. -/
theorem rowK_at (e : Bool) : ∀ (a : F Pay) (i : Nat) (t : Nat × Nat), t ∈ rowK e a i → ∃ q ck r, i ≤ t.2 ∧ a.dropF (t.2 - i) = .node t.1 q ck r
  | .nil, i, t, h => by cases h
  | .node b p k r, i, t, h => by
    have tail : t ∈ rowK e r (i + 1) → ∃ q ck r', i ≤ t.2 ∧ (F.node b p k r).dropF (t.2 - i) = .node t.1 q ck r' := by
      intro h
      obtain ⟨q, ck, r', h1, h2⟩ := rowK_at e r (i + 1) t h
      refine ⟨q, ck, r', by omega, ?_⟩
      rw [show t.2 - i = (t.2 - (i + 1)) + 1 by omega]
      exact h2
    simp only [rowK] at h
    split at h
    · rcases List.mem_cons.1 h with h | h
      · subst h
        exact ⟨p, k, r, Nat.le_refl _, by simp [F.dropF]⟩
      · exact tail h
    · exact tail h
end Go.Proofs.Ytlallihdiffheaa.Dom
