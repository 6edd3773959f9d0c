/- What FnPercent's printed walk is given: laws.inlineLives is true. -/
import Derived.Test.YticofikbijldiaaDoors
namespace Go.Proofs.Yticofikbijldiaa.GFnPercent
open Go.RowKit Go.Proofs.YticofikbijldiaaW.PrintWords Go.Proofs.YticofikbijldiaaW.PrintLast Go.Proofs.YticofikbijldiaaW.PrintMore
set_option linter.unusedVariables false

def laws_inlineLives.f : Option Bool := some true
theorem laws_inlineLives.calls (r : Bool) (w : World) (h : laws_inlineLives.f = some r) :
    Calls Try.prog 38 #[] w fun e w' => e = .returned (.bool r) ∧ Below w.heap.size w w' := by
  obtain rfl := Option.some.inj h
  exact Hand.lives_any w
end Go.Proofs.Yticofikbijldiaa.GFnPercent
