/- What FnBlanks's printed walk is given: the contract of impl.Blanks, for texts of at most 2147483647 bytes. -/
import Derived.Test.YticofikbijldiaaDoors
namespace Go.Proofs.Yticofikbijldiaa.GFnBlanks
open Go.RowKit Go.Proofs.YticofikbijldiaaW.PrintWords Go.Proofs.YticofikbijldiaaW.PrintLast Go.Proofs.YticofikbijldiaaW.PrintMore
set_option linter.unusedVariables false

def impl_Blanks.f (a0 : ByteArray) : Option ByteArray := if a0.size ≤ 2147483647 then some (strOfNums (Hand.col (Hand.bys a0))) else none
theorem impl_Blanks.calls (a0 : ByteArray) (r : ByteArray) (w : World) (h : impl_Blanks.f a0 = some r) :
    Calls Try.prog 33 #[.string a0] w fun e w' => e = .returned (.string r) ∧ Below w.heap.size w w' := by
  unfold impl_Blanks.f at h
  split at h
  · rename_i hs
    obtain rfl := Option.some.inj h
    exact Hand.impl_blanks a0 w hs
  · exact absurd h (by simp)
end Go.Proofs.Yticofikbijldiaa.GFnBlanks
