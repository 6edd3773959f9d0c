/- What FnPound's printed walk is given: the contract of impl.Pound, for texts of 1 to 2147483647 bytes, of two at least where the last one is a pound sign. -/
import Derived.Test.YticofikbijldiaaPoundSpec
namespace Go.Proofs.Yticofikbijldiaa.GFnPound
open Go.RowKit Go.Proofs.YticofikbijldiaaW.PrintWords Go.Proofs.YticofikbijldiaaW.PrintLast Go.Proofs.YticofikbijldiaaW.PrintMore
set_option linter.unusedVariables false

def impl_Pound.f (a0 : ByteArray) : Option ByteArray := if 0 < a0.size ∧ a0.size ≤ 2147483647 ∧ (bt a0 ((a0.size : Int) - 1) = 35 → 2 ≤ a0.size) then some (Hand.poundOf a0) else none
theorem impl_Pound.calls (a0 : ByteArray) (r : ByteArray) (w : World) (h : impl_Pound.f a0 = some r) :
    Calls Try.prog 24 #[.string a0] w fun e w' => e = .returned (.string r) ∧ Below w.heap.size w w' := by
  unfold impl_Pound.f at h
  split at h
  · rename_i hs
    obtain rfl := Option.some.inj h
    exact Hand.pound_any a0 w hs.1 hs.2.1 hs.2.2
  · exact absurd h (by simp)
def spec_Pound.f (a0 : ByteArray) : Option ByteArray := if 0 < a0.size ∧ a0.size ≤ 2147483647 ∧ (bt a0 ((a0.size : Int) - 1) = 35 → 2 ≤ a0.size) then some (Hand.specPound a0) else none
theorem spec_Pound.calls (a0 : ByteArray) (r : ByteArray) (w : World) (h : spec_Pound.f a0 = some r) :
    Calls Try.prog 25 #[.string a0] w fun e w' => e = .returned (.string r) ∧ Below w.heap.size w w' := by
  unfold spec_Pound.f at h
  split at h
  · rename_i hs
    obtain rfl := Option.some.inj h
    exact Hand.spec_pound_any a0 w hs.1 hs.2.1 hs.2.2
  · exact absurd h (by simp)
end Go.Proofs.Yticofikbijldiaa.GFnPound
