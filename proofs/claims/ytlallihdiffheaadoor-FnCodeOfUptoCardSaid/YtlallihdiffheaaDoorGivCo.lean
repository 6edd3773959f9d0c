/- What code29's printed walk is given: spec.Blank29 at texts of ASCII. -/
import Derived.Test.YtlallihdiffheaaDoorCdBlank
namespace Go.Proofs.YtlallihdiffheaaDoor.GCo
open Go.RowKit Go.Proofs.YtlallihdiffheaaDoorW.PrintWords Go.Proofs.YtlallihdiffheaaDoorW.PrintLast Go.Proofs.YtlallihdiffheaaDoorW.PrintMore
set_option linter.unusedVariables false

def spec_Blank29.f (a0 : ByteArray) : Option Bool := if a0.size ≤ 2147483647 ∧ Hand.asc7 a0 = true then some (Hand.blankA a0 a0.size) else none
theorem spec_Blank29.calls (a0 : ByteArray) (r : Bool) (w : World) (h : spec_Blank29.f a0 = some r) :
    Calls Tryd.prog 35 #[.string a0] w fun e w' => e = .returned (.bool r) ∧ Below w.heap.size w w' := by
  unfold spec_Blank29.f at h
  split at h
  · rename_i hs
    obtain rfl := Option.some.inj h
    exact Hand.blank29A_any a0 hs.1 hs.2 w
  · cases h
end Go.Proofs.YtlallihdiffheaaDoor.GCo
