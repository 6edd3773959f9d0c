/- What FnSpaces's printed walk is given: impl.Spaces, spec.Middle29, spec.Blank29. -/
import Derived.Test.YtnhcocjdkmelhaaDoorSpacesSpec
namespace Go.Proofs.YtnhcocjdkmelhaaDoor.GFnSpaces
open Go.RowKit Go.Proofs.YtnhcocjdkmelhaaDoorW.PrintWords Go.Proofs.YtnhcocjdkmelhaaDoorW.PrintLast Go.Proofs.YtnhcocjdkmelhaaDoorW.PrintMore
set_option linter.unusedVariables false

def impl_Spaces.f (a0 : ByteArray) : Option (ByteArray × ByteArray × ByteArray) := if a0.size ≤ 2147483647 then some (Hand.spacesOf a0) else none
theorem impl_Spaces.calls (a0 : ByteArray) (r1 r2 r3 : ByteArray) (w : World) (h : impl_Spaces.f a0 = some (r1, r2, r3)) (hT : Hand.TabB w) :
    Calls Tryd.prog 11 #[.string a0] w fun e w' => e = .returned (.tuple #[.string r1, .string r2, .string r3]) ∧ Below w.heap.size w w' := by
  unfold impl_Spaces.f at h
  split at h
  · rename_i hs
    have h := Option.some.inj h
    have := Hand.spaces_any a0 w hs hT
    rw [h] at this
    exact this
  · cases h
def spec_Middle29.f (a0 : ByteArray) : Option (ByteArray × Int) := if a0.size ≤ 2147483647 then some (Hand.midOut a0) else none
theorem spec_Middle29.calls (a0 : ByteArray) (r1 : ByteArray) (r2 : Int) (w : World) (h : spec_Middle29.f a0 = some (r1, r2)) (hT : Hand.TabB w) :
    Calls Tryd.prog 12 #[.string a0] w fun e w' => e = .returned (.tuple #[.string r1, .int .i64 r2]) ∧ Below w.heap.size w w' := by
  unfold spec_Middle29.f at h
  split at h
  · rename_i hs
    have h := Option.some.inj h
    have := Hand.middle29_any a0 hs w hT
    rw [h] at this
    exact this
  · cases h
def spec_Blank29.f (a0 : ByteArray) : Option Bool := if a0.size ≤ 2147483647 then some (Utf.allSp a0 a0.size 0) else none
theorem spec_Blank29.calls (a0 : ByteArray) (r : Bool) (w : World) (h : spec_Blank29.f a0 = some r) (hT : Hand.TabB w) :
    Calls Tryd.prog 13 #[.string a0] w fun e w' => e = .returned (.bool r) ∧ Below w.heap.size w w' := by
  unfold spec_Blank29.f at h
  split at h
  · rename_i hs
    obtain rfl := Option.some.inj h
    exact Hand.blank29_any a0 hs w hT
  · cases h
end Go.Proofs.YtnhcocjdkmelhaaDoor.GFnSpaces
