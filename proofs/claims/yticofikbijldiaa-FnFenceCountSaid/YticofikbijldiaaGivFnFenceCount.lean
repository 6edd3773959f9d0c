/- What FnFenceCount's printed walk is given: the contracts of impl.FenceCount and spec.Run29, for texts of at most 2147483647 bytes. -/
import Derived.Test.YticofikbijldiaaFence
namespace Go.Proofs.Yticofikbijldiaa.GFnFenceCount
open Go.RowKit Go.Proofs.YticofikbijldiaaW.PrintWords Go.Proofs.YticofikbijldiaaW.PrintLast Go.Proofs.YticofikbijldiaaW.PrintMore
set_option linter.unusedVariables false

def spec_Run29.f (a0 : Int) (a1 : ByteArray) : Option Int := if a1.size ≤ 2147483647 then some ((Hand.runOf a0 (Hand.runes a1) : Nat) : Int) else none
theorem spec_Run29.calls (a0 : Int) (a1 : ByteArray) (r : Int) (w : World) (h : spec_Run29.f a0 a1 = some r) :
    Calls Try.prog 22 #[.int .i32 a0, .string a1] w fun e w' => e = .returned (.int .i64 r) ∧ Below w.heap.size w w' := by
  unfold spec_Run29.f at h
  split at h
  · rename_i hs
    obtain rfl := Option.some.inj h
    exact Hand.run29_any a0 a1 w hs
  · exact absurd h (by simp)
def impl_FenceCount.f (a0 : Int) (a1 : ByteArray) : Option Int := if a1.size ≤ 2147483647 then some ((Hand.runOf a0 (Hand.runes a1) : Nat) : Int) else none
theorem impl_FenceCount.calls (a0 : Int) (a1 : ByteArray) (r : Int) (w : World) (h : impl_FenceCount.f a0 a1 = some r) :
    Calls Try.prog 21 #[.int .i32 a0, .string a1] w fun e w' => e = .returned (.int .i64 r) ∧ Below w.heap.size w w' := by
  unfold impl_FenceCount.f at h
  split at h
  · rename_i hs
    obtain rfl := Option.some.inj h
    clear h
    go_enter Try.func21, Try.ntmps21
    go_wp2_with (go_at_call 47; refine (Hand.fence_any _ _ _ hs).mono ?_; rintro e w' ⟨rfl, hb⟩)
    go_ret
    exact ⟨rfl, hb⟩
  · exact absurd h (by simp)
end Go.Proofs.Yticofikbijldiaa.GFnFenceCount
