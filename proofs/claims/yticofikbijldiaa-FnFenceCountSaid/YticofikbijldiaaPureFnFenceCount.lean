/- FnFenceCount, the plain part: both sides are one number. No condition. -/
import Derived.Test.YticofikbijldiaaGFnFenceCountx1
namespace Go.Proofs.Yticofikbijldiaa.Pure
open Go.RowKit Go.Proofs.Yticofikbijldiaa.GFnFenceCount Go.Proofs.YticofikbijldiaaW.PrintWords Go.Proofs.YticofikbijldiaaW.PrintLast

theorem FnFenceCount : laws_FnFenceCount.Pure := by
  intro c s _ _
  unfold laws_FnFenceCount.f impl_FenceCount.f spec_Run29.f
  by_cases h : (s.size : Int) > 2147483647
  · rw [if_pos h]
  · rw [if_neg h, if_pos (show s.size ≤ 2147483647 by omega)]
    simp

end Go.Proofs.Yticofikbijldiaa.Pure
