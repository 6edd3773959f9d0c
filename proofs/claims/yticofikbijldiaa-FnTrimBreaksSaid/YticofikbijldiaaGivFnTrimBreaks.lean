/- What FnTrimBreaks's printed walk is given: laws.inlineLives is true. -/
import Derived.Test.YticofikbijldiaaDoors
namespace Go.Proofs.Yticofikbijldiaa.GFnTrimBreaks
open Go.RowKit Go.Proofs.YticofikbijldiaaW.PrintWords Go.Proofs.YticofikbijldiaaW.PrintLast Go.Proofs.YticofikbijldiaaW.PrintMore
set_option linter.unusedVariables false

def laws_inlineLives.f : Option Bool := some true
theorem laws_inlineLives.calls (r : Bool) (w : World) (h : laws_inlineLives.f = some r) :
    Calls Try.prog 38 #[] w fun e w' => e = .returned (.bool r) ∧ Below w.heap.size w w' := by
  obtain rfl := Option.some.inj h
  exact Hand.lives_any w
def impl_TrimBreaks.f (k : Nat) (a0 : ByteArray) : Option ByteArray := if a0.size ≤ 2147483647 then (GIn1.textutils_TrimUnnecessaryHardLineBreaks.f k (Hand.bys a0)).bind fun r => some (strOfNums r) else none
theorem impl_TrimBreaks.mono : ∀ a0 k, LeO (impl_TrimBreaks.f k a0) (impl_TrimBreaks.f (k + 1) a0) := by
  intro a0 k r h
  unfold impl_TrimBreaks.f at h ⊢
  split at h
  · rename_i hs
    rw [if_pos hs]
    obtain ⟨x, hx, he⟩ := Option.bind_eq_some_iff.1 h
    rw [GIn1.textutils_TrimUnnecessaryHardLineBreaks.mono _ _ _ hx]
    exact he
  · exact absurd h (by simp)
theorem impl_TrimBreaks.calls (k : Nat) (a0 : ByteArray) (r : ByteArray) (w : World) (h : impl_TrimBreaks.f k a0 = some r) :
    Calls Try.prog 36 #[.string a0] w fun e w' => e = .returned (.string r) ∧ Below w.heap.size w w' := by
  unfold impl_TrimBreaks.f at h
  split at h
  · rename_i hs
    obtain ⟨x, hx, he⟩ := Option.bind_eq_some_iff.1 h
    obtain rfl := Option.some.inj he
    exact Hand.impl_trimBreaks a0 w hs k x hx
  · exact absurd h (by simp)
end Go.Proofs.Yticofikbijldiaa.GFnTrimBreaks
