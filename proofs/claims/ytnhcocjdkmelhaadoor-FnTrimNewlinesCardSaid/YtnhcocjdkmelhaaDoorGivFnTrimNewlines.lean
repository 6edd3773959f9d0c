/- What FnTrimNewlines's printed walk is given: laws.inlineLives is true. -/
import Derived.Test.YtnhcocjdkmelhaaDoorNewlines
namespace Go.Proofs.YtnhcocjdkmelhaaDoor.GFnTrimNewlines
open Go.RowKit Go.Proofs.YtnhcocjdkmelhaaDoorW.PrintWords Go.Proofs.YtnhcocjdkmelhaaDoorW.PrintLast Go.Proofs.YtnhcocjdkmelhaaDoorW.PrintMore
set_option linter.unusedVariables false

def laws_inlineLives.f : Option Bool := some true
theorem laws_inlineLives.calls (r : Bool) (w : World) (h : laws_inlineLives.f = some r) :
    Calls Tryd.prog 10 #[] w fun e w' => e = .returned (.bool r) ∧ Below w.heap.size w w' := by
  obtain rfl := Option.some.inj h
  exact Hand.lives_any w
def impl_TrimNewlines.f (k : Nat) (a0 : ByteArray) : Option ByteArray := if a0.size ≤ 2147483647 then (GTn.textutils_TrimConsecutiveNewlines.f k (Hand.bys a0)).bind fun r => some (strOfNums r) else none
theorem impl_TrimNewlines.mono : ∀ a0 k, LeO (impl_TrimNewlines.f k a0) (impl_TrimNewlines.f (k + 1) a0) := by
  intro a0 k r h
  unfold impl_TrimNewlines.f at h ⊢
  split at h
  · rename_i hs
    rw [if_pos hs]
    obtain ⟨x, hx, he⟩ := Option.bind_eq_some_iff.1 h
    rw [GTn.textutils_TrimConsecutiveNewlines.mono _ _ _ hx]
    exact he
  · exact absurd h (by simp)
theorem impl_TrimNewlines.calls (k : Nat) (a0 : ByteArray) (r : ByteArray) (w : World) (h : impl_TrimNewlines.f k a0 = some r) :
    Calls Tryd.prog 8 #[.string a0] w fun e w' => e = .returned (.string r) ∧ Below w.heap.size w w' := by
  unfold impl_TrimNewlines.f at h
  split at h
  · rename_i hs
    obtain ⟨x, hx, he⟩ := Option.bind_eq_some_iff.1 h
    obtain rfl := Option.some.inj he
    exact Hand.impl_trimNewlines a0 w hs k x hx
  · exact absurd h (by simp)
end Go.Proofs.YtnhcocjdkmelhaaDoor.GFnTrimNewlines
