/- What FnInlineCode's printed walk is given: the contract of impl.InlineCode. -/
import Derived.Test.YtnhcocjdkmelhaaDoorCollapse
namespace Go.Proofs.YtnhcocjdkmelhaaDoor.GFnInlineCode
open Go.RowKit Go.Proofs.YtnhcocjdkmelhaaDoorW.PrintWords Go.Proofs.YtnhcocjdkmelhaaDoorW.PrintLast Go.Proofs.YtnhcocjdkmelhaaDoorW.PrintMore
set_option linter.unusedVariables false

def impl_InlineCode.f (k : Nat) (a0 : ByteArray) : Option ByteArray :=
  if a0.size ≤ 1000 then (GIn1.textutils_zzReplaceAll.f k (Hand.bys a0) ⟨#[10]⟩ ⟨#[32]⟩).bind fun r1 => (GIn1.textutils_zzReplaceAll.f k r1 ⟨#[9]⟩ ⟨#[32]⟩).bind fun r2 =>
    if r1.length ≤ 1000 ∧ r2.length ≤ 1000 ∧ (∀ x ∈ r2, 0 ≤ x ∧ x < 128) then some (strOfNums (Hand.sq (Hand.trimL r2)).1) else none
  else none
theorem impl_InlineCode.mono : ∀ a0 k, LeO (impl_InlineCode.f k a0) (impl_InlineCode.f (k + 1) a0) := by
  intro a0 k r h
  unfold impl_InlineCode.f at h ⊢
  split at h
  · rename_i hs
    rw [if_pos hs]
    obtain ⟨x, hx, he⟩ := Option.bind_eq_some_iff.1 h
    obtain ⟨y, hy, he2⟩ := Option.bind_eq_some_iff.1 he
    rw [GIn1.textutils_zzReplaceAll.mono _ _ _ _ _ hx]
    simp only [Option.bind_some]
    rw [GIn1.textutils_zzReplaceAll.mono _ _ _ _ _ hy]
    exact he2
  · exact absurd h (by simp)
theorem impl_InlineCode.calls (k : Nat) (a0 : ByteArray) (r : ByteArray) (w : World) (h : impl_InlineCode.f k a0 = some r) (hT : Hand.TabB w) :
    Calls Tryd.prog 14 #[.string a0] w fun e w' => e = .returned (.string r) ∧ Below w.heap.size w w' := by
  unfold impl_InlineCode.f at h
  split at h
  · rename_i hs
    obtain ⟨r1, h1, he⟩ := Option.bind_eq_some_iff.1 h
    obtain ⟨r2, h2, he2⟩ := Option.bind_eq_some_iff.1 he
    split at he2
    · rename_i hc
      obtain rfl := Option.some.inj he2
      exact Hand.impl_inlineCode a0 w hs k r1 r2 h1 h2 hc.1 hc.2.1 hc.2.2 hT
    · exact absurd he2 (by simp)
  · exact absurd h (by simp)
end Go.Proofs.YtnhcocjdkmelhaaDoor.GFnInlineCode
