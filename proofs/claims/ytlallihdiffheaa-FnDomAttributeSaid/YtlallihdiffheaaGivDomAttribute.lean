/- What FnDomAttribute's printed walk is given: the contracts of impl.AttributeOf, impl.AttributeOr and laws.living29. -/
import Derived.Test.YtlallihdiffheaaLiving
import Derived.Test.YtlallihdiffheaaGood
namespace Go.Proofs.Ytlallihdiffheaa.GT
open Go.RowKit Go.Proofs.YtlallihdiffheaaW.PrintWords Go.Proofs.YtlallihdiffheaaW.PrintLast Go.Proofs.YtlallihdiffheaaW.PrintMore Go.Proofs.Ytlallihdiffheaa.Hand
set_option linter.unusedVariables false

def laws_living29.f : Option Bool := some true
theorem laws_living29.calls (r : Bool) (w : World) (h : laws_living29.f = some r) :
    Calls Try.prog 22 #[] w fun e w' => e = .returned (.bool r) ∧ Below w.heap.size w w' := by
  obtain rfl := Option.some.inj h
  exact Dom.living_any w
def impl_AttributeOf.f (a0_0 : Int) (a0_1 : ByteArray) (a0_2 : ByteArray) (l0_3 : List S34) (l0_4 : List S25) (a1 : ByteArray) : Option (ByteArray × Bool) :=
  if goodB ⟨a0_0, a0_1, a0_2, l0_3, l0_4⟩ = true then some ((Dom.seekA a1 ⟨a0_0, a0_1, a0_2, l0_3, l0_4⟩).getD ⟨#[]⟩, (Dom.seekA a1 ⟨a0_0, a0_1, a0_2, l0_3, l0_4⟩).isSome) else none
theorem impl_AttributeOf.calls (a0_0 : Int) (a0_1 : ByteArray) (a0_2 : ByteArray) (A0_3 : Option Addr) (c0_3 : Nat) (l0_3 : List S34) (A0_4 : Option Addr) (c0_4 : Nat) (l0_4 : List S25) (a1 : ByteArray) (r1 : ByteArray) (r2 : Bool) (w : World)
    (hr0_3 : Kd.C k34 w A0_3 l0_3.length l0_3) (hc0_3 : l0_3.length ≤ c0_3) (hr0_4 : Kd.C k25 w A0_4 l0_4.length l0_4) (hc0_4 : l0_4.length ≤ c0_4) (h : impl_AttributeOf.f a0_0 a0_1 a0_2 l0_3 l0_4 a1 = some (r1, r2)) :
    Calls Try.prog 20 #[.agg #[.int .i64 a0_0, .string a0_1, .string a0_2, .slice A0_3 l0_3.length c0_3, .slice A0_4 l0_4.length c0_4], .string a1] w fun e w' => e = .returned (.tuple #[.string r1, .bool r2]) ∧ Below w.heap.size w w' := by
  unfold impl_AttributeOf.f at h
  split at h
  · rename_i hg
    obtain ⟨n, hx, h0⟩ := goodB_tn hg
    simp only [Option.some.injEq, Prod.mk.injEq] at h
    obtain ⟨rfl, rfl⟩ := h
    exact Dom.attributeOf_any hx h0 w A0_3 A0_4 c0_3 c0_4 hr0_3 hc0_3 hr0_4 hc0_4 a1
  · cases h
def impl_AttributeOr.f (a0_0 : Int) (a0_1 : ByteArray) (a0_2 : ByteArray) (l0_3 : List S34) (l0_4 : List S25) (a1 : ByteArray) (a2 : ByteArray) : Option ByteArray :=
  if goodB ⟨a0_0, a0_1, a0_2, l0_3, l0_4⟩ = true then some ((Dom.seekA a1 ⟨a0_0, a0_1, a0_2, l0_3, l0_4⟩).getD a2) else none
theorem impl_AttributeOr.calls (a0_0 : Int) (a0_1 : ByteArray) (a0_2 : ByteArray) (A0_3 : Option Addr) (c0_3 : Nat) (l0_3 : List S34) (A0_4 : Option Addr) (c0_4 : Nat) (l0_4 : List S25) (a1 : ByteArray) (a2 : ByteArray) (r : ByteArray) (w : World)
    (hr0_3 : Kd.C k34 w A0_3 l0_3.length l0_3) (hc0_3 : l0_3.length ≤ c0_3) (hr0_4 : Kd.C k25 w A0_4 l0_4.length l0_4) (hc0_4 : l0_4.length ≤ c0_4) (h : impl_AttributeOr.f a0_0 a0_1 a0_2 l0_3 l0_4 a1 a2 = some r) :
    Calls Try.prog 21 #[.agg #[.int .i64 a0_0, .string a0_1, .string a0_2, .slice A0_3 l0_3.length c0_3, .slice A0_4 l0_4.length c0_4], .string a1, .string a2] w fun e w' => e = .returned (.string r) ∧ Below w.heap.size w w' := by
  unfold impl_AttributeOr.f at h
  split at h
  · rename_i hg
    obtain ⟨n, hx, h0⟩ := goodB_tn hg
    obtain rfl := Option.some.inj h
    exact Dom.attributeOr_any hx h0 w A0_3 A0_4 c0_3 c0_4 hr0_3 hc0_3 hr0_4 hc0_4 a1 a2
  · cases h
end Go.Proofs.Ytlallihdiffheaa.GT
