/- What FnDomID's printed walk is given: the contracts of impl.HasID and laws.living29. -/
import Derived.Test.YtlallihdiffheaaDoorHasID
namespace Go.Proofs.YtlallihdiffheaaDoor.GT
open Go.RowKit Go.Proofs.YtlallihdiffheaaDoorW.PrintWords Go.Proofs.YtlallihdiffheaaDoorW.PrintLast Go.Proofs.YtlallihdiffheaaDoorW.PrintMore Go.Proofs.YtlallihdiffheaaDoor.Hand
set_option linter.unusedVariables false

def laws_living29.f : Option Bool := some true
theorem laws_living29.calls (r : Bool) (w : World) (h : laws_living29.f = some r) :
    Calls Tryd.prog 11 #[] w fun e w' => e = .returned (.bool r) ∧ Below w.heap.size w w' := by
  obtain rfl := Option.some.inj h
  exact Dom.living_any w
def idWord (o : Option ByteArray) : Bool :=
  match o with
  | none => true
  | some z => wordB z
def impl_HasID.f (a0_0 : Int) (a0_1 : ByteArray) (a0_2 : ByteArray) (l0_3 : List S29) (l0_4 : List S25) (a1 : ByteArray) : Option Bool :=
  if goodB ⟨a0_0, a0_1, a0_2, l0_3, l0_4⟩ = true ∧ idWord (Dom.seekA idK ⟨a0_0, a0_1, a0_2, l0_3, l0_4⟩) = true then some (hasV (Dom.seekA idK ⟨a0_0, a0_1, a0_2, l0_3, l0_4⟩) a1) else none
theorem impl_HasID.calls (a0_0 : Int) (a0_1 : ByteArray) (a0_2 : ByteArray) (A0_3 : Option Addr) (c0_3 : Nat) (l0_3 : List S29) (A0_4 : Option Addr) (c0_4 : Nat) (l0_4 : List S25) (a1 : ByteArray) (r : Bool) (w : World)
    (hr0_3 : Kd.C k29 w A0_3 l0_3.length l0_3) (hc0_3 : l0_3.length ≤ c0_3) (hr0_4 : Kd.C k25 w A0_4 l0_4.length l0_4) (hc0_4 : l0_4.length ≤ c0_4) (h : impl_HasID.f a0_0 a0_1 a0_2 l0_3 l0_4 a1 = some r) (hT : Hand.TabB w) :
    Calls Tryd.prog 10 #[.agg #[.int .i64 a0_0, .string a0_1, .string a0_2, .slice A0_3 l0_3.length c0_3, .slice A0_4 l0_4.length c0_4], .string a1] w fun e w' => e = .returned (.bool r) ∧ Below w.heap.size w w' := by
  unfold impl_HasID.f at h
  split at h
  · rename_i hg
    obtain ⟨n, hx, h0⟩ := goodB_tn hg.1
    obtain rfl := Option.some.inj h
    refine Dom.implHasID_any hx h0 w A0_3 A0_4 c0_3 c0_4 hr0_3 hc0_3 hr0_4 hc0_4 a1 (fun z hz => ?_) hT
    have h2 := hg.2
    rw [hz] at h2
    exact h2
  · cases h
end Go.Proofs.YtlallihdiffheaaDoor.GT
