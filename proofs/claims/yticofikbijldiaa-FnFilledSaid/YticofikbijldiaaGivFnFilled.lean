/- What FnFilled's printed walk is given: the contract of impl.Filled, for -1000 to 1000 columns. -/
import Derived.Test.YticofikbijldiaaFilled
namespace Go.Proofs.Yticofikbijldiaa.GFnFilled
open Go.RowKit Go.Proofs.YticofikbijldiaaW.PrintWords Go.Proofs.YticofikbijldiaaW.PrintLast Go.Proofs.YticofikbijldiaaW.PrintMore
set_option linter.unusedVariables false

def fitS (ss : List ByteArray) : Bool := decide (ss.length ≤ 2147483647) && ss.all (fun s => decide (s.size ≤ 2147483647))
def fitQ (l : List (List ByteArray)) : Bool := decide (l.length ≤ 2147483647) && l.all fitS
theorem fitQ_R {l : List (List ByteArray)} (h : fitQ l = true) : Hand.fitR l := by
  simp only [fitQ, fitS, Bool.and_eq_true, decide_eq_true_eq, List.all_eq_true] at h
  exact h
def impl_Filled.f (l0 : List (List ByteArray)) (a1 : Int) : Option (List (List ByteArray)) := if fitQ l0 = true ∧ -1000 ≤ a1 ∧ a1 ≤ 1000 then some (l0.map (Hand.fillRow a1)) else none
theorem impl_Filled.calls (A0 : Option Addr) (c0 : Nat) (l0 : List (List ByteArray)) (a1 : Int) (r : List (List ByteArray)) (w : World) (hr0 : Kd.C (Kd.slice 9 Kd.string) w A0 l0.length l0) (hc0 : l0.length ≤ c0) (h : impl_Filled.f l0 a1 = some r) :
    Calls Try.prog 28 #[.slice A0 l0.length c0, .int .i64 a1] w fun e w' => ∃ v0_ : Value, e = .returned (v0_) ∧ Kd.S (Kd.slice 9 Kd.string) 22 w' w.heap.size (fun _ => True) v0_ r ∧ Below w.heap.size w w' := by
  unfold impl_Filled.f at h
  split at h
  · rename_i hs
    obtain rfl := Option.some.inj h
    exact Hand.impl_filled A0 c0 l0 a1 w (fitQ_R hs.1) hs.2 (Hand.strRows_of hr0)
  · exact absurd h (by simp)
end Go.Proofs.Yticofikbijldiaa.GFnFilled
