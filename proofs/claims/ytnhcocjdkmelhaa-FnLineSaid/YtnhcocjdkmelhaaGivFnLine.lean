/- What FnLine's printed walk is given: the contract of impl.Line. -/
import Derived.Test.YtnhcocjdkmelhaaLineZz
namespace Go.Proofs.Ytnhcocjdkmelhaa.GFnLine
open Go.RowKit Go.Proofs.YtnhcocjdkmelhaaW.PrintWords Go.Proofs.YtnhcocjdkmelhaaW.PrintLast Go.Proofs.YtnhcocjdkmelhaaW.PrintMore
set_option linter.unusedVariables false

def impl_Line.f (a0 : Int) (l1 : List ByteArray) (l2 : List Int) : Option ByteArray :=
  if (a0 = 0 ∨ a0 = 1) ∧ l1.length = l2.length ∧ (∀ n ∈ l2, 0 ≤ n ∧ n ≤ 1000) ∧ l2.length ≤ 2147483647 then some (strOfNums (Hand.numsOf (Hand.lineTo l1 l2 l2.length))) else none
theorem impl_Line.calls (a0 : Int) (A1 : Option Addr) (c1 : Nat) (l1 : List ByteArray) (A2 : Option Addr) (c2 : Nat) (l2 : List Int) (r : ByteArray) (w : World) (hr1 : Kd.C Kd.string w A1 l1.length l1) (hc1 : l1.length ≤ c1) (hr2 : Kd.C (Kd.int .i64) w A2 l2.length l2) (hc2 : l2.length ≤ c2) (h : impl_Line.f a0 l1 l2 = some r) :
    Calls Try.prog 13 #[.int .i64 a0, .slice A1 l1.length c1, .slice A2 l2.length c2] w fun e w' => e = .returned (.string r) ∧ Below w.heap.size w w' := by
  unfold impl_Line.f at h
  split at h
  case isFalse => exact absurd h (by simp)
  case isTrue hc =>
    obtain ⟨hk, hl, hn, hlen⟩ := hc
    obtain rfl := Option.some.inj h
    rw [hl] at hr1 ⊢
    exact Hand.line_any a0 hk A1 A2 c1 c2 l1 l2 hl hn hlen w hr1 hr2
end Go.Proofs.Ytnhcocjdkmelhaa.GFnLine
