/- What FnEmptyRow's printed walk is given: the contract of impl.EmptyRow, for rows of at most 2147483647 texts. -/
import Derived.Test.YticofikbijldiaaCells
namespace Go.Proofs.Yticofikbijldiaa.GFnEmptyRow
open Go.RowKit Go.Proofs.YticofikbijldiaaW.PrintWords Go.Proofs.YticofikbijldiaaW.PrintLast Go.Proofs.YticofikbijldiaaW.PrintMore
set_option linter.unusedVariables false

def impl_EmptyRow.f (l0 : List ByteArray) : Option Bool := if l0.length ≤ 2147483647 ∧ l0.all (fun s => decide (s.size ≤ 2147483647)) = true then some (Hand.emptyB l0) else none
theorem impl_EmptyRow.calls (A0 : Option Addr) (c0 : Nat) (l0 : List ByteArray) (r : Bool) (w : World) (hr0 : Kd.C Kd.string w A0 l0.length l0) (hc0 : l0.length ≤ c0) (h : impl_EmptyRow.f l0 = some r) :
    Calls Try.prog 19 #[.slice A0 l0.length c0] w fun e w' => e = .returned (.bool r) ∧ Below w.heap.size w w' := by
  unfold impl_EmptyRow.f at h
  split at h
  · rename_i hs
    obtain rfl := Option.some.inj h
    exact Hand.impl_emptyRow A0 c0 l0 w hs.1 (fun s hm => by have := List.all_eq_true.1 hs.2 s hm; simp at this; omega) (Hand.strRow_of hr0)
  · exact absurd h (by simp)
end Go.Proofs.Yticofikbijldiaa.GFnEmptyRow
