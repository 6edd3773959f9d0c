/- A struct of two numbers and a text that came in (impl.Change). -/
import Derived.Test.YtnhcocjdkmelhaaOpen
import Derived.Test.YtnhcocjdkmelhaaGChx0
import Derived.ShutString
namespace Go.Proofs.Ytnhcocjdkmelhaa.Hand
open Go.RowKit Go.Proofs.YtnhcocjdkmelhaaW.PrintWords Go.ChangeShapes Go.WideShapes Go.Proofs.Ytnhcocjdkmelhaa.GCh
set_option linter.unusedVariables false
section
variable {H : Type} {enc : TypeId × Value → H} {w : World} {base : Nat} {spare : Nat → Bool} {held : Bool}
set_option maxRecDepth 100000 in
theorem opens_change : Opens enc Try.prog w base spare held k36 36 := by
  intro fuel cs x h
  obtain ⟨xs, m, rfl, rfl, hl, hlen, hf⟩ := DataW.trod_struct Try.underlying36 h
  have hl : cs.length = 3 := hl
  have f0 := hf 0 _ rfl
  have f1 := hf 1 _ rfl
  have f2 := hf 2 _ rfl
  match xs, hlen, cs, hl with
  | [x0, x1, x2], _, [c0, c1, c2], _ =>
    obtain ⟨a0, h0⟩ := opens_int Try.underlying3 _ _ _ f0
    obtain ⟨a1, h1⟩ := opens_int Try.underlying3 _ _ _ f1
    obtain ⟨a2, h2⟩ := opens_string Try.underlying9 _ _ _ f2
    obtain rfl : c0 = .int .i64 a0 := by injection h0
    obtain rfl : c1 = .int .i64 a1 := by injection h1
    obtain rfl : c2 = .string a2 := by injection h2
    exact ⟨⟨a0, a1, a2⟩, k36_mk w ⟨a0, a1, a2⟩⟩
end
end Go.Proofs.Ytnhcocjdkmelhaa.Hand
