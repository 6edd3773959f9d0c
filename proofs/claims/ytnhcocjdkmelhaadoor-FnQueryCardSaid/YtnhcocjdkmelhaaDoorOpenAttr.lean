/- A struct of two texts that came in (impl.Attr). -/
import Derived.Test.YtnhcocjdkmelhaaDoorOpen
import Derived.Test.YtnhcocjdkmelhaaDoorGFnQueryx0
import Derived.ShutString
namespace Go.Proofs.YtnhcocjdkmelhaaDoor.Hand
open Go.RowKit Go.Proofs.YtnhcocjdkmelhaaDoorW.PrintWords Go.ChangeShapes Go.WideShapes Go.Proofs.YtnhcocjdkmelhaaDoor.GFnQuery
set_option linter.unusedVariables false
section
variable {H : Type} {enc : TypeId × Value → H} {w : World} {base : Nat} {spare : Nat → Bool} {held : Bool}
set_option maxRecDepth 100000 in
theorem opens_attr : Opens enc Tryd.prog w base spare held k32 32 := by
  intro fuel cs x h
  obtain ⟨xs, m, rfl, rfl, hl, hlen, hf⟩ := DataW.trod_struct Tryd.underlying32 h
  have hl : cs.length = 2 := hl
  have f0 := hf 0 _ rfl
  have f1 := hf 1 _ rfl
  match xs, hlen, cs, hl with
  | [x0, x1], _, [c0, c1], _ =>
    obtain ⟨a0, h0⟩ := opens_string Tryd.underlying9 _ _ _ f0
    obtain ⟨a1, h1⟩ := opens_string Tryd.underlying9 _ _ _ f1
    obtain rfl : c0 = .string a0 := by injection h0
    obtain rfl : c1 = .string a1 := by injection h1
    exact ⟨⟨a0, a1⟩, k32_mk w ⟨a0, a1⟩⟩
end
end Go.Proofs.YtnhcocjdkmelhaaDoor.Hand
