/- What the printed walk of utf8.DecodeRune is given: decodeRuneSlow, which texts of ASCII never reach. -/
import Derived.Test.YtnhcocjdkmelhaaDoorHB
namespace Go.Proofs.YtnhcocjdkmelhaaDoor.GTn
open Go.RowKit Go.Proofs.YtnhcocjdkmelhaaDoorW.PrintWords Go.Proofs.YtnhcocjdkmelhaaDoorW.PrintLast Go.Proofs.YtnhcocjdkmelhaaDoorW.PrintMore
set_option linter.unusedVariables false

def utf8_decodeRuneSlow.f (l0 : List Int) : Option (Int × Int) := none
theorem utf8_decodeRuneSlow.calls (A0 : Option Addr) (c0 : Nat) (l0 : List Int) (r1 : Int) (r2 : Int) (w : World) (hr0 : Kd.C (Kd.int .u8) w A0 l0.length l0) (hc0 : l0.length ≤ c0) (h : utf8_decodeRuneSlow.f l0 = some (r1, r2)) :
    Calls Tryd.prog 44 #[.slice A0 l0.length c0] w fun e w' => e = .returned (.tuple #[.int .i32 r1, .int .i64 r2]) ∧ Below w.heap.size w w' := by
  cases h
theorem own_len_R {k : IntKind} {T : TypeId} {w : World} {B : Nat} {A : Option Addr} {n m c : Nat} {v : Value} {xs : List Int} (h : (Kd.int k).R T w B (fun k_ => some k_ ≠ (Value.slice A n c).ownBlock) v xs) : (Kd.int k).R T w B (fun k_ => some k_ ≠ (Value.slice A m c).ownBlock) v xs := by
  have e : (Value.slice A n c).ownBlock = (Value.slice A m c).ownBlock := by cases A <;> rfl
  rw [← e]
  exact h
end Go.Proofs.YtnhcocjdkmelhaaDoor.GTn
