/- impl.TrimNewlines by hand. -/
import Derived.Test.YtnhcocjdkmelhaaDoorGTnx1
import Derived.Test.YtnhcocjdkmelhaaDoorLives
namespace Go.Proofs.YtnhcocjdkmelhaaDoor.Hand
open Go.RowKit Go.Proofs.YtnhcocjdkmelhaaDoorW.PrintWords Go.Proofs.YtnhcocjdkmelhaaDoorW.PrintLast Go.Proofs.YtnhcocjdkmelhaaDoorW.PrintMore Go.Proofs.YtnhcocjdkmelhaaDoor.GTn
set_option linter.unusedVariables false
set_option linter.unusedSimpArgs false

theorem impl_trimNewlines (s : ByteArray) (w : World) (hs : s.size ≤ 2147483647) (k : Nat) (r : List Int) (h : textutils_TrimConsecutiveNewlines.f k (bys s) = some r) :
    Calls Tryd.prog 8 #[.string s] w fun e w' => e = .returned (.string (strOfNums r)) ∧ Below w.heap.size w w' := by
  have hconv := fun W => run_bytesW (P := Tryd.prog) 9 33 5 s Tryd.underlying9 Tryd.underlying33 Tryd.underlying5 W
  have hcall := textutils_TrimConsecutiveNewlines.calls k (some ⟨w.heap.size, 0, none⟩) (bcap w s 5) (bys s) r (bytesW w s 5) (bytesW_C w s 5 (by omega)) (by rw [bys_length]; exact bcap_ge _ _ _) h
  rw [bys_length] at hcall
  have HC := Lib.hid hcall
  clear hcall h
  go_enter Tryd.func8, Tryd.ntmps8
  go_wp2_with (go_at_call 20; refine HC.out.mono ?_; rintro e w' ⟨v, rfl, hr, hb⟩; have hback := own_string (P := Tryd.prog) Tryd.underlying33 Tryd.underlying5 Tryd.underlying9 (Kd.own_of_R hr); have HB := Lib.hid hb; clear hr hb)
  go_ret
  exact ⟨rfl, below_then (bytesW_below (Below.refl _ _) (Nat.le_refl _) _ _) (by rw [bytesW_size]; omega) HB.out⟩
end Go.Proofs.YtnhcocjdkmelhaaDoor.Hand
