/- A small tree is the same as itself: plain, over the printed spec.SameTree.  -/
import Derived.Test.YtlallihdiffheaaZSmall
import Derived.Test.YtlallihdiffheaaZGTx3
import Derived.Test.YtlallihdiffheaaZFits
namespace Go.Proofs.Ytlallihdiffheaa.Hand
open Go.RowKit Go.Proofs.Ytlallihdiffheaa.GT Go.Proofs.YtlallihdiffheaaW.PrintWords Go.Proofs.YtlallihdiffheaaW.PrintLast
set_option linter.unusedVariables false

mutual
/-- Trees without attributes, by their number of nodes. -/
inductive Sz : Nat → S25 → Prop
  | mk (n : Nat) (q0 : Int) (q1 q2 : ByteArray) (kids : List S25) (h : SzL n kids) : Sz (n + 1) ⟨q0, q1, q2, [], kids⟩
inductive SzL : Nat → List S25 → Prop
  | nil : SzL 0 []
  | cons (m n : Nat) (y : S25) (l : List S25) (hy : Sz m y) (hl : SzL n l) : SzL (m + n) (y :: l)
end
mutual
theorem Sm.sz : ∀ {n : Nat} {x : S25}, Sm n x → Sz n x
  | _, _, .text t h => .mk 0 _ _ _ _ .nil
  | _, _, .comment t h => .mk 0 _ _ _ _ .nil
  | _, _, .elem n name kids h => .mk n _ _ _ _ (SmL.sz h)
theorem SmL.sz : ∀ {n : Nat} {l : List S25}, SmL n l → SzL n l
  | _, _, .nil => .nil
  | _, _, .cons m n y l hy hl => .cons m n y l (Sm.sz hy) (SmL.sz hl)
end
theorem SzL.head {n : Nat} {y : S25} {l : List S25} (h : SzL n (y :: l)) : ∃ a, a ≤ n ∧ Sz a y := by
  cases h with
  | cons a c _ _ hy hl => exact ⟨a, Nat.le_add_right _ _, hy⟩
theorem Sz.pos {n : Nat} {x : S25} (h : Sz n x) : 1 ≤ n := by cases h <;> omega
theorem Sm.pos {n : Nat} {x : S25} (h : Sm n x) : 1 ≤ n := by cases h <;> omega
end Go.Proofs.Ytlallihdiffheaa.Hand
