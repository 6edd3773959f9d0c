/- A small tree is the same as itself: plain, over the printed spec.SameTree.  -/
import Derived.Test.YtlallihdiffheaaZSmall
import Derived.Test.YtlallihdiffheaaZGTx3
import Derived.Test.YtlallihdiffheaaZFits
namespace Go.Proofs.Ytlallihdiffheaa.Hand
open Go.RowKit Go.Proofs.Ytlallihdiffheaa.GT Go.Proofs.YtlallihdiffheaaW.PrintWords Go.Proofs.YtlallihdiffheaaW.PrintLast
set_option linter.unusedVariables false

mutual
/-- Trees without attributes, by their number of nodes. -/
inductive Sz : Nat → S25 → Prop
  | mk (n : Nat) (q0 : Int) (q1 q2 : ByteArray) (kids : List S25) (h : SzL n kids) : Sz (n + 1) ⟨q0, q1, q2, [], kids⟩
inductive SzL : Nat → List S25 → Prop
  | nil : SzL 0 []
  | cons (m n : Nat) (y : S25) (l : List S25) (hy : Sz m y) (hl : SzL n l) : SzL (m + n) (y :: l)
end
mutual
theorem Sm.sz : ∀ {n : Nat} {x : S25}, Sm n x → Sz n x
  | _, _, .text t h => .mk 0 _ _ _ _ .nil
  | _, _, .comment t h => .mk 0 _ _ _ _ .nil
  | _, _, .elem n name kids h => .mk n _ _ _ _ (SmL.sz h)
theorem SmL.sz : ∀ {n : Nat} {l : List S25}, SmL n l → SzL n l
  | _, _, .nil => .nil
  | _, _, .cons m n y l hy hl => .cons m n y l (Sm.sz hy) (SmL.sz hl)
end
theorem SzL.head {n : Nat} {y : S25} {l : List S25} (h : SzL n (y :: l)) : ∃ a, a ≤ n ∧ Sz a y := by
  cases h with
  | cons a c _ _ hy hl => exact ⟨a, Nat.le_add_right _ _, hy⟩
theorem Sz.pos {n : Nat} {x : S25} (h : Sz n x) : 1 ≤ n := by cases h <;> omega
theorem SzL.len' : ∀ {n : Nat} {l : List S25}, SzL n l → l.length ≤ n
  | _, _, .nil => Nat.le_refl _
  | _, _, .cons a b y l hy hl => by
    have h1 := SzL.len' hl
    have h2 := hy.pos
    rw [List.length_cons]
    omega
theorem Sm.pos {n : Nat} {x : S25} (h : Sm n x) : 1 ≤ n := by cases h <;> omega
theorem same_loop (N : Nat) (ih : ∀ n, n ≤ N → ∀ x : S25, Sz n x → ∀ k, 10 * n ≤ k → spec_SameTree.f k x.f0 x.f1 x.f2 x.f3 x.f4 x.f0 x.f1 x.f2 x.f3 x.f4 = some true) (q0 : Int) (q1 q2 : ByteArray) (kids : List S25) (hl : kids.length ≤ 1000000) :
    ∀ (d i m k : Nat), kids.length - i = d → i ≤ kids.length → SzL m (kids.drop i) → m ≤ N → 10 * m + 1 ≤ k →
      spec_SameTree.l1 k (kids.length : Int) (i : Int) q0 q1 q2 [] kids q0 q1 q2 [] kids = some true := by
  intro d
  induction d with
  | zero =>
    intro i m k hd hi hs hm hk
    obtain ⟨k, rfl⟩ : ∃ m, k = m + 1 := ⟨k - 1, by omega⟩
    rw [spec_SameTree.l1, if_neg (by omega)]
  | succ d ihd =>
    intro i m k hd hi hs hm hk
    obtain ⟨k, rfl⟩ : ∃ m, k = m + 1 := ⟨k - 1, by omega⟩
    have hdc : kids.drop i = rd_T25 kids (i : Int) :: kids.drop (i + 1) := by
      rw [List.drop_eq_getElem_cons (show i < kids.length by omega)]
      simp [rd_T25, show i < kids.length by omega]
    rw [hdc] at hs
    cases hs with
    | cons a b _ _ hy hl2 =>
      have ha := hy.pos
      have hw : wrap64 ((i : Int) + 1) = ((i + 1 : Nat) : Int) := by unfold wrap64; omega
      rw [spec_SameTree.l1, if_pos (by omega), if_pos (by omega), if_pos (by omega), if_pos (by omega), ih a (by omega) _ hy k (by omega), Option.bind_some, if_pos rfl, hw]
      exact ihd (i + 1) b k (by omega) (by omega) hl2 (by omega) (by omega)
theorem same_sz : ∀ (N n : Nat), n ≤ N → N ≤ 1000000 → ∀ x : S25, Sz n x → ∀ k, 10 * n ≤ k → spec_SameTree.f k x.f0 x.f1 x.f2 x.f3 x.f4 x.f0 x.f1 x.f2 x.f3 x.f4 = some true := by
  intro N
  induction N with
  | zero =>
    intro n hn _ x hx
    have := hx.pos
    omega
  | succ N ih =>
    intro n hn hN x hx k hk
    have hp := hx.pos
    obtain ⟨k, rfl⟩ : ∃ m, k = m + 4 := ⟨k - 4, by omega⟩
    have h0 : ∀ (m : Nat) (q0 : Int) (q1 q2 : ByteArray) (kids : List S25), kids.length ≤ 1000000 → SzL m kids → m ≤ N → 10 * m + 1 ≤ k + 1 → spec_SameTree.f (k + 4) q0 q1 q2 [] kids q0 q1 q2 [] kids = some true := by
      intro m q0 q1 q2 kids hl hs hm hk2
      have h := same_loop N (fun n hn x hx k hk => ih n hn (by omega) x hx k hk) q0 q1 q2 kids hl kids.length 0 m (k + 1) (by omega) (by omega) (by simpa using hs) hm hk2
      rw [spec_SameTree.f, if_pos rfl, if_pos rfl, if_pos rfl, if_pos rfl, spec_SameTree.j0, if_neg (by simp), spec_SameTree.l0, if_neg (by simp)]
      exact h
    cases hx with
    | mk m q0 q1 q2 kids hk2 => exact h0 m q0 q1 q2 kids (by have := SzL.len' hk2; omega) hk2 (by omega) (by omega)
end Go.Proofs.Ytlallihdiffheaa.Hand
