/- Which trees are right, by a test that can be carried out. Plain. -/
import Derived.Test.YtlallihdiffheaaDoorTree
namespace Go.Proofs.YtlallihdiffheaaDoor.Hand
open Go.RowKit Go.Proofs.YtlallihdiffheaaDoor.GT Go.Proofs.YtlallihdiffheaaDoorW.PrintWords Go.Proofs.YtlallihdiffheaaDoorW.PrintLast
set_option linter.unusedVariables false

def shapeB (x : Nd) : Bool :=
  if x.f0 = 0 then decide (x.f2 = ⟨#[]⟩) && decide (x.f3.length ≤ 4398046511104)
  else if x.f0 = 1 then decide (x.f1 = ⟨#[]⟩) && x.f3.isEmpty && x.f4.isEmpty
  else if x.f0 = 2 then decide (x.f1 = ⟨#[]⟩) && x.f3.isEmpty && x.f4.isEmpty
  else decide (x.f0 = 3) && decide (x.f1 = ⟨#[]⟩) && decide (x.f2 = ⟨#[]⟩) && x.f3.isEmpty
/-- How many nodes a right tree has (so deep at most). -/
def tnB : Nat → Nd → Option Nat
  | 0, _ => none
  | k + 1, x => if shapeB x = true then (x.f4.foldr (fun y acc => (tnB k y).bind fun a => acc.map (a + ·)) (some 0)).map (· + 1) else none
theorem tnB_list (k : Nat) (ih : ∀ (y : Nd) (m : Nat), tnB k y = some m → Tn m y) : ∀ (l : List Nd) (m : Nat), l.foldr (fun y acc => (tnB k y).bind fun a => acc.map (a + ·)) (some 0) = some m → TnL m l
  | [], m, h => by
    simp only [List.foldr_nil, Option.some.injEq] at h
    subst h
    exact .nil
  | y :: l, m, h => by
    rw [List.foldr_cons] at h
    obtain ⟨a, h1, h2⟩ := Option.bind_eq_some_iff.1 h
    obtain ⟨b, h3, h4⟩ := Option.map_eq_some_iff.1 h2
    subst h4
    exact .cons _ _ _ _ (ih y a h1) (tnB_list k ih l b h3)
theorem tnB_tn : ∀ (k : Nat) (x : Nd) (n : Nat), tnB k x = some n → Tn n x
  | 0, x, n, h => by cases h
  | k + 1, x, n, h => by
    rw [tnB] at h
    split at h
    · rename_i hs
      obtain ⟨m, h1, rfl⟩ := Option.map_eq_some_iff.1 h
      have hk := tnB_list k (tnB_tn k) x.f4 m h1
      obtain ⟨q0, q1, q2, q3, q4⟩ := x
      simp only [shapeB] at hs hk
      split at hs
      · rename_i e0
        simp only [Bool.and_eq_true, decide_eq_true_eq] at hs
        obtain ⟨rfl, h3⟩ := hs
        subst e0
        exact .elem _ _ _ _ h3 hk
      · split at hs
        · rename_i e1
          simp only [Bool.and_eq_true, decide_eq_true_eq, List.isEmpty_iff] at hs
          obtain ⟨⟨rfl, rfl⟩, rfl⟩ := hs
          subst e1
          cases hk
          exact .text _
        · split at hs
          · rename_i e2
            simp only [Bool.and_eq_true, decide_eq_true_eq, List.isEmpty_iff] at hs
            obtain ⟨⟨rfl, rfl⟩, rfl⟩ := hs
            subst e2
            cases hk
            exact .comment _
          · simp only [Bool.and_eq_true, decide_eq_true_eq, List.isEmpty_iff] at hs
            obtain ⟨⟨⟨rfl, rfl⟩, rfl⟩, rfl⟩ := hs
            exact .doc _ _ hk
    · cases h
theorem tn_list (k : Nat) (ih : ∀ (y : Nd) (m : Nat), Tn m y → m ≤ k → tnB k y = some m) : ∀ (l : List Nd) (m : Nat), TnL m l → m ≤ k → l.foldr (fun y acc => (tnB k y).bind fun a => acc.map (a + ·)) (some 0) = some m
  | [], _, .nil, _ => rfl
  | y :: l, _, .cons a b _ _ hy hl, h => by
    rw [List.foldr_cons, ih y a hy (by omega), tn_list k ih l b hl (by omega)]
    rfl
theorem tn_tnB : ∀ (k : Nat) (x : Nd) (n : Nat), Tn n x → n ≤ k → tnB k x = some n
  | 0, x, n, h, hn => by
    have := h.pos
    omega
  | k + 1, x, n, h, hn => by
    have hs : shapeB x = true := by
      cases h with
      | elem m name attrs kids ha h => simp [shapeB, ha]
      | text t => simp [shapeB]
      | comment t => simp [shapeB]
      | doc m kids h => simp [shapeB]
    obtain ⟨m, hm, hk⟩ := h.kids
    rw [tnB, if_pos hs, tn_list k (tn_tnB k) x.f4 m hk (by omega)]
    simp [hm]
/-- A tree of the dom's laws: an element or a document at its root, at most 300 nodes. -/
def goodB (x : Nd) : Bool := (tnB 300 x).isSome && (decide (x.f0 = 0) || decide (x.f0 = 3))
def sizeB (x : Nd) : Nat := (tnB 300 x).getD 0
theorem goodB_mk {n : Nat} {x : Nd} (h : Tn n x) (hn : n ≤ 300) (h0 : x.f0 = 0 ∨ x.f0 = 3) : goodB x = true := by
  unfold goodB
  rw [tn_tnB 300 x n h hn]
  rcases h0 with h0 | h0 <;> simp [h0]
theorem goodB_tn {x : Nd} (h : goodB x = true) : ∃ n, Tn n x ∧ (x.f0 = 0 ∨ x.f0 = 3) := by
  unfold goodB at h
  simp only [Bool.and_eq_true, Bool.or_eq_true, decide_eq_true_eq] at h
  obtain ⟨n, hn⟩ := Option.isSome_iff_exists.1 h.1
  exact ⟨n, tnB_tn 300 x n hn, h.2⟩
end Go.Proofs.YtlallihdiffheaaDoor.Hand
