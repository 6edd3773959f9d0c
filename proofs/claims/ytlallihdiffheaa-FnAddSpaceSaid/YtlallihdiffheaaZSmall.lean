/- Texts that follow one another are one: on forests. Plain Lean, no program in sight. domutils.MergeAdjacentTextNodes by hand: what it does to a forest. Small trees: so many nodes at most, no attributes, texts of 300 bytes at most; their forests. -/
import Derived.Test.YtlallihdiffheaaZTold
import Derived.Test.YtlallihdiffheaaZForest
import Derived.RegionTactic
namespace Go.Proofs.Ytlallihdiffheaa.Hand
open Go.RowKit Go.Proofs.Ytlallihdiffheaa.GT
set_option linter.unusedVariables false

/-- Whether the last tree is a text. -/
def lastT (d : Bool) : F Pay → Bool
  | .nil => d
  | .node _ p _ r => lastT (p.type == 1) r
theorem snoc_cases : ∀ f : F Pay, f = .nil ∨ ∃ (a : F Pay) (l : Nat) (q : Pay) (k : F Pay), f = a.app (.node l q k .nil)
  | .nil => .inl rfl
  | .node b p k r => by
    rcases snoc_cases r with h | ⟨a, l, q, k', h⟩
    · exact .inr ⟨.nil, b, p, k, by rw [h]; rfl⟩
    · exact .inr ⟨.node b p k a, l, q, k', by rw [h]; rfl⟩
def heft : F Pay → Nat
  | .nil => 0
  | .node _ p k r => (if p.type == 1 then p.data.size else 0) + heft k + heft r
theorem heft_app : ∀ f g : F Pay, heft (f.app g) = heft f + heft g
  | .nil, g => by simp [F.app, heft]
  | .node b p k r, g => by simp only [F.app, heft, heft_app r g]; omega
end Go.Proofs.Ytlallihdiffheaa.Hand
namespace Go.Proofs.Ytlallihdiffheaa.Hand
open Go.RowKit Go.Proofs.YtlallihdiffheaaW.PrintWords Go.Proofs.YtlallihdiffheaaW.PrintLast Go.Proofs.Ytlallihdiffheaa.GT
set_option linter.unusedVariables false
set_option linter.unusedSimpArgs false

theorem ptrV_form (o : Option Nat) : ∃ u, ptrV o = .pointer u := by cases o <;> exact ⟨_, rfl⟩
end Go.Proofs.Ytlallihdiffheaa.Hand
namespace Go.Proofs.Ytlallihdiffheaa.Hand
open Go.RowKit Go.Proofs.Ytlallihdiffheaa.GT
set_option linter.unusedVariables false

mutual
inductive Sm : Nat → S25 → Prop
  | text (t : ByteArray) (h : t.size ≤ 300) : Sm 1 ⟨1, ⟨#[]⟩, t, [], []⟩
  | comment (t : ByteArray) (h : t.size ≤ 300) : Sm 1 ⟨2, ⟨#[]⟩, t, [], []⟩
  | elem (n : Nat) (name : ByteArray) (kids : List S25) (h : SmL n kids) : Sm (n + 1) ⟨0, name, ⟨#[]⟩, [], kids⟩
inductive SmL : Nat → List S25 → Prop
  | nil : SmL 0 []
  | cons (m n : Nat) (y : S25) (l : List S25) (hy : Sm m y) (hl : SmL n l) : SmL (m + n) (y :: l)
end
theorem SmL.snoc {m : Nat} {y : S25} (hy : Sm m y) : ∀ {l : List S25} {n : Nat}, SmL n l → SmL (n + m) (l ++ [y])
  | [], _, .nil => by
    have := SmL.cons m 0 y [] hy .nil
    rw [Nat.zero_add]
    exact this
  | z :: l, _, .cons a b _ _ hz hl => by
    have := SmL.snoc hy hl
    rw [Nat.add_assoc]
    exact .cons a (b + m) z (l ++ [y]) hz this
theorem SmL.mem : ∀ {l : List S25} {n : Nat}, SmL n l → ∀ y ∈ l, ∃ m, Sm m y
  | [], _, .nil, y, h => by cases h
  | z :: l, _, .cons a b _ _ hz hl, y, h => by
    rcases List.mem_cons.1 h with rfl | h
    · exact ⟨a, hz⟩
    · exact SmL.mem (n := b) hl y h
/-- A forest that tells small trees. -/
theorem sm_forest : ∀ (f : F Pay) (n : Nat), Neat f → SmL n (erase f) → f.blocks.length ≤ n ∧ heft f ≤ 300 * n ∧ Plain f
  | .nil, n, _, _ => ⟨Nat.zero_le _, Nat.zero_le _, trivial⟩
  | .node b p k r, n, hn, h => by
    obtain ⟨h1, h2, h3⟩ := hn
    cases h with
    | cons a c _ _ hy hl =>
      obtain ⟨r1, r2, r3⟩ := sm_forest r c h3 hl
      rcases h1 with ⟨ht, hk⟩ | ⟨ht, hk⟩ | ht | ht
      · subst hk
        have e : nodeOf p (erase .nil) = ⟨1, ⟨#[]⟩, p.data, [], []⟩ := by simp [nodeOf, ht]
        rw [e] at hy
        cases hy with
        | text _ hs =>
          refine ⟨by simp only [F.blocks, List.length_cons, List.length_append, List.length_nil]; omega, ?_, .inl ht, trivial, r3⟩
          simp only [heft]
          rw [ht]
          simp only [beq_self_eq_true, if_true]
          omega
      · subst hk
        have e : nodeOf p (erase .nil) = ⟨2, ⟨#[]⟩, p.data, [], []⟩ := by simp [nodeOf, ht]
        rw [e] at hy
        cases hy with
        | comment _ hs =>
          refine ⟨by simp only [F.blocks, List.length_cons, List.length_append, List.length_nil]; omega, ?_, .inr (.inr ht), trivial, r3⟩
          simp only [heft]
          rw [ht]
          simp only [show ((4 : Int) == 1) = false from rfl, Bool.false_eq_true, if_false]
          omega
      · have e : nodeOf p (erase k) = ⟨0, p.data, ⟨#[]⟩, p.attrs.map attrTo, erase k⟩ := by simp [nodeOf, ht]
        rw [e] at hy
        generalize hat : p.attrs.map attrTo = at0 at hy
        generalize hek : erase k = ek at hy
        cases hy with
        | elem m _ _ hk =>
          subst hek
          obtain ⟨q1, q2, q3⟩ := sm_forest k m h2 hk
          refine ⟨by simp only [F.blocks, List.length_cons, List.length_append]; omega, ?_, .inr (.inl ⟨ht, by simpa using hat⟩), q3, r3⟩
          simp only [heft]
          rw [ht]
          simp only [show ((3 : Int) == 1) = false from rfl, Bool.false_eq_true, if_false]
          omega
      · have e : nodeOf p (erase k) = ⟨3, ⟨#[]⟩, ⟨#[]⟩, [], erase k⟩ := by simp [nodeOf, ht]
        rw [e] at hy
        cases hy
mutual
theorem Sm.wf : ∀ {n : Nat} {x : S25}, Sm n x → WF0 x
  | _, _, .text t h => .text t
  | _, _, .comment t h => .comment t
  | _, _, .elem n name kids h => .elem name kids (SmL.wf h)
theorem SmL.wf : ∀ {n : Nat} {l : List S25}, SmL n l → ∀ y ∈ l, WF0 y
  | _, _, .nil, y, h => by cases h
  | _, _, .cons m n z l hz hl, y, h => by
    rcases List.mem_cons.1 h with h | h
    · rw [h]
      exact Sm.wf hz
    · exact SmL.wf hl y h
end
end Go.Proofs.Ytlallihdiffheaa.Hand
