/- Trees with attributes, by their number of nodes; paths in trees and in forests; others in the place of a node. Plain, no program in sight. -/
import Derived.Test.YtlallihdiffheaaDoorTold
namespace Go.Proofs.YtlallihdiffheaaDoor.Hand
open Go.RowKit Go.Proofs.YtlallihdiffheaaDoor.GT Go.Proofs.YtlallihdiffheaaDoorW.PrintWords Go.Proofs.YtlallihdiffheaaDoorW.PrintLast
set_option linter.unusedVariables false

abbrev Nd := S25
abbrev At := S29
mutual
/-- Right trees, by their number of nodes: at most 2^42 attributes an element. -/
inductive Tn : Nat → Nd → Prop
  | elem (n : Nat) (name : ByteArray) (attrs : List At) (kids : List Nd) (ha : attrs.length ≤ 4398046511104) (h : TnL n kids) : Tn (n + 1) ⟨0, name, ⟨#[]⟩, attrs, kids⟩
  | text (t : ByteArray) : Tn 1 ⟨1, ⟨#[]⟩, t, [], []⟩
  | comment (t : ByteArray) : Tn 1 ⟨2, ⟨#[]⟩, t, [], []⟩
  | doc (n : Nat) (kids : List Nd) (h : TnL n kids) : Tn (n + 1) ⟨3, ⟨#[]⟩, ⟨#[]⟩, [], kids⟩
inductive TnL : Nat → List Nd → Prop
  | nil : TnL 0 []
  | cons (m n : Nat) (y : Nd) (l : List Nd) (hy : Tn m y) (hl : TnL n l) : TnL (m + n) (y :: l)
end
theorem Tn.pos {n : Nat} {x : Nd} (h : Tn n x) : 1 ≤ n := by cases h <;> omega
theorem TnL.len {n : Nat} {l : List Nd} (h : TnL n l) : l.length ≤ n := by
  induction l generalizing n with
  | nil => cases h; exact Nat.le_refl _
  | cons y l ih =>
    cases h with
    | cons m n _ _ hy hl =>
      have := hy.pos
      have := ih hl
      simp only [List.length_cons]
      omega
theorem Tn.kids {n : Nat} {x : Nd} (h : Tn n x) : ∃ m, m + 1 = n ∧ TnL m x.f4 := by
  cases h with
  | elem n name attrs kids ha h => exact ⟨n, rfl, h⟩
  | text t => exact ⟨0, rfl, .nil⟩
  | comment t => exact ⟨0, rfl, .nil⟩
  | doc n kids h => exact ⟨n, rfl, h⟩
theorem Tn.attrs {n : Nat} {x : Nd} (h : Tn n x) : x.f3.length ≤ 4398046511104 := by
  cases h with
  | elem n name attrs kids ha h => exact ha
  | text t => exact Nat.zero_le _
  | comment t => exact Nat.zero_le _
  | doc n kids h => exact Nat.zero_le _
theorem TnL.mem : ∀ {l : List Nd} {n : Nat}, TnL n l → ∀ y ∈ l, ∃ m, m ≤ n ∧ Tn m y
  | [], n, h, y, hy => by cases hy
  | z :: l, _, .cons m n _ _ hz hl, y, hy => by
    rcases List.mem_cons.1 hy with rfl | hy
    · exact ⟨m, by omega, hz⟩
    · obtain ⟨k, hk, h⟩ := hl.mem y hy
      exact ⟨k, by omega, h⟩
/-- Attributes of a forest's elements: no more than 2^42. -/
def FitF : F Pay → Prop
  | .nil => True
  | .node b p k r => (p.type = 3 → p.attrs.length ≤ 4398046511104) ∧ FitF k ∧ FitF r
theorem fitF_app : ∀ (a g : F Pay), FitF (a.app g) ↔ FitF a ∧ FitF g
  | .nil, g => by simp [F.app, FitF]
  | .node b p k r, g => by
    simp only [F.app, FitF, fitF_app r g]
    constructor
    · rintro ⟨h1, h2, h3, h4⟩
      exact ⟨⟨h1, h2, h3⟩, h4⟩
    · rintro ⟨⟨h1, h2, h3⟩, h4⟩
      exact ⟨h1, h2, h3, h4⟩
/-- What a node tells, by its kind. -/
theorem nodeOf_cases {b : Nat} {p : Pay} {k r : F Pay} (h : Neat (.node b p k r)) :
    (p.type = 1 ∧ k = .nil ∧ nodeOf p (erase k) = ⟨1, ⟨#[]⟩, p.data, [], []⟩) ∨ (p.type = 4 ∧ k = .nil ∧ nodeOf p (erase k) = ⟨2, ⟨#[]⟩, p.data, [], []⟩) ∨
    (p.type = 3 ∧ ∀ ks, nodeOf p ks = ⟨0, p.data, ⟨#[]⟩, p.attrs.map attrTo, ks⟩) ∨ (p.type = 2 ∧ ∀ ks, nodeOf p ks = ⟨3, ⟨#[]⟩, ⟨#[]⟩, [], ks⟩) := by
  rcases h.1 with ⟨ht, hk⟩ | ⟨ht, hk⟩ | ht | ht
  · exact .inl ⟨ht, hk, by simp [nodeOf, ht]⟩
  · exact .inr (.inl ⟨ht, hk, by simp [nodeOf, ht]⟩)
  · exact .inr (.inr (.inl ⟨ht, fun ks => by simp [nodeOf, ht]⟩))
  · exact .inr (.inr (.inr ⟨ht, fun ks => by simp [nodeOf, ht]⟩))
theorem kids_nodeOf {b : Nat} {p : Pay} {k r : F Pay} (h : Neat (.node b p k r)) : (nodeOf p (erase k)).f4 = erase k := by
  rcases nodeOf_cases h with ⟨_, hk, e⟩ | ⟨_, hk, e⟩ | ⟨_, e⟩ | ⟨_, e⟩
  · rw [e, hk]; rfl
  · rw [e, hk]; rfl
  · rw [e]
  · rw [e]
theorem tn_forest : ∀ (f : F Pay), Neat f → FitF f → TnL f.blocks.length (erase f)
  | .nil, _, _ => .nil
  | .node b p k r, hn, hf => by
    have hk := tn_forest k hn.2.1 hf.2.1
    have hr := tn_forest r hn.2.2 hf.2.2
    have hy : Tn (k.blocks.length + 1) (nodeOf p (erase k)) := by
      rcases nodeOf_cases hn with ⟨_, hk0, e⟩ | ⟨_, hk0, e⟩ | ⟨ht, e⟩ | ⟨_, e⟩
      · rw [e, hk0]; exact .text _
      · rw [e, hk0]; exact .comment _
      · rw [e]; exact .elem _ _ _ _ (by rw [List.length_map]; exact hf.1 ht) hk
      · rw [e]; exact .doc _ _ hk
    have h := TnL.cons _ _ _ _ hy hr
    have e : (F.node b p k r).blocks.length = k.blocks.length + 1 + r.blocks.length := by
      simp only [F.blocks, List.length_cons, List.length_append]
      omega
    rw [e]
    exact h
theorem forest_tn : ∀ (f : F Pay) (n : Nat), Neat f → TnL n (erase f) → f.blocks.length = n ∧ FitF f
  | .nil, n, _, h => by
    cases h
    exact ⟨rfl, trivial⟩
  | .node b p k r, n, hn, h => by
    have hx : erase (.node b p k r) = nodeOf p (erase k) :: erase r := rfl
    rw [hx] at h
    generalize hz : nodeOf p (erase k) = z at h
    cases h with
    | cons m n y l hy hl =>
      obtain ⟨hr1, hr2⟩ := forest_tn r n hn.2.2 hl
      obtain ⟨m', hm, hk⟩ := hy.kids
      rw [← hz, kids_nodeOf hn] at hk
      obtain ⟨hk1, hk2⟩ := forest_tn k m' hn.2.1 hk
      have ha := hy.attrs
      refine ⟨by simp only [F.blocks, List.length_cons, List.length_append]; omega, fun ht => ?_, hk2, hr2⟩
      rcases nodeOf_cases hn with ⟨h, _⟩ | ⟨h, _⟩ | ⟨_, e⟩ | ⟨h, _⟩
      · omega
      · omega
      · rw [← hz, e] at ha
        simpa using ha
      · omega
theorem node_tn {b n : Nat} {p : Pay} {k : F Pay} {x : Nd} (hn : Neat (.node b p k .nil)) (ht : nodeOf p (erase k) = x) (hx : Tn n x) : (b :: k.blocks).length = n ∧ FitF (.node b p k .nil) := by
  have h : TnL n (erase (.node b p k .nil)) := by
    have := TnL.cons n 0 x [] hx .nil
    rw [Nat.add_zero] at this
    show TnL n (nodeOf p (erase k) :: erase .nil)
    rw [ht]
    exact this
  have h2 := forest_tn _ n hn h
  simpa [F.blocks] using h2
theorem Tn.wf : ∀ {n : Nat} {x : Nd}, Tn n x → WF x := by
  intro n
  induction n using Nat.strongRecOn with
  | _ n ih =>
    intro x hx
    have key : ∀ (l : List Nd) (m : Nat), m < n → TnL m l → ∀ y ∈ l, WF y := fun l m hm hl y hy => by
      obtain ⟨j, hj, h⟩ := hl.mem y hy
      exact ih j (by omega) h
    cases hx with
    | elem m name attrs kids ha h => exact .elem _ _ _ (key kids m (by omega) h)
    | text t => exact .text t
    | comment t => exact .comment t
    | doc m kids h => exact .doc _ (key kids m (by omega) h)
/-! ### Paths -/
/-- The node at a path of a tree. -/
def atN : Nd → List Int → Option Nd
  | x, [] => some x
  | x, i :: is => if i < 0 then none else match x.f4[i.toNat]? with
    | none => none
    | some y => atN y is
/-- Others in the place of the node at a path. -/
def putN : Nd → List Int → List Nd → Nd
  | x, [], ws => x
  | x, i :: is, ws => match x.f4[i.toNat]? with
    | none => x
    | some y => match is with
      | [] => { x with f4 := x.f4.take i.toNat ++ (ws ++ x.f4.drop (i.toNat + 1)) }
      | j :: js => { x with f4 := x.f4.take i.toNat ++ (putN y (j :: js) ws :: x.f4.drop (i.toNat + 1)) }
theorem erase_dropF : ∀ (f : F Pay) (i : Nat), erase (f.dropF i) = (erase f).drop i
  | .nil, i => by rw [F.dropF_nil]; simp [erase]
  | .node b p k r, 0 => rfl
  | .node b p k r, i + 1 => by
    rw [show (F.node b p k r).dropF (i + 1) = r.dropF i from rfl, erase_dropF r i]
    rfl
theorem erase_takeF : ∀ (f : F Pay) (i : Nat), erase (f.takeF i) = (erase f).take i
  | .nil, i => by cases i <;> rfl
  | .node b p k r, 0 => rfl
  | .node b p k r, i + 1 => by
    rw [show (F.node b p k r).takeF (i + 1) = .node b p k (r.takeF i) from rfl]
    simp only [erase, List.take_succ_cons, erase_takeF r i]
theorem erase_at {f : F Pay} {i c : Nat} {q : Pay} {ck r : F Pay} (h : f.dropF i = .node c q ck r) : (erase f)[i]? = some (nodeOf q (erase ck)) ∧ (erase f).drop (i + 1) = erase r := by
  have h1 := erase_dropF f i
  rw [h] at h1
  have h2 : (erase f).drop i = nodeOf q (erase ck) :: erase r := h1.symm
  refine ⟨?_, ?_⟩
  · have h3 : ((erase f).drop i)[0]? = some (nodeOf q (erase ck)) := by rw [h2]; rfl
    simpa [List.getElem?_drop] using h3
  · rw [← List.drop_drop, h2]
    rfl
theorem erase_none {f : F Pay} {i : Nat} (h : f.dropF i = .nil) : (erase f)[i]? = none := by
  have h1 := (F.dropF_len f i).1 h
  rw [List.getElem?_eq_none_iff, erase_len]
  exact h1
theorem neat_drop {f : F Pay} {i c : Nat} {q : Pay} {ck r : F Pay} (hn : Neat f) (h : f.dropF i = .node c q ck r) : Neat (.node c q ck r) := by
  obtain ⟨a, ha, -⟩ := F.dropF_split f i c q ck r h
  rw [ha] at hn
  exact ((neat_app _ _).1 hn).2
/-- Where a path leads nowhere in the tree, it leads nowhere in the forest; where it leads to a node, that one's block is there. -/
theorem at_forest : ∀ (is : List Int) (b : Nat) (p : Pay) (k r : F Pay), Neat (.node b p k r) →
    (atN (nodeOf p (erase k)) is = none ∧ k.atF b is = none) ∨ ∃ (x : Nd) (c : Nat), atN (nodeOf p (erase k)) is = some x ∧ k.atF b is = some c
  | [], b, p, k, r, hn => .inr ⟨_, b, rfl, rfl⟩
  | i :: is, b, p, k, r, hn => by
    rw [atN, F.atF, kids_nodeOf hn]
    by_cases hi : i < 0
    · rw [if_pos hi, if_pos hi]
      exact .inl ⟨rfl, rfl⟩
    · rw [if_neg hi, if_neg hi]
      cases e : k.dropF i.toNat with
      | nil =>
        rw [erase_none e]
        exact .inl ⟨rfl, rfl⟩
      | node c q ck rr =>
        rw [(erase_at e).1]
        exact at_forest is c q ck rr (neat_drop hn.2.1 e)
/-- The edit of a forest is the edit of the tree. -/
theorem put_forest (z : F Pay) : ∀ (is : List Int) (i : Int) (b : Nat) (p : Pay) (k r : F Pay), Neat (.node b p k r) → (∃ c, k.atF b (i :: is) = some c) →
    nodeOf p (erase (F.editF z k (i :: is))) = putN (nodeOf p (erase k)) (i :: is) (erase z) := by
  intro is
  have form : ∀ (b : Nat) (p : Pay) (k r k' : F Pay), Neat (.node b p k r) → k ≠ .nil → nodeOf p (erase k') = { nodeOf p (erase k) with f4 := erase k' } := by
    intro b p k r k' hn hk
    rcases nodeOf_cases hn with ⟨_, h, e⟩ | ⟨_, h, e⟩ | ⟨_, e⟩ | ⟨_, e⟩
    · exact absurd h hk
    · exact absurd h hk
    · rw [e, e]
    · rw [e, e]
  induction is with
  | nil =>
    intro i b p k r hn ⟨c, hc⟩
    rw [F.atF] at hc
    split at hc
    · cases hc
    · cases e : k.dropF i.toNat with
      | nil => rw [e] at hc; cases hc
      | node d q ck rr =>
        have hk : k ≠ .nil := fun h => by rw [h, F.dropF_nil] at e; cases e
        rw [putN, kids_nodeOf hn, (erase_at e).1]
        simp only [(erase_at e).2]
        rw [form b p k r _ hn hk]
        congr 1
        rw [F.editF, e]
        simp only [erase_app, erase_takeF]
  | cons j js ih =>
    intro i b p k r hn ⟨c, hc⟩
    rw [F.atF] at hc
    split at hc
    · cases hc
    · cases e : k.dropF i.toNat with
      | nil => rw [e] at hc; cases hc
      | node d q ck rr =>
        rw [e] at hc
        have hk : k ≠ .nil := fun h => by rw [h, F.dropF_nil] at e; cases e
        have hi := ih j d q ck rr (neat_drop hn.2.1 e) ⟨c, hc⟩
        rw [putN, kids_nodeOf hn, (erase_at e).1]
        simp only [(erase_at e).2]
        rw [form b p k r _ hn hk]
        congr 1
        rw [F.editF, e]
        simp only [erase_app, erase_takeF, erase, hi]
end Go.Proofs.YtlallihdiffheaaDoor.Hand
