import Derived.Test.YtlallihdiffheaaZTold
section
/- Trees with attributes, by their number of nodes; paths in trees and in forests; others in the place of a node. Plain, no program in sight. -/
namespace Go.Proofs.Ytlallihdiffheaa.Hand
open Go.RowKit Go.Proofs.Ytlallihdiffheaa.GT Go.Proofs.YtlallihdiffheaaW.PrintWords Go.Proofs.YtlallihdiffheaaW.PrintLast
set_option linter.unusedVariables false

abbrev Nd := S25
abbrev At := S34
mutual
/-- Right trees, by their number of nodes: at most 2^42 attributes an element. -/
inductive Tn : Nat → Nd → Prop
  | elem (n : Nat) (name : ByteArray) (attrs : List At) (kids : List Nd) (ha : attrs.length ≤ 4398046511104) (h : TnL n kids) : Tn (n + 1) ⟨0, name, ⟨#[]⟩, attrs, kids⟩
  | text (t : ByteArray) : Tn 1 ⟨1, ⟨#[]⟩, t, [], []⟩
  | comment (t : ByteArray) : Tn 1 ⟨2, ⟨#[]⟩, t, [], []⟩
  | doc (n : Nat) (kids : List Nd) (h : TnL n kids) : Tn (n + 1) ⟨3, ⟨#[]⟩, ⟨#[]⟩, [], kids⟩
inductive TnL : Nat → List Nd → Prop
  | nil : TnL 0 []
  | cons (m n : Nat) (y : Nd) (l : List Nd) (hy : Tn m y) (hl : TnL n l) : TnL (m + n) (y :: l)
end
theorem Tn.pos {n : Nat} {x : Nd} (h : Tn n x) : 1 ≤ n := by cases h <;> omega
theorem TnL.len {n : Nat} {l : List Nd} (h : TnL n l) : l.length ≤ n := by
  induction l generalizing n with
  | nil => cases h; exact Nat.le_refl _
  | cons y l ih =>
    cases h with
    | cons m n _ _ hy hl =>
      have := hy.pos
      have := ih hl
      simp only [List.length_cons]
      omega
theorem Tn.kids {n : Nat} {x : Nd} (h : Tn n x) : ∃ m, m + 1 = n ∧ TnL m x.f4 := by
  cases h with
  | elem n name attrs kids ha h => exact ⟨n, rfl, h⟩
  | text t => exact ⟨0, rfl, .nil⟩
  | comment t => exact ⟨0, rfl, .nil⟩
  | doc n kids h => exact ⟨n, rfl, h⟩
theorem Tn.attrs {n : Nat} {x : Nd} (h : Tn n x) : x.f3.length ≤ 4398046511104 := by
  cases h with
  | elem n name attrs kids ha h => exact ha
  | text t => exact Nat.zero_le _
  | comment t => exact Nat.zero_le _
  | doc n kids h => exact Nat.zero_le _
theorem TnL.mem : ∀ {l : List Nd} {n : Nat}, TnL n l → ∀ y ∈ l, ∃ m, m ≤ n ∧ Tn m y
  | [], n, h, y, hy => by cases hy
  | z :: l, _, .cons m n _ _ hz hl, y, hy => by
    rcases List.mem_cons.1 hy with rfl | hy
    · exact ⟨m, by omega, hz⟩
    · obtain ⟨k, hk, h⟩ := hl.mem y hy
      exact ⟨k, by omega, h⟩
theorem Tn.wf : ∀ {n : Nat} {x : Nd}, Tn n x → WF x := by
  intro n
  induction n using Nat.strongRecOn with
  | _ n ih =>
    intro x hx
    have key : ∀ (l : List Nd) (m : Nat), m < n → TnL m l → ∀ y ∈ l, WF y := fun l m hm hl y hy => by
      obtain ⟨j, hj, h⟩ := hl.mem y hy
      exact ih j (by omega) h
    cases hx with
    | elem m name attrs kids ha h => exact .elem _ _ _ (key kids m (by omega) h)
    | text t => exact .text t
    | comment t => exact .comment t
    | doc m kids h => exact .doc _ (key kids m (by omega) h)
/-! ### Paths -/
end Go.Proofs.Ytlallihdiffheaa.Hand
end
section
/- The node at a path of a forest that sits in the map: what the map says there. Plain. -/
namespace Go.Proofs.Ytlallihdiffheaa.Hand
open Go.RowKit Go.Proofs.Ytlallihdiffheaa.GT Go.Proofs.YtlallihdiffheaaW.PrintWords Go.Proofs.YtlallihdiffheaaW.PrintLast
set_option linter.unusedVariables false

/-- The node at a path: its block, what it says, its children. -/
def subF (b : Nat) (p : Pay) (k : F Pay) : List Int → Option (Nat × Pay × F Pay)
  | [] => some (b, p, k)
  | i :: is => if i < 0 then none else match k.dropF i.toNat with
    | .nil => none
    | .node c q ck r => subF c q ck is
theorem subF_snoc : ∀ (is : List Int) (i : Int) (b : Nat) (p : Pay) (k : F Pay), subF b p k (is ++ [i]) = (subF b p k is).bind (fun t => subF t.1 t.2.1 t.2.2 [i])
  | [], i, b, p, k => rfl
  | j :: is, i, b, p, k => by
    rw [List.cons_append, subF, subF]
    split
    · rfl
    · cases k.dropF j.toNat with
      | nil => rfl
      | node c q ck r => exact subF_snoc is i c q ck
/-- One step down. -/
theorem subF_one {i : Int} {c c' : Nat} {q q' : Pay} {k k' : F Pay} (h : subF c q k [i] = some (c', q', k')) : 0 ≤ i ∧ ∃ a r : F Pay, k = a.app (.node c' q' k' r) ∧ (a.len : Int) = i ∧ k.dropF i.toNat = .node c' q' k' r := by
  rw [subF] at h
  split at h
  · cases h
  · rename_i hi
    cases e : k.dropF i.toNat with
    | nil => rw [e] at h; cases h
    | node d qd kd r =>
      rw [e] at h
      simp only [subF, Option.some.injEq, Prod.mk.injEq] at h
      obtain ⟨rfl, rfl, rfl⟩ := h
      obtain ⟨a, h1, h2⟩ := F.dropF_split k _ _ _ _ _ e
      exact ⟨by omega, a, r, h1, by omega, rfl⟩
/-- What the map says of the node at a path. -/
structure Lies (H : NMap) (b : Nat) (p : Pay) (k : F Pay) (is : List Int) (c : Nat) (q : Pay) (ck : F Pay) (par prev next : Option Nat) : Prop where
  sub : subF b p k is = some (c, q, ck)
  here : H c = some ⟨par, ck.headOr none, ck.lastOr none, prev, next, q⟩
  kids : Sits H (some c) none none ck
theorem lies {H : NMap} {b : Nat} {p : Pay} {k : F Pay} (hs : Sits H none none none (.node b p k .nil)) (hn : Neat (.node b p k .nil)) : ∀ (m : Nat) (is : List Int) (c : Nat) (q : Pay) (ck : F Pay), is.length = m → subF b p k is = some (c, q, ck) →
    ∃ par prev next, Lies H b p k is c q ck par prev next ∧ Neat (.node c q ck .nil) ∧ (is = [] → par = none ∧ prev = none ∧ next = none ∧ c = b ∧ q = p ∧ ck = k) ∧
      (∀ js i, is = js ++ [i] → ∃ (n : Nat) (nq : Pay) (nk a r : F Pay), subF b p k js = some (n, nq, nk) ∧ nk = a.app (.node c q ck r) ∧ (a.len : Int) = i ∧ par = some n ∧ prev = a.lastOr none ∧ next = r.headOr none)
  | 0, is, c, q, ck, hl, h => by
    obtain rfl := List.eq_nil_of_length_eq_zero hl
    simp only [subF, Option.some.injEq, Prod.mk.injEq] at h
    obtain ⟨rfl, rfl, rfl⟩ := h
    exact ⟨none, none, none, ⟨rfl, hs.1, hs.2.1⟩, ⟨hn.1, hn.2.1, trivial⟩, fun _ => ⟨rfl, rfl, rfl, rfl, rfl, rfl⟩, fun js i e => by simp at e⟩
  | m + 1, is, c, q, ck, hl, h => by
    have hne : is ≠ [] := fun e => by rw [e] at hl; simp at hl
    obtain ⟨js, i, rfl⟩ : ∃ js i, is = js ++ [i] := ⟨is.dropLast, is.getLast hne, (List.dropLast_concat_getLast hne).symm⟩
    have h' := h
    rw [subF_snoc] at h
    cases e : subF b p k js with
    | none => rw [e] at h; cases h
    | some t =>
      obtain ⟨n, nq, nk⟩ := t
      rw [e] at h
      have h : subF n nq nk [i] = some (c, q, ck) := h
      obtain ⟨hi, a, r, hk, ha, -⟩ := subF_one h
      obtain ⟨par, prev, next, hL, hN, -, -⟩ := lies hs hn m js n nq nk (by simpa using hl) e
      have hkids := hL.kids
      rw [hk] at hkids
      obtain ⟨h1, h2⟩ := (sits_app H a _ _ _ _).1 hkids
      have hNk := hN.2.1
      rw [hk] at hNk
      have hNc := ((neat_app _ _).1 hNk).2
      refine ⟨some n, a.lastOr none, r.headOr none, ⟨h', h2.1, h2.2.1⟩, ⟨hNc.1, hNc.2.1, trivial⟩, fun e => by simp at e, fun js' i' e' => ?_⟩
      obtain ⟨rfl, e'⟩ := List.append_inj' e' rfl
      obtain rfl : i = i' := by simpa using e'
      exact ⟨n, nq, nk, a, r, e, hk, ha, rfl, rfl, rfl⟩
end Go.Proofs.Ytlallihdiffheaa.Hand
end
