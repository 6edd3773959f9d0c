/- Texts that follow one another are one: on forests. Plain Lean, no program in sight. domutils.MergeAdjacentTextNodes by hand: what it does to a forest. Small trees: so many nodes at most, no attributes, texts of 300 bytes at most; their forests. -/
import Derived.Test.YtlallihdiffheaaZTold
import Derived.Test.YtlallihdiffheaaZForest
import Derived.RegionTactic
namespace Go.Proofs.Ytlallihdiffheaa.Hand
open Go.RowKit Go.Proofs.Ytlallihdiffheaa.GT
set_option linter.unusedVariables false

/-- Whether the last tree is a text. -/
def lastT (d : Bool) : F Pay → Bool
  | .nil => d
  | .node _ p _ r => lastT (p.type == 1) r
def addLast (s : ByteArray) : F Pay → F Pay
  | .nil => .nil
  | .node b p k r => if r.len = 0 then .node b { p with data := p.data ++ s } k .nil else .node b p k (addLast s r)
def mergeG : F Pay → F Pay → F Pay
  | .nil, done => done
  | .node b p k r, done => if ((p.type == 1) && lastT false done) = true then mergeG r (addLast p.data done) else mergeG r (done.app (.node b p (mergeG k .nil) .nil))
theorem lastT_app : ∀ (a g : F Pay) (d : Bool), lastT d (a.app g) = lastT (lastT d a) g
  | .nil, g, d => rfl
  | .node b p k r, g, d => lastT_app r g _
theorem snoc_cases : ∀ f : F Pay, f = .nil ∨ ∃ (a : F Pay) (l : Nat) (q : Pay) (k : F Pay), f = a.app (.node l q k .nil)
  | .nil => .inl rfl
  | .node b p k r => by
    rcases snoc_cases r with h | ⟨a, l, q, k', h⟩
    · exact .inr ⟨.nil, b, p, k, by rw [h]; rfl⟩
    · exact .inr ⟨.node b p k a, l, q, k', by rw [h]; rfl⟩
theorem lastT_snoc (a : F Pay) (l : Nat) (q : Pay) (k : F Pay) (d : Bool) : lastT d (a.app (.node l q k .nil)) = (q.type == 1) := by rw [lastT_app]; rfl
theorem addLast_snoc (s : ByteArray) : ∀ (a : F Pay) (l : Nat) (q : Pay) (k : F Pay), addLast s (a.app (.node l q k .nil)) = a.app (.node l { q with data := q.data ++ s } k .nil)
  | .nil, l, q, k => by simp [F.app, addLast, F.len]
  | .node b p kk r, l, q, k => by
    rw [F.app, addLast, if_neg (by rw [F.len_app]; simp [F.len]), addLast_snoc s r l q k]
    rfl
theorem addLast_blocks (s : ByteArray) : ∀ f : F Pay, (addLast s f).blocks = f.blocks
  | .nil => rfl
  | .node b p k r => by
    rw [addLast]
    split
    · rename_i h
      cases r with
      | nil => rfl
      | node _ _ _ _ => simp [F.len] at h
    · simp only [F.blocks, addLast_blocks s r]
def heft : F Pay → Nat
  | .nil => 0
  | .node _ p k r => (if p.type == 1 then p.data.size else 0) + heft k + heft r
theorem heft_app : ∀ f g : F Pay, heft (f.app g) = heft f + heft g
  | .nil, g => by simp [F.app, heft]
  | .node b p k r, g => by simp only [F.app, heft, heft_app r g]; omega
theorem heft_addLast (s : ByteArray) (f : F Pay) : heft (addLast s f) ≤ heft f + s.size := by
  rcases snoc_cases f with h | ⟨a, l, q, k, h⟩
  · rw [h]; simp [addLast, heft]
  · rw [h, addLast_snoc, heft_app, heft_app]
    simp only [heft, ByteArray.size_append]
    split <;> omega
theorem mergeG_sub : ∀ (f done : F Pay), List.Sublist (mergeG f done).blocks (done.blocks ++ f.blocks)
  | .nil, done => by simp [mergeG, F.blocks]
  | .node b p k r, done => by
    rw [mergeG]
    split
    · refine (mergeG_sub r (addLast p.data done)).trans ?_
      rw [addLast_blocks]
      refine List.Sublist.append_left ?_ _
      simp only [F.blocks]
      exact (List.sublist_append_right _ _).trans (List.sublist_cons_self _ _)
    · refine (mergeG_sub r _).trans ?_
      rw [F.blocks_app]
      simp only [F.blocks, List.append_nil, List.append_assoc, List.cons_append]
      refine List.Sublist.append_left (List.Sublist.cons_cons _ (List.Sublist.append_right ?_ _)) _
      have := mergeG_sub k .nil
      simpa [F.blocks] using this
theorem mergeG_heft : ∀ (f done : F Pay), heft (mergeG f done) ≤ heft done + heft f
  | .nil, done => by simp [mergeG, heft]
  | .node b p k r, done => by
    rw [mergeG]
    split
    · rename_i hc
      have hp : (p.type == 1) = true := (Bool.and_eq_true _ _ ▸ hc).1
      have h1 := mergeG_heft r (addLast p.data done)
      have h2 := heft_addLast p.data done
      simp only [heft]
      rw [hp, if_pos rfl]
      omega
    · have h1 := mergeG_heft r (done.app (.node b p (mergeG k .nil) .nil))
      have h2 := mergeG_heft k .nil
      rw [heft_app] at h1
      simp only [heft] at h1 h2 ⊢
      omega
theorem setPay_out (n : Nat) (q : Pay) : ∀ (f : F Pay), n ∉ f.blocks → f.setPay n q = f
  | .nil, h => rfl
  | .node b p k r, h => by
    simp only [F.blocks, List.mem_cons, List.mem_append, not_or] at h
    rw [F.setPay, if_neg (fun e => h.1 e.symm), setPay_out n q k h.2.1, setPay_out n q r h.2.2]
end Go.Proofs.Ytlallihdiffheaa.Hand
namespace Go.Proofs.Ytlallihdiffheaa.Hand
open Go.RowKit Go.Proofs.YtlallihdiffheaaW.PrintWords Go.Proofs.YtlallihdiffheaaW.PrintLast Go.Proofs.Ytlallihdiffheaa.GT
set_option linter.unusedVariables false
set_option linter.unusedSimpArgs false

def AllK (P : F Pay → Prop) : F Pay → Prop
  | .nil => True
  | .node b p k r => P k ∧ AllK P r
theorem allK_app (P : F Pay → Prop) : ∀ (a g : F Pay), AllK P (a.app g) → AllK P g
  | .nil, g, h => h
  | .node b p k r, g, h => allK_app P r g h.2
theorem ptrV_form (o : Option Nat) : ∃ u, ptrV o = .pointer u := by cases o <;> exact ⟨_, rfl⟩
end Go.Proofs.Ytlallihdiffheaa.Hand
namespace Go.Proofs.Ytlallihdiffheaa.Hand
open Go.RowKit Go.Proofs.Ytlallihdiffheaa.GT
set_option linter.unusedVariables false

mutual
inductive Sm : Nat → S25 → Prop
  | text (t : ByteArray) (h : t.size ≤ 300) : Sm 1 ⟨1, ⟨#[]⟩, t, [], []⟩
  | comment (t : ByteArray) (h : t.size ≤ 300) : Sm 1 ⟨2, ⟨#[]⟩, t, [], []⟩
  | elem (n : Nat) (name : ByteArray) (kids : List S25) (h : SmL n kids) : Sm (n + 1) ⟨0, name, ⟨#[]⟩, [], kids⟩
inductive SmL : Nat → List S25 → Prop
  | nil : SmL 0 []
  | cons (m n : Nat) (y : S25) (l : List S25) (hy : Sm m y) (hl : SmL n l) : SmL (m + n) (y :: l)
end
theorem SmL.snoc {m : Nat} {y : S25} (hy : Sm m y) : ∀ {l : List S25} {n : Nat}, SmL n l → SmL (n + m) (l ++ [y])
  | [], _, .nil => by
    have := SmL.cons m 0 y [] hy .nil
    rw [Nat.zero_add]
    exact this
  | z :: l, _, .cons a b _ _ hz hl => by
    have := SmL.snoc hy hl
    rw [Nat.add_assoc]
    exact .cons a (b + m) z (l ++ [y]) hz this
/-- A forest that tells small trees. -/
theorem sm_forest : ∀ (f : F Pay) (n : Nat), Neat f → SmL n (erase f) → f.blocks.length ≤ n ∧ heft f ≤ 300 * n ∧ Plain f
  | .nil, n, _, _ => ⟨Nat.zero_le _, Nat.zero_le _, trivial⟩
  | .node b p k r, n, hn, h => by
    obtain ⟨h1, h2, h3⟩ := hn
    cases h with
    | cons a c _ _ hy hl =>
      obtain ⟨r1, r2, r3⟩ := sm_forest r c h3 hl
      rcases h1 with ⟨ht, hk⟩ | ⟨ht, hk⟩ | ht | ht
      · subst hk
        have e : nodeOf p (erase .nil) = ⟨1, ⟨#[]⟩, p.data, [], []⟩ := by simp [nodeOf, ht]
        rw [e] at hy
        cases hy with
        | text _ hs =>
          refine ⟨by simp only [F.blocks, List.length_cons, List.length_append, List.length_nil]; omega, ?_, .inl ht, trivial, r3⟩
          simp only [heft]
          rw [ht]
          simp only [beq_self_eq_true, if_true]
          omega
      · subst hk
        have e : nodeOf p (erase .nil) = ⟨2, ⟨#[]⟩, p.data, [], []⟩ := by simp [nodeOf, ht]
        rw [e] at hy
        cases hy with
        | comment _ hs =>
          refine ⟨by simp only [F.blocks, List.length_cons, List.length_append, List.length_nil]; omega, ?_, .inr (.inr ht), trivial, r3⟩
          simp only [heft]
          rw [ht]
          simp only [show ((4 : Int) == 1) = false from rfl, Bool.false_eq_true, if_false]
          omega
      · have e : nodeOf p (erase k) = ⟨0, p.data, ⟨#[]⟩, p.attrs.map attrTo, erase k⟩ := by simp [nodeOf, ht]
        rw [e] at hy
        generalize hat : p.attrs.map attrTo = at0 at hy
        generalize hek : erase k = ek at hy
        cases hy with
        | elem m _ _ hk =>
          subst hek
          obtain ⟨q1, q2, q3⟩ := sm_forest k m h2 hk
          refine ⟨by simp only [F.blocks, List.length_cons, List.length_append]; omega, ?_, .inr (.inl ⟨ht, by simpa using hat⟩), q3, r3⟩
          simp only [heft]
          rw [ht]
          simp only [show ((3 : Int) == 1) = false from rfl, Bool.false_eq_true, if_false]
          omega
      · have e : nodeOf p (erase k) = ⟨3, ⟨#[]⟩, ⟨#[]⟩, [], erase k⟩ := by simp [nodeOf, ht]
        rw [e] at hy
        cases hy
mutual
theorem Sm.wf : ∀ {n : Nat} {x : S25}, Sm n x → WF0 x
  | _, _, .text t h => .text t
  | _, _, .comment t h => .comment t
  | _, _, .elem n name kids h => .elem name kids (SmL.wf h)
theorem SmL.wf : ∀ {n : Nat} {l : List S25}, SmL n l → ∀ y ∈ l, WF0 y
  | _, _, .nil, y, h => by cases h
  | _, _, .cons m n z l hz hl, y, h => by
    rcases List.mem_cons.1 h with h | h
    · rw [h]
      exact Sm.wf hz
    · exact SmL.wf hl y h
end
end Go.Proofs.Ytlallihdiffheaa.Hand
