/- impl.at by hand: the node at a path. -/
import Derived.Test.YtlallihdiffheaaDoorPath
import Derived.Deep.LoopGhost
namespace Go.Proofs.YtlallihdiffheaaDoor.Hand
open Go.RowKit Go.Proofs.YtlallihdiffheaaDoorW.PrintWords Go.Proofs.YtlallihdiffheaaDoorW.PrintLast Go.Proofs.YtlallihdiffheaaDoor.GT
set_option linter.unusedVariables false
set_option linter.unusedSimpArgs false

theorem take_rd (l : List Int) (j : Nat) (h : j < l.length) : l.take (j + 1) = l.take j ++ [rd l (j : Int)] := by
  rw [List.take_add_one, List.getElem?_eq_getElem h]
  simp [rd, h]
/-- Beyond a node that isn't there, no path leads anywhere. -/
theorem subF_none {b : Nat} {p : Pay} {k : F Pay} {l : List Int} {j : Nat} (h : subF b p k (l.take j) = none) : subF b p k l = none := by
  have key : ∀ (is js : List Int) (b : Nat) (p : Pay) (k : F Pay), subF b p k is = none → subF b p k (is ++ js) = none := by
    intro is
    induction is with
    | nil => intro js b p k h; cases h
    | cons i is ih =>
      intro js b p k h
      rw [List.cons_append]
      rw [subF] at h ⊢
      split
      · rfl
      · rename_i hi
        rw [if_neg hi] at h
        cases e : k.dropF i.toNat with
        | nil => rfl
        | node c q ck r =>
          rw [e] at h
          exact ih js c q ck h
  have := key (l.take j) (l.drop j) b p k h
  rwa [List.take_append_drop] at this
theorem dropF_blocks {f : F Pay} {i c : Nat} {q : Pay} {ck r : F Pay} (h : f.dropF i = .node c q ck r) : ck.blocks.length + 1 ≤ f.blocks.length := by
  obtain ⟨a, ha, -⟩ := F.dropF_split f i c q ck r h
  rw [ha, F.blocks_app]
  simp only [F.blocks, List.length_append, List.length_cons]
  omega
theorem subF_len : ∀ {is : List Int} {b : Nat} {p : Pay} {k : F Pay} {c : Nat} {q : Pay} {ck : F Pay}, subF b p k is = some (c, q, ck) → ck.blocks.length ≤ k.blocks.length
  | [], b, p, k, c, q, ck, h => by
    simp only [subF, Option.some.injEq, Prod.mk.injEq] at h
    obtain ⟨-, -, rfl⟩ := h
    exact Nat.le_refl _
  | i :: is, b, p, k, c, q, ck, h => by
    rw [subF] at h
    split at h
    · cases h
    · cases e : k.dropF i.toNat with
      | nil => rw [e] at h; cases h
      | node d qd kd r =>
        rw [e] at h
        have := subF_len (is := is) h
        have := dropF_blocks e
        omega
theorem ptrV_form0 (o : Option Nat) : ∃ u, ptrV o = .pointer u := by cases o <;> exact ⟨_, rfl⟩
theorem dropF_nil_le {P : Type} (f : F P) {i m : Nat} (h : f.dropF i = .nil) (hm : i ≤ m) : f.dropF m = .nil := (F.dropF_len f m).2 (Nat.le_trans ((F.dropF_len f i).1 h) hm)
end Go.Proofs.YtlallihdiffheaaDoor.Hand
