import Derived.Test.YtlallihdiffheaaDoorTree
import Derived.Lib.TrimU
import Derived.Laws.Strings
import Derived.Test.YtlallihdiffheaaDoorGTx5
import Derived.Test.YtlallihdiffheaaDoorOpenBulk
section
/- Lists whose children are items or blank texts: plain forests. -/
namespace Go.Proofs.YtlallihdiffheaaDoor.Hand
open Go.RowKit Go.Proofs.YtlallihdiffheaaDoorW.PrintWords Go.Proofs.YtlallihdiffheaaDoorW.PrintLast Go.Proofs.YtlallihdiffheaaDoor.GT
set_option linter.unusedVariables false
set_option linter.unusedSimpArgs false

def isLi (p : Pay) : Bool := decide (p.type = 3) && (p.data.toList == [108, 105])
def isList (p : Pay) : Bool := decide (p.type = 3) && (p.data.toList == [111, 108] || p.data.toList == [117, 108])
/-- What strings.TrimSpace leaves of a text. -/
def trimB (s : ByteArray) : ByteArray := ⟨(Lib.trimSpaceD s.data.toList).toArray⟩
def isBl (p : Pay) : Bool := decide (p.type = 1) && (trimB p.data).toList.isEmpty
/-- Items and blank texts alone. -/
def OkK : F Pay → Prop
  | .nil => True
  | .node _ p _ r => (isLi p = true ∨ isBl p = true) ∧ OkK r
/-- Blank texts alone. -/
def BlK : F Pay → Prop
  | .nil => True
  | .node _ p _ r => isBl p = true ∧ BlK r
/-- In each list nothing but items and blank texts. -/
def Settled : F Pay → Prop
  | .nil => True
  | .node _ p k r => (isList p = true → OkK k) ∧ Settled k ∧ Settled r
/-- What a node weighs, but for what lies within. -/
def payW (p : Pay) : Nat := 6 + (if p.type = 2 then 0 else p.data.size) + (if p.type = 3 then (p.attrs.map fun a => a.1.size + a.2.size + 3).sum else 0)
def wF : F Pay → Nat
  | .nil => 0
  | .node _ p k r => payW p + wF k + wF r
/-- What there may be behind it, by weight. -/
def cost : F Pay → Nat
  | .nil => 0
  | .node _ p k r => payW p + (if isList p = true then 8 else 0) + cost k + cost r
theorem payW_pos (p : Pay) : 6 ≤ payW p := by unfold payW; omega
theorem payW_list {p : Pay} (h : isList p = true) : 8 ≤ payW p := by
  simp only [isList, Bool.and_eq_true, Bool.or_eq_true, decide_eq_true_eq, beq_iff_eq] at h
  have h2 : p.data.size = 2 := by
    have hl : p.data.toList.length = p.data.size := by rw [ByteArray.toList_eq]; exact (Lib.size_eq p.data).symm
    rw [← hl]
    rcases h.2 with e | e <;> rw [e] <;> rfl
  unfold payW
  rw [if_neg (by rw [h.1]; decide), h2]
  omega
theorem okK_app : ∀ (a g : F Pay), OkK (a.app g) ↔ OkK a ∧ OkK g
  | .nil, g => by simp [F.app, OkK]
  | .node b p k r, g => by simp only [F.app, OkK, okK_app r g, and_assoc]
theorem blK_app : ∀ (a g : F Pay), BlK (a.app g) ↔ BlK a ∧ BlK g
  | .nil, g => by simp [F.app, BlK]
  | .node b p k r, g => by simp only [F.app, BlK, blK_app r g, and_assoc]
theorem BlK.ok : ∀ {a : F Pay}, BlK a → OkK a
  | .nil, _ => trivial
  | .node _ _ _ r, h => ⟨.inr h.1, BlK.ok h.2⟩
theorem settled_app : ∀ (a g : F Pay), Settled (a.app g) ↔ Settled a ∧ Settled g
  | .nil, g => by simp [F.app, Settled]
  | .node b p k r, g => by simp only [F.app, Settled, settled_app r g, and_assoc]
theorem cost_app : ∀ (a g : F Pay), cost (a.app g) = cost a + cost g
  | .nil, g => by simp [F.app, cost]
  | .node b p k r, g => by simp only [F.app, cost, cost_app r g]; omega
theorem wF_app : ∀ (a g : F Pay), wF (a.app g) = wF a + wF g
  | .nil, g => by simp [F.app, wF]
  | .node b p k r, g => by simp only [F.app, wF, wF_app r g]; omega
theorem blocks_wF : ∀ (a : F Pay), 6 * a.blocks.length ≤ wF a
  | .nil => Nat.le_refl _
  | .node b p k r => by
    have := blocks_wF k
    have := blocks_wF r
    have := payW_pos p
    simp only [F.blocks, wF, List.length_cons, List.length_append]
    omega
theorem len_cost : ∀ (a : F Pay), 6 * a.len ≤ cost a
  | .nil => Nat.le_refl _
  | .node b p k r => by
    have := len_cost r
    have := payW_pos p
    simp only [F.len, cost]
    omega
theorem wF_cost : ∀ (a : F Pay), wF a ≤ cost a
  | .nil => Nat.le_refl _
  | .node b p k r => by
    have := wF_cost k
    have := wF_cost r
    simp only [wF, cost]
    omega
theorem cost_wF : ∀ (a : F Pay), cost a ≤ 2 * wF a
  | .nil => Nat.le_refl _
  | .node b p k r => by
    have := cost_wF k
    have := cost_wF r
    simp only [wF, cost]
    by_cases h : isList p = true
    · have := payW_list h
      rw [if_pos h]
      omega
    · rw [if_neg h]
      omega
theorem li_not_bl {p : Pay} (h : isLi p = true) : isBl p = false := by
  simp only [isLi, isBl, Bool.and_eq_true, decide_eq_true_eq] at h ⊢
  simp [h.1]
theorem li_not_list {p : Pay} (h : isLi p = true) : isList p = false := by
  simp only [isLi, isList, Bool.and_eq_true, decide_eq_true_eq, beq_iff_eq] at h ⊢
  rw [h.2]
  simp
/-- Forests that tell the same settle alike. -/
theorem settled_erase : ∀ (f g : F Pay), Neat f → Neat g → erase f = erase g → (Settled f → Settled g) ∧ (OkK f → OkK g)
  | .nil, g, hf, hg, h => by
    cases g with
    | nil => exact ⟨id, id⟩
    | node b p k r => cases h
  | .node b p k r, .nil, hf, hg, h => by cases h
  | .node b p k r, .node b' p' k' r', hf, hg, h => by
    simp only [erase, List.cons.injEq] at h
    obtain ⟨hr1, hr2⟩ := settled_erase r r' hf.2.2 hg.2.2 h.2
    have key : p'.type = p.type ∧ ((p.type = 3 ∨ p.type = 1) → p'.data = p.data) ∧ (p.type = 3 → erase k' = erase k) ∧ (p.type = 2 → erase k' = erase k) := by
      have h1 := h.1
      unfold nodeOf at h1
      rcases hf.1 with ⟨e, _⟩ | ⟨e, _⟩ | e | e <;> rcases hg.1 with ⟨e', _⟩ | ⟨e', _⟩ | e' | e' <;> rw [e, e'] at h1 <;> simp at h1 <;> (try simp [e, e', h1])
    have htk : erase k = erase k' := by
      rcases hf.1 with ⟨e, hk⟩ | ⟨e, hk⟩ | e | e
      · rcases hg.1 with ⟨_, hk'⟩ | ⟨e', _⟩ | e' | e'
        · rw [hk, hk']
        · rw [key.1, e] at e'; exact absurd e' (by decide)
        · rw [key.1, e] at e'; exact absurd e' (by decide)
        · rw [key.1, e] at e'; exact absurd e' (by decide)
      · rcases hg.1 with ⟨e', _⟩ | ⟨_, hk'⟩ | e' | e'
        · rw [key.1, e] at e'; exact absurd e' (by decide)
        · rw [hk, hk']
        · rw [key.1, e] at e'; exact absurd e' (by decide)
        · rw [key.1, e] at e'; exact absurd e' (by decide)
      · exact (key.2.2.1 e).symm
      · exact (key.2.2.2 e).symm
    obtain ⟨hk1, hk2⟩ := settled_erase k k' hf.2.1 hg.2.1 htk
    have hli : isLi p' = isLi p := by
      unfold isLi
      rw [key.1]
      by_cases e : p.type = 3
      · rw [key.2.1 (.inl e)]
      · simp [e]
    have hls : isList p' = isList p := by
      unfold isList
      rw [key.1]
      by_cases e : p.type = 3
      · rw [key.2.1 (.inl e)]
      · simp [e]
    have hbl : isBl p' = isBl p := by
      unfold isBl
      rw [key.1]
      by_cases e : p.type = 1
      · rw [key.2.1 (.inr e)]
      · simp [e]
    refine ⟨fun hs => ⟨fun hl => hk2 (hs.1 (by rw [← hls]; exact hl)), hk1 hs.2.1, hr1 hs.2.2⟩, fun ho => ⟨?_, hr2 ho.2⟩⟩
    rw [hli, hbl]
    exact ho.1
/-- No element has too many attributes, no text is too long. -/
def FitM : F Pay → Prop
  | .nil => True
  | .node b p k r => ((p.type = 3 → p.attrs.length ≤ 4398046511104) ∧ p.data.size ≤ 3000000 ∧ p.type ≠ 2) ∧ FitM k ∧ FitM r
theorem fitM_app : ∀ (a g : F Pay), FitM (a.app g) ↔ FitM a ∧ FitM g
  | .nil, g => by simp [F.app, FitM]
  | .node b p k r, g => by simp only [F.app, FitM, fitM_app r g, and_assoc]
theorem FitM.fit : ∀ {f : F Pay}, FitM f → FitF f
  | .nil, _ => trivial
  | .node b p k r, h => ⟨h.1.1, FitM.fit h.2.1, FitM.fit h.2.2⟩
end Go.Proofs.YtlallihdiffheaaDoor.Hand
end
section
/- spec.Alike of a tree and itself. Plain, over the printed functions. -/
namespace Go.Proofs.YtlallihdiffheaaDoor.Hand
open Go.RowKit Go.Proofs.YtlallihdiffheaaDoor.GT Go.Proofs.YtlallihdiffheaaDoorW.PrintWords Go.Proofs.YtlallihdiffheaaDoorW.PrintLast
set_option linter.unusedVariables false

abbrev Nt := S25
theorem wNs_app : ∀ (l m : List Nt), wNs (l ++ m) = wNs l + wNs m
  | [], m => by simp [wNs]
  | x :: l, m => by rw [List.cons_append, wNs, wNs, wNs_app l m]; omega
theorem wN_pos (x : Nt) : 6 ≤ wN x := by
  obtain ⟨a, b, c, d, e⟩ := x
  rw [wN]
  simp only [wS, wL]
  omega
theorem wN_eq (x : Nt) : wN x = 1 + wS x.f1 + wS x.f2 + wL wA x.f3 + wNs x.f4 + 2 := by
  obtain ⟨a, b, c, d, e⟩ := x
  rw [wN]
theorem wNs_len : ∀ l : List Nt, 6 * l.length ≤ wNs l
  | [] => by simp
  | x :: l => by
    have := wNs_len l
    have := wN_pos x
    rw [wNs, List.length_cons]
    omega
theorem wA_len (l : List S29) : l.length ≤ wL wA l := by
  unfold wL
  induction l with
  | nil => simp
  | cons a l ih =>
    simp only [List.map_cons, List.sum_cons, List.length_cons]
    have : 1 ≤ wA a := by unfold wA wS; omega
    omega
theorem snoc_of {l : List Nt} (h : 0 < l.length) : ∃ i t, l = i ++ [t] := by
  have hne : l ≠ [] := fun e => by rw [e] at h; simp at h
  exact ⟨l.dropLast, l.getLast hne, (List.dropLast_concat_getLast hne).symm⟩
theorem rd_snoc (i : List Nt) (t : Nt) : rd_T25 (i ++ [t]) (((i ++ [t]).length : Int) - 1) = t := by
  unfold rd_T25
  rw [show ((((i ++ [t]).length : Int) - 1)).toNat = i.length from by rw [List.length_append]; simp]
  simp
theorem merged_loop (l : List Nt) (hl : wNs l ≤ 10000000) : ∀ (k i : Nat) (acc : List Nt), l.length - i + 1 ≤ k → i ≤ l.length → wNs acc + wNs (l.drop i) ≤ wNs l →
    ∃ m, spec_merged.l0 k acc l (l.length : Int) (i : Int) = some m ∧ wNs m ≤ wNs l
  | 0, i, acc, h1, h2, h3 => by omega
  | k + 1, i, acc, h1, h2, h3 => by
    by_cases hlt : i < l.length
    · have hw : wrap64 ((i : Int) + 1) = ((i + 1 : Nat) : Int) := by have := wNs_len l; unfold wrap64; omega
      have hacc := wNs_len acc
      have hll := wNs_len l
      have hwl : wrap64 ((acc.length : Int) - 1) = (acc.length : Int) - 1 := by unfold wrap64; omega
      have hrd : rd_T25 l (i : Int) = l[i]'hlt := by
        unfold rd_T25
        simp [hlt]
      have hdrop : l.drop i = (l[i]'hlt) :: l.drop (i + 1) := List.drop_eq_getElem_cons hlt
      rw [hdrop, wNs] at h3
      have hpush : ∃ m, spec_merged.l0 k (acc ++ [(⟨(l[i]'hlt).f0, (l[i]'hlt).f1, (l[i]'hlt).f2, (l[i]'hlt).f3, (l[i]'hlt).f4⟩ : Nt)]) l (l.length : Int) ((i + 1 : Nat) : Int) = some m ∧ wNs m ≤ wNs l := by
        refine merged_loop l hl k (i + 1) _ (by omega) (by omega) ?_
        rw [wNs_app, wNs, wNs, show (⟨(l[i]'hlt).f0, (l[i]'hlt).f1, (l[i]'hlt).f2, (l[i]'hlt).f3, (l[i]'hlt).f4⟩ : Nt) = l[i]'hlt from by cases l[i]'hlt; rfl]
        omega
      have hroom : acc.length < 1599289640401 := by omega
      rw [spec_merged.l0, if_pos (by omega), if_pos (by omega), if_pos (by omega), hw, hrd, hwl]
      by_cases hf : (l[i]'hlt).f0 = 1
      · rw [if_pos hf]
        by_cases hz : (acc.length : Int) - 1 ≥ 0
        · rw [if_pos hz, if_pos hz, if_pos (show (acc.length : Int) - 1 < (acc.length : Int) by omega)]
          obtain ⟨ini, t, rfl⟩ := snoc_of (l := acc) (by omega)
          rw [rd_snoc]
          by_cases hg : t.f0 = 1
          · have hset : (ini ++ [t]).set (((ini ++ [t]).length : Int) - 1).toNat (⟨t.f0, t.f1, t.f2 ++ (l[i]'hlt).f2, t.f3, t.f4⟩ : Nt) = ini ++ [⟨t.f0, t.f1, t.f2 ++ (l[i]'hlt).f2, t.f3, t.f4⟩] := by
              rw [show ((((ini ++ [t]).length : Int) - 1)).toNat = ini.length from by rw [List.length_append]; simp]
              simp
            have ht := wN_eq t
            have hx := wN_eq (l[i]'hlt)
            rw [wNs_app, wNs, wNs] at h3
            have hsz : t.f2.size + (l[i]'hlt).f2.size ≤ 9223372036854775807 := by simp only [wS] at ht hx; omega
            rw [if_pos hg, if_pos hsz, hset]
            refine merged_loop l hl k (i + 1) _ (by omega) (by omega) ?_
            rw [wNs_app, wNs, wNs, wN]
            simp only [wS, ByteArray.size_append] at ht hx ⊢
            omega
          · rw [if_neg hg, if_pos hroom]
            exact hpush
        · rw [if_neg hz, if_pos hroom]
          exact hpush
      · rw [if_neg hf, if_pos hroom]
        exact hpush
    · rw [spec_merged.l0, if_neg (by omega)]
      exact ⟨acc, rfl, by omega⟩
theorem merged_tot (l : List Nt) (hl : wNs l ≤ 10000000) (k : Nat) (hk : l.length + 1 ≤ k) : ∃ m, spec_merged.f k l = some m ∧ wNs m ≤ wNs l :=
  merged_loop l hl k 0 [] (by omega) (by omega) (by simp [wNs])
theorem attrs_loop (x : Nt) (hx : wN x ≤ 10000000) : ∀ (d k i : Nat), x.f3.length - i = d → i ≤ x.f3.length → spec_Alike.l0 (d + k + 1) (x.f3.length : Int) (i : Int) x.f0 x.f1 x.f2 x.f3 x.f4 x.f0 x.f1 x.f2 x.f3 x.f4 = spec_Alike.l0 (k + 1) (x.f3.length : Int) (x.f3.length : Int) x.f0 x.f1 x.f2 x.f3 x.f4 x.f0 x.f1 x.f2 x.f3 x.f4
  | 0, k, i, h1, h2 => by
    obtain rfl : i = x.f3.length := by omega
    rw [Nat.zero_add]
  | d + 1, k, i, h1, h2 => by
    have hlt : i < x.f3.length := by omega
    have hw : wrap64 ((i : Int) + 1) = ((i + 1 : Nat) : Int) := by
      have := wA_len x.f3
      have := wN_eq x
      unfold wrap64
      omega
    have hb : ∀ y : ByteArray, (y.toList == y.toList) = true := fun y => by simp
    have ih := attrs_loop x hx d k (i + 1) (by omega) (by omega)
    rw [show d + 1 + k + 1 = (d + k + 1) + 1 from by omega, spec_Alike.l0, if_pos (by omega), if_pos (by omega), if_pos (by omega), if_pos (by omega), hb, hb, hw]
    exact ih
theorem mem_drop_le (m : List Nt) (j : Nat) : wNs (m.drop j) ≤ wNs m := by
  have h := wNs_app (m.take j) (m.drop j)
  rw [List.take_append_drop] at h
  omega
theorem kids_loop (N : Nat) (m : List Nt) (hm : wNs m ≤ 10000000) (ih : ∀ y ∈ m, ∀ k, 10 * wN y ≤ k → spec_Alike.f k y.f0 y.f1 y.f2 y.f3 y.f4 y.f0 y.f1 y.f2 y.f3 y.f4 = some true) : ∀ (d k j : Nat), m.length - j = d → j ≤ m.length → 10 * wNs (m.drop j) + 1 ≤ k → spec_Alike.l1 k m m (m.length : Int) (j : Int) = some true
  | d, 0, j, h1, h2, h3 => by omega
  | 0, k + 1, j, h1, h2, h3 => by
    rw [spec_Alike.l1, if_neg (by omega)]
  | d + 1, k + 1, j, h1, h2, h3 => by
    have hlt : j < m.length := by omega
    have hml := wNs_len m
    have hw : wrap64 ((j : Int) + 1) = ((j + 1 : Nat) : Int) := by unfold wrap64; omega
    have hrd : rd_T25 m (j : Int) = m[j]'hlt := by
      unfold rd_T25
      simp [hlt]
    have hdrop : m.drop j = (m[j]'hlt) :: m.drop (j + 1) := List.drop_eq_getElem_cons hlt
    have hy := wN_pos (m[j]'hlt)
    rw [hdrop, wNs] at h3
    have hself := ih (m[j]'hlt) (List.getElem_mem _) k (by omega)
    have hrec := kids_loop N m hm ih d k (j + 1) (by omega) (by omega) (by omega)
    rw [spec_Alike.l1, if_pos (by omega), if_pos (by omega), if_pos (by omega), if_pos (by omega), hrd, hself, Option.bind_some, if_pos rfl, hw]
    exact hrec
theorem wN_mem : ∀ (m : List Nt) (y : Nt), y ∈ m → wN y ≤ wNs m
  | [], y, h => by cases h
  | x :: m, y, h => by
    rw [wNs]
    rcases List.mem_cons.1 h with h | h
    · subst h; omega
    · have := wN_mem m y h; omega
theorem alike_self : ∀ (N : Nat) (x : Nt), wN x ≤ N → N ≤ 10000000 → ∀ k, 10 * wN x ≤ k → spec_Alike.f k x.f0 x.f1 x.f2 x.f3 x.f4 x.f0 x.f1 x.f2 x.f3 x.f4 = some true
  | 0, x, h, _, _, _ => by have := wN_pos x; omega
  | N + 1, x, h, hN, k, hk => by
    have hp := wN_pos x
    have he := wN_eq x
    have ha := wA_len x.f3
    have hll := wNs_len x.f4
    obtain ⟨a, hxa⟩ : ∃ a, a = x.f3.length := ⟨_, rfl⟩
    obtain ⟨k, rfl⟩ : ∃ m, k = a + (m + 1) + 1 + 2 := ⟨k - a - 4, by omega⟩
    obtain ⟨m, hm, hmw⟩ := merged_tot x.f4 (by omega) (k + 1) (by omega)
    have hl0 := attrs_loop x (by omega) a (k + 1) 0 (by omega) (by omega)
    have hl1 := kids_loop N m (by omega) (fun y hy => alike_self N y (by have := wN_mem m y hy; omega) (by omega)) m.length (k + 1) 0 (by omega) (by omega) (by rw [List.drop_zero]; omega)
    have hne : ((x.f3.length : Int) != (x.f3.length : Int)) = false := by simp
    rw [spec_Alike.f, if_pos rfl, if_pos rfl, if_pos rfl, hne, spec_Alike.j0, if_neg (by decide)]
    refine hl0.trans ?_
    rw [spec_Alike.l0, if_neg (by omega), hm, Option.bind_some, Option.bind_some, if_pos rfl]
    exact hl1
end Go.Proofs.YtlallihdiffheaaDoor.Hand
end
section
/- Lists put right: what stands of the trees that told and made forests. Plain. -/
namespace Go.Proofs.YtlallihdiffheaaDoor.Hand
open Go.RowKit Go.Proofs.YtlallihdiffheaaDoor.GT Go.Proofs.YtlallihdiffheaaDoorW.PrintWords Go.Proofs.YtlallihdiffheaaDoorW.PrintLast
set_option linter.unusedVariables false
set_option linter.unusedSimpArgs false

mutual
/-- No document stands in it. -/
def noDoc : Nt → Prop
  | ⟨a, b, c, d, e⟩ => a ≠ 3 ∧ noDocs e
def noDocs : List Nt → Prop
  | [] => True
  | x :: l => noDoc x ∧ noDocs l
end
theorem noDoc_eq (x : Nt) : noDoc x = (x.f0 ≠ 3 ∧ noDocs x.f4) := by obtain ⟨a, b, c, d, e⟩ := x; rw [noDoc]
theorem wL_attrs (l : List (ByteArray × ByteArray)) : wL wA (l.map attrTo) = (l.map fun a => a.1.size + a.2.size + 3).sum + 1 := by
  unfold wL
  induction l with
  | nil => rfl
  | cons a l ih =>
    simp only [List.map_cons, List.sum_cons]
    have : wA (attrTo a) = a.1.size + a.2.size + 3 := by simp only [wA, wS, attrTo]; omega
    omega
theorem wN_nodeOf {p : Pay} {ks : List Nt} (h : (p.type = 1 ∧ ks = []) ∨ (p.type = 4 ∧ ks = []) ∨ p.type = 3 ∨ p.type = 2) : wN (nodeOf p ks) = payW p + wNs ks := by
  have e0 : (⟨#[]⟩ : ByteArray).size = 0 := rfl
  have e1 : wNs [] = 0 := by rw [wNs]
  rcases h with ⟨h, hk⟩ | ⟨h, hk⟩ | h | h
  · rw [hk]
    simp only [nodeOf, payW, h, wN_eq, wS, wL, wNs, e0]
    simp
    omega
  · rw [hk]
    simp only [nodeOf, payW, h, wN_eq, wS, wL, wNs, e0]
    simp
    omega
  · have := wL_attrs p.attrs
    simp only [nodeOf, payW, h, wN_eq, wS, e0]
    simp
    omega
  · simp only [nodeOf, payW, h, wN_eq, wS, wL, e0]
    simp
    omega
theorem neat_kids {b : Nat} {p : Pay} {k r : F Pay} (h : Neat (.node b p k r)) : (p.type = 1 ∧ erase k = []) ∨ (p.type = 4 ∧ erase k = []) ∨ p.type = 3 ∨ p.type = 2 := by
  rcases h.1 with ⟨a, e⟩ | ⟨a, e⟩ | a | a
  · exact .inl ⟨a, by rw [e]; rfl⟩
  · exact .inr (.inl ⟨a, by rw [e]; rfl⟩)
  · exact .inr (.inr (.inl a))
  · exact .inr (.inr (.inr a))
theorem wF_erase : ∀ f : F Pay, Neat f → wNs (erase f) = wF f
  | .nil, _ => by rw [erase, wNs, wF]
  | .node b p k r, h => by
    rw [erase, wNs, wN_nodeOf (neat_kids h), wF_erase k h.2.1, wF_erase r h.2.2, wF]
theorem wF_tree {b : Nat} {p : Pay} {k : F Pay} (h : Neat (.node b p k .nil)) : wN (nodeOf p (erase k)) = payW p + wF k := by
  rw [wN_nodeOf (neat_kids h), wF_erase k h.2.1]
/-- The parts of a light tree fit. -/
theorem fitM_of : ∀ f : F Pay, Neat f → noDocs (erase f) → wNs (erase f) ≤ 3000000 → FitM f
  | .nil, _, _, _ => trivial
  | .node b p k r, h, hd, hw => by
    rw [erase, noDocs, noDoc_eq] at hd
    rw [erase, wNs, wN_nodeOf (neat_kids h)] at hw
    have h2 : p.type ≠ 2 := fun e => hd.1.1 (by simp [nodeOf, e])
    have hk : noDocs (erase k) := by
      rcases h.1 with ⟨a, e⟩ | ⟨a, e⟩ | a | a
      · rw [e]; exact trivial
      · rw [e]; exact trivial
      · have := hd.1.2
        simp only [nodeOf, a, if_true] at this
        exact this
      · exact absurd a h2
    have hpw : p.data.size ≤ payW p := by unfold payW; rw [if_neg h2]; omega
    refine ⟨⟨fun h3 => ?_, by omega, h2⟩, fitM_of k h.2.1 hk (by omega), fitM_of r h.2.2 hd.2 (by omega)⟩
    have hal : ∀ l : List (ByteArray × ByteArray), l.length ≤ (l.map fun a => a.1.size + a.2.size + 3).sum := fun l => by
      induction l with
      | nil => simp
      | cons a l ih => simp only [List.map_cons, List.sum_cons, List.length_cons]; omega
    have h4 := hal p.attrs
    have : (p.attrs.map fun a => a.1.size + a.2.size + 3).sum ≤ payW p := by unfold payW; rw [if_pos h3]; omega
    omega
theorem noDocs_of : ∀ f : F Pay, Neat f → FitM f → noDocs (erase f)
  | .nil, _, _ => by rw [erase, noDocs]; trivial
  | .node b p k r, h, hf => by
    rw [erase, noDocs, noDoc_eq]
    refine ⟨⟨?_, ?_⟩, noDocs_of r h.2.2 hf.2.2⟩
    · rcases h.1 with ⟨a, e⟩ | ⟨a, e⟩ | a | a
      · simp [nodeOf, a]
      · simp [nodeOf, a]
      · simp [nodeOf, a]
      · exact absurd a hf.1.2.2
    · have hk := noDocs_of k h.2.1 hf.2.1
      rcases h.1 with ⟨a, e⟩ | ⟨a, e⟩ | a | a
      · simp only [nodeOf, a]; simp [noDocs]
      · simp only [nodeOf, a]; simp [noDocs]
      · simp only [nodeOf, a, if_true]; exact hk
      · exact absurd a hf.1.2.2
theorem tn_of : ∀ f : F Pay, Neat f → FitM f → ∃ n, TnL n (erase f)
  | .nil, _, _ => ⟨0, by rw [erase]; exact .nil⟩
  | .node b p k r, h, hf => by
    obtain ⟨n, hn⟩ := tn_of k h.2.1 hf.2.1
    obtain ⟨m, hm⟩ := tn_of r h.2.2 hf.2.2
    rw [erase]
    rcases h.1 with ⟨a, e⟩ | ⟨a, e⟩ | a | a
    · exact ⟨1 + m, .cons _ _ _ _ (by simp only [nodeOf, a]; exact .text _) hm⟩
    · exact ⟨1 + m, .cons _ _ _ _ (by simp only [nodeOf, a]; exact .comment _) hm⟩
    · refine ⟨(n + 1) + m, .cons _ _ _ _ ?_ hm⟩
      simp only [nodeOf, a, if_true]
      exact .elem n _ _ _ (by simpa using hf.1.1 a) hn
    · exact absurd a hf.1.2.2
/-- A tree, and what it is with its lists put right. -/
def QM (x y : Nt) : Prop := ∃ (b : Nat) (p : Pay) (k k' : F Pay), Neat (.node b p k .nil) ∧ nodeOf p (erase k) = x ∧ y = nodeOf p (erase k') ∧ Neat (.node b p k' .nil) ∧ FitM (.node b p k' .nil) ∧ Settled (.node b p k' .nil) ∧ (Settled (.node b p k .nil) → k' = k) ∧ wF k' + payW p ≤ cost (.node b p k .nil)
theorem nodeOf_name (p : Pay) (a b : List Nt) : (nodeOf p a).f1 = (nodeOf p b).f1 := by
  unfold nodeOf
  split
  · rfl
  · split
    · rfl
    · split <;> rfl
theorem QM.name {x y : Nt} (h : QM x y) : y.f1 = x.f1 := by
  obtain ⟨b, p, k, k', _, h2, h3, _⟩ := h
  rw [h3, ← h2]
  exact nodeOf_name _ _ _
theorem QM.weight {x y : Nt} (h : QM x y) : wN y ≤ 2 * wN x := by
  obtain ⟨b, p, k, k', h1, h2, h3, h4, h5, h6, h7, h8⟩ := h
  rw [h3, ← h2, wF_tree h1, wF_tree h4]
  have := cost_wF (.node b p k .nil)
  simp only [wF] at this
  omega
theorem QM.noDoc {x y : Nt} (h : QM x y) : noDoc y := by
  obtain ⟨b, p, k, k', h1, h2, h3, h4, h5, h6, h7, h8⟩ := h
  have := noDocs_of _ h4 h5
  rw [erase, noDocs] at this
  rw [h3]
  exact this.1
theorem QM.tn {x y : Nt} (h : QM x y) : ∃ n, Tn n y := by
  obtain ⟨b, p, k, k', h1, h2, h3, h4, h5, h6, h7, h8⟩ := h
  obtain ⟨n, hn⟩ := tn_of _ h4 h5
  rw [erase, erase] at hn
  cases hn with
  | cons m n _ _ hy hl => exact ⟨m, by rw [h3]; exact hy⟩
/-- Once put right, right. -/
theorem QM.twice {x y z : Nt} (h : QM x y) (g : QM y z) : z = y := by
  obtain ⟨b, p, k, k', h1, h2, h3, h4, h5, h6, h7, h8⟩ := h
  obtain ⟨b2, p2, k2, k3, g1, g2, g3, g4, g5, g6, g7, g8⟩ := g
  have he : erase (.node b p k' .nil) = erase (.node b2 p2 k2 .nil) := by
    rw [erase, erase, erase, erase, ← h3, g2]
  have hs := (settled_erase _ _ h4 g1 he).1 h6
  rw [g3, g7 hs, g2]
end Go.Proofs.YtlallihdiffheaaDoor.Hand
end
