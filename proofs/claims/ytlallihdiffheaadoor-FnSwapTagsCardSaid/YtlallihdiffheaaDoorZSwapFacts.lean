import Derived.Test.YtlallihdiffheaaDoorSwp
import Derived.Test.YtlallihdiffheaaDoorGTx4
import Derived.Test.YtlallihdiffheaaDoorGTx5
import Derived.Test.YtlallihdiffheaaDoorBytes
import Derived.Test.YtlallihdiffheaaDoorAscii
import Derived.Test.YtlallihdiffheaaDoorZSwapImpl
section
/- A tree's text, and whether an element of some names stands in a tree: of forests; elements that become others leave the texts as they are. Plain. -/
namespace Go.Proofs.YtlallihdiffheaaDoor.Dom
open Go.RowKit Go.Proofs.YtlallihdiffheaaDoorW.PrintWords Go.Proofs.YtlallihdiffheaaDoorW.PrintLast Go.Proofs.YtlallihdiffheaaDoorW.PrintMore Go.Proofs.YtlallihdiffheaaDoor.GT Go.Proofs.YtlallihdiffheaaDoor.Hand
set_option linter.unusedVariables false
set_option linter.unusedSimpArgs false

theorem data_append (a b : ByteArray) : (a ++ b).data.toList = a.data.toList ++ b.data.toList := by simp
/-- All texts of a forest, one behind the other. -/
def txtF : F Pay → List UInt8
  | .nil => []
  | .node b p k r => (if p.type = 1 then p.data.data.toList else txtF k) ++ txtF r
theorem txt_heft : ∀ f : F Pay, Neat f → (txtF f).length ≤ Hand.heft f
  | .nil, _ => Nat.zero_le _
  | .node b p k r, hn => by
    have h1 := txt_heft k hn.2.1
    have h2 := txt_heft r hn.2.2
    simp only [txtF, Hand.heft, List.length_append]
    by_cases h : p.type = 1
    · simp only [h, beq_self_eq_true, if_true, Array.length_toList]
      have : p.data.data.size = p.data.size := rfl
      omega
    · have h3 : (p.type == 1) = false := by simpa using h
      simp only [h, h3, if_false, Bool.false_eq_true]
      omega
theorem rd_mid (a : F Pay) (x : S25) (l : List S25) : rd_T25 (erase a ++ x :: l) (a.len : Int) = x := by
  unfold rd_T25
  rw [Int.toNat_natCast, ← erase_len, List.getD_eq_getElem?_getD, List.getElem?_append_right (Nat.le_refl _), Nat.sub_self]
  rfl
mutual
theorem text_node (b : Nat) (p : Pay) : ∀ (k : F Pay), Neat (.node b p k .nil) → Plain (.node b p k .nil) → Hand.heft (.node b p k .nil) ≤ 1000000000 → k.blocks.length ≤ 1000000 → ∀ K, 2 * k.blocks.length + 3 ≤ K → ∃ r, spec_TextOf.f K (nodeOf p (erase k)).f0 (nodeOf p (erase k)).f1 (nodeOf p (erase k)).f2 (nodeOf p (erase k)).f3 (nodeOf p (erase k)).f4 = some r ∧ r.data.toList = txtF (.node b p k .nil)
  | k, hn, hp, hh, hl, K, hK => by
    obtain ⟨K, rfl⟩ : ∃ m, K = m + 1 := ⟨K - 1, by omega⟩
    rcases hp.1 with ht | ⟨ht, _⟩ | ht
    · have e : nodeOf p (erase k) = ⟨1, ⟨#[]⟩, p.data, [], []⟩ := by simp [nodeOf, ht]
      rw [e, spec_TextOf.f, if_pos rfl]
      exact ⟨_, rfl, by simp [txtF, ht]⟩
    · have e : nodeOf p (erase k) = ⟨0, p.data, ⟨#[]⟩, p.attrs.map attrTo, erase k⟩ := by simp [nodeOf, ht]
      have hk : Hand.heft k ≤ 1000000000 := by simp only [Hand.heft] at hh; omega
      obtain ⟨r, h1, h2⟩ := text_loop k .nil ⟨#[]⟩ hn.2.1 hp.2.1 (by have : (⟨#[]⟩ : ByteArray).size = 0 := rfl; omega) (by simp only [F.len]; have := len_le_blocks k; omega) hl K (by omega)
      rw [e, spec_TextOf.f, if_neg (by show ¬ ((0 : Int) = 1); decide)]
      refine ⟨r, ?_, ?_⟩
      · simp only [erase, List.nil_append, F.len, Nat.zero_add] at h1
        show spec_TextOf.l0 K ⟨#[]⟩ (erase k) ((erase k).length : Int) 0 = some r
        rw [erase_len]
        exact h1
      · rw [h2]
        simp [txtF, ht]
    · have hk : k = .nil := by
        rcases hn.1 with ⟨h, _⟩ | ⟨_, h⟩ | h | h
        · rw [ht] at h; cases h
        · exact h
        · rw [ht] at h; cases h
        · rw [ht] at h; cases h
      subst hk
      have e : nodeOf p (erase .nil) = ⟨2, ⟨#[]⟩, p.data, [], []⟩ := by simp [nodeOf, ht]
      obtain ⟨K, rfl⟩ : ∃ m, K = m + 1 := ⟨K - 1, by omega⟩
      rw [e, spec_TextOf.f, if_neg (by show ¬ ((2 : Int) = 1); decide), spec_TextOf.l0, if_neg (by simp)]
      exact ⟨_, rfl, by simp [txtF, ht]⟩
theorem text_loop : ∀ (f a : F Pay) (acc : ByteArray), Neat f → Plain f → acc.size + Hand.heft f ≤ 1000000000 → a.len + f.len ≤ 1000000000 → f.blocks.length ≤ 1000000 → ∀ K, 2 * f.blocks.length + 2 ≤ K → ∃ r, spec_TextOf.l0 K acc (erase a ++ erase f) (((a.len + f.len : Nat) : Int)) (a.len : Int) = some r ∧ r.data.toList = acc.data.toList ++ txtF f
  | .nil, a, acc, hn, hp, hh, hl, hbb, K, hK => by
    obtain ⟨K, rfl⟩ : ∃ m, K = m + 1 := ⟨K - 1, by omega⟩
    rw [spec_TextOf.l0, if_neg (by simp only [F.len]; omega)]
    exact ⟨_, rfl, by simp [txtF]⟩
  | .node b p k r, a, acc, hn, hp, hh, hl, hbb, K, hK => by
    obtain ⟨K, rfl⟩ : ∃ m, K = m + 1 := ⟨K - 1, by omega⟩
    have hbl : (F.node b p k r).blocks.length = k.blocks.length + r.blocks.length + 1 := by simp [F.blocks]
    have hll : (F.node b p k r).len = r.len + 1 := rfl
    have hhe : Hand.heft (.node b p k .nil) + Hand.heft r = Hand.heft (.node b p k r) := by simp [Hand.heft]
    have hn1 : Neat (.node b p k .nil) := ⟨hn.1, hn.2.1, trivial⟩
    have hp1 : Plain (.node b p k .nil) := ⟨hp.1, hp.2.1, trivial⟩
    by_cases hkl : k.blocks.length ≤ 1000000
    · obtain ⟨t, h1, h2⟩ := text_node b p k hn1 hp1 (by omega) hkl K (by omega)
      have hts : t.size ≤ Hand.heft (.node b p k .nil) := by
        have h3 := txt_heft _ hn1
        rw [← h2, Array.length_toList] at h3
        exact h3
      have hac : (acc ++ t).size = acc.size + t.size := ByteArray.size_append
      obtain ⟨u, h3, h4⟩ := text_loop r (a.app (.node b p k .nil)) (acc ++ t) hn.2.2 hp.2.2 (by rw [hac]; omega) (by rw [F.len_app]; simp only [F.len]; omega) (by omega) K (by omega)
      have he : erase (a.app (F.node b p k .nil)) ++ erase r = erase a ++ erase (F.node b p k r) := by
        rw [erase_app, List.append_assoc]
        rfl
      have hal : (a.app (F.node b p k .nil)).len = a.len + 1 := by rw [F.len_app]; rfl
      rw [he, hal] at h3
      rw [spec_TextOf.l0, if_pos (by omega), if_pos (by omega), if_pos (by rw [List.length_append, erase_len, erase_len]; omega)]
      rw [show erase (F.node b p k r) = nodeOf p (erase k) :: erase r from rfl, rd_mid, h1, Option.bind_some, if_pos (by omega)]
      have hw : wrap64 ((a.len : Int) + 1) = ((a.len + 1 : Nat) : Int) := by
        unfold wrap64
        omega
      rw [hw, hll, show a.len + (r.len + 1) = a.len + 1 + r.len by omega]
      refine ⟨u, h3, ?_⟩
      rw [h4, data_append, h2, List.append_assoc]
      simp [txtF]
    · omega
end
theorem swp_txt {ok : Prop} : ∀ {f f' : F Pay}, Swp ok f f' → txtF f' = txtF f
  | .nil, .nil, _ => rfl
  | .node b p k r, .node b' p' k' r', h => by
    obtain ⟨rfl, hp, h1, h2⟩ := h
    simp only [txtF]
    rw [swp_txt h1, swp_txt h2]
    rcases hp with rfl | ⟨_, e1, e2, _⟩
    · rfl
    · rw [e1, e2]
      rfl
end Go.Proofs.YtlallihdiffheaaDoor.Dom
end
section
/- laws.inlineHas over forests: whether an element of some names stands in a tree. Plain. -/
namespace Go.Proofs.YtlallihdiffheaaDoor.Dom
open Go.RowKit Go.Proofs.YtlallihdiffheaaDoorW.PrintWords Go.Proofs.YtlallihdiffheaaDoorW.PrintLast Go.Proofs.YtlallihdiffheaaDoorW.PrintMore Go.Proofs.YtlallihdiffheaaDoor.GT Go.Proofs.YtlallihdiffheaaDoor.Hand
set_option linter.unusedVariables false
set_option linter.unusedSimpArgs false

theorem named_val (l : List ByteArray) (s : ByteArray) (hl : l.length ≤ 1000) : ∀ (d i k : Nat), l.length - i = d → i ≤ l.length → d < k → spec_Named.l0 k s l (l.length : Int) (i : Int) = some ((l.drop i).any (fun x => s.toList == x.toList)) := by
  intro d
  induction d with
  | zero =>
    intro i k hd hi hk
    obtain ⟨k, rfl⟩ : ∃ m, k = m + 1 := ⟨k - 1, by omega⟩
    rw [spec_Named.l0, if_neg (by omega), List.drop_eq_nil_of_le (by omega)]
    rfl
  | succ d ih =>
    intro i k hd hi hk
    obtain ⟨k, rfl⟩ : ∃ m, k = m + 1 := ⟨k - 1, by omega⟩
    have hlt : i < l.length := by omega
    have e : rdOf ByteArray.empty l (i : Int) = l[i] := by simp [rdOf, hlt]
    rw [spec_Named.l0, if_pos (by omega), if_pos (by omega), if_pos (by omega), e, As.wrap_up i (by omega), List.drop_eq_getElem_cons hlt, List.any_cons]
    by_cases h : (l[i]).toList = s.toList
    · rw [if_pos h]
      have h2 : (s.toList == (l[i]).toList) = true := by
        rw [beq_iff_eq]
        exact h.symm
      rw [h2, Bool.true_or]
    · rw [if_neg h, ih (i + 1) k (by omega) (by omega) (by omega)]
      have h2 : (s.toList == (l[i]).toList) = false := by
        rw [beq_eq_false_iff_ne]
        exact fun e => h e.symm
      rw [h2, Bool.false_or]
theorem named_eq (l : List ByteArray) (s : ByteArray) (hl : l.length ≤ 1000) (k : Nat) (hk : l.length < k) : spec_Named.f k l s = some (l.any (fun x => s.toList == x.toList)) := by
  have h := named_val l s hl l.length 0 k (Nat.sub_zero _) (Nat.zero_le _) hk
  rw [List.drop_zero] at h
  unfold spec_Named.f
  exact h
set_option maxRecDepth 100000 in
mutual
theorem has_node (ns : List ByteArray) (hns : ns.length ≤ 100) (b : Nat) (p : Pay) : ∀ (k : F Pay), Neat (.node b p k .nil) → Plain (.node b p k .nil) → k.blocks.length ≤ 1000000 → ∀ K, 3 * k.blocks.length + 200 ≤ K → laws_inlineHas.f K (nodeOf p (erase k)).f0 (nodeOf p (erase k)).f1 (nodeOf p (erase k)).f2 (nodeOf p (erase k)).f3 (nodeOf p (erase k)).f4 ns = some (hasF ns (.node b p k .nil))
  | k, hn, hp, hl, K, hK => by
    obtain ⟨K, rfl⟩ : ∃ m, K = m + 2 := ⟨K - 2, by omega⟩
    have hleaf : k = .nil → laws_inlineHas.l0 K ns [] (([] : List (S25)).length : Int) 0 = some false := fun _ => by
      obtain ⟨K, rfl⟩ : ∃ m, K = m + 1 := ⟨K - 1, by omega⟩
      rw [laws_inlineHas.l0, if_neg (by simp)]
    rcases hn.1 with ⟨ht, hk⟩ | ⟨ht, hk⟩ | ht | ht
    · subst hk
      have e : nodeOf p (erase .nil) = ⟨1, ⟨#[]⟩, p.data, [], []⟩ := by simp [nodeOf, ht]
      rw [e, laws_inlineHas.f, if_neg (by show ¬ ((1 : Int) = 0); decide), laws_inlineHas.j0, if_neg (by decide), hleaf rfl]
      simp [hasF, isNm, ht]
    · subst hk
      have e : nodeOf p (erase .nil) = ⟨2, ⟨#[]⟩, p.data, [], []⟩ := by simp [nodeOf, ht]
      rw [e, laws_inlineHas.f, if_neg (by show ¬ ((2 : Int) = 0); decide), laws_inlineHas.j0, if_neg (by decide), hleaf rfl]
      simp [hasF, isNm, ht]
    · have e : nodeOf p (erase k) = ⟨0, p.data, ⟨#[]⟩, p.attrs.map attrTo, erase k⟩ := by simp [nodeOf, ht]
      have h1 := has_loop ns hns k .nil hn.2.1 hp.2.1 (by simp only [F.len]; have := len_le_blocks k; omega) hl K (by omega)
      simp only [erase, List.nil_append, F.len, Nat.zero_add] at h1
      rw [e, laws_inlineHas.f, if_pos rfl, named_eq ns p.data (by omega) _ (by omega), Option.bind_some, laws_inlineHas.j0]
      have hnm : isNm ns p = ns.any (fun x => p.data.toList == x.toList) := by simp [isNm, ht]
      simp only [hasF, hnm]
      cases ns.any (fun x => p.data.toList == x.toList) with
      | true => simp
      | false =>
        rw [if_neg (by decide)]
        show laws_inlineHas.l0 K ns (erase k) ((erase k).length : Int) 0 = _
        rw [erase_len]
        simpa using h1
    · rcases hp.1 with h | ⟨h, _⟩ | h <;> (rw [ht] at h; cases h)
theorem has_loop (ns : List ByteArray) (hns : ns.length ≤ 100) : ∀ (f a : F Pay), Neat f → Plain f → a.len + f.len ≤ 1000000000 → f.blocks.length ≤ 1000000 → ∀ K, 3 * f.blocks.length + 198 ≤ K → laws_inlineHas.l0 K ns (erase a ++ erase f) (((a.len + f.len : Nat) : Int)) (a.len : Int) = some (hasF ns f)
  | .nil, a, hn, hp, hl, hbb, K, hK => by
    obtain ⟨K, rfl⟩ : ∃ m, K = m + 1 := ⟨K - 1, by omega⟩
    rw [laws_inlineHas.l0, if_neg (by simp only [F.len]; omega)]
    rfl
  | .node b p k r, a, hn, hp, hl, hbb, K, hK => by
    obtain ⟨K, rfl⟩ : ∃ m, K = m + 1 := ⟨K - 1, by omega⟩
    have hbl : (F.node b p k r).blocks.length = k.blocks.length + r.blocks.length + 1 := by simp [F.blocks]
    have hll : (F.node b p k r).len = r.len + 1 := rfl
    have h1 := has_node ns hns b p k ⟨hn.1, hn.2.1, trivial⟩ ⟨hp.1, hp.2.1, trivial⟩ (by omega) K (by omega)
    have h2 := has_loop ns hns r (a.app (.node b p k .nil)) hn.2.2 hp.2.2 (by rw [F.len_app]; simp only [F.len]; omega) (by omega) K (by omega)
    have he : erase (a.app (F.node b p k .nil)) ++ erase r = erase a ++ erase (F.node b p k r) := by
      rw [erase_app, List.append_assoc]
      rfl
    have hal : (a.app (F.node b p k .nil)).len = a.len + 1 := by rw [F.len_app]; rfl
    have hw : wrap64 ((a.len : Int) + 1) = ((a.len + 1 : Nat) : Int) := by
      unfold wrap64
      omega
    rw [he, hal] at h2
    rw [laws_inlineHas.l0, if_pos (by omega), if_pos (by omega), if_pos (by rw [List.length_append, erase_len, erase_len]; omega)]
    rw [show erase (F.node b p k r) = nodeOf p (erase k) :: erase r from rfl, rd_mid, h1, Option.bind_some]
    rw [show erase (F.node b p k r) = nodeOf p (erase k) :: erase r from rfl] at h2
    have hx : hasF ns (.node b p k r) = (hasF ns (.node b p k .nil) || hasF ns r) := by simp [hasF]
    rw [hx]
    cases hasF ns (.node b p k .nil) with
    | true => simp
    | false =>
      rw [if_neg (by decide), hw]
      rw [show a.len + 1 + r.len = a.len + (F.node b p k r).len by rw [hll]; omega] at h2
      simpa using h2
end
end Go.Proofs.YtlallihdiffheaaDoor.Dom
end
section
/- What a tree with elements made others says: its text; whether it has such elements; without outer or without inner ones it is the same tree. Plain. -/
namespace Go.Proofs.YtlallihdiffheaaDoor.Dom
open Go.RowKit Go.Proofs.YtlallihdiffheaaDoorW.PrintWords Go.Proofs.YtlallihdiffheaaDoorW.PrintLast Go.Proofs.YtlallihdiffheaaDoorW.PrintMore Go.Proofs.YtlallihdiffheaaDoor.GT Go.Proofs.YtlallihdiffheaaDoor.Hand
set_option linter.unusedVariables false
set_option linter.unusedSimpArgs false

theorem swap_facts {n : Nat} (hn : n ≤ 60) {ns1 ns2 : List ByteArray} (l1 : ns1.length ≤ 100) (l2 : ns2.length ≤ 100) {y y1 : S25} (hy : Sm n y) (hq : QS ns1 ns2 y y1) : ∃ (A : ByteArray) (r1 r2 : Bool), spec_TextOf.f 700 y1.f0 y1.f1 y1.f2 y1.f3 y1.f4 = some A ∧ spec_TextOf.f 700 y.f0 y.f1 y.f2 y.f3 y.f4 = some A ∧ laws_inlineHas.f 700 y.f0 y.f1 y.f2 y.f3 y.f4 ns1 = some r1 ∧ laws_inlineHas.f 700 y.f0 y.f1 y.f2 y.f3 y.f4 ns2 = some r2 ∧ ((r2 = false ∨ r1 = false) → y1 = y) := by
  obtain ⟨b, p, p', k, k', hN, ht, hswp, he⟩ := hq
  obtain ⟨s1, s2, s3, s4⟩ := sm_node hy ht hN
  have hN' := hswp.neat hN
  have hP' := hswp.plain s3
  have hl : k.blocks.length ≤ 60 := by simp only [F.blocks, List.length_cons, List.length_append, List.length_nil] at s1; omega
  have hl' : k'.blocks.length ≤ 60 := by
    have e := hswp.heads.2.2
    simp only [F.blocks, List.append_nil, List.cons.injEq, true_and] at e
    rw [e]
    exact hl
  have hh' := hswp.heft
  obtain ⟨A, a1, a2⟩ := text_node b p' k' hN' hP' (by omega) (by omega) 700 (by omega)
  obtain ⟨B, b1, b2⟩ := text_node b p k hN s3 (by omega) (by omega) 700 (by omega)
  have hAB : A = B := by
    refine ByteArray.ext (Array.toList_inj.1 ?_)
    rw [a2, b2]
    exact swp_txt hswp
  subst hAB
  have c1 := has_node ns1 l1 b p k hN s3 (by omega) 700 (by omega)
  have c2 := has_node ns2 l2 b p k hN s3 (by omega) 700 (by omega)
  refine ⟨A, hasF ns1 (.node b p k .nil), hasF ns2 (.node b p k .nil), by rw [he]; exact a1, by rw [← ht]; exact b1, by rw [← ht]; exact c1, by rw [← ht]; exact c2, fun h => ?_⟩
  have hno : ¬ Has2 ns1 ns2 (.node b p k .nil) := fun h2 => h2 h.symm
  have e := hswp.same hno
  injection e with e1 e2 e3 e4
  rw [he, ← ht, e2, e3]
end Go.Proofs.YtlallihdiffheaaDoor.Dom
end
