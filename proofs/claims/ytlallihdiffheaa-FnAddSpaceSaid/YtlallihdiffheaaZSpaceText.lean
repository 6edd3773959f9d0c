/- A tree's text, and what of it isn't white space: blanks that are put to texts change the one's length, and the other not at all. Plain. -/
import Derived.Test.YtlallihdiffheaaZSpaceDo
import Derived.Test.YtlallihdiffheaaZSpaceDo
import Derived.Test.YtlallihdiffheaaZGTx5
import Derived.Test.YtlallihdiffheaaZBytes
namespace Go.Proofs.Ytlallihdiffheaa.Dom
open Go.RowKit Go.Proofs.YtlallihdiffheaaW.PrintWords Go.Proofs.YtlallihdiffheaaW.PrintLast Go.Proofs.YtlallihdiffheaaW.PrintMore Go.Proofs.Ytlallihdiffheaa.GT Go.Proofs.Ytlallihdiffheaa.Hand
set_option linter.unusedVariables false
set_option linter.unusedSimpArgs false

/-- All texts of a forest, one behind the other. -/
def txtF : F Pay → List UInt8
  | .nil => []
  | .node b p k r => (if p.type = 1 then p.data.data.toList else txtF k) ++ txtF r
theorem txt_heft : ∀ f : F Pay, Neat f → (txtF f).length ≤ Hand.heft f
  | .nil, _ => Nat.zero_le _
  | .node b p k r, hn => by
    have h1 := txt_heft k hn.2.1
    have h2 := txt_heft r hn.2.2
    simp only [txtF, Hand.heft, List.length_append]
    by_cases h : p.type = 1
    · simp only [h, beq_self_eq_true, if_true, Array.length_toList]
      have : p.data.data.size = p.data.size := rfl
      omega
    · have h3 : (p.type == 1) = false := by simpa using h
      simp only [h, h3, if_false, Bool.false_eq_true]
      omega
theorem rd_mid (a : F Pay) (x : S25) (l : List S25) : rd_T25 (erase a ++ x :: l) (a.len : Int) = x := by
  unfold rd_T25
  rw [Int.toNat_natCast, ← erase_len, List.getD_eq_getElem?_getD, List.getElem?_append_right (Nat.le_refl _), Nat.sub_self]
  rfl
mutual
theorem text_node (b : Nat) (p : Pay) : ∀ (k : F Pay), Neat (.node b p k .nil) → Plain (.node b p k .nil) → Hand.heft (.node b p k .nil) ≤ 1000000000 → k.blocks.length ≤ 1000000 → ∀ K, 2 * k.blocks.length + 3 ≤ K → ∃ r, spec_TextOf.f K (nodeOf p (erase k)).f0 (nodeOf p (erase k)).f1 (nodeOf p (erase k)).f2 (nodeOf p (erase k)).f3 (nodeOf p (erase k)).f4 = some r ∧ r.data.toList = txtF (.node b p k .nil)
  | k, hn, hp, hh, hl, K, hK => by
    obtain ⟨K, rfl⟩ : ∃ m, K = m + 1 := ⟨K - 1, by omega⟩
    rcases hp.1 with ht | ⟨ht, _⟩ | ht
    · have e : nodeOf p (erase k) = ⟨1, ⟨#[]⟩, p.data, [], []⟩ := by simp [nodeOf, ht]
      rw [e, spec_TextOf.f, if_pos rfl]
      exact ⟨_, rfl, by simp [txtF, ht]⟩
    · have e : nodeOf p (erase k) = ⟨0, p.data, ⟨#[]⟩, p.attrs.map attrTo, erase k⟩ := by simp [nodeOf, ht]
      have hk : Hand.heft k ≤ 1000000000 := by simp only [Hand.heft] at hh; omega
      obtain ⟨r, h1, h2⟩ := text_loop k .nil ⟨#[]⟩ hn.2.1 hp.2.1 (by have : (⟨#[]⟩ : ByteArray).size = 0 := rfl; omega) (by simp only [F.len]; have := len_le_blocks k; omega) hl K (by omega)
      rw [e, spec_TextOf.f, if_neg (by show ¬ ((0 : Int) = 1); decide)]
      refine ⟨r, ?_, ?_⟩
      · simp only [erase, List.nil_append, F.len, Nat.zero_add] at h1
        show spec_TextOf.l0 K ⟨#[]⟩ (erase k) ((erase k).length : Int) 0 = some r
        rw [erase_len]
        exact h1
      · rw [h2]
        simp [txtF, ht]
    · have hk : k = .nil := by
        rcases hn.1 with ⟨h, _⟩ | ⟨_, h⟩ | h | h
        · rw [ht] at h; cases h
        · exact h
        · rw [ht] at h; cases h
        · rw [ht] at h; cases h
      subst hk
      have e : nodeOf p (erase .nil) = ⟨2, ⟨#[]⟩, p.data, [], []⟩ := by simp [nodeOf, ht]
      obtain ⟨K, rfl⟩ : ∃ m, K = m + 1 := ⟨K - 1, by omega⟩
      rw [e, spec_TextOf.f, if_neg (by show ¬ ((2 : Int) = 1); decide), spec_TextOf.l0, if_neg (by simp)]
      exact ⟨_, rfl, by simp [txtF, ht]⟩
theorem text_loop : ∀ (f a : F Pay) (acc : ByteArray), Neat f → Plain f → acc.size + Hand.heft f ≤ 1000000000 → a.len + f.len ≤ 1000000000 → f.blocks.length ≤ 1000000 → ∀ K, 2 * f.blocks.length + 2 ≤ K → ∃ r, spec_TextOf.l0 K acc (erase a ++ erase f) (((a.len + f.len : Nat) : Int)) (a.len : Int) = some r ∧ r.data.toList = acc.data.toList ++ txtF f
  | .nil, a, acc, hn, hp, hh, hl, hbb, K, hK => by
    obtain ⟨K, rfl⟩ : ∃ m, K = m + 1 := ⟨K - 1, by omega⟩
    rw [spec_TextOf.l0, if_neg (by simp only [F.len]; omega)]
    exact ⟨_, rfl, by simp [txtF]⟩
  | .node b p k r, a, acc, hn, hp, hh, hl, hbb, K, hK => by
    obtain ⟨K, rfl⟩ : ∃ m, K = m + 1 := ⟨K - 1, by omega⟩
    have hbl : (F.node b p k r).blocks.length = k.blocks.length + r.blocks.length + 1 := by simp [F.blocks]
    have hll : (F.node b p k r).len = r.len + 1 := rfl
    have hhe : Hand.heft (.node b p k .nil) + Hand.heft r = Hand.heft (.node b p k r) := by simp [Hand.heft]
    have hn1 : Neat (.node b p k .nil) := ⟨hn.1, hn.2.1, trivial⟩
    have hp1 : Plain (.node b p k .nil) := ⟨hp.1, hp.2.1, trivial⟩
    by_cases hkl : k.blocks.length ≤ 1000000
    · obtain ⟨t, h1, h2⟩ := text_node b p k hn1 hp1 (by omega) hkl K (by omega)
      have hts : t.size ≤ Hand.heft (.node b p k .nil) := by
        have h3 := txt_heft _ hn1
        rw [← h2, Array.length_toList] at h3
        exact h3
      have hac : (acc ++ t).size = acc.size + t.size := ByteArray.size_append
      obtain ⟨u, h3, h4⟩ := text_loop r (a.app (.node b p k .nil)) (acc ++ t) hn.2.2 hp.2.2 (by rw [hac]; omega) (by rw [F.len_app]; simp only [F.len]; omega) (by omega) K (by omega)
      have he : erase (a.app (F.node b p k .nil)) ++ erase r = erase a ++ erase (F.node b p k r) := by
        rw [erase_app, List.append_assoc]
        rfl
      have hal : (a.app (F.node b p k .nil)).len = a.len + 1 := by rw [F.len_app]; rfl
      rw [he, hal] at h3
      rw [spec_TextOf.l0, if_pos (by omega), if_pos (by omega), if_pos (by rw [List.length_append, erase_len, erase_len]; omega)]
      rw [show erase (F.node b p k r) = nodeOf p (erase k) :: erase r from rfl, rd_mid, h1, Option.bind_some, if_pos (by omega)]
      have hw : wrap64 ((a.len : Int) + 1) = ((a.len + 1 : Nat) : Int) := by
        unfold wrap64
        omega
      rw [hw, hll, show a.len + (r.len + 1) = a.len + 1 + r.len by omega]
      refine ⟨u, h3, ?_⟩
      rw [h4, data_append, h2, List.append_assoc]
      simp [txtF]
    · omega
end
def nbI (v : Int) : Bool := !(decide (v = 32) || decide (v = 9) || decide (v = 10) || decide (v = 13))
def nbU (c : UInt8) : Bool := nbI (c.toNat : Int)
theorem solid_loop (s : ByteArray) (hs : s.size ≤ 1000000000) : ∀ (d i k : Nat), s.size - i = d → i ≤ s.size → d < k → spec_Solid.l0 k s (((bys s).take i).filter nbI) (s.size : Int) (i : Int) = some (strOfNums ((bys s).filter nbI)) := by
  intro d
  induction d with
  | zero =>
    intro i k hd hi hk
    obtain ⟨k, rfl⟩ : ∃ m, k = m + 1 := ⟨k - 1, by omega⟩
    rw [spec_Solid.l0, if_neg (by omega), List.take_of_length_le (by rw [bys_length]; omega)]
  | succ d ih =>
    intro i k hd hi hk
    obtain ⟨k, rfl⟩ : ∃ m, k = m + 1 := ⟨k - 1, by omega⟩
    have hil : i < (bys s).length := by rw [bys_length]; omega
    have hb : bt s (i : Int) = (bys s)[i] := by
      rw [bt_bys, List.getD_eq_getElem?_getD, List.getElem?_eq_getElem hil]
      rfl
    have hw : wrap64 ((i : Int) + 1) = ((i + 1 : Nat) : Int) := by
      unfold wrap64
      omega
    have hnext := ih (i + 1) k (by omega) (by omega) (by omega)
    rw [List.take_add_one, List.getElem?_eq_getElem hil, Option.toList_some, List.filter_append] at hnext
    have hbl : spec_Blank.f (bt s (i : Int)) = some (!nbI (bt s (i : Int))) := by
      generalize bt s (i : Int) = v
      unfold spec_Blank.f nbI
      by_cases h1 : v = 32
      · simp [h1]
      · by_cases h2 : v = 9
        · simp [h2]
        · by_cases h3 : v = 10
          · simp [h3]
          · by_cases h4 : v = 13 <;> simp [h1, h2, h3, h4]
    have hfl : (((bys s).take i).filter nbI).length ≤ s.size := Nat.le_trans (List.length_filter_le _ _) (by rw [List.length_take, bys_length]; omega)
    rw [spec_Solid.l0, if_pos (by omega), if_pos (by omega), if_pos (by omega), hbl, Option.bind_some, hw]
    cases hv : nbI (bt s (i : Int)) with
    | true =>
      rw [if_neg (by decide), if_pos (by omega)]
      rw [← hb] at hnext
      simpa [hv] using hnext
    | false =>
      rw [if_pos (by decide)]
      rw [← hb] at hnext
      simpa [hv] using hnext
theorem solid_any (s : ByteArray) (hs : s.size ≤ 1000000000) (k : Nat) (hk : s.size < k) : spec_Solid.f k s = some (strOfNums ((bys s).filter nbI)) := by
  have h := solid_loop s hs s.size 0 k (by omega) (by omega) hk
  rw [List.take_zero] at h
  exact h
theorem bys_solid (s : ByteArray) : (bys s).filter nbI = (s.data.toList.filter nbU).map (fun b : UInt8 => (b.toNat : Int)) := by
  rw [bys, List.filter_map]
  rfl
theorem spaced_solid {t : Nat} {d d' : ByteArray} (h : Spaced t d d') : d'.data.toList.filter nbU = d.data.toList.filter nbU := by
  obtain ⟨a, b, _, h⟩ := h
  rw [h, List.filter_append, List.filter_append]
  have e : ∀ n, (List.replicate n (32 : UInt8)).filter nbU = [] := fun n => by
    rw [List.filter_eq_nil_iff]
    intro x hx
    rw [(List.mem_replicate.1 hx).2]
    decide
  rw [e, e, List.nil_append, List.append_nil]
theorem blk_text {t : Nat} : ∀ {f f' : F Pay}, Blk t f f' → (txtF f').filter nbU = (txtF f).filter nbU ∧ (txtF f).length ≤ (txtF f').length
  | .nil, .nil, _ => ⟨rfl, Nat.le_refl _⟩
  | .node b p k r, .node b' p' k' r', h => by
    obtain ⟨rfl, hp, h1, h2⟩ := h
    obtain ⟨a1, a2⟩ := blk_text h1
    obtain ⟨b1, b2⟩ := blk_text h2
    have ht := Blk.type hp
    simp only [txtF, ht, List.filter_append, List.length_append, b1]
    by_cases h3 : p.type = 1
    · simp only [h3, if_true]
      rcases hp with rfl | ⟨_, d', hd, rfl⟩
      · exact ⟨rfl, by omega⟩
      · refine ⟨by rw [spaced_solid hd], ?_⟩
        have h4 := hd.size.1
        have h5 : p.data.data.toList.length = p.data.size := Array.length_toList
        have h6 : d'.data.toList.length = d'.size := Array.length_toList
        show p.data.data.toList.length + _ ≤ d'.data.toList.length + _
        omega
    · simp only [h3, if_false]
      exact ⟨by rw [a1], by omega⟩
end Go.Proofs.Ytlallihdiffheaa.Dom
