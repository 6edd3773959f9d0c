import Derived.Test.YtlallihdiffheaaZClPos
import Derived.Test.YtlallihdiffheaaZGTx5
import Derived.Test.YtlallihdiffheaaZBytes
import Derived.Test.YtlallihdiffheaaZInlineCut
import Derived.RegionTactic
import Derived.Deep.RegionLaw
import Derived.Test.YtlallihdiffheaaZClImpl
import Derived.Test.YtlallihdiffheaaZClApart
import Derived.Test.YtlallihdiffheaaZSame
import Derived.Test.YtlallihdiffheaaZLives
import Derived.Test.YtlallihdiffheaaZFits
import Derived.Deep.CutRange
section
/- A tree's text, and what of it isn't white space. Plain. -/
namespace Go.Proofs.Ytlallihdiffheaa.Cl
open Go.RowKit Go.Proofs.YtlallihdiffheaaW.PrintWords Go.Proofs.YtlallihdiffheaaW.PrintLast Go.Proofs.YtlallihdiffheaaW.PrintMore Go.Proofs.Ytlallihdiffheaa.GT Go.Proofs.Ytlallihdiffheaa.Hand
set_option linter.unusedVariables false
set_option linter.unusedSimpArgs false

theorem data_append (a b : ByteArray) : (a ++ b).data.toList = a.data.toList ++ b.data.toList := by simp
/-- All texts of a forest, one behind the other. -/
def txtF : F Pay → List UInt8
  | .nil => []
  | .node b p k r => (if p.type = 1 then p.data.data.toList else txtF k) ++ txtF r
theorem txt_heft : ∀ f : F Pay, Neat f → (txtF f).length ≤ Hand.heft f
  | .nil, _ => Nat.zero_le _
  | .node b p k r, hn => by
    have h1 := txt_heft k hn.2.1
    have h2 := txt_heft r hn.2.2
    simp only [txtF, Hand.heft, List.length_append]
    by_cases h : p.type = 1
    · simp only [h, beq_self_eq_true, if_true, Array.length_toList]
      have : p.data.data.size = p.data.size := rfl
      omega
    · have h3 : (p.type == 1) = false := by simpa using h
      simp only [h, h3, if_false, Bool.false_eq_true]
      omega
theorem rd_mid (a : F Pay) (x : S25) (l : List S25) : rd_T25 (erase a ++ x :: l) (a.len : Int) = x := by
  unfold rd_T25
  rw [Int.toNat_natCast, ← erase_len, List.getD_eq_getElem?_getD, List.getElem?_append_right (Nat.le_refl _), Nat.sub_self]
  rfl
mutual
theorem text_node (b : Nat) (p : Pay) : ∀ (k : F Pay), Neat (.node b p k .nil) → Plain (.node b p k .nil) → Hand.heft (.node b p k .nil) ≤ 1000000000 → k.blocks.length ≤ 1000000 → ∀ K, 2 * k.blocks.length + 3 ≤ K → ∃ r, spec_TextOf.f K (nodeOf p (erase k)).f0 (nodeOf p (erase k)).f1 (nodeOf p (erase k)).f2 (nodeOf p (erase k)).f3 (nodeOf p (erase k)).f4 = some r ∧ r.data.toList = txtF (.node b p k .nil)
  | k, hn, hp, hh, hl, K, hK => by
    obtain ⟨K, rfl⟩ : ∃ m, K = m + 1 := ⟨K - 1, by omega⟩
    rcases hp.1 with ht | ⟨ht, _⟩ | ht
    · have e : nodeOf p (erase k) = ⟨1, ⟨#[]⟩, p.data, [], []⟩ := by simp [nodeOf, ht]
      rw [e, spec_TextOf.f, if_pos rfl]
      exact ⟨_, rfl, by simp [txtF, ht]⟩
    · have e : nodeOf p (erase k) = ⟨0, p.data, ⟨#[]⟩, p.attrs.map attrTo, erase k⟩ := by simp [nodeOf, ht]
      have hk : Hand.heft k ≤ 1000000000 := by simp only [Hand.heft] at hh; omega
      obtain ⟨r, h1, h2⟩ := text_loop k .nil ⟨#[]⟩ hn.2.1 hp.2.1 (by have : (⟨#[]⟩ : ByteArray).size = 0 := rfl; omega) (by simp only [F.len]; have := len_le_blocks k; omega) hl K (by omega)
      rw [e, spec_TextOf.f, if_neg (by show ¬ ((0 : Int) = 1); decide)]
      refine ⟨r, ?_, ?_⟩
      · simp only [erase, List.nil_append, F.len, Nat.zero_add] at h1
        show spec_TextOf.l0 K ⟨#[]⟩ (erase k) ((erase k).length : Int) 0 = some r
        rw [erase_len]
        exact h1
      · rw [h2]
        simp [txtF, ht]
    · have hk : k = .nil := by
        rcases hn.1 with ⟨h, _⟩ | ⟨_, h⟩ | h | h
        · rw [ht] at h; cases h
        · exact h
        · rw [ht] at h; cases h
        · rw [ht] at h; cases h
      subst hk
      have e : nodeOf p (erase .nil) = ⟨2, ⟨#[]⟩, p.data, [], []⟩ := by simp [nodeOf, ht]
      obtain ⟨K, rfl⟩ : ∃ m, K = m + 1 := ⟨K - 1, by omega⟩
      rw [e, spec_TextOf.f, if_neg (by show ¬ ((2 : Int) = 1); decide), spec_TextOf.l0, if_neg (by simp)]
      exact ⟨_, rfl, by simp [txtF, ht]⟩
theorem text_loop : ∀ (f a : F Pay) (acc : ByteArray), Neat f → Plain f → acc.size + Hand.heft f ≤ 1000000000 → a.len + f.len ≤ 1000000000 → f.blocks.length ≤ 1000000 → ∀ K, 2 * f.blocks.length + 2 ≤ K → ∃ r, spec_TextOf.l0 K acc (erase a ++ erase f) (((a.len + f.len : Nat) : Int)) (a.len : Int) = some r ∧ r.data.toList = acc.data.toList ++ txtF f
  | .nil, a, acc, hn, hp, hh, hl, hbb, K, hK => by
    obtain ⟨K, rfl⟩ : ∃ m, K = m + 1 := ⟨K - 1, by omega⟩
    rw [spec_TextOf.l0, if_neg (by simp only [F.len]; omega)]
    exact ⟨_, rfl, by simp [txtF]⟩
  | .node b p k r, a, acc, hn, hp, hh, hl, hbb, K, hK => by
    obtain ⟨K, rfl⟩ : ∃ m, K = m + 1 := ⟨K - 1, by omega⟩
    have hbl : (F.node b p k r).blocks.length = k.blocks.length + r.blocks.length + 1 := by simp [F.blocks]
    have hll : (F.node b p k r).len = r.len + 1 := rfl
    have hhe : Hand.heft (.node b p k .nil) + Hand.heft r = Hand.heft (.node b p k r) := by simp [Hand.heft]
    have hn1 : Neat (.node b p k .nil) := ⟨hn.1, hn.2.1, trivial⟩
    have hp1 : Plain (.node b p k .nil) := ⟨hp.1, hp.2.1, trivial⟩
    by_cases hkl : k.blocks.length ≤ 1000000
    · obtain ⟨t, h1, h2⟩ := text_node b p k hn1 hp1 (by omega) hkl K (by omega)
      have hts : t.size ≤ Hand.heft (.node b p k .nil) := by
        have h3 := txt_heft _ hn1
        rw [← h2, Array.length_toList] at h3
        exact h3
      have hac : (acc ++ t).size = acc.size + t.size := ByteArray.size_append
      obtain ⟨u, h3, h4⟩ := text_loop r (a.app (.node b p k .nil)) (acc ++ t) hn.2.2 hp.2.2 (by rw [hac]; omega) (by rw [F.len_app]; simp only [F.len]; omega) (by omega) K (by omega)
      have he : erase (a.app (F.node b p k .nil)) ++ erase r = erase a ++ erase (F.node b p k r) := by
        rw [erase_app, List.append_assoc]
        rfl
      have hal : (a.app (F.node b p k .nil)).len = a.len + 1 := by rw [F.len_app]; rfl
      rw [he, hal] at h3
      rw [spec_TextOf.l0, if_pos (by omega), if_pos (by omega), if_pos (by rw [List.length_append, erase_len, erase_len]; omega)]
      rw [show erase (F.node b p k r) = nodeOf p (erase k) :: erase r from rfl, rd_mid, h1, Option.bind_some, if_pos (by omega)]
      have hw : wrap64 ((a.len : Int) + 1) = ((a.len + 1 : Nat) : Int) := by
        unfold wrap64
        omega
      rw [hw, hll, show a.len + (r.len + 1) = a.len + 1 + r.len by omega]
      refine ⟨u, h3, ?_⟩
      rw [h4, data_append, h2, List.append_assoc]
      simp [txtF]
    · omega
end
def nbI (v : Int) : Bool := !(decide (v = 32) || decide (v = 9) || decide (v = 10) || decide (v = 13))
theorem solid_loop (s : ByteArray) (hs : s.size ≤ 1000000000) : ∀ (d i k : Nat), s.size - i = d → i ≤ s.size → d < k → spec_Solid.l0 k s (((bys s).take i).filter nbI) (s.size : Int) (i : Int) = some (strOfNums ((bys s).filter nbI)) := by
  intro d
  induction d with
  | zero =>
    intro i k hd hi hk
    obtain ⟨k, rfl⟩ : ∃ m, k = m + 1 := ⟨k - 1, by omega⟩
    rw [spec_Solid.l0, if_neg (by omega), List.take_of_length_le (by rw [bys_length]; omega)]
  | succ d ih =>
    intro i k hd hi hk
    obtain ⟨k, rfl⟩ : ∃ m, k = m + 1 := ⟨k - 1, by omega⟩
    have hil : i < (bys s).length := by rw [bys_length]; omega
    have hb : bt s (i : Int) = (bys s)[i] := by
      rw [bt_bys, List.getD_eq_getElem?_getD, List.getElem?_eq_getElem hil]
      rfl
    have hw : wrap64 ((i : Int) + 1) = ((i + 1 : Nat) : Int) := by
      unfold wrap64
      omega
    have hnext := ih (i + 1) k (by omega) (by omega) (by omega)
    rw [List.take_add_one, List.getElem?_eq_getElem hil, Option.toList_some, List.filter_append] at hnext
    have hbl : spec_Blank.f (bt s (i : Int)) = some (!nbI (bt s (i : Int))) := by
      generalize bt s (i : Int) = v
      unfold spec_Blank.f nbI
      by_cases h1 : v = 32
      · simp [h1]
      · by_cases h2 : v = 9
        · simp [h2]
        · by_cases h3 : v = 10
          · simp [h3]
          · by_cases h4 : v = 13 <;> simp [h1, h2, h3, h4]
    have hfl : (((bys s).take i).filter nbI).length ≤ s.size := Nat.le_trans (List.length_filter_le _ _) (by rw [List.length_take, bys_length]; omega)
    rw [spec_Solid.l0, if_pos (by omega), if_pos (by omega), if_pos (by omega), hbl, Option.bind_some, hw]
    cases hv : nbI (bt s (i : Int)) with
    | true =>
      rw [if_neg (by decide), if_pos (by omega)]
      rw [← hb] at hnext
      simpa [hv] using hnext
    | false =>
      rw [if_pos (by decide)]
      rw [← hb] at hnext
      simpa [hv] using hnext
theorem solid_any (s : ByteArray) (hs : s.size ≤ 1000000000) (k : Nat) (hk : s.size < k) : spec_Solid.f k s = some (strOfNums ((bys s).filter nbI)) := by
  have h := solid_loop s hs s.size 0 k (by omega) (by omega) hk
  rw [List.take_zero] at h
  exact h
theorem nb_blank (v : Int) : nbI v = !blankB v := by
  unfold nbI blankB
  by_cases h1 : v = 32
  · simp [h1]
  · by_cases h2 : v = 9
    · simp [h2]
    · by_cases h3 : v = 10
      · simp [h3]
      · by_cases h4 : v = 13 <;> simp [h1, h2, h3, h4]
theorem tI_txt : ∀ f : F Pay, tI f = (txtF f).map (fun b : UInt8 => (b.toNat : Int))
  | .nil => rfl
  | .node b p k r => by
    rw [tI, txtF, List.map_append, tI_txt r]
    split
    · rfl
    · rw [tI_txt k]
/-- What isn't white space of a text, by its forest's. -/
theorem solid_sol (s : ByteArray) (f : F Pay) (h : s.data.toList = txtF f) : (bys s).filter nbI = sol (tI f) := by
  rw [tI_txt, ← h]
  show (bys s).filter nbI = (bys s).filter fun x => !blankB x
  congr 1
  funext v
  exact nb_blank v
#print axioms solid_sol
end Go.Proofs.Ytlallihdiffheaa.Cl
end
section
/- laws.inlineCutTree by hand, with what its root is. -/
namespace Go.Proofs.Ytlallihdiffheaa.Hand
open Go.RowKit Go.Proofs.YtlallihdiffheaaW.PrintWords Go.Proofs.YtlallihdiffheaaW.PrintLast Go.Proofs.Ytlallihdiffheaa.GT
set_option linter.unusedVariables false
set_option linter.unusedSimpArgs false

def CutDivPost (w : World) : Ending → World → Prop := fun e w' => ∃ (y : S25) (n : Nat) (A3 : Option Addr) (c3 : Nat) (A4 : Option Addr) (c4 : Nat), e = .returned (.agg #[.int .i64 y.f0, .string y.f1, .string y.f2, .slice A3 y.f3.length c3, .slice A4 y.f4.length c4]) ∧
  (Sm n y ∧ n ≤ 60 ∧ y.f0 = 0 ∧ y.f1 = ⟨#[100, 105, 118]⟩) ∧ TellsIn w.heap.size w'.heap.size w' y (treeCells y A3 c3 A4 c4) ∧ Below w.heap.size w w'
set_option maxRecDepth 100000 in
set_option maxHeartbeats 800000 in
theorem cutDiv_any (x : S25) (w : World) (A3 A4 : Option Addr) (c3 c4 : Nat) (h3 : k34.C w A3 x.f3.length x.f3) (l3 : x.f3.length ≤ c3) (h4 : k25.C w A4 x.f4.length x.f4) (l4 : x.f4.length ≤ c4) :
    Calls Try.prog 31 #[.agg #[.int .i64 x.f0, .string x.f1, .string x.f2, .slice A3 x.f3.length c3, .slice A4 x.f4.length c4]] w (CutDivPost w) := by
  obtain ⟨a1, a2, a3, a4, a5⟩ := alloc3 w (.cells #[.int .i64 0, .string x.f1, .string x.f2, .slice A3 x.f3.length c3, .slice A4 x.f4.length c4] 25 (0, 0)) (.cells #[.int .i64 0, .string ⟨#[]⟩, .string ⟨#[]⟩, .slice none 0 0, .slice none 0 0] 25 (0, 0)) (.cells #[.int .i64 60] 3 (0, 0))
  have hcall := cut_any ⟨0, x.f1, x.f2, x.f3, x.f4⟩ w (((w.alloc (.cells #[.int .i64 0, .string x.f1, .string x.f2, .slice A3 x.f3.length c3, .slice A4 x.f4.length c4] 25 (0, 0))).alloc (.cells #[.int .i64 0, .string ⟨#[]⟩, .string ⟨#[]⟩, .slice none 0 0, .slice none 0 0] 25 (0, 0))).alloc (.cells #[.int .i64 60] 3 (0, 0))) A3 A4 c3 c4 8 60 (w.heap.size + 1 + 1) a5 h3 l3 h4 l4 (by omega) a3 (by omega) (by omega) (by omega) (by omega)
  have HCALL := Lib.hid hcall
  have HA := Lib.hid (And.intro a2 (And.intro a4 a5))
  clear h3 h4 hcall a1 a2 a3 a4 a5
  go_enter Try.func31, Try.ntmps31
  go_wp2_with (go_at_call 72; refine HCALL.out.mono ?_; rintro e w1 ⟨y, n, l2, A5, c5, A6, c6, rfl, hsm, htl, hg, hbl⟩; have hr1 := (hg.block (w.heap.size + 1) (by have := HA.out.2.1; omega) (fun e => by have := Option.some.inj e; omega)).trans HA.out.1; have hsz : w.heap.size + 3 ≤ w1.heap.size := (by have := hg.size; have := HA.out.2.1; omega); have hrvl : w.heap.size + 1 < w1.heap.size := (by omega); have hB1 : Below w.heap.size w w1 := HA.out.2.2.trans (below_row hg HA.out.2.2.size (by omega)); obtain ⟨r0, f0⟩ := out_cell hr1 0; obtain ⟨r1, f1⟩ := out_cell hr1 1; obtain ⟨r2, f2⟩ := out_cell hr1 2; obtain ⟨r3, f3⟩ := out_cell hr1 3; obtain ⟨r4, f4⟩ := out_cell hr1 4; simp only [List.getElem?_toArray, List.getElem?_cons_succ, List.getElem?_cons_zero] at r0 r1 r2 r3 r4; have HR1 := Lib.hid hr1; have HB1 := Lib.hid hB1; have HSM := Lib.hid hsm; have HTL := Lib.hid htl; clear hr1 hB1 hsm htl hg hbl)
  have hd : y.f0 = 0 := HSM.out.2.2 (by show (0 : Int) ≠ 1; decide) (by show (0 : Int) ≠ 2; decide)
  obtain ⟨e4, hg, hsz2⟩ := put5 (.int .i64 y.f0) (.string ⟨#[100, 105, 118]⟩) (.string y.f2) (.slice A5 y.f3.length c5) (.slice A6 y.f4.length c6) HR1.out
  generalize (((((w1.setCell ⟨w.heap.size + 1, 0, none⟩ (.int .i64 y.f0)).setCell ⟨w.heap.size + 1, 1, none⟩ (.string ⟨#[100, 105, 118]⟩)).setCell ⟨w.heap.size + 1, 2, none⟩ (.string y.f2)).setCell ⟨w.heap.size + 1, 3, none⟩ (.slice A5 y.f3.length c5)).setCell ⟨w.heap.size + 1, 4, none⟩ (.slice A6 y.f4.length c6)) = W2 at *
  clear r0 r1 r2 r3 r4 f0 f1 f2 f3 f4
  have e5 := (Below.heap_alloc W2 (.cells #[.int .i64 y.f0, .string ⟨#[100, 105, 118]⟩, .string y.f2, .slice A5 y.f3.length c5, .slice A6 y.f4.length c6] 25 (0, 0)) (w.heap.size + 1) (by omega)).trans e4
  refine bodyPost_ret (results_cell_row rfl _ _ (w.heap.size + 1) 25 #[.int .i64 y.f0, .string ⟨#[100, 105, 118]⟩, .string y.f2, .slice A5 y.f3.length c5, .slice A6 y.f4.length c6] (0, 0) _ rfl e5 Try.underlying25 rfl (by kernel_rfl)) rfl ?_
  have hb2 : Below w.heap.size w W2 := HB1.out.grown hg HB1.out.size (fun z hz => by have := Option.some.inj hz; omega)
  refine ⟨⟨y.f0, ⟨#[100, 105, 118]⟩, y.f2, y.f3, y.f4⟩, n, A5, c5, A6, c6, rfl, ⟨?_, by have := HSM.out.2.1; omega, hd, rfl⟩, fun W hW => ?_, hb2.alloc hb2.size _⟩
  · have h := HSM.out.1
    cases h with
    | text t _ => cases hd
    | comment t _ => cases hd
    | elem m name kids hk => exact .elem m _ kids hk
  · have hK := HTL.out W fun z hz1 hz2 => by
      have h6 := HA.out.2.1
      rw [hW z (by omega) (by rw [World.size_alloc]; omega), Below.heap_alloc _ _ _ (by omega)]
      exact hg.block z hz2 (fun e => by have := Option.some.inj e; omega)
    obtain ⟨B3, d3, B4, d4, he, k3, g3, k4, g4⟩ := k25_open hK
    injection he with _ he
    injection he with _ he
    injection he with _ he
    injection he with he3 he
    injection he with he4 _
    injection he3 with x1 _ x2
    injection he4 with x3 _ x4
    subst x1 x2 x3 x4
    exact k25_mk W ⟨y.f0, ⟨#[100, 105, 118]⟩, y.f2, y.f3, y.f4⟩ k3 g3 k4 g4
end Go.Proofs.Ytlallihdiffheaa.Hand
end
section
/- The law of white space collapsed twice: what its trees are, and what is told of them. -/
namespace Go.Proofs.Ytlallihdiffheaa.Cl
open Go.RowKit Go.Proofs.YtlallihdiffheaaW.PrintWords Go.Proofs.YtlallihdiffheaaW.PrintLast Go.Proofs.YtlallihdiffheaaW.PrintMore Go.Proofs.Ytlallihdiffheaa.GT Go.Proofs.Ytlallihdiffheaa.Hand
set_option linter.unusedVariables false
set_option linter.unusedSimpArgs false

def nB : List ByteArray := [⟨#[100, 105, 118]⟩, ⟨#[112]⟩, ⟨#[117, 108]⟩, ⟨#[108, 105]⟩, ⟨#[112, 114, 101]⟩]
def nV : List ByteArray := [⟨#[105, 109, 103]⟩, ⟨#[98, 114]⟩]
def nP : List ByteArray := [⟨#[112, 114, 101]⟩, ⟨#[99, 111, 100, 101]⟩]
abbrev VS : Ways := waysOf nB nV nP
set_option maxRecDepth 100000 in
theorem sort_any (w : World) : Calls Try.prog 46 #[] w fun e w' => ∃ g1 g2 g3 : Nat, e = .returned (.agg #[.slice (some ⟨g1, 0, none⟩) nB.length nB.length, .slice (some ⟨g2, 0, none⟩) nV.length nV.length, .slice (some ⟨g3, 0, none⟩) nP.length nP.length]) ∧ RowN w' g1 nB ∧ RowN w' g2 nV ∧ RowN w' g3 nP ∧ Below w.heap.size w w' := by
  go_enter Try.func46, Try.ntmps46
  go_wp2
  obtain ⟨W1, hW1⟩ : ∃ W1, W1 = w.alloc (.cells #[.slice (some ⟨w.heap.size + 1, 0, none⟩) 5 5, .slice (some ⟨w.heap.size + 1 + 1, 0, none⟩) 2 2, .slice (some ⟨w.heap.size + 1 + 1 + 1, 0, none⟩) 2 2] 58 (0, 0)) := ⟨_, rfl⟩
  rw [← hW1]
  have hs1 : W1.heap.size = w.heap.size + 1 := by rw [hW1, World.size_alloc]
  have h0 : W1.heap[w.heap.size]? = some (.cells #[.slice (some ⟨w.heap.size + 1, 0, none⟩) 5 5, .slice (some ⟨w.heap.size + 1 + 1, 0, none⟩) 2 2, .slice (some ⟨w.heap.size + 1 + 1 + 1, 0, none⟩) 2 2] 58 (0, 0)) := by rw [hW1]; exact heap_alloc_new _ _
  have hb1 : Below w.heap.size w W1 := by rw [hW1]; exact below_alloc (Below.refl _ _) _
  obtain ⟨W2, hW2⟩ : ∃ W2, W2 = W1.alloc (.cells (nB.map Value.string).toArray 9 (0, 0)) := ⟨_, rfl⟩
  obtain ⟨W3, hW3⟩ : ∃ W3, W3 = W2.alloc (.cells (nV.map Value.string).toArray 9 (0, 0)) := ⟨_, rfl⟩
  obtain ⟨W4, hW4⟩ : ∃ W4, W4 = W3.alloc (.cells (nP.map Value.string).toArray 9 (0, 0)) := ⟨_, rfl⟩
  have hb2 : Below W1.heap.size W1 W2 := by rw [hW2]; exact below_alloc (Below.refl _ _) _
  have hb3 : Below W2.heap.size W2 W3 := by rw [hW3]; exact below_alloc (Below.refl _ _) _
  have hb4 : Below W3.heap.size W3 W4 := by rw [hW4]; exact below_alloc (Below.refl _ _) _
  have hs2 : W2.heap.size = w.heap.size + 1 + 1 := by rw [hW2, World.size_alloc, hs1]
  have hs3 : W3.heap.size = w.heap.size + 1 + 1 + 1 := by rw [hW3, World.size_alloc, hs2]
  have r1 : RowN W2 (w.heap.size + 1) nB := by rw [← hs1, hW2]; exact heap_alloc_new _ _
  have r2 : RowN W3 (w.heap.size + 1 + 1) nV := by rw [← hs2, hW3]; exact heap_alloc_new _ _
  have r3 : RowN W4 (w.heap.size + 1 + 1 + 1) nP := by rw [← hs3, hW4]; exact heap_alloc_new _ _
  have hb := below_then (below_then (below_then hb1 hb1.size hb2) (by omega) hb3) (by omega) hb4
  have h04 := (hb4.block w.heap.size (by omega)).trans ((hb3.block w.heap.size (by omega)).trans ((hb2.block w.heap.size (by omega)).trans h0))
  change bodyPost _ _ _ _ _ (((W1.alloc (.cells (nB.map Value.string).toArray 9 (0, 0))).alloc (.cells (nV.map Value.string).toArray 9 (0, 0))).alloc (.cells (nP.map Value.string).toArray 9 (0, 0)))
  rw [← hW2, ← hW3, ← hW4]
  refine bodyPost_ret (results_cell_row rfl _ _ w.heap.size 58 _ (0, 0) _ rfl h04 Try.underlying58 rfl (by kernel_rfl)) rfl ?_
  exact ⟨_, _, _, rfl, (r1.below hb3).below hb4, r2.below hb4, r3, hb⟩
/-- A small tree is a forest's. -/
def payOf (t : Int) (d : ByteArray) : Pay := ⟨t, 0, d, .slice none 0 0, []⟩
mutual
theorem sm_has : ∀ {n : Nat} {x : S25}, Sm n x → ∃ (p : Pay) (k : F Pay), nodeOf p (erase k) = x ∧ Neat (.node 0 p k .nil) ∧ p.attrs = []
  | _, _, .text t h => ⟨payOf 1 t, .nil, rfl, ⟨.inl ⟨rfl, rfl⟩, trivial, trivial⟩, rfl⟩
  | _, _, .comment t h => ⟨payOf 4 t, .nil, rfl, ⟨.inr (.inl ⟨rfl, rfl⟩), trivial, trivial⟩, rfl⟩
  | _, _, .elem n name kids h => by
    obtain ⟨k, h1, h2⟩ := sml_has h
    exact ⟨payOf 3 name, k, by rw [h1]; rfl, ⟨.inr (.inr (.inl rfl)), h2, trivial⟩, rfl⟩
theorem sml_has : ∀ {n : Nat} {l : List S25}, SmL n l → ∃ k : F Pay, erase k = l ∧ Neat k
  | _, _, .nil => ⟨.nil, rfl, trivial⟩
  | _, _, .cons m n y l hy hl => by
    obtain ⟨p, k, h1, h2, _⟩ := sm_has hy
    obtain ⟨r, h3, h4⟩ := sml_has hl
    exact ⟨.node 0 p k r, by rw [erase, h1, h3], h2.1, h2.2.1, h4⟩
end
/-- No text stands beside another one, where texts that follow one another are one. -/
theorem na_snoc {b : Nat} {q : Pay} {k : F Pay} : ∀ {a : F Pay}, NA a → NA k → (Hand.lastT false a = true → ¬ q.type = 1) → NA (a.app (.node b q k .nil))
  | .nil, _, hk, _ => ⟨fun _ => rfl, hk, trivial⟩
  | .node c p kk r, h, hk, hl => by
    obtain ⟨h1, h2, h3⟩ := h
    cases r with
    | nil =>
      refine ⟨fun e => ?_, h2, fun _ => rfl, hk, trivial⟩
      have : Hand.lastT false (.node c p kk .nil) = true := by simp [Hand.lastT, e]
      show decide (q.type = 1) = false
      exact decide_eq_false (hl this)
    | node d dq dk dr =>
      exact ⟨fun e => h1 e, h2, na_snoc h3 hk (fun e => hl (by simpa [Hand.lastT] using e))⟩
theorem na_last {s : ByteArray} {f : F Pay} (h : NA f) : NA (addLast s f) ∧ Hand.lastT false (addLast s f) = Hand.lastT false f := by
  rcases snoc_cases f with e | ⟨a, l, q, k, e⟩
  · subst e; exact ⟨trivial, rfl⟩
  · subst e
    rw [addLast_snoc, lastT_snoc, lastT_snoc]
    refine ⟨?_, rfl⟩
    have key : ∀ a : F Pay, NA (a.app (.node l q k .nil)) → NA (a.app (.node l { q with data := q.data ++ s } k .nil)) := by
      intro a
      induction a with
      | nil => exact fun h => h
      | node c p kk r ih1 ih2 =>
        intro h
        refine ⟨fun e => ?_, h.2.1, ih2 h.2.2⟩
        have h9 := h.1 e
        cases r with
        | nil => exact h9
        | node _ _ _ _ => exact h9
    exact key a h
theorem na_merge : ∀ (f done : F Pay), NA done → NA (mergeG f done)
  | .nil, done, h => h
  | .node b p k r, done, h => by
    rw [mergeG]
    split
    · exact na_merge r _ (na_last h).1
    · rename_i hc
      refine na_merge r _ (na_snoc h (na_merge k .nil trivial) (fun e => ?_))
      intro ht
      simp [ht, e] at hc
theorem na_full : ∀ f : F Pay, NA f → NA (fullF f)
  | .nil, h => h
  | .node b p k r, h => by
    obtain ⟨h1, h2, h3⟩ := h
    rw [fullF]
    split
    · exact na_full r h3
    · refine ⟨fun e => ?_, na_full k h2, na_full r h3⟩
      have h4 := h1 e
      cases r with
      | nil => rfl
      | node c q kk rr =>
        have hq : ¬ q.type = 1 := by simpa [headT] using h4
        rw [fullF, if_neg (fun hh => hq hh.1)]
        exact h4
theorem Shp.na : ∀ {f f' : F Pay}, Shp f f' → NA f → NA f'
  | .nil, .nil, _, _ => trivial
  | .node b p k r, .node b' p' k' r', h, hn => by
    obtain ⟨h1, h2, h3, h4, h5⟩ := h
    refine ⟨fun e => ?_, Shp.na h4 hn.2.1, Shp.na h5 hn.2.2⟩
    have h6 := hn.1 (h1.trans e)
    cases r with
    | nil => cases r' with
      | nil => rfl
      | node _ _ _ _ => exact h5.elim
    | node _ _ _ _ => cases r' with
      | nil => rfl
      | node _ _ _ _ => simp only [headT] at h6 ⊢; rw [← h5.1]; exact h6
/-- Without comments. -/
def NC : F Pay → Prop
  | .nil => True
  | .node b p k r => ¬ p.type = 4 ∧ NC k ∧ NC r
theorem nc_app : ∀ {a f : F Pay}, NC a → NC f → NC (a.app f)
  | .nil, f, _, h => h
  | .node b p k r, f, h, h2 => ⟨h.1, h.2.1, nc_app h.2.2 h2⟩
theorem nc_last {s : ByteArray} : ∀ {f : F Pay}, NC f → NC (addLast s f)
  | .nil, h => h
  | .node b p k .nil, h => h
  | .node b p k (.node c q kk r), h => ⟨h.1, h.2.1, nc_last (f := .node c q kk r) h.2.2⟩
theorem nc_merge : ∀ (f done : F Pay), NC f → NC done → NC (mergeG f done)
  | .nil, done, _, h => h
  | .node b p k r, done, hf, h => by
    rw [mergeG]
    split
    · exact nc_merge r _ hf.2.2 (nc_last h)
    · exact nc_merge r _ hf.2.2 (nc_app h ⟨hf.1, nc_merge k .nil hf.2.1 trivial, trivial⟩)
theorem nc_full : ∀ {f : F Pay}, NC f → NC (fullF f)
  | .nil, h => h
  | .node b p k r, h => by
    rw [fullF]
    split
    · exact nc_full h.2.2
    · exact ⟨h.1, nc_full h.2.1, nc_full h.2.2⟩
theorem nc_ap : ∀ f : F Pay, NC (apF f)
  | .nil => trivial
  | .node b p k r => by
    rw [apF]
    split
    · exact nc_ap r
    · rename_i h
      exact ⟨h, nc_full (nc_merge _ .nil (nc_ap k) trivial), nc_ap r⟩
theorem te_of : ∀ f : F Pay, NC f → Neat f → Plain f → TE f
  | .nil, _, _, _ => trivial
  | .node b p k r, h, h2, h3 => by
    refine ⟨?_, te_of k h.2.1 h2.2.1 h3.2.1, te_of r h.2.2 h2.2.2 h3.2.2⟩
    rcases h3.1 with a | a | a
    · refine .inl ⟨a, ?_, trivial⟩
      rcases h2.1 with ⟨_, e⟩ | ⟨e, _⟩ | e | e
      · exact e
      · rw [a] at e; cases e
      · rw [a] at e; cases e
      · rw [a] at e; cases e
    · exact .inr a
    · exact absurd a h.1
/-- The tree that the law looks at. -/
theorem apT_facts {k : F Pay} (hn : Neat k) (hp : Plain k) : TE (apT k) ∧ NA (apT k) ∧ heft (apT k) ≤ heft k ∧ (apT k).blocks.length ≤ k.blocks.length := by
  obtain ⟨a1, a2⟩ := apF_np k hn hp
  obtain ⟨m1, m2⟩ := mergeG_np (apF k) .nil a1 a2 trivial trivial
  obtain ⟨f1, f2⟩ := fullF_np _ m1 m2
  obtain ⟨s1, s2⟩ := apT_sub k
  exact ⟨te_of _ (nc_full (nc_merge _ .nil (nc_ap k) trivial)) f1 f2, na_full _ (na_merge _ .nil trivial), s2, s1.length_le⟩
/-- Trees without attributes, by their number of nodes. -/
theorem te_sz : ∀ f : F Pay, TE f → SzL f.blocks.length (erase f)
  | .nil, _ => .nil
  | .node b p k r, h => by
    have hk := te_sz k h.2.1
    have hr := te_sz r h.2.2
    have e : (F.node b p k r).blocks.length = (k.blocks.length + 1) + r.blocks.length := by simp [F.blocks]; omega
    rw [e, erase]
    refine .cons _ _ _ _ ?_ hr
    rcases h.1 with ⟨a, c, _⟩ | ⟨a, c⟩
    · subst c
      have e2 : nodeOf p (erase .nil) = ⟨1, ⟨#[]⟩, p.data, [], []⟩ := by simp [nodeOf, a]
      rw [e2]
      exact .mk 0 _ _ _ _ .nil
    · have e2 : nodeOf p (erase k) = ⟨0, p.data, ⟨#[]⟩, [], erase k⟩ := by simp [nodeOf, a, c]
      rw [e2]
      exact .mk _ _ _ _ _ hk
end Go.Proofs.Ytlallihdiffheaa.Cl
end
section
/- The law of white space collapsed twice: its calls, by trees that lie somewhere. -/
namespace Go.Proofs.Ytlallihdiffheaa.Cl
open Go.RowKit Go.Proofs.YtlallihdiffheaaW.PrintWords Go.Proofs.YtlallihdiffheaaW.PrintLast Go.Proofs.YtlallihdiffheaaW.PrintMore Go.Proofs.Ytlallihdiffheaa.GT Go.Proofs.Ytlallihdiffheaa.Hand
set_option linter.unusedVariables false
set_option linter.unusedSimpArgs false

abbrev Nt := S25
/-- An element without attributes. -/
def nd (d : ByteArray) (k : F Pay) : Nt := ⟨0, d, ⟨#[]⟩, [], erase k⟩
theorem nd_of {p : Pay} {k : F Pay} (h : p.type = 3) (ha : p.attrs = []) : nodeOf p (erase k) = nd p.data k := by simp [nodeOf, nd, h, ha]
theorem nd_pay (d : ByteArray) (k : F Pay) : nodeOf (payOf 3 d) (erase k) = nd d k := rfl
theorem nd_inj {d d' : ByteArray} {k k' : F Pay} (h : nd d k = nd d' k') : d = d' ∧ erase k = erase k' := by
  simp only [nd] at h
  simpa using h
theorem te_wf : ∀ f : F Pay, TE f → ∀ y ∈ erase f, WF0 y
  | .nil, _, y, h => by cases h
  | .node b p k r, h, y, hy => by
    rw [erase] at hy
    rcases List.mem_cons.1 hy with e | e
    · rcases h.1 with ⟨a, c, _⟩ | ⟨a, c⟩
      · have e2 : nodeOf p (erase k) = ⟨1, ⟨#[]⟩, p.data, [], []⟩ := by simp [nodeOf, a]
        rw [e, e2]
        exact .text _
      · rw [e, nd_of a c]
        exact .elem _ _ (te_wf k h.2.1)
    · exact te_wf r h.2.2 y e
/-- A tree that lies in some cells. -/
def At (W : World) (x : Nt) (A3 : Option Addr) (c3 : Nat) (A4 : Option Addr) (c4 : Nat) : Prop := k25.K W x (treeCells x A3 c3 A4 c4)
theorem At.open {W : World} {x : Nt} {A3 A4 : Option Addr} {c3 c4 : Nat} (h : At W x A3 c3 A4 c4) : x.f3.length ≤ c3 ∧ k34.C W A3 x.f3.length x.f3 ∧ x.f4.length ≤ c4 ∧ k25.C W A4 x.f4.length x.f4 := by
  obtain ⟨X5, x5, X6, x6, he7, l7, g7, l8, g8⟩ := k25_open h
  simp only [treeCells, List.cons.injEq, Value.slice.injEq, and_true, true_and] at he7
  obtain ⟨⟨rfl, rfl⟩, rfl, rfl⟩ := he7
  exact ⟨l7, g7, l8, g8⟩
theorem full_call {d : ByteArray} {k : F Pay} (hn : Neat k) (hp : Plain k) (hb : k.blocks.length ≤ 1000000) {W : World} {A3 A4 : Option Addr} {c3 c4 : Nat} (h : At W (nd d k) A3 c3 A4 c4) :
    Calls Try.prog 48 #[.agg #[.int .i64 0, .string d, .string ⟨#[]⟩, .slice A3 0 c3, .slice A4 (erase k).length c4]] W (ToldPost (nd d (fullF k)) W) := by
  obtain ⟨_, _, l4, g4⟩ := h.open
  exact (full_any k).1 0 d ⟨#[]⟩ W A3 A4 c3 c4 g4 l4 hn hp hb
theorem apart_call {d : ByteArray} {k : F Pay} (hn : Neat k) (hp : Plain k) (hb : k.blocks.length ≤ 1000000) (hh : heft k ≤ 1000000) {W : World} {A3 A4 : Option Addr} {c3 c4 : Nat} (h : At W (nd d k) A3 c3 A4 c4) :
    Calls Try.prog 45 #[.agg #[.int .i64 0, .string d, .string ⟨#[]⟩, .slice A3 0 c3, .slice A4 (erase k).length c4]] W (ToldPost (nd d (apT k)) W) := by
  obtain ⟨_, _, l4, g4⟩ := h.open
  exact (ap_any k).1 0 d ⟨#[]⟩ W A3 A4 c3 c4 g4 l4 hn hp hb hh
theorem text_call {x : Nt} {r : ByteArray} (hr : spec_TextOf.f 700 x.f0 x.f1 x.f2 x.f3 x.f4 = some r) (w : World) (A3 A4 : Option Addr) (c3 c4 : Nat) (h : At w x A3 c3 A4 c4) :
    Calls Try.prog 50 #[.agg #[.int .i64 x.f0, .string x.f1, .string x.f2, .slice A3 x.f3.length c3, .slice A4 x.f4.length c4]] w fun e w' => e = .returned (.string r) ∧ Below w.heap.size w w' := by
  obtain ⟨l3, g3, l4, g4⟩ := h.open
  exact spec_TextOf.calls 700 _ _ _ _ _ _ _ _ _ r w g3 l3 g4 l4 hr
theorem same_call2 (z : Nt) (w : World) (A5 A6 A7 A8 : Option Addr) (c5 c6 c7 c8 : Nat) (h1 : At w z A5 c5 A6 c6) (h2 : At w z A7 c7 A8 c8) (hs : spec_SameTree.f 1000 z.f0 z.f1 z.f2 z.f3 z.f4 z.f0 z.f1 z.f2 z.f3 z.f4 = some true) :
    Calls Try.prog 32 #[.agg #[.int .i64 z.f0, .string z.f1, .string z.f2, .slice A5 z.f3.length c5, .slice A6 z.f4.length c6], .agg #[.int .i64 z.f0, .string z.f1, .string z.f2, .slice A7 z.f3.length c7, .slice A8 z.f4.length c8]] w fun e w' => e = .returned (.bool true) ∧ Below w.heap.size w w' := by
  obtain ⟨l7, g7, l8, g8⟩ := h1.open
  obtain ⟨l9, g9, l10, g10⟩ := h2.open
  exact spec_SameTree.calls 1000 _ _ _ _ _ _ _ _ _ _ _ _ _ _ _ _ _ _ true w g7 l7 g8 l8 g9 l9 g10 l10 hs
/-- What the texts of a tree come to. -/
theorem text_facts (d : ByteArray) {k : F Pay} (h : TE k) (hb : k.blocks.length ≤ 60) (hh : heft k ≤ 18000) : ∃ A, spec_TextOf.f 700 (nd d k).f0 (nd d k).f1 (nd d k).f2 (nd d k).f3 (nd d k).f4 = some A ∧ spec_Solid.f 1000000 A = some (strOfNums (sol (tI k))) := by
  obtain ⟨n1, p1⟩ := h.neat
  have hN : Neat (.node 0 (payOf 3 d) k .nil) := ⟨.inr (.inr (.inl rfl)), n1, trivial⟩
  have hP : Plain (.node 0 (payOf 3 d) k .nil) := ⟨.inr (.inl ⟨rfl, rfl⟩), p1, trivial⟩
  have e0 : heft (.node 0 (payOf 3 d) k .nil) = heft k := by rw [heft]; show 0 + heft k + 0 = _; omega
  obtain ⟨A, a1, a2⟩ := text_node 0 (payOf 3 d) k hN hP (by rw [e0]; omega) (by omega) 700 (by omega)
  have a3 : A.data.toList = txtF k := by
    rw [a2, txtF, if_neg (by show ¬ (3 : Int) = 1; decide)]
    simp [txtF]
  have hsz : A.size ≤ 18000 := by
    have h1 := txt_heft k n1
    rw [← a3, Array.length_toList] at h1
    show A.data.size ≤ _
    omega
  refine ⟨A, a1, ?_⟩
  rw [solid_any A (by omega) _ (by omega), solid_sol A k a3]
theorem same_facts (d : ByteArray) {k : F Pay} (h : TE k) (hb : k.blocks.length ≤ 60) : spec_SameTree.f 1000 (nd d k).f0 (nd d k).f1 (nd d k).f2 (nd d k).f3 (nd d k).f4 (nd d k).f0 (nd d k).f1 (nd d k).f2 (nd d k).f3 (nd d k).f4 = some true :=
  same_sz 100 (k.blocks.length + 1) (by omega) (by decide) (nd d k) (.mk _ _ _ _ _ (te_sz k h)) 1000 (by omega)
set_option maxRecDepth 100000 in
set_option maxHeartbeats 1600000 in
/-- impl.Collapse of such a tree. -/
theorem cl_call {d : ByteArray} {k : F Pay} (hte : TE k) (hhf : heft k ≤ 18000) (hbl : k.blocks.length ≤ 60) (hpre : nmB nP d = false) {w : World} {A3 A4 : Option Addr} {c3 c4 : Nat} (hK : At w (nd d k) A3 c3 A4 c4) {g1 g2 g3 : Nat} (hr1 : RowN w g1 nB) (hr2 : RowN w g2 nV) (hr3 : RowN w g3 nP) :
    Calls Try.prog 47 #[.agg #[.int .i64 0, .string d, .string ⟨#[]⟩, .slice A3 0 c3, .slice A4 (erase k).length c4], .agg #[.slice (some ⟨g1, 0, none⟩) nB.length nB.length, .slice (some ⟨g2, 0, none⟩) nV.length nV.length, .slice (some ⟨g3, 0, none⟩) nP.length nP.length]] w fun e w' => ∃ k1 : F Pay, (TE k1 ∧ erase k1 = erase k ∧ heft k1 = heft k ∧ k1.blocks.length = k.blocks.length) ∧ ToldPost (nd d (clF VS k1)) w e w' := by
  obtain ⟨l3, h3, l4, h4⟩ := hK.open
  obtain ⟨W, hW0⟩ : ∃ W, W = ((w.alloc (.cells #[.int .i64 0, .string d, .string ⟨#[]⟩, .slice A3 0 c3, .slice A4 (erase k).length c4] 25 (0, 0))).alloc (.cells #[.slice (some ⟨g1, 0, none⟩) nB.length nB.length, .slice (some ⟨g2, 0, none⟩) nV.length nV.length, .slice (some ⟨g3, 0, none⟩) nP.length nP.length] 58 (0, 0))).alloc (.cells #[.int .i64 0, .string ⟨#[]⟩, .string ⟨#[]⟩, .slice none 0 0, .slice none 0 0] 25 (0, 0)) := ⟨_, rfl⟩
  have hsz : W.heap.size = w.heap.size + 1 + 1 + 1 := by rw [hW0]; simp only [World.size_alloc]
  have hW : Below w.heap.size w W := by rw [hW0]; exact below_alloc (below_alloc (below_alloc (Below.refl _ _) _) _) _
  have hN : W.heap[w.heap.size]? = some (.cells #[.int .i64 0, .string d, .string ⟨#[]⟩, .slice A3 0 c3, .slice A4 (erase k).length c4] 25 (0, 0)) := by
    rw [hW0, Below.heap_alloc _ _ _ (by simp only [World.size_alloc]; omega), Below.heap_alloc _ _ _ (by simp only [World.size_alloc]; omega)]
    exact heap_alloc_new _ _
  have hsb : W.heap[w.heap.size + 1]? = some (.cells #[.slice (some ⟨g1, 0, none⟩) nB.length nB.length, .slice (some ⟨g2, 0, none⟩) nV.length nV.length, .slice (some ⟨g3, 0, none⟩) nP.length nP.length] 58 (0, 0)) := by
    rw [hW0, Below.heap_alloc _ _ _ (by simp only [World.size_alloc]; omega), ← World.size_alloc w]
    exact heap_alloc_new _ _
  have hrv : W.heap[w.heap.size + 1 + 1]? = some (.cells #[.int .i64 0, .string ⟨#[]⟩, .string ⟨#[]⟩, .slice none 0 0, .slice none 0 0] 25 (0, 0)) := by
    rw [hW0, ← World.size_alloc w (.cells #[.int .i64 0, .string d, .string ⟨#[]⟩, .slice A3 0 c3, .slice A4 (erase k).length c4] 25 (0, 0)), ← World.size_alloc (w.alloc _)]
    exact heap_alloc_new _ _
  have hdo := cl_do (p0 := payOf 3 d) (k0 := k) rfl rfl hte (by omega) (by omega) nB nV nP hpre W (w.heap.size + 1) g1 g2 g3 hsb (hr1.below hW) (hr2.below hW) (hr3.below hW) (by decide) (by decide) (by decide)
  rw [nd_pay] at hdo
  have hcall := behind_any 92 #[.pointer (some ⟨w.heap.size + 1, 0, none⟩)] W (nd d k) (QC VS (nd d k)) (.elem _ _ (te_wf k hte)) A3 A4 c3 c4 (fun v W => enters Try.func92 (by rfl) (by rfl) _ _) hdo (Kd.C_below h3 hW) l3 (Kd.C_below h4 hW) l4
  have hafter : ∀ w1 : World, Below W.heap.size W w1 → w1.heap[w.heap.size + 1 + 1]? = some (.cells #[.int .i64 0, .string ⟨#[]⟩, .string ⟨#[]⟩, .slice none 0 0, .slice none 0 0] 25 (0, 0)) ∧ Below w.heap.size w w1 ∧ W.heap.size ≤ w1.heap.size := fun w1 hb =>
    ⟨(hb.block _ (by omega)).trans hrv, below_then hW hW.size hb, hb.size⟩
  have hqc : ∀ y, QC VS (nd d k) y → ∃ k1 : F Pay, (TE k1 ∧ erase k1 = erase k ∧ heft k1 = heft k ∧ k1.blocks.length = k.blocks.length) ∧ y = nd d (clF VS k1) := by
    rintro y ⟨p, k1, t1, t2, t3, t4, t5⟩
    rw [nd_of t1 t2] at t4
    obtain ⟨i1, i2⟩ := nd_inj t4
    obtain ⟨_, q2, q3⟩ := te_neat k k1 hte t3.neat.1 i2
    exact ⟨k1, ⟨t3, i2, q2, q3⟩, by rw [t5, nd_of t1 t2, i1]⟩
  have HCALL := Lib.hid hcall
  have HAFT := Lib.hid hafter
  have HSZ := Lib.hid hsz
  have HQC := Lib.hid hqc
  obtain ⟨m0, -⟩ := out_cell hN 0
  obtain ⟨m1, -⟩ := out_cell hN 1
  obtain ⟨m2, -⟩ := out_cell hN 2
  obtain ⟨m3, -⟩ := out_cell hN 3
  obtain ⟨m4, -⟩ := out_cell hN 4
  have HWE := Lib.hid hW0
  clear hW hsz hrv hcall hafter h3 h4 hN hW0 m0 m1 m2 m3 m4 hK hdo hsb hte hhf hbl hpre hr1 hr2 hr3 hqc l3 l4
  rw [HWE.out] at HCALL HAFT HSZ
  go_enter Try.func47, Try.ntmps47
  go_wp2_with (go_at_call 73; refine HCALL.out.mono ?_; rintro e w1 ⟨y, hq, A5, c5, A6, c6, rfl, htl, hb⟩; obtain ⟨hr1, hB1, hs1⟩ := HAFT.out w1 hb; obtain ⟨r0, f0⟩ := out_cell hr1 0; obtain ⟨r1, f1⟩ := out_cell hr1 1; obtain ⟨r2, f2⟩ := out_cell hr1 2; obtain ⟨r3, f3⟩ := out_cell hr1 3; obtain ⟨r4, f4⟩ := out_cell hr1 4; simp only [List.getElem?_toArray, List.getElem?_cons_succ, List.getElem?_cons_zero] at r0 r1 r2 r3 r4; have HR1 := Lib.hid hr1; have HB1 := Lib.hid hB1; have HQ := Lib.hid hq; have HTL := Lib.hid htl; have HS1 := Lib.hid hs1; clear hr1 hB1 hq htl hb hs1)
  obtain ⟨e4, hg, hsz2⟩ := put5 (.int .i64 y.f0) (.string y.f1) (.string y.f2) (.slice A5 y.f3.length c5) (.slice A6 y.f4.length c6) HR1.out
  refine bodyPost_ret (results_cell_row rfl _ _ (w.heap.size + 1 + 1) 25 #[.int .i64 y.f0, .string y.f1, .string y.f2, .slice A5 y.f3.length c5, .slice A6 y.f4.length c6] (0, 0) _ rfl e4 Try.underlying25 rfl (by kernel_rfl)) rfl ?_
  obtain ⟨k1, hk1, hy⟩ := HQC.out y HQ.out
  subst hy
  refine ⟨k1, hk1, A5, c5, A6, c6, rfl, fun W hW => HTL.out W fun z hz1 hz2 => ?_, HB1.out.grown hg HB1.out.size (fun z hz => by have := Option.some.inj hz; omega)⟩
  have h7 := HSZ.out
  have h8 := HS1.out
  rw [hW z (by omega) (by omega)]
  exact hg.block z hz2 (fun e => by have := Option.some.inj e; omega)
theorem shp_tI : ∀ {f f' : F Pay}, Shp f f' → Hand.tI f = Hand.tI f'
  | .nil, .nil, _ => rfl
  | .node b p k r, .node b' p' k' r', h => by
    obtain ⟨h1, h2, h3, h4, h5⟩ := h
    rw [Hand.tI, Hand.tI, shp_tI h4, shp_tI h5, h1, h2]
/-- Twice is once, empty texts aside. -/
theorem twice_facts {k k1 k2 : F Pay} (hna : NA k) (h1 : TE k1) (he1 : erase k1 = erase k) (hte : TE k) (h2 : TE k2) (he2 : erase k2 = erase (clF VS k1)) (d : ByteArray) : nd d (fullF (clF VS k2)) = nd d (fullF (clF VS k1)) := by
  have hsh := shp_of k k1 hte h1 he1.symm
  have := cl_twice VS k1 k2 h1 (Shp.na hsh hna) h2 he2
  rw [nd, nd, this]
end Go.Proofs.Ytlallihdiffheaa.Cl
end
section
/- laws.FnCollapseTwice by hand: the walk. -/
namespace Go.Proofs.Ytlallihdiffheaa.Cl
open Go.RowKit Go.Proofs.YtlallihdiffheaaW.PrintWords Go.Proofs.YtlallihdiffheaaW.PrintLast Go.Proofs.YtlallihdiffheaaW.PrintMore Go.Proofs.Ytlallihdiffheaa.GT Go.Proofs.Ytlallihdiffheaa.Hand
set_option linter.unusedVariables false
set_option linter.unusedSimpArgs false

def dv : ByteArray := ⟨#[100, 105, 118]⟩
theorem dv_pre : nmB nP dv = false := by decide +kernel
/-- Such a tree is handed back, in new blocks. -/
def NdP (k : F Pay) (w : World) (e : Ending) (w' : World) : Prop := ∃ A3 c3 A4 c4, e = .returned (.agg #[.int .i64 0, .string dv, .string ⟨#[]⟩, .slice A3 0 c3, .slice A4 (erase k).length c4]) ∧ (∀ W : World, (∀ z, w.heap.size ≤ z → z < w'.heap.size → W.heap[z]? = w'.heap[z]?) → At W (nd dv k) A3 c3 A4 c4) ∧ Below w.heap.size w w'
theorem told_nd {k : F Pay} {w w' : World} {e : Ending} (h : ToldPost (nd dv k) w e w') : NdP k w e w' := by
  obtain ⟨A3, c3, A4, c4, h1, h2, h3⟩ := h
  exact ⟨A3, c3, A4, c4, h1, h2, h3⟩
theorem fullN {k : F Pay} (ht : TE k) (hb : k.blocks.length ≤ 60) {W : World} {A3 A4 : Option Addr} {c3 c4 : Nat} (h : At W (nd dv k) A3 c3 A4 c4) :
    Calls Try.prog 48 #[.agg #[.int .i64 0, .string dv, .string ⟨#[]⟩, .slice A3 0 c3, .slice A4 (erase k).length c4]] W (NdP (fullF k) W) :=
  (full_call ht.neat.1 ht.neat.2 (by omega) h).mono fun _ _ h => told_nd h
theorem apartN {k : F Pay} (hn : Neat k) (hp : Plain k) (hb : k.blocks.length ≤ 60) (hh : heft k ≤ 18000) {W : World} {A3 A4 : Option Addr} {c3 c4 : Nat} (h : At W (nd dv k) A3 c3 A4 c4) :
    Calls Try.prog 45 #[.agg #[.int .i64 0, .string dv, .string ⟨#[]⟩, .slice A3 0 c3, .slice A4 (erase k).length c4]] W (NdP (apT k) W) :=
  (apart_call hn hp (by omega) (by omega) h).mono fun _ _ h => told_nd h
theorem clN {k : F Pay} (ht : TE k) (hh : heft k ≤ 18000) (hb : k.blocks.length ≤ 60) {w : World} {A3 A4 : Option Addr} {c3 c4 : Nat} (hK : At w (nd dv k) A3 c3 A4 c4) {g1 g2 g3 : Nat} (hr1 : RowN w g1 nB) (hr2 : RowN w g2 nV) (hr3 : RowN w g3 nP) :
    Calls Try.prog 47 #[.agg #[.int .i64 0, .string dv, .string ⟨#[]⟩, .slice A3 0 c3, .slice A4 (erase k).length c4], .agg #[.slice (some ⟨g1, 0, none⟩) nB.length nB.length, .slice (some ⟨g2, 0, none⟩) nV.length nV.length, .slice (some ⟨g3, 0, none⟩) nP.length nP.length]] w fun e w' => ∃ k1 : F Pay, (TE k1 ∧ erase k1 = erase k ∧ heft k1 = heft k ∧ k1.blocks.length = k.blocks.length) ∧ NdP (clF VS k1) w e w' :=
  (cl_call ht hh hb dv_pre hK hr1 hr2 hr3).mono fun _ _ ⟨k1, h1, h2⟩ => ⟨k1, h1, told_nd h2⟩
theorem cl_small {k1 : F Pay} (h : TE k1) (hh : heft k1 ≤ 18000) (hb : k1.blocks.length ≤ 60) : TE (clF VS k1) ∧ heft (clF VS k1) ≤ 18000 ∧ (clF VS k1).blocks.length ≤ 60 := by
  obtain ⟨a, b⟩ := cl_heft VS k1
  exact ⟨cut_TE VS k1 _ h, by omega, Nat.le_trans b.length_le hb⟩
theorem fullTwN {kA k1 k2 : F Pay} (hna : NA kA) (ht1 : TE k1 ∧ erase k1 = erase kA) (htA : TE kA) (hk2 : TE k2 ∧ erase k2 = erase (clF VS k1) ∧ heft k2 = heft (clF VS k1) ∧ k2.blocks.length = (clF VS k1).blocks.length) (hc : TE (clF VS k1) ∧ heft (clF VS k1) ≤ 18000 ∧ (clF VS k1).blocks.length ≤ 60) {W : World} {A3 A4 : Option Addr} {c3 c4 : Nat} (h : At W (nd dv (clF VS k2)) A3 c3 A4 c4) :
    Calls Try.prog 48 #[.agg #[.int .i64 0, .string dv, .string ⟨#[]⟩, .slice A3 0 c3, .slice A4 (erase (clF VS k2)).length c4]] W (NdP (fullF (clF VS k1)) W) := by
  obtain ⟨s1, s2, s3⟩ := cl_small hk2.1 (by rw [hk2.2.2.1]; exact hc.2.1) (by rw [hk2.2.2.2]; exact hc.2.2)
  refine (full_call s1.neat.1 s1.neat.2 (by omega) h).mono fun e w' hT => ?_
  rw [twice_facts hna ht1.1 ht1.2 htA hk2.1 hk2.2.1 dv] at hT
  exact told_nd hT
theorem sameN {k : F Pay} (ht : TE k) (hb : k.blocks.length ≤ 60) {w : World} {A5 A6 A7 A8 : Option Addr} {c5 c6 c7 c8 : Nat} (h1 : At w (nd dv (fullF k)) A5 c5 A6 c6) (h2 : At w (nd dv (fullF k)) A7 c7 A8 c8) :
    Calls Try.prog 32 #[.agg #[.int .i64 0, .string dv, .string ⟨#[]⟩, .slice A5 0 c5, .slice A6 (erase (fullF k)).length c6], .agg #[.int .i64 0, .string dv, .string ⟨#[]⟩, .slice A7 0 c7, .slice A8 (erase (fullF k)).length c8]] w fun e w' => e = .returned (.bool true) ∧ Below w.heap.size w w' :=
  same_call2 (nd dv (fullF k)) w A5 A6 A7 A8 c5 c6 c7 c8 h1 h2 (same_facts dv (full_TE ht) (Nat.le_trans (full_sub k).1.length_le hb))
theorem textN {k : F Pay} {r : ByteArray} (hr : spec_TextOf.f 700 (nd dv k).f0 (nd dv k).f1 (nd dv k).f2 (nd dv k).f3 (nd dv k).f4 = some r) (w : World) (A3 A4 : Option Addr) (c3 c4 : Nat) (h : At w (nd dv k) A3 c3 A4 c4) :
    Calls Try.prog 50 #[.agg #[.int .i64 0, .string dv, .string ⟨#[]⟩, .slice A3 0 c3, .slice A4 (erase k).length c4]] w fun e w' => e = .returned (.string r) ∧ Below w.heap.size w w' := text_call hr w A3 A4 c3 c4 h
theorem cutN (x : Nt) (w : World) (A3 A4 : Option Addr) (c3 c4 : Nat) (h3 : k34.C w A3 x.f3.length x.f3) (l3 : x.f3.length ≤ c3) (h4 : k25.C w A4 x.f4.length x.f4) (l4 : x.f4.length ≤ c4) :
    Calls Try.prog 31 #[.agg #[.int .i64 x.f0, .string x.f1, .string x.f2, .slice A3 x.f3.length c3, .slice A4 x.f4.length c4]] w fun e w' => ∃ k : F Pay, (Neat k ∧ Plain k ∧ k.blocks.length ≤ 60 ∧ heft k ≤ 18000) ∧ NdP k w e w' := by
  refine (cutDiv_any x w A3 A4 c3 c4 h3 l3 h4 l4).mono ?_
  rintro e w' ⟨y, n, B3, d3, B4, d4, rfl, ⟨hsm, hn, hf0, hf1⟩, htl, hb⟩
  obtain ⟨p, k, hy, hN, ha⟩ := sm_has hsm
  obtain ⟨s1, s2, s3⟩ := sm_forest (.node 0 p k .nil) n hN (by
    have h : erase (F.node 0 p k .nil) = [y] := by rw [← hy]; rfl
    rw [h]
    have := SmL.cons n 0 y [] hsm .nil
    simpa using this)
  have hty : p.type = 3 := by
    rcases hN.1 with ⟨a, _⟩ | ⟨a, _⟩ | a | a
    · rw [← hy] at hf0; simp [nodeOf, a] at hf0
    · rw [← hy] at hf0; simp [nodeOf, a] at hf0
    · exact a
    · rw [← hy] at hf0; simp [nodeOf, a] at hf0
  rw [nd_of hty ha] at hy
  have hd : p.data = dv := by rw [← hy] at hf1; exact hf1
  rw [hd] at hy
  subst hy
  refine ⟨k, ⟨hN.2.1, s3.2.1, ?_, ?_⟩, B3, d3, B4, d4, rfl, htl, hb⟩
  · simp only [F.blocks, List.length_cons, List.length_append, List.length_nil] at s1
    omega
  · simp only [heft] at s2
    omega
set_option maxRecDepth 100000 in
set_option maxHeartbeats 20000000 in
theorem law_cl (x : Nt) (w : World) (A3 A4 : Option Addr) (c3 c4 : Nat) (h3 : k34.C w A3 x.f3.length x.f3) (l3 : x.f3.length ≤ c3) (h4 : k25.C w A4 x.f4.length x.f4) (l4 : x.f4.length ≤ c4) :
    Calls Try.prog 12 #[.agg #[.int .i64 x.f0, .string x.f1, .string x.f2, .slice A3 x.f3.length c3, .slice A4 x.f4.length c4]] w fun e w' => e = .returned (.bool true) ∧ Below w.heap.size w w' := by
  obtain ⟨kz, rz, hz⟩ := fits2_any x
  have H3 := Lib.hid h3
  have H4 := Lib.hid h4
  have HZ := Lib.hid hz
  clear h3 h4 hz
  go_enter Try.func12, Try.ntmps12
  go_upto_region 4 with (first
    | (go_at_call 14; refine (laws_zzFits2.calls kz x.f0 x.f1 x.f2 A3 c3 x.f3 A4 c4 x.f4 rz _ (Kd.C_alloc H3.out _) l3 (Kd.C_alloc H4.out _) l4 HZ.out).mono ?_; rintro e w1 ⟨rfl, hb1⟩; have hn1 := (hb1.block w.heap.size (by rw [World.size_alloc]; omega)).trans (heap_alloc_new w _); have hB1 : Below w.heap.size w w1 := below_then (below_alloc (Below.refl _ _) _) (by rw [World.size_alloc]; omega) hb1; have hs1 : w.heap.size < w1.heap.size := (by have := hb1.size; rw [World.size_alloc] at this; omega); obtain ⟨n0, f0⟩ := out_cell hn1 0; obtain ⟨n1, f1⟩ := out_cell hn1 1; obtain ⟨n2, f2⟩ := out_cell hn1 2; obtain ⟨n3, f3⟩ := out_cell hn1 3; obtain ⟨n4, f4⟩ := out_cell hn1 4; simp only [List.getElem?_toArray, List.getElem?_cons_succ, List.getElem?_cons_zero] at n0 n1 n2 n3 n4; have HN1 := Lib.hid hn1; have HB1 := Lib.hid hB1; clear hb1 hn1 hB1)
    | (go_at_call 31; refine (cutN x w1 A3 A4 c3 c4 (Kd.C_below H3.out HB1.out) l3 (Kd.C_below H4.out HB1.out) l4).mono ?_; rintro e w2 ⟨k, hk, B3, d3, B4, d4, rfl, htl, hb2⟩; have HN2 := Lib.hid ((hb2.block w.heap.size hs1).trans HN1.out); have HB2 := Lib.hid hb2; have HK := Lib.hid hk; have HTL := Lib.hid htl; clear hb2 hk htl)
    | (go_at_call 45; refine (apartN HK.out.1 HK.out.2.1 HK.out.2.2.1 HK.out.2.2.2 (HTL.out w2 (fun _ _ _ => rfl))).mono ?_; rintro e w3 ⟨Z3, z3, Z4, z4, rfl, htl3, hb3⟩; have hn3 := (hb3.block w.heap.size (by have := HB2.out.size; omega)).trans HN2.out; obtain ⟨m0, g0⟩ := out_cell hn3 0; obtain ⟨m1, g1⟩ := out_cell hn3 1; obtain ⟨m2, g2⟩ := out_cell hn3 2; obtain ⟨m3, g3⟩ := out_cell hn3 3; obtain ⟨m4, g4⟩ := out_cell hn3 4; simp only [List.getElem?_toArray, List.getElem?_cons_succ, List.getElem?_cons_zero] at m0 m1 m2 m3 m4; have HN3 := Lib.hid hn3; have HB3 := Lib.hid hb3; have HTL3 := Lib.hid htl3; clear hn3 hb3 htl3))
  · go_ret
    exact ⟨rfl, HB1.out⟩
  · obtain ⟨e4, hg, hsz⟩ := put5 (.int .i64 0) (.string dv) (.string ⟨#[]⟩) (.slice Z3 0 z3) (.slice Z4 (erase (apT k)).length z4) HN3.out
    clear n0 n1 n2 n3 n4 f0 f1 f2 f3 f4 m0 m1 m2 m3 m4 g0 g1 g2 g3 g4
    generalize (((((w3.setCell ⟨w.heap.size, 0, none⟩ (.int .i64 0)).setCell ⟨w.heap.size, 1, none⟩ (.string dv)).setCell ⟨w.heap.size, 2, none⟩ (.string ⟨#[]⟩)).setCell ⟨w.heap.size, 3, none⟩ (.slice Z3 0 z3)).setCell ⟨w.heap.size, 4, none⟩ (.slice Z4 (erase (apT k)).length z4)) = W4 at *
    obtain ⟨fa1, fa2, fa3, fa4⟩ := apT_facts HK.out.1 HK.out.2.1
    have hka : heft (apT k) ≤ 18000 ∧ (apT k).blocks.length ≤ 60 := ⟨by have := HK.out.2.2.2; omega, by have := HK.out.2.2.1; omega⟩
    generalize apT k = kA at *
    have hL1 : ∀ w', Below W4.heap.size W4 w' → Below w.heap.size w w' := fun w' hb => by
      have h1 := HB2.out.size
      have h2 := HB3.out.size
      have h0 := HB1.out.size
      refine below_then (B := w.heap.size) ((below_then (below_then HB1.out h0 HB2.out) (by omega) HB3.out).grown hg (by omega) (fun z hz => by have := Option.some.inj hz; omega)) (by omega) hb
    have hKZ : ∀ W, Below W4.heap.size W4 W → At W (nd dv kA) Z3 z3 Z4 z4 := fun W hb => HTL3.out W (fun z hz1 hz2 => (hb.block z (by omega)).trans (hg.block z hz2 (fun e => by have := Option.some.inj e; have := HB2.out.size; omega)))
    have HWL : w.heap.size < W4.heap.size := by have := HB2.out.size; have := HB3.out.size; omega
    obtain ⟨m0, -⟩ := out_cell e4 0
    obtain ⟨m1, -⟩ := out_cell e4 1
    obtain ⟨m2, -⟩ := out_cell e4 2
    obtain ⟨m3, -⟩ := out_cell e4 3
    obtain ⟨m4, -⟩ := out_cell e4 4
    simp only [List.getElem?_toArray, List.getElem?_cons_succ, List.getElem?_cons_zero] at m0 m1 m2 m3 m4
    have hcn : ∀ W, Below W4.heap.size W4 W → W.cell? ⟨w.heap.size, 0, none⟩ = some (.int .i64 0) ∧ W.cell? ⟨w.heap.size, 1, none⟩ = some (.string dv) ∧ W.cell? ⟨w.heap.size, 2, none⟩ = some (.string ⟨#[]⟩) ∧ W.cell? ⟨w.heap.size, 3, none⟩ = some (.slice Z3 0 z3) ∧ W.cell? ⟨w.heap.size, 4, none⟩ = some (.slice Z4 (erase kA).length z4) := fun W hb =>
      ⟨(hb.cell (p := ⟨w.heap.size, 0, none⟩) HWL).trans m0, (hb.cell (p := ⟨w.heap.size, 1, none⟩) HWL).trans m1, (hb.cell (p := ⟨w.heap.size, 2, none⟩) HWL).trans m2, (hb.cell (p := ⟨w.heap.size, 3, none⟩) HWL).trans m3, (hb.cell (p := ⟨w.heap.size, 4, none⟩) HWL).trans m4⟩
    have HCN := Lib.hid hcn
    have HKY := Lib.hid hKZ
    have HL1 := Lib.hid hL1
    have HTA := Lib.hid fa1
    have HNA := Lib.hid fa2
    have HKA := Lib.hid hka
    clear hg hL1 hKZ hcn fa1 fa2 fa3 fa4 hka e4 hsz m0 m1 m2 m3 m4
    go_cut [3] from 5 to 33 (fun v3 wx => ∃ sb g1 g2 g3 : Nat, v3 = .pointer (some ⟨sb, 0, none⟩) ∧ wx.heap[sb]? = some (.cells #[.slice (some ⟨g1, 0, none⟩) nB.length nB.length, .slice (some ⟨g2, 0, none⟩) nV.length nV.length, .slice (some ⟨g3, 0, none⟩) nP.length nP.length] 58 (0, 0)) ∧ RowN wx g1 nB ∧ RowN wx g2 nV ∧ RowN wx g3 nP ∧ Below W4.heap.size W4 wx)
    case first =>
      go_wp2_with (go_at_call 46; refine (sort_any _).mono ?_; rintro e w5 ⟨g1, g2, g3, rfl, q1, q2, q3, hb5⟩; have HQ := Lib.hid (And.intro q1 (And.intro q2 (And.intro q3 hb5))); clear q1 q2 q3 hb5)
      go_meet
      obtain ⟨q1, q2, q3, hb5⟩ := HQ.out
      have hA : Below w5.heap.size w5 (w5.alloc (.cells #[.slice (some ⟨g1, 0, none⟩) nB.length nB.length, .slice (some ⟨g2, 0, none⟩) nV.length nV.length, .slice (some ⟨g3, 0, none⟩) nP.length nP.length] 58 (0, 0))) := below_alloc (Below.refl _ _) _
      exact ⟨w5.heap.size, g1, g2, g3, rfl, heap_alloc_new _ _, q1.below hA, q2.below hA, q3.below hA, below_then hb5 hb5.size hA⟩
    obtain ⟨sb, g1, g2, g3, rfl, hsb, hq1, hq2, hq3, hb45⟩ := hcut
    have hcall := clN HTA.out HKA.out.1 HKA.out.2 (HKY.out wc hb45) hq1 hq2 hq3
    have HCALL := Lib.hid hcall
    have HB45 := Lib.hid hb45
    have HQR := Lib.hid (And.intro hsb (And.intro hq1 (And.intro hq2 hq3)))
    obtain ⟨z0, z1, z2, z3_, z4_⟩ := HCN.out wc hb45
    obtain ⟨y0, -⟩ := out_cell hsb 0
    obtain ⟨y1, -⟩ := out_cell hsb 1
    obtain ⟨y2, -⟩ := out_cell hsb 2
    simp only [List.getElem?_toArray, List.getElem?_cons_succ, List.getElem?_cons_zero] at y0 y1 y2
    clear hcall hb45 hsb hq1 hq2 hq3
    go_wp2_with (go_at_call 47; refine HCALL.out.mono ?_; rintro e w5 ⟨k1, hk1, O3, o3, O4, o4, rfl, htl5, hb5⟩; have HK1 := Lib.hid hk1; have HTL5 := Lib.hid htl5; have HB5 := Lib.hid hb5; clear hk1 htl5 hb5)
    have h6 : (w5.alloc (.cells #[.int .i64 0, .string dv, .string ⟨#[]⟩, .slice O3 0 o3, .slice O4 (erase (clF VS k1)).length o4] 25 (0, 0))).heap[w5.heap.size]? = some (.cells #[.int .i64 0, .string dv, .string ⟨#[]⟩, .slice O3 0 o3, .slice O4 (erase (clF VS k1)).length o4] 25 (0, 0)) := heap_alloc_new _ _
    have hb6 : Below w5.heap.size w5 (w5.alloc (.cells #[.int .i64 0, .string dv, .string ⟨#[]⟩, .slice O3 0 o3, .slice O4 (erase (clF VS k1)).length o4] 25 (0, 0))) := below_alloc (Below.refl _ _) _
    have hs6 : w5.heap.size < (w5.alloc (.cells #[.int .i64 0, .string dv, .string ⟨#[]⟩, .slice O3 0 o3, .slice O4 (erase (clF VS k1)).length o4] 25 (0, 0))).heap.size := by rw [World.size_alloc]; omega
    generalize (w5.alloc (.cells #[.int .i64 0, .string dv, .string ⟨#[]⟩, .slice O3 0 o3, .slice O4 (erase (clF VS k1)).length o4] 25 (0, 0))) = W6 at *
    have hB6 : Below wc.heap.size wc W6 := below_then HB5.out HB5.out.size hb6
    have hB46 : Below W4.heap.size W4 W6 := below_then HB45.out HB45.out.size hB6
    obtain ⟨o0, -⟩ := out_cell h6 0
    obtain ⟨o1, -⟩ := out_cell h6 1
    obtain ⟨o2, -⟩ := out_cell h6 2
    obtain ⟨o3_, -⟩ := out_cell h6 3
    obtain ⟨o4_, -⟩ := out_cell h6 4
    simp only [List.getElem?_toArray, List.getElem?_cons_succ, List.getElem?_cons_zero] at o0 o1 o2 o3_ o4_
    obtain ⟨bo, hbo⟩ : ∃ bo, bo = w5.heap.size := ⟨_, rfl⟩
    have hc1 := cl_small HK1.out.1 (by rw [HK1.out.2.2.1]; exact HKA.out.1) (by rw [HK1.out.2.2.2]; exact HKA.out.2)
    obtain ⟨txo, hto, hso⟩ := text_facts dv hc1.1 hc1.2.2 hc1.2.1
    obtain ⟨txz, htz, hsz2⟩ := text_facts dv HTA.out HKA.out.2 HKA.out.1
    have hsol : sol (tI (clF VS k1)) = sol (tI kA) := by
      rw [cl_sol VS k1]
      have hsh := shp_of k1 kA HK1.out.1 HTA.out HK1.out.2.1
      rw [shp_tI hsh]
    rw [hsol] at hso
    obtain ⟨R, hR⟩ : ∃ R, R = strOfNums (sol (tI kA)) := ⟨_, rfl⟩
    rw [← hR] at hso hsz2
    have hko : ∀ W, Below W6.heap.size W6 W → At W (nd dv (clF VS k1)) O3 o3 O4 o4 := fun W hb => HTL5.out W (fun z hz1 hz2 => (hb.block z (by have := hb6.size; omega)).trans (hb6.block z hz2))
    have hkz : ∀ W, Below W6.heap.size W6 W → At W (nd dv kA) Z3 z3 Z4 z4 := fun W hb => HKY.out W (below_then hB46 hB46.size hb)
    have hr1 : ∀ W, Below W6.heap.size W6 W → RowN W g1 nB := fun W hb => (HQR.out.2.1.below hB6).below hb
    have hr2 : ∀ W, Below W6.heap.size W6 W → RowN W g2 nV := fun W hb => (HQR.out.2.2.1.below hB6).below hb
    have hr3 : ∀ W, Below W6.heap.size W6 W → RowN W g3 nP := fun W hb => (HQR.out.2.2.2.below hB6).below hb
    have hfin : ∀ W, Below W6.heap.size W6 W → Below w.heap.size w W := fun W hb => HL1.out W (below_then hB46 hB46.size hb)
    have hsk : ∀ W, Below W6.heap.size W6 W → (fun W' => W'.cell? ⟨bo, 0, none⟩ = some (.int .i64 0) ∧ W'.cell? ⟨bo, 1, none⟩ = some (.string dv) ∧ W'.cell? ⟨bo, 2, none⟩ = some (.string ⟨#[]⟩) ∧ W'.cell? ⟨bo, 3, none⟩ = some (.slice O3 0 o3) ∧ W'.cell? ⟨bo, 4, none⟩ = some (.slice O4 (erase (clF VS k1)).length o4) ∧ W'.cell? ⟨sb, 0, none⟩ = some (.slice (some ⟨g1, 0, none⟩) nB.length nB.length) ∧ W'.cell? ⟨sb, 1, none⟩ = some (.slice (some ⟨g2, 0, none⟩) nV.length nV.length) ∧ W'.cell? ⟨sb, 2, none⟩ = some (.slice (some ⟨g3, 0, none⟩) nP.length nP.length) ∧ W'.cell? ⟨w.heap.size, 0, none⟩ = some (.int .i64 0) ∧ W'.cell? ⟨w.heap.size, 1, none⟩ = some (.string dv) ∧ W'.cell? ⟨w.heap.size, 2, none⟩ = some (.string ⟨#[]⟩) ∧ W'.cell? ⟨w.heap.size, 3, none⟩ = some (.slice Z3 0 z3) ∧ W'.cell? ⟨w.heap.size, 4, none⟩ = some (.slice Z4 (erase kA).length z4)) W := fun W hb => by
      obtain ⟨a0, a1, a2, a3, a4⟩ := HCN.out W (below_then hB46 hB46.size hb)
      have hsb' := (hb.block sb (by have := lt_of_block HQR.out.1; have := hB6.size; omega)).trans ((hB6.block sb (lt_of_block HQR.out.1)).trans HQR.out.1)
      obtain ⟨b0, -⟩ := out_cell hsb' 0
      obtain ⟨b1, -⟩ := out_cell hsb' 1
      obtain ⟨b2, -⟩ := out_cell hsb' 2
      simp only [List.getElem?_toArray, List.getElem?_cons_succ, List.getElem?_cons_zero] at b0 b1 b2
      rw [hbo]
      exact ⟨(hb.cell (p := ⟨w5.heap.size, 0, none⟩) hs6).trans o0, (hb.cell (p := ⟨w5.heap.size, 1, none⟩) hs6).trans o1, (hb.cell (p := ⟨w5.heap.size, 2, none⟩) hs6).trans o2, (hb.cell (p := ⟨w5.heap.size, 3, none⟩) hs6).trans o3_, (hb.cell (p := ⟨w5.heap.size, 4, none⟩) hs6).trans o4_, b0, b1, b2, a0, a1, a2, a3, a4⟩
    rw [← hbo]
    have HT1 := Lib.hid (And.intro HK1.out.1 HK1.out.2.1)
    have HC1 := Lib.hid hc1
    have HKO := Lib.hid hko
    have HKZ := Lib.hid hkz
    have HR1 := Lib.hid hr1
    have HR2 := Lib.hid hr2
    have HR3 := Lib.hid hr3
    have HTO := Lib.hid hto
    have HTZ := Lib.hid htz
    have HSO := Lib.hid hso
    have HSZ := Lib.hid hsz2
    have HFIN := Lib.hid hfin
    have SK := Lib.hid hsk
    clear hko hkz hr1 hr2 hr3 hto htz hso hsz2 hfin hsk h6 hb6 hs6 hB6 hB46 o0 o1 o2 o3_ o4_ z0 z1 z2 z3_ z4_ y0 y1 y2 hc1 hsol hR hbo
    go_wp2_with fail
    refine start_ (n := 20) (S := fun W' => W'.cell? ⟨bo, 0, none⟩ = some (.int .i64 0) ∧ W'.cell? ⟨bo, 1, none⟩ = some (.string dv) ∧ W'.cell? ⟨bo, 2, none⟩ = some (.string ⟨#[]⟩) ∧ W'.cell? ⟨bo, 3, none⟩ = some (.slice O3 0 o3) ∧ W'.cell? ⟨bo, 4, none⟩ = some (.slice O4 (erase (clF VS k1)).length o4) ∧ W'.cell? ⟨sb, 0, none⟩ = some (.slice (some ⟨g1, 0, none⟩) nB.length nB.length) ∧ W'.cell? ⟨sb, 1, none⟩ = some (.slice (some ⟨g2, 0, none⟩) nV.length nV.length) ∧ W'.cell? ⟨sb, 2, none⟩ = some (.slice (some ⟨g3, 0, none⟩) nP.length nP.length) ∧ W'.cell? ⟨w.heap.size, 0, none⟩ = some (.int .i64 0) ∧ W'.cell? ⟨w.heap.size, 1, none⟩ = some (.string dv) ∧ W'.cell? ⟨w.heap.size, 2, none⟩ = some (.string ⟨#[]⟩) ∧ W'.cell? ⟨w.heap.size, 3, none⟩ = some (.slice Z3 0 z3) ∧ W'.cell? ⟨w.heap.size, 4, none⟩ = some (.slice Z4 (erase kA).length z4)) (ds := []) #[false, false, false, false, false, false, false, false, false, false, false, false, false, false, false, false, false, false, false, false] rfl rfl rfl (SK.out _ (Below.refl _ _).drew) (fun hHeld => ?_)
    refine take_ (i := 0) (N := some 15) (v := ?_) (a' := ?_) #[true, false, false, false, false, false, false, false, false, false, false, false, false, false, false, false, false, false, false, false] rfl rfl (by kernel_rfl) (fun _ _ _ h => h) (Or.inl ⟨by rfl, ?_⟩) hHeld ?_ ?_
    rotate_left
    · rintro w' ⟨s0_, s1_, s2_, s3_, s4_, s5_, s6_, s7_, s8_, s9_, s10_, s11_, s12_⟩
      go_simp
      with_reducible rfl
    rotate_left
    · simp only [Act.put, List.setIfInBounds_toArray, List.set_cons_zero, List.set_cons_succ]
      rfl
    refine take_ (i := 1) (N := some 16) (v := ?_) (a' := ?_) #[true, true, false, false, false, false, false, false, false, false, false, false, false, false, false, false, false, false, false, false] rfl rfl (by kernel_rfl) (fun _ _ _ h => h) (Or.inl ⟨by rfl, ?_⟩) hHeld ?_ ?_
    rotate_left
    · rintro w' ⟨s0_, s1_, s2_, s3_, s4_, s5_, s6_, s7_, s8_, s9_, s10_, s11_, s12_⟩
      go_simp
      with_reducible rfl
    rotate_left
    · simp only [Act.put, List.setIfInBounds_toArray, List.set_cons_zero, List.set_cons_succ]
      rfl
    refine take_ (i := 4) (N := some 19) (v := ?_) (a' := ?_) #[true, true, false, false, true, false, false, false, false, false, false, false, false, false, false, false, false, false, false, false] rfl rfl (by kernel_rfl) (fun _ _ _ h => h) (Or.inl ⟨by rfl, ?_⟩) hHeld ?_ ?_
    rotate_left
    · rintro w' ⟨s0_, s1_, s2_, s3_, s4_, s5_, s6_, s7_, s8_, s9_, s10_, s11_, s12_⟩
      go_simp
      with_reducible rfl
    rotate_left
    · simp only [Act.put, List.setIfInBounds_toArray, List.set_cons_zero, List.set_cons_succ]
      rfl
    refine one_ (i := 2) (N := some 17) #[true, true, true, false, true, false, false, false, false, false, false, false, false, false, false, false, false, false, false, false] rfl rfl (by kernel_rfl) (by decide) (fun K hK => ?_)
    go_simp
    refine (clN HC1.out.1 HC1.out.2.1 HC1.out.2.2 (HKO.out _ (Below.refl _ _).drew) (HR1.out _ (Below.refl _ _).drew) (HR2.out _ (Below.refl _ _).drew) (HR3.out _ (Below.refl _ _).drew)).mono ?_
    rintro e w7 ⟨k2, hk2, T3, t3, T4, t4, rfl, htl_, hb_⟩
    have HB7 := Lib.hid (below_then (Below.refl W6.heap.size W6).drew (Nat.le_refl _) hb_)
    have HT7 := Lib.hid htl_
    have HK2 := Lib.hid hk2
    clear htl_ hb_ hk2
    refine hK.out _ _ ?_ (fun hHeld => ?_)
    · exact SK.out _ HB7.out
    clear hK K
    try simp only [Act.put, List.setIfInBounds_toArray, List.set_cons_zero, List.set_cons_succ]
    refine one_ (i := 3) (N := some 18) #[true, true, true, true, true, false, false, false, false, false, false, false, false, false, false, false, false, false, false, false] rfl rfl (by kernel_rfl) (by decide) (fun K hK => ?_)
    go_simp
    refine (fullTwN HNA.out HT1.out HTA.out HK2.out HC1.out (HT7.out w7 (fun _ _ _ => rfl))).mono ?_
    rintro e w8 ⟨F3, f3, F4, f4, rfl, htl_, hb_⟩
    have HB8 := Lib.hid (below_then HB7.out HB7.out.size hb_)
    have HT8 := Lib.hid htl_
    clear htl_ hb_
    refine hK.out _ _ ?_ (fun hHeld => ?_)
    · exact SK.out _ HB8.out
    clear hK K
    try simp only [Act.put, List.setIfInBounds_toArray, List.set_cons_zero, List.set_cons_succ]
    refine one_ (i := 5) (N := some 20) #[true, true, true, true, true, true, false, false, false, false, false, false, false, false, false, false, false, false, false, false] rfl rfl (by kernel_rfl) (by decide) (fun K hK => ?_)
    go_simp
    refine (fullN HC1.out.1 HC1.out.2.2 (HKO.out _ HB8.out)).mono ?_
    rintro e w9 ⟨E3, e3, E4, e4, rfl, htl_, hb_⟩
    have HBX := Lib.hid (fun z (hz : z < w8.heap.size) => hb_.block z hz)
    have HB9 := Lib.hid (below_then HB8.out HB8.out.size hb_)
    have HT9 := Lib.hid htl_
    clear htl_ hb_
    refine hK.out _ _ ?_ (fun hHeld => ?_)
    · exact SK.out _ HB9.out
    clear hK K
    try simp only [Act.put, List.setIfInBounds_toArray, List.set_cons_zero, List.set_cons_succ]
    refine one_ (i := 6) (N := some 21) #[true, true, true, true, true, true, true, false, false, false, false, false, false, false, false, false, false, false, false, false] rfl rfl (by kernel_rfl) (by decide) (fun K hK => ?_)
    go_simp
    refine (sameN HC1.out.1 HC1.out.2.2 (HT8.out w9 (fun z hz1 hz2 => HBX.out z hz2)) (HT9.out w9 (fun _ _ _ => rfl))).mono ?_
    rintro e w10 ⟨rfl, hb_⟩
    have HB10 := Lib.hid (below_then HB9.out HB9.out.size hb_)
    clear hb_
    refine hK.out _ _ ?_ (fun hHeld => ?_)
    · exact SK.out _ HB10.out
    clear hK K
    try simp only [Act.put, List.setIfInBounds_toArray, List.set_cons_zero, List.set_cons_succ]
    refine pure_ (i := 7) (N := some 22) (v := ?_) (a' := ?_) #[true, true, true, true, true, true, true, true, false, false, false, false, false, false, false, false, false, false, false, false] rfl rfl (by kernel_rfl) (fun _ _ _ h => h) (Or.inl ⟨by rfl, ?_⟩) ?_ ?_
    rotate_left
    · intro w'
      go_simp
      with_reducible rfl
    rotate_left
    · simp only [Act.put, List.setIfInBounds_toArray, List.set_cons_zero, List.set_cons_succ]
      rfl
    refine take_ (i := 8) (N := some 23) (v := ?_) (a' := ?_) #[true, true, true, true, true, true, true, true, true, false, false, false, false, false, false, false, false, false, false, false] rfl rfl (by kernel_rfl) (fun _ _ _ h => h) (Or.inl ⟨by rfl, ?_⟩) hHeld ?_ ?_
    rotate_left
    · rintro w' ⟨s0_, s1_, s2_, s3_, s4_, s5_, s6_, s7_, s8_, s9_, s10_, s11_, s12_⟩
      go_simp
      with_reducible rfl
    rotate_left
    · simp only [Act.put, List.setIfInBounds_toArray, List.set_cons_zero, List.set_cons_succ]
      rfl
    refine take_ (i := 11) (N := some 26) (v := ?_) (a' := ?_) #[true, true, true, true, true, true, true, true, true, false, false, true, false, false, false, false, false, false, false, false] rfl rfl (by kernel_rfl) (fun _ _ _ h => h) (Or.inl ⟨by rfl, ?_⟩) hHeld ?_ ?_
    rotate_left
    · rintro w' ⟨s0_, s1_, s2_, s3_, s4_, s5_, s6_, s7_, s8_, s9_, s10_, s11_, s12_⟩
      go_simp
      with_reducible rfl
    rotate_left
    · simp only [Act.put, List.setIfInBounds_toArray, List.set_cons_zero, List.set_cons_succ]
      rfl
    refine one_ (i := 9) (N := some 24) #[true, true, true, true, true, true, true, true, true, true, false, true, false, false, false, false, false, false, false, false] rfl rfl (by kernel_rfl) (by decide) (fun K hK => ?_)
    go_simp
    refine (textN HTO.out _ _ _ _ _ (HKO.out _ HB10.out)).mono ?_
    rintro e w11 ⟨rfl, hb_⟩
    have HB11 := Lib.hid (below_then HB10.out HB10.out.size hb_)
    clear hb_
    refine hK.out _ _ ?_ (fun hHeld => ?_)
    · exact SK.out _ HB11.out
    clear hK K
    try simp only [Act.put, List.setIfInBounds_toArray, List.set_cons_zero, List.set_cons_succ]
    refine one_ (i := 10) (N := some 25) #[true, true, true, true, true, true, true, true, true, true, true, true, false, false, false, false, false, false, false, false] rfl rfl (by kernel_rfl) (by decide) (fun K hK => ?_)
    go_simp
    refine (spec_Solid.calls 1000000 txo R w11 HSO.out).mono ?_
    rintro e w12 ⟨rfl, hb_⟩
    have HB12 := Lib.hid (below_then HB11.out HB11.out.size hb_)
    clear hb_
    refine hK.out _ _ ?_ (fun hHeld => ?_)
    · exact SK.out _ HB12.out
    clear hK K
    try simp only [Act.put, List.setIfInBounds_toArray, List.set_cons_zero, List.set_cons_succ]
    refine one_ (i := 12) (N := some 27) #[true, true, true, true, true, true, true, true, true, true, true, true, true, false, false, false, false, false, false, false] rfl rfl (by kernel_rfl) (by decide) (fun K hK => ?_)
    go_simp
    refine (textN HTZ.out _ _ _ _ _ (HKZ.out _ HB12.out)).mono ?_
    rintro e w13 ⟨rfl, hb_⟩
    have HB13 := Lib.hid (below_then HB12.out HB12.out.size hb_)
    clear hb_
    refine hK.out _ _ ?_ (fun hHeld => ?_)
    · exact SK.out _ HB13.out
    clear hK K
    try simp only [Act.put, List.setIfInBounds_toArray, List.set_cons_zero, List.set_cons_succ]
    refine one_ (i := 13) (N := some 28) #[true, true, true, true, true, true, true, true, true, true, true, true, true, true, false, false, false, false, false, false] rfl rfl (by kernel_rfl) (by decide) (fun K hK => ?_)
    go_simp
    refine (spec_Solid.calls 1000000 txz R w13 HSZ.out).mono ?_
    rintro e w14 ⟨rfl, hb_⟩
    have HB14 := Lib.hid (below_then HB13.out HB13.out.size hb_)
    clear hb_
    refine hK.out _ _ ?_ (fun hHeld => ?_)
    · exact SK.out _ HB14.out
    clear hK K
    try simp only [Act.put, List.setIfInBounds_toArray, List.set_cons_zero, List.set_cons_succ]
    refine pure_ (i := 14) (N := some 29) (v := ?_) (a' := ?_) #[true, true, true, true, true, true, true, true, true, true, true, true, true, true, true, false, false, false, false, false] rfl rfl (by kernel_rfl) (fun _ _ _ h => h) (Or.inl ⟨by rfl, ?_⟩) ?_ ?_
    rotate_left
    · intro w'
      go_simp
      with_reducible rfl
    rotate_left
    · simp only [Act.put, List.setIfInBounds_toArray, List.set_cons_zero, List.set_cons_succ]
      rfl
    refine pure_ (i := 15) (N := some 30) (v := ?_) (a' := ?_) #[true, true, true, true, true, true, true, true, true, true, true, true, true, true, true, true, false, false, false, false] rfl rfl (by kernel_rfl) (fun _ _ _ h => h) (Or.inl ⟨by rfl, ?_⟩) ?_ ?_
    rotate_left
    · intro w'
      go_simp
      with_reducible rfl
    rotate_left
    · simp only [Act.put, List.setIfInBounds_toArray, List.set_cons_zero, List.set_cons_succ]
      rfl
    refine pure_ (i := 16) (N := some 31) (v := ?_) (a' := ?_) #[true, true, true, true, true, true, true, true, true, true, true, true, true, true, true, true, true, false, false, false] rfl rfl (by kernel_rfl) (fun _ _ _ h => h) (Or.inl ⟨by rfl, ?_⟩) ?_ ?_
    rotate_left
    · intro w'
      go_simp
      with_reducible rfl
    rotate_left
    · simp only [Act.put, List.setIfInBounds_toArray, List.set_cons_zero, List.set_cons_succ]
      rfl
    refine one_ (i := 17) (N := some 32) #[true, true, true, true, true, true, true, true, true, true, true, true, true, true, true, true, true, true, false, false] rfl rfl (by kernel_rfl) (by decide) (fun K hK => ?_)
    go_simp
    refine (lives_any _).mono ?_
    rintro e w15 ⟨rfl, hb_⟩
    have HB15 := Lib.hid (below_then HB14.out HB14.out.size hb_)
    clear hb_
    refine hK.out _ _ ?_ (fun hHeld => ?_)
    · exact SK.out _ HB15.out
    clear hK K
    try simp only [Act.put, List.setIfInBounds_toArray, List.set_cons_zero, List.set_cons_succ]
    refine pure_ (i := 18) (N := some 33) (v := ?_) (a' := ?_) #[true, true, true, true, true, true, true, true, true, true, true, true, true, true, true, true, true, true, true, false] rfl rfl (by kernel_rfl) (fun _ _ _ h => h) (Or.inl ⟨by rfl, ?_⟩) ?_ ?_
    rotate_left
    · intro w'
      go_simp
      with_reducible rfl
    rotate_left
    · simp only [Act.put, List.setIfInBounds_toArray, List.set_cons_zero, List.set_cons_succ]
      rfl
    refine pure_ (i := 19) (N := some 2) (v := ?_) (a' := ?_) #[true, true, true, true, true, true, true, true, true, true, true, true, true, true, true, true, true, true, true, true] rfl rfl (by kernel_rfl) (fun _ _ _ h => h) (Or.inl ⟨by rfl, ?_⟩) ?_ ?_
    rotate_left
    · intro w'
      go_simp
      with_reducible rfl
    rotate_left
    · simp only [Act.put, List.setIfInBounds_toArray, List.set_cons_zero, List.set_cons_succ]
      rfl
    refine done_ (by kernel_rfl) ?_
    go_wp2
    go_ret
    exact ⟨rfl, HFIN.out _ HB15.out⟩
end Go.Proofs.Ytlallihdiffheaa.Cl
end
