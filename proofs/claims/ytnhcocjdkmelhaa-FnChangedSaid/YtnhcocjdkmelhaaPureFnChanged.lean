/- FnChanged, the plain part: changes put their texts into their rows at their columns. No condition. -/
import Derived.Test.YtnhcocjdkmelhaaGChx3
namespace Go.Proofs.Ytnhcocjdkmelhaa.Pure.FC
open Go.RowKit Go.Proofs.Ytnhcocjdkmelhaa.GCh Go.Proofs.YtnhcocjdkmelhaaW.PrintWords Go.Proofs.YtnhcocjdkmelhaaW.PrintLast
set_option linter.unusedVariables false

theorem drop_consB (l : List ByteArray) (i : Nat) (h : i < l.length) : l.drop i = rdOf ByteArray.empty l (i : Int) :: l.drop (i + 1) := by
  rw [List.drop_eq_getElem_cons h]
  simp [rdOf, h]
theorem drop_consL (l : List (List ByteArray)) (i : Nat) (h : i < l.length) : l.drop i = rd_L3 l (i : Int) :: l.drop (i + 1) := by
  rw [List.drop_eq_getElem_cons h]
  simp [rd_L3, h]
theorem rd_mem (l : List (List ByteArray)) (i : Nat) (h : i < l.length) : rd_L3 l (i : Int) ∈ l := by
  simp [rd_L3, h]
theorem wrap_up (i : Nat) (h : i ≤ 140737488351232) : wrap64 ((i : Int) + 1) = ((i + 1 : Nat) : Int) := by
  unfold wrap64
  omega
def fitB (s : ByteArray) : Bool := decide (s.size ≤ 2147483647)
theorem fits_loop (l : List ByteArray) (hl : l.length ≤ 2147483647) : ∀ (d i k : Nat), l.length - i = d → i ≤ l.length → d < k → laws_zzFits5.l0 k l (l.length : Int) (i : Int) = some ((l.drop i).all fitB) := by
  intro d
  induction d with
  | zero =>
    intro i k hd hi hk
    obtain ⟨k, rfl⟩ : ∃ m, k = m + 1 := ⟨k - 1, by omega⟩
    simp only [laws_zzFits5.l0]
    rw [if_neg (by omega), List.drop_of_length_le (by omega)]
    rfl
  | succ d ih =>
    intro i k hd hi hk
    obtain ⟨k, rfl⟩ : ∃ m, k = m + 1 := ⟨k - 1, by omega⟩
    simp only [laws_zzFits5.l0]
    rw [if_pos (by omega), if_pos (by omega), if_pos (by omega), drop_consB l i (by omega), wrap_up i (by omega), List.all_cons]
    by_cases hc : ((rdOf ByteArray.empty l (i : Int)).size : Int) > 2147483647
    · rw [if_pos hc]
      have : fitB (rdOf ByteArray.empty l (i : Int)) = false := decide_eq_false (by omega)
      rw [this]
      rfl
    · rw [if_neg hc, ih (i + 1) k (by omega) (by omega) (by omega)]
      have : fitB (rdOf ByteArray.empty l (i : Int)) = true := decide_eq_true (by omega)
      rw [this]
      rfl
theorem fits5 (l : List ByteArray) (k : Nat) (hk : l.length < k) : laws_zzFits5.f k l = some (fitS l) := by
  unfold laws_zzFits5.f
  by_cases hl : (l.length : Int) > 2147483647
  · rw [if_pos hl]
    have : fitS l = false := by
      unfold fitS
      rw [decide_eq_false (by omega)]
      rfl
    rw [this]
  · rw [if_neg hl]
    have h := fits_loop l (by omega) l.length 0 k (by omega) (by omega) hk
    rw [show ((0 : Nat) : Int) = 0 from rfl, List.drop_zero] at h
    rw [h, fitS, decide_eq_true (show l.length ≤ 2147483647 by omega)]
    rfl
theorem fits6_loop (l : List (List ByteArray)) (M : Nat) (hM : ∀ ss ∈ l, ss.length ≤ M) (hl : l.length ≤ 2147483647) : ∀ (d i k : Nat), l.length - i = d → i ≤ l.length → d + M + 1 < k → laws_zzFits6.l0 k l (l.length : Int) (i : Int) = some ((l.drop i).all fitS) := by
  intro d
  induction d with
  | zero =>
    intro i k hd hi hk
    obtain ⟨k, rfl⟩ : ∃ m, k = m + 1 := ⟨k - 1, by omega⟩
    simp only [laws_zzFits6.l0]
    rw [if_neg (by omega), List.drop_of_length_le (by omega)]
    rfl
  | succ d ih =>
    intro i k hd hi hk
    obtain ⟨k, rfl⟩ : ∃ m, k = m + 1 := ⟨k - 1, by omega⟩
    simp only [laws_zzFits6.l0]
    have hm := hM _ (rd_mem l i (by omega))
    rw [if_pos (by omega), if_pos (by omega), if_pos (by omega), drop_consL l i (by omega), wrap_up i (by omega), List.all_cons, fits5 _ _ (by omega), Option.bind_some]
    by_cases hc : fitS (rd_L3 l (i : Int)) = true
    · rw [if_pos hc, ih (i + 1) k (by omega) (by omega) (by omega), hc]
      rfl
    · rw [if_neg hc, Bool.eq_false_iff.2 hc]
      rfl
theorem fits6 (l : List (List ByteArray)) (M k : Nat) (hM : ∀ ss ∈ l, ss.length ≤ M) (hk : l.length + M + 1 < k) : laws_zzFits6.f k l = some (fitQ l) := by
  unfold laws_zzFits6.f
  by_cases hl : (l.length : Int) > 2147483647
  · rw [if_pos hl]
    have : fitQ l = false := by
      unfold fitQ
      rw [decide_eq_false (by omega)]
      rfl
    rw [this]
  · rw [if_neg hl]
    have h := fits6_loop l M hM (by omega) l.length 0 k (by omega) (by omega) hk
    rw [show ((0 : Nat) : Int) = 0 from rfl, List.drop_zero] at h
    rw [h, fitQ, decide_eq_true (show l.length ≤ 2147483647 by omega)]
    rfl
theorem same_loop (l : List ByteArray) (hl : l.length ≤ 1099511627776) : ∀ (d i k : Nat), l.length - i = d → i ≤ l.length → d < k → laws_same29.l0 k l l (l.length : Int) (i : Int) = some true := by
  intro d
  induction d with
  | zero =>
    intro i k hd hi hk
    obtain ⟨k, rfl⟩ : ∃ m, k = m + 1 := ⟨k - 1, by omega⟩
    simp only [laws_same29.l0]
    rw [if_neg (by omega)]
  | succ d ih =>
    intro i k hd hi hk
    obtain ⟨k, rfl⟩ : ∃ m, k = m + 1 := ⟨k - 1, by omega⟩
    simp only [laws_same29.l0]
    rw [if_pos (by omega), if_pos (by omega), if_pos (by omega), if_pos (by omega), if_pos (by trivial), wrap_up i (by omega), ih (i + 1) k (by omega) (by omega) (by omega)]
theorem same29 (l : List ByteArray) (k : Nat) (hl : l.length ≤ 1099511627776) (hk : l.length < k) : laws_same29.f k l l = some true := by
  have h := same_loop l hl l.length 0 k (by omega) (by omega) hk
  unfold laws_same29.f
  rwa [if_pos rfl]
theorem alike_loop (l : List (List ByteArray)) (M : Nat) (hM : ∀ ss ∈ l, ss.length ≤ M) (hM2 : M ≤ 1099511627776) (hl : l.length ≤ 1099511627776) : ∀ (d i k : Nat), l.length - i = d → i ≤ l.length → d + M + 1 < k → laws_alike29.l0 k l l (l.length : Int) (i : Int) = some true := by
  intro d
  induction d with
  | zero =>
    intro i k hd hi hk
    obtain ⟨k, rfl⟩ : ∃ m, k = m + 1 := ⟨k - 1, by omega⟩
    simp only [laws_alike29.l0]
    rw [if_neg (by omega)]
  | succ d ih =>
    intro i k hd hi hk
    obtain ⟨k, rfl⟩ : ∃ m, k = m + 1 := ⟨k - 1, by omega⟩
    simp only [laws_alike29.l0]
    have hm := hM _ (rd_mem l i (by omega))
    rw [if_pos (by omega), if_pos (by omega), if_pos (by omega), if_pos (by omega), same29 _ _ (by omega) (by omega), Option.bind_some, if_pos rfl, wrap_up i (by omega), ih (i + 1) k (by omega) (by omega) (by omega)]
theorem alike29 (l : List (List ByteArray)) (M k : Nat) (hM : ∀ ss ∈ l, ss.length ≤ M) (hM2 : M ≤ 1099511627776) (hl : l.length ≤ 1099511627776) (hk : l.length + M + 1 < k) : laws_alike29.f k l l = some true := by
  have h := alike_loop l M hM hM2 hl l.length 0 k (by omega) (by omega) hk
  unfold laws_alike29.f
  rwa [if_pos rfl]
/-- The longest row's length. -/
def most : List (List ByteArray) → Nat
  | [] => 0
  | s :: t => max s.length (most t)
theorem le_most : ∀ (l : List (List ByteArray)), ∀ ss ∈ l, ss.length ≤ most l
  | [], ss, h => by cases h
  | s :: t, ss, h => by
    rcases List.mem_cons.1 h with rfl | h
    · exact Nat.le_max_left _ _
    · exact Nat.le_trans (le_most t ss h) (Nat.le_max_right _ _)
theorem most_le (N : Nat) : ∀ (l : List (List ByteArray)), (∀ ss ∈ l, ss.length ≤ N) → most l ≤ N
  | [], _ => Nat.zero_le _
  | s :: t, h => Nat.max_le.2 ⟨h s List.mem_cons_self, most_le N t (fun ss hm => h ss (List.mem_cons_of_mem _ hm))⟩
theorem drop_consC (l : List Hand.Ch) (i : Nat) (h : i < l.length) : l.drop i = rd_T36 l (i : Int) :: l.drop (i + 1) := by
  rw [List.drop_eq_getElem_cons h]
  simp [rd_T36, h]
def szC (c : Hand.Ch) : Bool := decide (c.f2.size ≤ 2147483647)
def fwC (c : Hand.Ch) : Bool := decide ((0 ≤ c.f0 ∧ c.f0 ≤ 100) ∧ 0 ≤ c.f1 ∧ c.f1 ≤ 100)
theorem fits7_loop (l : List Hand.Ch) (hl : l.length ≤ 2147483647) : ∀ (d i k : Nat), l.length - i = d → i ≤ l.length → d < k → laws_zzFits7.l0 k l (l.length : Int) (i : Int) = some ((l.drop i).all szC) := by
  intro d
  induction d with
  | zero =>
    intro i k hd hi hk
    obtain ⟨k, rfl⟩ : ∃ m, k = m + 1 := ⟨k - 1, by omega⟩
    simp only [laws_zzFits7.l0]
    rw [if_neg (by omega), List.drop_of_length_le (by omega)]
    rfl
  | succ d ih =>
    intro i k hd hi hk
    obtain ⟨k, rfl⟩ : ∃ m, k = m + 1 := ⟨k - 1, by omega⟩
    simp only [laws_zzFits7.l0]
    rw [if_pos (by omega), if_pos (by omega), if_pos (by omega), drop_consC l i (by omega), wrap_up i (by omega), List.all_cons]
    generalize rd_T36 l (i : Int) = c
    by_cases hc : (c.f2.size : Int) > 2147483647
    · have : szC c = false := decide_eq_false (by omega)
      rw [laws_zzFits8.f, if_pos hc, Option.bind_some, if_neg (by decide), this]
      rfl
    · have : szC c = true := decide_eq_true (by omega)
      rw [laws_zzFits8.f, if_neg hc, Option.bind_some, if_pos rfl, ih (i + 1) k (by omega) (by omega) (by omega), this]
      rfl
theorem fits7 (l : List Hand.Ch) (k : Nat) (hk : l.length < k) : laws_zzFits7.f k l = some (decide (l.length ≤ 2147483647) && l.all szC) := by
  unfold laws_zzFits7.f
  by_cases hl : (l.length : Int) > 2147483647
  · rw [if_pos hl, decide_eq_false (by omega)]
    rfl
  · rw [if_neg hl, decide_eq_true (by omega)]
    have h := fits7_loop l (by omega) l.length 0 k (by omega) (by omega) hk
    rw [show ((0 : Nat) : Int) = 0 from rfl, List.drop_zero] at h
    rw [h]
    rfl
theorem few_loop (l : List Hand.Ch) (hl : l.length ≤ 2147483647) : ∀ (d i k : Nat), l.length - i = d → i ≤ l.length → d < k → laws_few29.l0 k l (l.length : Int) (i : Int) = some ((l.drop i).all fwC) := by
  intro d
  induction d with
  | zero =>
    intro i k hd hi hk
    obtain ⟨k, rfl⟩ : ∃ m, k = m + 1 := ⟨k - 1, by omega⟩
    simp only [laws_few29.l0]
    rw [if_neg (by omega), List.drop_of_length_le (by omega)]
    rfl
  | succ d ih =>
    intro i k hd hi hk
    obtain ⟨k, rfl⟩ : ∃ m, k = m + 1 := ⟨k - 1, by omega⟩
    simp only [laws_few29.l0]
    rw [if_pos (by omega), if_pos (by omega), if_pos (by omega), drop_consC l i (by omega), wrap_up i (by omega), List.all_cons]
    generalize rd_T36 l (i : Int) = c
    by_cases hc : (0 ≤ c.f0 ∧ c.f0 ≤ 100) ∧ 0 ≤ c.f1 ∧ c.f1 ≤ 100
    · have : fwC c = true := decide_eq_true hc
      rw [if_neg (by omega), if_neg (by omega), if_neg (by omega), if_neg (by omega), ih (i + 1) k (by omega) (by omega) (by omega), this]
      rfl
    · have : fwC c = false := decide_eq_false hc
      rw [this]
      by_cases h1 : c.f0 < 0
      · rw [if_pos h1]
        rfl
      · rw [if_neg h1]
        by_cases h2 : c.f0 > 100
        · rw [if_pos h2]
          rfl
        · rw [if_neg h2]
          by_cases h3 : c.f1 < 0
          · rw [if_pos h3]
            rfl
          · rw [if_neg h3, if_pos (by omega)]
            rfl
theorem few29 (l : List Hand.Ch) (hl : l.length ≤ 2147483647) (k : Nat) (hk : l.length < k) : laws_few29.f k l = some (l.all fwC) := by
  have h := few_loop l hl l.length 0 k (by omega) (by omega) hk
  rw [show ((0 : Nat) : Int) = 0 from rfl, List.drop_zero] at h
  exact h
end Go.Proofs.Ytnhcocjdkmelhaa.Pure.FC
namespace Go.Proofs.Ytnhcocjdkmelhaa.Pure
open Go.RowKit Go.Proofs.Ytnhcocjdkmelhaa.GCh Go.Proofs.YtnhcocjdkmelhaaW.PrintWords Go.Proofs.YtnhcocjdkmelhaaW.PrintLast
set_option linter.unusedVariables false
theorem FnChanged (l0 : List (List ByteArray)) (l1 : List Hand.Ch) : ∃ k, laws_FnChanged.f k l0 l1 = some true := by
  have hM := FC.le_most l0
  obtain ⟨z, hz⟩ : ∃ z, z = (l1.map Hand.tri).foldl Hand.chg l0 := ⟨_, rfl⟩
  refine ⟨(l0.length + FC.most l0 + l1.length + z.length + FC.most z + 10) + 1, ?_⟩
  unfold laws_FnChanged.f
  rw [FC.fits6 l0 (FC.most l0) _ hM (by omega), Option.bind_some]
  by_cases hf : fitQ l0 = true
  · rw [if_pos hf, FC.fits7 l1 _ (by omega), Option.bind_some]
    by_cases hs : (decide (l1.length ≤ 2147483647) && l1.all FC.szC) = true
    · rw [hs, Bool.not_true, laws_FnChanged.j0, if_neg (by decide)]
      have hs2 := hs
      rw [Bool.and_eq_true, decide_eq_true_eq] at hs2
      rw [FC.few29 l1 hs2.1 _ (by omega), Option.bind_some]
      by_cases hw : l1.all FC.fwC = true
      · have hfl : fitL l1 = true := by
          simp only [fitL, fitC, Bool.and_eq_true, decide_eq_true_eq, List.all_eq_true]
          refine ⟨hs2.1, fun c hc => ?_⟩
          have h1 := of_decide_eq_true (List.all_eq_true.1 hs2.2 c hc)
          have h2 := of_decide_eq_true (List.all_eq_true.1 hw c hc)
          exact ⟨h2.1, h2.2, h1⟩
        obtain ⟨g1, g2⟩ := fitL_few hfl
        obtain ⟨b1, b2⟩ := Hand.fold_bound l1 l0 (fitQ_R hf) g1 g2
        rw [← hz] at b1 b2
        have hi1 : impl_Changed.f l0 l1 = some z := by rw [impl_Changed.f, if_pos ⟨hf, hfl⟩, hz]
        have hi2 : laws_changes29.f l0 l1 = some z := by rw [laws_changes29.f, if_pos ⟨hf, hfl⟩, hz]
        have hi3 : impl_Changed.f [[]] [] = some [[]] := by decide +kernel
        have hmz := FC.most_le 1099511627776 z (fun ss hm => (b2 ss hm).1)
        rw [if_pos hw, hi1, Option.bind_some, hi2, Option.bind_some, FC.alike29 z (FC.most z) _ (FC.le_most z) hmz b1 (by omega), Option.bind_some, if_pos rfl, hi3]
        rfl
      · rw [if_neg hw]
    · rw [Bool.eq_false_iff.2 hs, Bool.not_false, laws_FnChanged.j0, if_pos rfl]
  · rw [if_neg hf, laws_FnChanged.j0, if_pos rfl]
theorem FnChanged_walk {W : World} (A : Option Addr) (cp : Nat) (l : List (List ByteArray)) (hC : Kd.C (Kd.slice 9 Kd.string) W A l.length l) (hc : l.length ≤ cp) (B : Option Addr) (cm : Nat) (m : List Hand.Ch) (hB : Kd.C k36 W B m.length m) (hm : m.length ≤ cm) :
    Calls Try.prog 3 #[.slice A l.length cp, .slice B m.length cm] W fun e w' => e = .returned (.bool true) ∧ Below W.heap.size W w' := by
  obtain ⟨k, h⟩ := FnChanged l m
  exact laws_FnChanged.calls k A cp l B cm m true W hC hc hB hm h
end Go.Proofs.Ytnhcocjdkmelhaa.Pure
