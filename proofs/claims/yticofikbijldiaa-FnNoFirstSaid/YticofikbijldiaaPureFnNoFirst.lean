/- FnNoFirst, the plain part: the first row goes, if all its cells are without a byte. No condition. -/
import Derived.Test.YticofikbijldiaaGFnNoFirstx2
namespace Go.Proofs.Yticofikbijldiaa.Pure.NF
open Go.RowKit Go.Proofs.Yticofikbijldiaa.GFnNoFirst Go.Proofs.YticofikbijldiaaW.PrintWords Go.Proofs.YticofikbijldiaaW.PrintLast
set_option linter.unusedVariables false

theorem drop_consB (l : List ByteArray) (i : Nat) (h : i < l.length) : l.drop i = rdOf ByteArray.empty l (i : Int) :: l.drop (i + 1) := by
  rw [List.drop_eq_getElem_cons h]
  simp [rdOf, h]
theorem drop_consL (l : List (List ByteArray)) (i : Nat) (h : i < l.length) : l.drop i = rd_L1 l (i : Int) :: l.drop (i + 1) := by
  rw [List.drop_eq_getElem_cons h]
  simp [rd_L1, h]
theorem rd_mem (l : List (List ByteArray)) (i : Nat) (h : i < l.length) : rd_L1 l (i : Int) ∈ l := by
  simp [rd_L1, h]
theorem wrap_up (i : Nat) (h : i ≤ 140737488351232) : wrap64 ((i : Int) + 1) = ((i + 1 : Nat) : Int) := by
  unfold wrap64
  omega
def fitB (s : ByteArray) : Bool := decide (s.size ≤ 2147483647)
theorem fits_loop (l : List ByteArray) (hl : l.length ≤ 2147483647) : ∀ (d i k : Nat), l.length - i = d → i ≤ l.length → d < k → laws_zzFits5.l0 k l (l.length : Int) (i : Int) = some ((l.drop i).all fitB) := by
  intro d
  induction d with
  | zero =>
    intro i k hd hi hk
    obtain ⟨k, rfl⟩ : ∃ m, k = m + 1 := ⟨k - 1, by omega⟩
    simp only [laws_zzFits5.l0]
    rw [if_neg (by omega), List.drop_of_length_le (by omega)]
    rfl
  | succ d ih =>
    intro i k hd hi hk
    obtain ⟨k, rfl⟩ : ∃ m, k = m + 1 := ⟨k - 1, by omega⟩
    simp only [laws_zzFits5.l0]
    rw [if_pos (by omega), if_pos (by omega), if_pos (by omega), drop_consB l i (by omega), wrap_up i (by omega), List.all_cons]
    by_cases hc : ((rdOf ByteArray.empty l (i : Int)).size : Int) > 2147483647
    · rw [if_pos hc]
      have : fitB (rdOf ByteArray.empty l (i : Int)) = false := decide_eq_false (by omega)
      rw [this]
      rfl
    · rw [if_neg hc, ih (i + 1) k (by omega) (by omega) (by omega)]
      have : fitB (rdOf ByteArray.empty l (i : Int)) = true := decide_eq_true (by omega)
      rw [this]
      rfl
theorem fits5 (l : List ByteArray) (k : Nat) (hk : l.length < k) : laws_zzFits5.f k l = some (fitS l) := by
  unfold laws_zzFits5.f
  by_cases hl : (l.length : Int) > 2147483647
  · rw [if_pos hl]
    have : fitS l = false := by
      unfold fitS
      rw [decide_eq_false (by omega)]
      rfl
    rw [this]
  · rw [if_neg hl]
    have h := fits_loop l (by omega) l.length 0 k (by omega) (by omega) hk
    rw [show ((0 : Nat) : Int) = 0 from rfl, List.drop_zero] at h
    rw [h, fitS, decide_eq_true (show l.length ≤ 2147483647 by omega)]
    rfl
theorem fits6_loop (l : List (List ByteArray)) (M : Nat) (hM : ∀ ss ∈ l, ss.length ≤ M) (hl : l.length ≤ 2147483647) : ∀ (d i k : Nat), l.length - i = d → i ≤ l.length → d + M + 1 < k → laws_zzFits6.l0 k l (l.length : Int) (i : Int) = some ((l.drop i).all fitS) := by
  intro d
  induction d with
  | zero =>
    intro i k hd hi hk
    obtain ⟨k, rfl⟩ : ∃ m, k = m + 1 := ⟨k - 1, by omega⟩
    simp only [laws_zzFits6.l0]
    rw [if_neg (by omega), List.drop_of_length_le (by omega)]
    rfl
  | succ d ih =>
    intro i k hd hi hk
    obtain ⟨k, rfl⟩ : ∃ m, k = m + 1 := ⟨k - 1, by omega⟩
    simp only [laws_zzFits6.l0]
    have hm := hM _ (rd_mem l i (by omega))
    rw [if_pos (by omega), if_pos (by omega), if_pos (by omega), drop_consL l i (by omega), wrap_up i (by omega), List.all_cons, fits5 _ _ (by omega), Option.bind_some]
    by_cases hc : fitS (rd_L1 l (i : Int)) = true
    · rw [if_pos hc, ih (i + 1) k (by omega) (by omega) (by omega), hc]
      rfl
    · rw [if_neg hc, Bool.eq_false_iff.2 hc]
      rfl
theorem fits6 (l : List (List ByteArray)) (M k : Nat) (hM : ∀ ss ∈ l, ss.length ≤ M) (hk : l.length + M + 1 < k) : laws_zzFits6.f k l = some (fitQ l) := by
  unfold laws_zzFits6.f
  by_cases hl : (l.length : Int) > 2147483647
  · rw [if_pos hl]
    have : fitQ l = false := by
      unfold fitQ
      rw [decide_eq_false (by omega)]
      rfl
    rw [this]
  · rw [if_neg hl]
    have h := fits6_loop l M hM (by omega) l.length 0 k (by omega) (by omega) hk
    rw [show ((0 : Nat) : Int) = 0 from rfl, List.drop_zero] at h
    rw [h, fitQ, decide_eq_true (show l.length ≤ 2147483647 by omega)]
    rfl
theorem nil_iff (s : ByteArray) : s.toList = [] ↔ s.size = 0 := by
  have h2 : s.data.size = s.size := rfl
  rw [ByteArray.toList_eq]
  constructor
  · intro h
    have := congrArg List.length h
    rw [Array.length_toList, h2] at this
    simpa using this
  · intro h
    exact List.eq_nil_of_length_eq_zero (by rw [Array.length_toList, h2]; exact h)
theorem empty_loop (l : List ByteArray) (hl : l.length ≤ 2147483647) : ∀ (d i k : Nat), l.length - i = d → i ≤ l.length → d < k → laws_empty29.l0 k l (l.length : Int) (i : Int) = some (Hand.emptyB (l.drop i)) := by
  intro d
  induction d with
  | zero =>
    intro i k hd hi hk
    obtain ⟨k, rfl⟩ : ∃ m, k = m + 1 := ⟨k - 1, by omega⟩
    simp only [laws_empty29.l0]
    rw [if_neg (by omega), List.drop_of_length_le (by omega)]
    rfl
  | succ d ih =>
    intro i k hd hi hk
    obtain ⟨k, rfl⟩ : ∃ m, k = m + 1 := ⟨k - 1, by omega⟩
    simp only [laws_empty29.l0]
    rw [if_pos (by omega), if_pos (by omega), if_pos (by omega), drop_consB l i (by omega), wrap_up i (by omega)]
    simp only [Hand.emptyB, List.all_cons]
    by_cases hc : (rdOf ByteArray.empty l (i : Int)).toList = []
    · rw [if_pos hc, ih (i + 1) k (by omega) (by omega) (by omega), (nil_iff _).1 hc]
      rfl
    · rw [if_neg hc]
      have : ((rdOf ByteArray.empty l (i : Int)).size == 0) = false := beq_eq_false_iff_ne.2 (fun h => hc ((nil_iff _).2 h))
      rw [this]
      rfl
theorem empty29 (l : List ByteArray) (k : Nat) (hl : l.length ≤ 2147483647) (hk : l.length < k) : laws_empty29.f k l = some (Hand.emptyB l) := by
  have h := empty_loop l hl l.length 0 k (by omega) (by omega) hk
  rwa [show ((0 : Nat) : Int) = 0 from rfl, List.drop_zero] at h
theorem same_loop (l : List ByteArray) (hl : l.length ≤ 2147483647) : ∀ (d i k : Nat), l.length - i = d → i ≤ l.length → d < k → laws_same29.l0 k l l (l.length : Int) (i : Int) = some true := by
  intro d
  induction d with
  | zero =>
    intro i k hd hi hk
    obtain ⟨k, rfl⟩ : ∃ m, k = m + 1 := ⟨k - 1, by omega⟩
    simp only [laws_same29.l0]
    rw [if_neg (by omega)]
  | succ d ih =>
    intro i k hd hi hk
    obtain ⟨k, rfl⟩ : ∃ m, k = m + 1 := ⟨k - 1, by omega⟩
    simp only [laws_same29.l0]
    rw [if_pos (by omega), if_pos (by omega), if_pos (by omega), if_pos (by omega), if_pos (by trivial), wrap_up i (by omega), ih (i + 1) k (by omega) (by omega) (by omega)]
theorem same29 (l : List ByteArray) (k : Nat) (hl : l.length ≤ 2147483647) (hk : l.length < k) : laws_same29.f k l l = some true := by
  have h := same_loop l hl l.length 0 k (by omega) (by omega) hk
  unfold laws_same29.f
  rwa [if_pos rfl]
theorem alike_loop (l : List (List ByteArray)) (M : Nat) (hM : ∀ ss ∈ l, ss.length ≤ M) (hM2 : M ≤ 2147483647) (hl : l.length ≤ 2147483647) : ∀ (d i k : Nat), l.length - i = d → i ≤ l.length → d + M + 1 < k → laws_alike29.l0 k l l (l.length : Int) (i : Int) = some true := by
  intro d
  induction d with
  | zero =>
    intro i k hd hi hk
    obtain ⟨k, rfl⟩ : ∃ m, k = m + 1 := ⟨k - 1, by omega⟩
    simp only [laws_alike29.l0]
    rw [if_neg (by omega)]
  | succ d ih =>
    intro i k hd hi hk
    obtain ⟨k, rfl⟩ : ∃ m, k = m + 1 := ⟨k - 1, by omega⟩
    simp only [laws_alike29.l0]
    have hm := hM _ (rd_mem l i (by omega))
    rw [if_pos (by omega), if_pos (by omega), if_pos (by omega), if_pos (by omega), same29 _ _ (by omega) (by omega), Option.bind_some, if_pos rfl, wrap_up i (by omega), ih (i + 1) k (by omega) (by omega) (by omega)]
theorem alike29 (l : List (List ByteArray)) (M k : Nat) (hM : ∀ ss ∈ l, ss.length ≤ M) (hM2 : M ≤ 2147483647) (hl : l.length ≤ 2147483647) (hk : l.length + M + 1 < k) : laws_alike29.f k l l = some true := by
  have h := alike_loop l M hM hM2 hl l.length 0 k (by omega) (by omega) hk
  unfold laws_alike29.f
  rwa [if_pos rfl]
/-- The longest row's length. -/
def most : List (List ByteArray) → Nat
  | [] => 0
  | s :: t => max s.length (most t)
theorem le_most : ∀ (l : List (List ByteArray)), ∀ ss ∈ l, ss.length ≤ most l
  | [], ss, h => by cases h
  | s :: t, ss, h => by
    rcases List.mem_cons.1 h with rfl | h
    · exact Nat.le_max_left _ _
    · exact Nat.le_trans (le_most t ss h) (Nat.le_max_right _ _)
theorem most_le (N : Nat) : ∀ (l : List (List ByteArray)), (∀ ss ∈ l, ss.length ≤ N) → most l ≤ N
  | [], _ => Nat.zero_le _
  | s :: t, h => Nat.max_le.2 ⟨h s List.mem_cons_self, most_le N t (fun ss hm => h ss (List.mem_cons_of_mem _ hm))⟩
end Go.Proofs.Yticofikbijldiaa.Pure.NF
namespace Go.Proofs.Yticofikbijldiaa.Pure
open Go.RowKit Go.Proofs.Yticofikbijldiaa.GFnNoFirst Go.Proofs.YticofikbijldiaaW.PrintWords Go.Proofs.YticofikbijldiaaW.PrintLast
set_option linter.unusedVariables false
theorem FnNoFirst (l : List (List ByteArray)) : ∃ k, laws_FnNoFirst.f k l = some true := by
  obtain ⟨k, hk⟩ : ∃ k, k = l.length + NF.most l + 3 := ⟨_, rfl⟩
  have hM := NF.le_most l
  refine ⟨k, ?_⟩
  unfold laws_FnNoFirst.f
  rw [NF.fits6 l (NF.most l) k hM (by omega), Option.bind_some]
  by_cases hf : fitQ l = true
  · rw [if_pos hf]
    have hR := fitQ_R hf
    have hmm := NF.most_le 2147483647 l (fun ss hm => (hR.2 ss hm).1)
    have hi : impl_NoFirst.f l = some (Hand.noFirst l) := by rw [impl_NoFirst.f, if_pos hf]
    have hi2 : impl_NoFirst.f [[(⟨#[97]⟩ : ByteArray)]] = some [[(⟨#[97]⟩ : ByteArray)]] := by decide +kernel
    obtain ⟨k1, rfl⟩ : ∃ m, k = m + 1 := ⟨k - 1, by omega⟩
    have hj : ∀ b x, Hand.noFirst l = x → (b = true → 1 ≤ l.length ∧ x = l.drop 1) → (b = false → x = l) → laws_FnNoFirst.j0 (k1 + 1) l l b = some true := by
      intro b x hx h1 h2
      rw [laws_FnNoFirst.j0, hi, hi2, hx]
      simp only [Option.bind_some]
      cases b with
      | true =>
        obtain ⟨h3, rfl⟩ := h1 rfl
        rw [if_pos rfl, if_pos (by omega), NF.alike29 (l.drop 1) (NF.most l) k1 (fun ss hm => hM ss (List.mem_of_mem_drop hm)) hmm (by rw [List.length_drop]; have := hR.1; omega) (by rw [List.length_drop]; omega)]
        rfl
      | false =>
        obtain rfl := h2 rfl
        rw [if_neg (by decide), NF.alike29 x (NF.most x) k1 hM hmm hR.1 (by omega)]
        rfl
    cases l with
    | nil => exact hj false [] rfl (fun h => by cases h) (fun _ => rfl)
    | cons s t =>
      rw [if_pos (by simp), if_pos (by simp)]
      have hs : rd_L1 (s :: t) 0 = s := rfl
      have hsm := hM s List.mem_cons_self
      rw [hs, NF.empty29 s _ (hR.2 s List.mem_cons_self).1 (by omega), Option.bind_some]
      refine hj _ (Hand.noFirst (s :: t)) rfl (fun h => ⟨by simp, ?_⟩) (fun h => ?_)
      · simp [Hand.noFirst, h]
      · simp [Hand.noFirst, h]
  · rw [if_neg hf]
theorem FnNoFirst_walk (A : Option Addr) (c : Nat) (l : List (List ByteArray)) {W : World} (hC : Kd.C (Kd.slice 9 Kd.string) W A l.length l) (hc : l.length ≤ c) :
    Calls Try.prog 9 #[.slice A l.length c] W fun e w' => e = .returned (.bool true) ∧ Below W.heap.size W w' := by
  obtain ⟨k, h⟩ := FnNoFirst l
  exact laws_FnNoFirst.calls k A c l true W hC hc h
end Go.Proofs.Yticofikbijldiaa.Pure
