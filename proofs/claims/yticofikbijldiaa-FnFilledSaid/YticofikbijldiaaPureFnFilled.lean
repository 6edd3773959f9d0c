/- FnFilled, the plain part: rows with fewer cells than columns have empty ones behind. No condition. -/
import Derived.Test.YticofikbijldiaaGFnFilledx2
namespace Go.Proofs.Yticofikbijldiaa.Pure.FI
open Go.RowKit Go.Proofs.Yticofikbijldiaa.GFnFilled Go.Proofs.YticofikbijldiaaW.PrintWords Go.Proofs.YticofikbijldiaaW.PrintLast
set_option linter.unusedVariables false

theorem drop_consB (l : List ByteArray) (i : Nat) (h : i < l.length) : l.drop i = rdOf ByteArray.empty l (i : Int) :: l.drop (i + 1) := by
  rw [List.drop_eq_getElem_cons h]
  simp [rdOf, h]
theorem drop_consL (l : List (List ByteArray)) (i : Nat) (h : i < l.length) : l.drop i = rd_L1 l (i : Int) :: l.drop (i + 1) := by
  rw [List.drop_eq_getElem_cons h]
  simp [rd_L1, h]
theorem rd_mem (l : List (List ByteArray)) (i : Nat) (h : i < l.length) : rd_L1 l (i : Int) ∈ l := by
  simp [rd_L1, h]
theorem wrap_up (i : Nat) (h : i ≤ 140737488351232) : wrap64 ((i : Int) + 1) = ((i + 1 : Nat) : Int) := by
  unfold wrap64
  omega
def fitB (s : ByteArray) : Bool := decide (s.size ≤ 2147483647)
theorem fits_loop (l : List ByteArray) (hl : l.length ≤ 2147483647) : ∀ (d i k : Nat), l.length - i = d → i ≤ l.length → d < k → laws_zzFits5.l0 k l (l.length : Int) (i : Int) = some ((l.drop i).all fitB) := by
  intro d
  induction d with
  | zero =>
    intro i k hd hi hk
    obtain ⟨k, rfl⟩ : ∃ m, k = m + 1 := ⟨k - 1, by omega⟩
    simp only [laws_zzFits5.l0]
    rw [if_neg (by omega), List.drop_of_length_le (by omega)]
    rfl
  | succ d ih =>
    intro i k hd hi hk
    obtain ⟨k, rfl⟩ : ∃ m, k = m + 1 := ⟨k - 1, by omega⟩
    simp only [laws_zzFits5.l0]
    rw [if_pos (by omega), if_pos (by omega), if_pos (by omega), drop_consB l i (by omega), wrap_up i (by omega), List.all_cons]
    by_cases hc : ((rdOf ByteArray.empty l (i : Int)).size : Int) > 2147483647
    · rw [if_pos hc]
      have : fitB (rdOf ByteArray.empty l (i : Int)) = false := decide_eq_false (by omega)
      rw [this]
      rfl
    · rw [if_neg hc, ih (i + 1) k (by omega) (by omega) (by omega)]
      have : fitB (rdOf ByteArray.empty l (i : Int)) = true := decide_eq_true (by omega)
      rw [this]
      rfl
theorem fits5 (l : List ByteArray) (k : Nat) (hk : l.length < k) : laws_zzFits5.f k l = some (fitS l) := by
  unfold laws_zzFits5.f
  by_cases hl : (l.length : Int) > 2147483647
  · rw [if_pos hl]
    have : fitS l = false := by
      unfold fitS
      rw [decide_eq_false (by omega)]
      rfl
    rw [this]
  · rw [if_neg hl]
    have h := fits_loop l (by omega) l.length 0 k (by omega) (by omega) hk
    rw [show ((0 : Nat) : Int) = 0 from rfl, List.drop_zero] at h
    rw [h, fitS, decide_eq_true (show l.length ≤ 2147483647 by omega)]
    rfl
theorem fits6_loop (l : List (List ByteArray)) (M : Nat) (hM : ∀ ss ∈ l, ss.length ≤ M) (hl : l.length ≤ 2147483647) : ∀ (d i k : Nat), l.length - i = d → i ≤ l.length → d + M + 1 < k → laws_zzFits6.l0 k l (l.length : Int) (i : Int) = some ((l.drop i).all fitS) := by
  intro d
  induction d with
  | zero =>
    intro i k hd hi hk
    obtain ⟨k, rfl⟩ : ∃ m, k = m + 1 := ⟨k - 1, by omega⟩
    simp only [laws_zzFits6.l0]
    rw [if_neg (by omega), List.drop_of_length_le (by omega)]
    rfl
  | succ d ih =>
    intro i k hd hi hk
    obtain ⟨k, rfl⟩ : ∃ m, k = m + 1 := ⟨k - 1, by omega⟩
    simp only [laws_zzFits6.l0]
    have hm := hM _ (rd_mem l i (by omega))
    rw [if_pos (by omega), if_pos (by omega), if_pos (by omega), drop_consL l i (by omega), wrap_up i (by omega), List.all_cons, fits5 _ _ (by omega), Option.bind_some]
    by_cases hc : fitS (rd_L1 l (i : Int)) = true
    · rw [if_pos hc, ih (i + 1) k (by omega) (by omega) (by omega), hc]
      rfl
    · rw [if_neg hc, Bool.eq_false_iff.2 hc]
      rfl
theorem fits6 (l : List (List ByteArray)) (M k : Nat) (hM : ∀ ss ∈ l, ss.length ≤ M) (hk : l.length + M + 1 < k) : laws_zzFits6.f k l = some (fitQ l) := by
  unfold laws_zzFits6.f
  by_cases hl : (l.length : Int) > 2147483647
  · rw [if_pos hl]
    have : fitQ l = false := by
      unfold fitQ
      rw [decide_eq_false (by omega)]
      rfl
    rw [this]
  · rw [if_neg hl]
    have h := fits6_loop l M hM (by omega) l.length 0 k (by omega) (by omega) hk
    rw [show ((0 : Nat) : Int) = 0 from rfl, List.drop_zero] at h
    rw [h, fitQ, decide_eq_true (show l.length ≤ 2147483647 by omega)]
    rfl
theorem same_loop (l : List ByteArray) (hl : l.length ≤ 2147483647) : ∀ (d i k : Nat), l.length - i = d → i ≤ l.length → d < k → laws_same29.l0 k l l (l.length : Int) (i : Int) = some true := by
  intro d
  induction d with
  | zero =>
    intro i k hd hi hk
    obtain ⟨k, rfl⟩ : ∃ m, k = m + 1 := ⟨k - 1, by omega⟩
    simp only [laws_same29.l0]
    rw [if_neg (by omega)]
  | succ d ih =>
    intro i k hd hi hk
    obtain ⟨k, rfl⟩ : ∃ m, k = m + 1 := ⟨k - 1, by omega⟩
    simp only [laws_same29.l0]
    rw [if_pos (by omega), if_pos (by omega), if_pos (by omega), if_pos (by omega), if_pos (by trivial), wrap_up i (by omega), ih (i + 1) k (by omega) (by omega) (by omega)]
theorem same29 (l : List ByteArray) (k : Nat) (hl : l.length ≤ 2147483647) (hk : l.length < k) : laws_same29.f k l l = some true := by
  have h := same_loop l hl l.length 0 k (by omega) (by omega) hk
  unfold laws_same29.f
  rwa [if_pos rfl]
theorem alike_loop (l : List (List ByteArray)) (M : Nat) (hM : ∀ ss ∈ l, ss.length ≤ M) (hM2 : M ≤ 2147483647) (hl : l.length ≤ 2147483647) : ∀ (d i k : Nat), l.length - i = d → i ≤ l.length → d + M + 1 < k → laws_alike29.l0 k l l (l.length : Int) (i : Int) = some true := by
  intro d
  induction d with
  | zero =>
    intro i k hd hi hk
    obtain ⟨k, rfl⟩ : ∃ m, k = m + 1 := ⟨k - 1, by omega⟩
    simp only [laws_alike29.l0]
    rw [if_neg (by omega)]
  | succ d ih =>
    intro i k hd hi hk
    obtain ⟨k, rfl⟩ : ∃ m, k = m + 1 := ⟨k - 1, by omega⟩
    simp only [laws_alike29.l0]
    have hm := hM _ (rd_mem l i (by omega))
    rw [if_pos (by omega), if_pos (by omega), if_pos (by omega), if_pos (by omega), same29 _ _ (by omega) (by omega), Option.bind_some, if_pos rfl, wrap_up i (by omega), ih (i + 1) k (by omega) (by omega) (by omega)]
theorem alike29 (l : List (List ByteArray)) (M k : Nat) (hM : ∀ ss ∈ l, ss.length ≤ M) (hM2 : M ≤ 2147483647) (hl : l.length ≤ 2147483647) (hk : l.length + M + 1 < k) : laws_alike29.f k l l = some true := by
  have h := alike_loop l M hM hM2 hl l.length 0 k (by omega) (by omega) hk
  unfold laws_alike29.f
  rwa [if_pos rfl]
/-- The longest row's length. -/
def most : List (List ByteArray) → Nat
  | [] => 0
  | s :: t => max s.length (most t)
theorem le_most : ∀ (l : List (List ByteArray)), ∀ ss ∈ l, ss.length ≤ most l
  | [], ss, h => by cases h
  | s :: t, ss, h => by
    rcases List.mem_cons.1 h with rfl | h
    · exact Nat.le_max_left _ _
    · exact Nat.le_trans (le_most t ss h) (Nat.le_max_right _ _)
theorem most_le (N : Nat) : ∀ (l : List (List ByteArray)), (∀ ss ∈ l, ss.length ≤ N) → most l ≤ N
  | [], _ => Nat.zero_le _
  | s :: t, h => Nat.max_le.2 ⟨h s List.mem_cons_self, most_le N t (fun ss hm => h ss (List.mem_cons_of_mem _ hm))⟩
end Go.Proofs.Yticofikbijldiaa.Pure.FI
namespace Go.Proofs.Yticofikbijldiaa.Pure
open Go.RowKit Go.Proofs.Yticofikbijldiaa.GFnFilled Go.Proofs.YticofikbijldiaaW.PrintWords Go.Proofs.YticofikbijldiaaW.PrintLast
set_option linter.unusedVariables false
namespace FI
/-- One row's cells, filled up: then the rows go on with the next one. -/
theorem cells_loop (l : List (List ByteArray)) (c : Int) (hc : c ≤ 1000) (x5 : List (List ByteArray)) (h5 : x5.length ≤ 2147483647) (ss : List ByteArray) (x20 : Int) (m : Nat) :
    ∀ (d : Nat) (x7 : List ByteArray), x7.length ≤ 2147483647 → (c - x7.length).toNat = d → x7 ++ List.replicate d ByteArray.empty = Hand.fillRow c ss →
      laws_FnFilled.l1 (m + d + 1) l c x5 x7 l (l.length : Int) x20 = laws_FnFilled.l0 m l c (x5 ++ [Hand.fillRow c ss]) l (l.length : Int) (wrap64 (x20 + 1)) := by
  intro d
  induction d with
  | zero =>
    intro x7 hx hd hr
    rw [List.replicate_zero, List.append_nil] at hr
    rw [laws_FnFilled.l1, if_neg (by omega), if_pos (by omega), hr]
  | succ d ih =>
    intro x7 hx hd hr
    rw [show m + (d + 1) + 1 = (m + d + 1) + 1 from rfl, laws_FnFilled.l1, if_pos (by omega), if_pos (by omega)]
    refine ih (x7 ++ [(⟨#[]⟩ : ByteArray)]) (by rw [List.length_append, List.length_singleton]; omega) (by rw [List.length_append, List.length_singleton]; omega) ?_
    rw [← hr, List.replicate_succ, List.append_assoc]
    rfl
theorem rows_loop (l : List (List ByteArray)) (M : Nat) (hM : ∀ ss ∈ l, ss.length ≤ M) (hM2 : M ≤ 2147483647) (hl : l.length ≤ 2147483647) (hf : fitQ l = true) (c : Int) (hc : -1000 ≤ c ∧ c ≤ 1000) :
    ∀ (d i : Nat), l.length - i = d → i ≤ l.length → ∃ k, laws_FnFilled.l0 k l c ((l.take i).map (Hand.fillRow c)) l (l.length : Int) (i : Int) = some true := by
  intro d
  induction d with
  | zero =>
    intro i hd hi
    obtain rfl : i = l.length := by omega
    have hi1 : impl_Filled.f l c = some (l.map (Hand.fillRow c)) := by rw [impl_Filled.f, if_pos ⟨hf, hc⟩]
    have hi2 : impl_Filled.f [[]] 1 = some [[ByteArray.empty]] := by decide +kernel
    have hM' : ∀ ss ∈ l.map (Hand.fillRow c), ss.length ≤ max M 1000 := by
      intro ss hm
      obtain ⟨s, hs, rfl⟩ := List.mem_map.1 hm
      have := hM s hs
      unfold Hand.fillRow
      rw [List.length_append, List.length_replicate]
      omega
    refine ⟨(l.length + max M 1000 + 2) + 1, ?_⟩
    rw [laws_FnFilled.l0, if_neg (by omega), hi1, Option.bind_some, List.take_length, alike29 (l.map (Hand.fillRow c)) (max M 1000) _ hM' (by omega) (by rw [List.length_map]; exact hl) (by rw [List.length_map]; omega), Option.bind_some, if_pos rfl, hi2]
    rfl
  | succ d ih =>
    intro i hd hi
    obtain ⟨m, hm⟩ := ih (i + 1) (by omega) (by omega)
    have hmem := rd_mem l i (by omega)
    have hsl := hM _ hmem
    refine ⟨(m + (c - (rd_L1 l (i : Int)).length).toNat + 1) + 1, ?_⟩
    rw [laws_FnFilled.l0, if_pos (by omega), if_pos (by omega), if_pos (by omega), Option.bind_some, if_pos (by simp; omega), List.nil_append]
    rw [cells_loop l c hc.2 _ (by rw [List.length_map, List.length_take]; omega) (rd_L1 l (i : Int)) _ m _ _ (by omega) rfl rfl, wrap_up i (by omega)]
    have : (l.take i).map (Hand.fillRow c) ++ [Hand.fillRow c (rd_L1 l (i : Int))] = (l.take (i + 1)).map (Hand.fillRow c) := by
      rw [List.take_add_one, List.getElem?_eq_getElem (by omega), List.map_append]
      simp [rd_L1, show i < l.length by omega]
    rw [this]
    exact hm
end FI
theorem FnFilled (l : List (List ByteArray)) (c : Int) : ∃ k, laws_FnFilled.f k l c = some true := by
  have hM := FI.le_most l
  by_cases hf : fitQ l = true
  · have hR := fitQ_R hf
    have hmm := FI.most_le 2147483647 l (fun ss hm => (hR.2 ss hm).1)
    by_cases hc : -1000 ≤ c ∧ c ≤ 1000
    · obtain ⟨k, hk⟩ := FI.rows_loop l (FI.most l) hM hmm hR.1 hf c hc l.length 0 (by omega) (by omega)
      have hmono : ∀ j, laws_FnFilled.l0 (k + j) l c [] l (l.length : Int) 0 = some true := by
        intro j
        induction j with
        | zero => exact hk
        | succ j ih => exact (laws_FnFilled.mono_l (k + j)).2.1 _ _ _ _ _ _ _ ih
      refine ⟨(k + (l.length + FI.most l + 2)) + 1, ?_⟩
      unfold laws_FnFilled.f
      rw [FI.fits6 l (FI.most l) _ hM (by omega), Option.bind_some, if_pos hf, if_neg (by omega), decide_eq_false (by omega), laws_FnFilled.j0, if_neg (by decide)]
      exact hmono _
    · refine ⟨l.length + FI.most l + 3, ?_⟩
      unfold laws_FnFilled.f
      rw [FI.fits6 l (FI.most l) _ hM (by omega), Option.bind_some, if_pos hf]
      by_cases h1 : c > 1000
      · rw [if_pos h1, laws_FnFilled.j0, if_pos rfl]
      · rw [if_neg h1, decide_eq_true (by omega), laws_FnFilled.j0, if_pos rfl]
  · refine ⟨l.length + FI.most l + 3, ?_⟩
    unfold laws_FnFilled.f
    rw [FI.fits6 l (FI.most l) _ hM (by omega), Option.bind_some, if_neg hf]
theorem FnFilled_walk {W : World} (A : Option Addr) (cp : Nat) (l : List (List ByteArray)) (hC : Kd.C (Kd.slice 9 Kd.string) W A l.length l) (hc : l.length ≤ cp) (c : Int) {p : Prop} (_ : p) :
    Calls Try.prog 7 #[.slice A l.length cp, .int .i64 c] W fun e w' => e = .returned (.bool true) ∧ Below W.heap.size W w' := by
  obtain ⟨k, h⟩ := FnFilled l c
  exact laws_FnFilled.calls k A cp l c true W hC hc h
end Go.Proofs.Yticofikbijldiaa.Pure
