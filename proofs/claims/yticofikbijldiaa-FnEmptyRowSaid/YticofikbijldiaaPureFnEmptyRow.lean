/- FnEmptyRow, the plain part: a row is empty, if all its cells are without a byte. No condition. -/
import Derived.Test.YticofikbijldiaaGFnEmptyRowx1
namespace Go.Proofs.Yticofikbijldiaa.Pure
open Go.RowKit Go.Proofs.Yticofikbijldiaa.GFnEmptyRow Go.Proofs.YticofikbijldiaaW.PrintWords Go.Proofs.YticofikbijldiaaW.PrintLast
set_option linter.unusedVariables false

theorem drop_consB (l : List ByteArray) (i : Nat) (h : i < l.length) : l.drop i = rdOf ByteArray.empty l (i : Int) :: l.drop (i + 1) := by
  rw [List.drop_eq_getElem_cons h]
  simp [rdOf, h]
theorem wrap_up (i : Nat) (h : i ≤ 140737488351232) : wrap64 ((i : Int) + 1) = ((i + 1 : Nat) : Int) := by
  unfold wrap64
  omega
def fitB (s : ByteArray) : Bool := decide (s.size ≤ 2147483647)
theorem fits_loop (l : List ByteArray) (hl : l.length ≤ 2147483647) : ∀ (d i k : Nat), l.length - i = d → i ≤ l.length → d < k → laws_zzFits5.l0 k l (l.length : Int) (i : Int) = some ((l.drop i).all fitB) := by
  intro d
  induction d with
  | zero =>
    intro i k hd hi hk
    obtain ⟨k, rfl⟩ : ∃ m, k = m + 1 := ⟨k - 1, by omega⟩
    simp only [laws_zzFits5.l0]
    rw [if_neg (by omega), List.drop_of_length_le (by omega)]
    rfl
  | succ d ih =>
    intro i k hd hi hk
    obtain ⟨k, rfl⟩ : ∃ m, k = m + 1 := ⟨k - 1, by omega⟩
    simp only [laws_zzFits5.l0]
    rw [if_pos (by omega), if_pos (by omega), if_pos (by omega), drop_consB l i (by omega), wrap_up i (by omega), List.all_cons]
    by_cases hc : ((rdOf ByteArray.empty l (i : Int)).size : Int) > 2147483647
    · rw [if_pos hc]
      have : fitB (rdOf ByteArray.empty l (i : Int)) = false := decide_eq_false (by omega)
      rw [this]
      rfl
    · rw [if_neg hc, ih (i + 1) k (by omega) (by omega) (by omega)]
      have : fitB (rdOf ByteArray.empty l (i : Int)) = true := decide_eq_true (by omega)
      rw [this]
      rfl
theorem nil_iff (s : ByteArray) : s.toList = [] ↔ s.size = 0 := by
  have h2 : s.data.size = s.size := rfl
  rw [ByteArray.toList_eq]
  constructor
  · intro h
    have := congrArg List.length h
    rw [Array.length_toList, h2] at this
    simpa using this
  · intro h
    exact List.eq_nil_of_length_eq_zero (by rw [Array.length_toList, h2]; exact h)
theorem empty_loop (l : List ByteArray) (hl : l.length ≤ 2147483647) : ∀ (d i k : Nat), l.length - i = d → i ≤ l.length → d < k → laws_empty29.l0 k l (l.length : Int) (i : Int) = some (Hand.emptyB (l.drop i)) := by
  intro d
  induction d with
  | zero =>
    intro i k hd hi hk
    obtain ⟨k, rfl⟩ : ∃ m, k = m + 1 := ⟨k - 1, by omega⟩
    simp only [laws_empty29.l0]
    rw [if_neg (by omega), List.drop_of_length_le (by omega)]
    rfl
  | succ d ih =>
    intro i k hd hi hk
    obtain ⟨k, rfl⟩ : ∃ m, k = m + 1 := ⟨k - 1, by omega⟩
    simp only [laws_empty29.l0]
    rw [if_pos (by omega), if_pos (by omega), if_pos (by omega), drop_consB l i (by omega), wrap_up i (by omega)]
    simp only [Hand.emptyB, List.all_cons]
    by_cases hc : (rdOf ByteArray.empty l (i : Int)).toList = []
    · rw [if_pos hc, ih (i + 1) k (by omega) (by omega) (by omega), (nil_iff _).1 hc]
      rfl
    · rw [if_neg hc]
      have : ((rdOf ByteArray.empty l (i : Int)).size == 0) = false := beq_eq_false_iff_ne.2 (fun h => hc ((nil_iff _).2 h))
      rw [this]
      rfl
theorem FnEmptyRow (l : List ByteArray) : ∃ k, laws_FnEmptyRow.f k l = some true := by
  refine ⟨l.length + 2, ?_⟩
  unfold laws_FnEmptyRow.f laws_zzFits5.f
  by_cases hl : (l.length : Int) > 2147483647
  · rw [if_pos hl]
    rfl
  · rw [if_neg hl]
    have h1 := fits_loop l (by omega) l.length 0 (l.length + 2) (by omega) (by omega) (by omega)
    have h2 := empty_loop l (by omega) l.length 0 (l.length + 2) (by omega) (by omega) (by omega)
    rw [show ((0 : Nat) : Int) = 0 from rfl, List.drop_zero] at h1 h2
    rw [h1]
    simp only [Option.bind_some]
    by_cases hf : l.all fitB = true
    · rw [if_pos hf, laws_empty29.f, h2]
      have hi : impl_EmptyRow.f l = some (Hand.emptyB l) := by rw [impl_EmptyRow.f, if_pos ⟨by omega, hf⟩]
      have hi2 : impl_EmptyRow.f [(⟨#[]⟩ : ByteArray)] = some true := by decide +kernel
      rw [hi, hi2]
      simp
    · rw [if_neg hf]
theorem FnEmptyRow_walk (A : Option Addr) (c : Nat) (l : List ByteArray) {W : World} (hC : Kd.C Kd.string W A l.length l) (hc : l.length ≤ c) :
    Calls Try.prog 4 #[.slice A l.length c] W fun e w' => e = .returned (.bool true) ∧ Below W.heap.size W w' := by
  obtain ⟨k, h⟩ := FnEmptyRow l
  exact laws_FnEmptyRow.calls k A c l true W hC hc h
end Go.Proofs.Yticofikbijldiaa.Pure
