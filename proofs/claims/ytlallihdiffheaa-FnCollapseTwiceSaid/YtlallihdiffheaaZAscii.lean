/- inlineASCII and inlineName tell something, whatever the text. Plain Lean over the printed functions. -/
import Derived.Test.YtlallihdiffheaaZGTx4
import Derived.Test.YtlallihdiffheaaZBytes
namespace Go.Proofs.Ytlallihdiffheaa.Hand.As
open Go.RowKit Go.Proofs.Ytlallihdiffheaa.GT Go.Proofs.YtlallihdiffheaaW.PrintWords Go.Proofs.YtlallihdiffheaaW.PrintLast
set_option linter.unusedVariables false

/-- The bytes that inlineASCII keeps. -/
def okA (x : Int) : Bool := (decide (32 ≤ x) && decide (x ≤ 126)) || (x == 9 || x == 10)
theorem okA_iff {x : Int} : okA x = true ↔ (32 ≤ x ∧ x ≤ 126) ∨ x = 9 ∨ x = 10 := by simp [okA]
theorem drop_cons (l : List Int) (i : Nat) (h : i < l.length) : l.drop i = l.getD i 0 :: l.drop (i + 1) := by
  rw [List.drop_eq_getElem_cons h]
  simp [h]
theorem wrap_up (i : Nat) (h : i ≤ 140737488351232) : wrap64 ((i : Int) + 1) = ((i + 1 : Nat) : Int) := by
  unfold wrap64
  omega
theorem take_getD (l : List Int) (n i : Nat) (h : i < n) : (l.take n).getD i 0 = l.getD i 0 := by
  simp [List.getD_eq_getElem?_getD, h]
/-- What inlineASCII makes of a text. -/
def ascii (s : ByteArray) : List Int := ((Hand.bys s).take 300).filter okA
theorem ascii_loop (s : ByteArray) (n : Nat) (hn : n ≤ s.size) (hn2 : n ≤ 300) : ∀ (d i k : Nat) (xs : List Int), n - i = d → i ≤ n → d < k → xs.length ≤ i →
    laws_inlineASCII.l0 k s xs (n : Int) (i : Int) = some (strOfNums (xs ++ (((Hand.bys s).take n).drop i).filter okA)) := by
  intro d
  induction d with
  | zero =>
    intro i k xs hd hi hk hx
    obtain ⟨k, rfl⟩ : ∃ m, k = m + 1 := ⟨k - 1, by omega⟩
    obtain rfl : i = n := by omega
    simp only [laws_inlineASCII.l0]
    rw [if_neg (by omega), List.drop_of_length_le (by rw [List.length_take]; omega)]
    simp
  | succ d ih =>
    intro i k xs hd hi hk hx
    obtain ⟨k, rfl⟩ : ∃ m, k = m + 1 := ⟨k - 1, by omega⟩
    have hlt : i < n := by omega
    have hl := Hand.bys_length s
    have hdc := drop_cons ((Hand.bys s).take n) i (by rw [List.length_take]; omega)
    rw [take_getD _ _ _ hlt, ← Hand.bt_bys] at hdc
    rw [hdc]
    simp only [laws_inlineASCII.l0]
    rw [if_pos (by omega), if_pos (by omega), if_pos (by omega), wrap_up i (by omega)]
    generalize bt s (i : Int) = x
    have h1 := ih (i + 1) k xs (by omega) (by omega) (by omega) (by omega)
    have h2 := ih (i + 1) k (xs ++ [x]) (by omega) (by omega) (by omega) (by simp; omega)
    have hxl : xs.length < 140737488355328 := by omega
    by_cases hx : okA x = true
    · rw [List.filter_cons_of_pos hx]
      rw [List.append_assoc, List.singleton_append] at h2
      rw [okA_iff] at hx
      repeat' split
      all_goals first | exact h2 | (exfalso; omega)
    · rw [List.filter_cons_of_neg hx]
      rw [okA_iff] at hx
      repeat' split
      all_goals first | exact h1 | (exfalso; omega)
theorem ascii_eq (s : ByteArray) (k : Nat) (hk : 300 < k) : laws_inlineASCII.f k s = some (strOfNums (ascii s)) := by
  unfold laws_inlineASCII.f
  have hl := Hand.bys_length s
  have e : mn (s.size : Int) 300 = ((min s.size 300 : Nat) : Int) := by unfold mn; omega
  rw [e]
  have h := ascii_loop s (min s.size 300) (by omega) (by omega) (min s.size 300) 0 k [] (by omega) (by omega) (by omega) (by simp)
  rw [show ((0 : Nat) : Int) = 0 from rfl] at h
  rw [h]
  have e2 : (Hand.bys s).take (min s.size 300) = (Hand.bys s).take 300 := by
    by_cases c : s.size ≤ 300
    · rw [List.take_of_length_le (by rw [hl]; omega), List.take_of_length_le (by rw [hl]; omega)]
    · rw [show min s.size 300 = 300 by omega]
  rw [List.nil_append, List.drop_zero, e2]
  rfl
theorem ascii_len (s : ByteArray) : (ascii s).length ≤ 300 := by
  have h1 := List.length_filter_le okA ((Hand.bys s).take 300)
  have h2 := List.length_take_le 300 (Hand.bys s)
  unfold ascii
  omega
theorem size_ascii (s : ByteArray) : (strOfNums (ascii s)).size = (ascii s).length := strOfNums_size _
theorem named_loop (l : List ByteArray) (s : ByteArray) (hl : l.length ≤ 1000) : ∀ (d i k : Nat), l.length - i = d → i ≤ l.length → d < k → ∃ b, spec_Named.l0 k s l (l.length : Int) (i : Int) = some b := by
  intro d
  induction d with
  | zero =>
    intro i k hd hi hk
    obtain ⟨k, rfl⟩ : ∃ m, k = m + 1 := ⟨k - 1, by omega⟩
    simp only [spec_Named.l0]
    rw [if_neg (by omega)]
    exact ⟨_, rfl⟩
  | succ d ih =>
    intro i k hd hi hk
    obtain ⟨k, rfl⟩ : ∃ m, k = m + 1 := ⟨k - 1, by omega⟩
    simp only [spec_Named.l0]
    rw [if_pos (by omega), if_pos (by omega), if_pos (by omega), wrap_up i (by omega)]
    split
    · exact ⟨_, rfl⟩
    · exact ih (i + 1) k (by omega) (by omega) (by omega)
theorem name_some (s : ByteArray) : ∃ r, laws_inlineName.f 100 s = some r := by
  unfold laws_inlineName.f laws_inlineNames.f
  rw [Option.bind_some]
  obtain ⟨b, hb⟩ := named_loop [(⟨#[100, 105, 118]⟩ : ByteArray), (⟨#[112]⟩ : ByteArray), (⟨#[115, 112, 97, 110]⟩ : ByteArray), (⟨#[98]⟩ : ByteArray), (⟨#[115, 116, 114, 111, 110, 103]⟩ : ByteArray), (⟨#[101, 109]⟩ : ByteArray), (⟨#[105]⟩ : ByteArray), (⟨#[97]⟩ : ByteArray), (⟨#[99, 111, 100, 101]⟩ : ByteArray), (⟨#[112, 114, 101]⟩ : ByteArray), (⟨#[98, 114]⟩ : ByteArray), (⟨#[105, 109, 103]⟩ : ByteArray), (⟨#[117, 108]⟩ : ByteArray), (⟨#[108, 105]⟩ : ByteArray)] s (by decide) 14 0 100 rfl (by decide) (by decide)
  have hb2 : spec_Named.f 100 [(⟨#[100, 105, 118]⟩ : ByteArray), (⟨#[112]⟩ : ByteArray), (⟨#[115, 112, 97, 110]⟩ : ByteArray), (⟨#[98]⟩ : ByteArray), (⟨#[115, 116, 114, 111, 110, 103]⟩ : ByteArray), (⟨#[101, 109]⟩ : ByteArray), (⟨#[105]⟩ : ByteArray), (⟨#[97]⟩ : ByteArray), (⟨#[99, 111, 100, 101]⟩ : ByteArray), (⟨#[112, 114, 101]⟩ : ByteArray), (⟨#[98, 114]⟩ : ByteArray), (⟨#[105, 109, 103]⟩ : ByteArray), (⟨#[117, 108]⟩ : ByteArray), (⟨#[108, 105]⟩ : ByteArray)] s = some b := hb
  rw [hb2, Option.bind_some]
  split
  · exact ⟨_, rfl⟩
  · rw [if_neg (by decide)]
    have h1 : (0 : Int) ≤ (s.size : Int) % 14 := Int.emod_nonneg _ (by decide)
    have h2 : (s.size : Int) % 14 < 14 := Int.emod_lt_of_pos _ (by decide)
    simp only [List.length_cons, List.length_nil]
    rw [if_pos (by simpa using h1), if_pos (by simpa using h2)]
    exact ⟨_, rfl⟩
theorem ascii_small (s : ByteArray) : ∃ r, laws_inlineASCII.f 400 s = some r ∧ r.size ≤ 300 :=
  ⟨_, ascii_eq s 400 (by decide), by rw [size_ascii]; exact ascii_len s⟩
end Go.Proofs.Ytlallihdiffheaa.Hand.As
