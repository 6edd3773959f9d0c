/- FnBlanks, the plain part: white space becomes one blank a run, and nothing else is changed. No condition. -/
import Derived.Test.YticofikbijldiaaGFnBlanksx1
namespace Go.Proofs.Yticofikbijldiaa.Pure
open Go.RowKit Go.Proofs.Yticofikbijldiaa.GFnBlanks Go.Proofs.YticofikbijldiaaW.PrintWords Go.Proofs.YticofikbijldiaaW.PrintLast

/-- The bytes that inlineASCII keeps. -/
def okA (x : Int) : Bool := (decide (32 ≤ x) && decide (x ≤ 126)) || (x == 9 || x == 10)
theorem okA_iff {x : Int} : okA x = true ↔ (32 ≤ x ∧ x ≤ 126) ∨ x = 9 ∨ x = 10 := by simp [okA]
theorem drop_cons (l : List Int) (i : Nat) (h : i < l.length) : l.drop i = l.getD i 0 :: l.drop (i + 1) := by
  rw [List.drop_eq_getElem_cons h]
  simp [h]
theorem wrap_up (i : Nat) (h : i ≤ 140737488351232) : wrap64 ((i : Int) + 1) = ((i + 1 : Nat) : Int) := by
  unfold wrap64
  omega
theorem take_getD (l : List Int) (n i : Nat) (h : i < n) : (l.take n).getD i 0 = l.getD i 0 := by
  simp [List.getD_eq_getElem?_getD, h]
/-- What inlineASCII makes of a text. -/
def ascii (s : ByteArray) : List Int := ((Hand.bys s).take 300).filter okA
theorem ascii_loop (s : ByteArray) (n : Nat) (hn : n ≤ s.size) (hn2 : n ≤ 300) : ∀ (d i k : Nat) (xs : List Int), n - i = d → i ≤ n → d < k → xs.length ≤ i →
    laws_inlineASCII.l0 k s xs (n : Int) (i : Int) = some (strOfNums (xs ++ (((Hand.bys s).take n).drop i).filter okA)) := by
  intro d
  induction d with
  | zero =>
    intro i k xs hd hi hk hx
    obtain ⟨k, rfl⟩ : ∃ m, k = m + 1 := ⟨k - 1, by omega⟩
    obtain rfl : i = n := by omega
    simp only [laws_inlineASCII.l0]
    rw [if_neg (by omega), List.drop_of_length_le (by rw [List.length_take]; omega)]
    simp
  | succ d ih =>
    intro i k xs hd hi hk hx
    obtain ⟨k, rfl⟩ : ∃ m, k = m + 1 := ⟨k - 1, by omega⟩
    have hlt : i < n := by omega
    have hl := Hand.bys_length s
    have hdc := drop_cons ((Hand.bys s).take n) i (by rw [List.length_take]; omega)
    rw [take_getD _ _ _ hlt, ← Hand.bt_bys] at hdc
    rw [hdc]
    simp only [laws_inlineASCII.l0]
    rw [if_pos (by omega), if_pos (by omega), if_pos (by omega), wrap_up i (by omega)]
    generalize bt s (i : Int) = x
    have h1 := ih (i + 1) k xs (by omega) (by omega) (by omega) (by omega)
    have h2 := ih (i + 1) k (xs ++ [x]) (by omega) (by omega) (by omega) (by simp; omega)
    have hxl : xs.length < 140737488355328 := by omega
    by_cases hx : okA x = true
    · rw [List.filter_cons_of_pos hx]
      rw [List.append_assoc, List.singleton_append] at h2
      rw [okA_iff] at hx
      repeat' split
      all_goals first | exact h2 | (exfalso; omega)
    · rw [List.filter_cons_of_neg hx]
      rw [okA_iff] at hx
      repeat' split
      all_goals first | exact h1 | (exfalso; omega)
theorem ascii_eq (s : ByteArray) (k : Nat) (hk : 300 < k) : laws_inlineASCII.f k s = some (strOfNums (ascii s)) := by
  unfold laws_inlineASCII.f
  have hl := Hand.bys_length s
  have e : mn (s.size : Int) 300 = ((min s.size 300 : Nat) : Int) := by unfold mn; omega
  rw [e]
  have h := ascii_loop s (min s.size 300) (by omega) (by omega) (min s.size 300) 0 k [] (by omega) (by omega) (by omega) (by simp)
  rw [show ((0 : Nat) : Int) = 0 from rfl] at h
  rw [h]
  have e2 : (Hand.bys s).take (min s.size 300) = (Hand.bys s).take 300 := by
    by_cases c : s.size ≤ 300
    · rw [List.take_of_length_le (by rw [hl]; omega), List.take_of_length_le (by rw [hl]; omega)]
    · rw [show min s.size 300 = 300 by omega]
  rw [List.nil_append, List.drop_zero, e2]
  rfl
theorem ascii_ok (s : ByteArray) : ∀ x ∈ ascii s, (32 ≤ x ∧ x ≤ 126) ∨ x = 9 ∨ x = 10 := fun x hx => okA_iff.1 (List.mem_filter.1 hx).2
theorem ascii_byte (s : ByteArray) : ∀ x ∈ ascii s, 0 ≤ x ∧ x < 256 := fun _ hx => by have := ascii_ok s _ hx; omega
theorem ascii_len (s : ByteArray) : (ascii s).length ≤ 300 := by
  have h1 := List.length_filter_le okA ((Hand.bys s).take 300)
  have h2 := List.length_take_le 300 (Hand.bys s)
  unfold ascii
  omega
theorem bys_ascii (s : ByteArray) : Hand.bys (strOfNums (ascii s)) = ascii s := Hand.nums_byte _ (ascii_byte s)
theorem size_ascii (s : ByteArray) : (strOfNums (ascii s)).size = (ascii s).length := strOfNums_size _
theorem blank_eq (x : Int) : spec_Blank.f x = some (Hand.blankB x) := by
  unfold spec_Blank.f Hand.blankB
  by_cases h1 : x = 32
  · simp [h1]
  · by_cases h2 : x = 9
    · simp [h2]
    · by_cases h3 : x = 10
      · simp [h3]
      · rw [if_neg h1, if_neg h2, if_neg h3]
        have e1 : (x == 32) = false := by simpa using h1
        have e2 : (x == 9) = false := by simpa using h2
        have e3 : (x == 10) = false := by simpa using h3
        rw [e1, e2, e3]
        simp

theorem space_loop (s : ByteArray) (hs : s.size ≤ 300) : ∀ (d i k : Nat), s.size - i = d → i ≤ s.size → d < k →
    spec_OneSpace.l0 k s (Hand.col ((Hand.bys s).take i)) (s.size : Int) (i : Int) = some (strOfNums (Hand.col (Hand.bys s))) := by
  intro d
  have hl := Hand.bys_length s
  have hc : ∀ i, (Hand.col ((Hand.bys s).take i)).length ≤ 300 := by
    intro i
    have h : ∀ (p : Bool) (l : List Int), (Hand.os p l).length ≤ l.length := by
      intro p l
      induction l generalizing p with
      | nil => simp [Hand.os]
      | cons x t ih =>
        simp only [Hand.os]
        split
        · split
          · have := ih true
            simp
            omega
          · have := ih true
            simp
            omega
        · have := ih false
          simp
          omega
    have h1 := h false ((Hand.bys s).take i)
    have h2 : ((Hand.bys s).take i).length ≤ 300 := by rw [List.length_take]; omega
    unfold Hand.col
    omega
  induction d with
  | zero =>
    intro i k hd hi hk
    obtain ⟨k, rfl⟩ : ∃ m, k = m + 1 := ⟨k - 1, by omega⟩
    obtain rfl : i = s.size := by omega
    simp only [spec_OneSpace.l0]
    rw [if_neg (by omega), List.take_of_length_le (by omega)]
  | succ d ih =>
    intro i k hd hi hk
    obtain ⟨k, rfl⟩ : ∃ m, k = m + 1 := ⟨k - 1, by omega⟩
    have hlt : i < s.size := by omega
    have hi1 := ih (i + 1) k (by omega) (by omega) (by omega)
    rw [Hand.col_snoc _ _ (by omega), ← Hand.bt_bys] at hi1
    simp only [spec_OneSpace.l0]
    rw [if_pos (by omega), if_pos (by omega), if_pos (by omega), blank_eq, wrap_up i (by omega)]
    simp only [Option.bind_some]
    have hc0 := hc i
    by_cases hb : Hand.blankB (bt s (i : Int)) = true
    · rw [if_pos hb]
      rw [if_pos hb] at hi1
      by_cases h0 : (i : Int) = 0
      · obtain rfl : i = 0 := by omega
        rw [if_pos h0, if_pos (by omega)]
        exact hi1
      · rw [if_neg h0]
        have hw : wrap64 ((i : Int) - 1) = ((i - 1 : Nat) : Int) := by unfold wrap64; omega
        rw [hw, if_pos (by omega), if_pos (by omega), blank_eq]
        simp only [Option.bind_some]
        have he := Hand.eb_take (Hand.bys s) (i - 1) (by omega)
        rw [show i - 1 + 1 = i by omega, ← Hand.bt_bys] at he
        rw [he] at hi1
        by_cases hp : Hand.blankB (bt s ((i - 1 : Nat) : Int)) = true
        · rw [if_pos hp]
          rw [if_pos hp, List.append_nil] at hi1
          exact hi1
        · rw [if_neg hp, if_pos (by omega)]
          rw [if_neg hp] at hi1
          exact hi1
    · rw [if_neg hb, if_pos (by omega)]
      rw [if_neg hb] at hi1
      exact hi1
theorem FnBlanks : laws_FnBlanks.Pure := by
  intro s _
  refine ⟨301, ?_⟩
  unfold laws_FnBlanks.f
  by_cases h : (s.size : Int) > 2147483647
  · rw [if_pos h]
  rw [if_neg h, ascii_eq s 301 (by omega)]
  simp only [Option.bind_some]
  have hz := size_ascii s
  have hle := ascii_len s
  have h1 := space_loop (strOfNums (ascii s)) (by omega) (strOfNums (ascii s)).size 0 301 (by omega) (by omega) (by omega)
  have h2 : spec_OneSpace.f 301 (strOfNums (ascii s)) = some (strOfNums (Hand.col (Hand.bys (strOfNums (ascii s))))) := h1
  rw [h2, impl_Blanks.f, if_pos (by omega)]
  simp

end Go.Proofs.Yticofikbijldiaa.Pure
