/- White space of a text, the plain part: runs of blanks become one; what the loop of collapse keeps. No program in sight. -/
import Derived.Test.YtlallihdiffheaaZBytes
namespace Go.Proofs.Ytlallihdiffheaa.Hand
open Go.RowKit Go.Proofs.YtlallihdiffheaaW.PrintWords
set_option linter.unusedVariables false

def blankB (c : Int) : Bool := c == 32 || c == 13 || c == 10 || c == 9
theorem blankB_true {c : Int} : blankB c = true ↔ c = 32 ∨ c = 13 ∨ c = 10 ∨ c = 9 := by simp [blankB, or_assoc]
def os : Bool → List Int → List Int
  | _, [] => []
  | p, x :: t => if blankB x then (if p then os true t else 32 :: os true t) else x :: os false t
/-- Does a text end in white space (or, if it is empty, what stood ahead of it)? -/
def eb (p : Bool) (l : List Int) : Bool := l.foldl (fun _ x => blankB x) p
theorem eb_snoc (p : Bool) (l : List Int) (x : Int) : eb p (l ++ [x]) = blankB x := by simp [eb]
theorem os_snoc (p : Bool) (l : List Int) (x : Int) : os p (l ++ [x]) = os p l ++ (if blankB x then (if eb p l then [] else [32]) else [x]) := by
  induction l generalizing p with
  | nil => cases p <;> by_cases h : blankB x = true <;> simp [os, eb, h]
  | cons y t ih =>
    have he : eb p (y :: t) = eb (blankB y) t := rfl
    rw [he]
    simp only [List.cons_append, os]
    by_cases hy : blankB y = true
    · simp only [hy, if_true]
      cases p <;> simp [ih]
    · have hy' : blankB y = false := by simpa using hy
      simp [hy', ih]
def col (l : List Int) : List Int := os false l
/-- What the loop of collapse keeps: what has been laid, from where on the text still stands as it is, where the white space at hand began. -/
def BI (l xs : List Int) (sn : Nat) (sm : Int) (i : Nat) : Prop :=
  sn ≤ i ∧ i ≤ l.length ∧ ((sm = -1 ∧ xs ++ (l.drop sn).take (i - sn) = col (l.take i) ∧ eb false (l.take i) = false) ∨
    ∃ m : Nat, sm = m ∧ sn ≤ m ∧ m < i ∧ xs ++ (l.drop sn).take (m - sn) ++ [32] = col (l.take i) ∧ eb false (l.take i) = true)
theorem BI_start (l : List Int) : BI l [] 0 (-1) 0 := ⟨Nat.le_refl _, Nat.zero_le _, .inl ⟨rfl, by simp [col, os], by simp [eb]⟩⟩
theorem take_snoc' (l : List Int) (i : Nat) (h : i < l.length) : l.take (i + 1) = l.take i ++ [l.getD i 0] := by
  rw [List.take_succ_eq_append_getElem h]
  simp [h]
theorem col_snoc (l : List Int) (i : Nat) (h : i < l.length) : col (l.take (i + 1)) = col (l.take i) ++ (if blankB (l.getD i 0) then (if eb false (l.take i) then [] else [32]) else [l.getD i 0]) := by
  rw [take_snoc' l i h]
  exact os_snoc _ _ _
theorem eb_take (l : List Int) (i : Nat) (h : i < l.length) : eb false (l.take (i + 1)) = blankB (l.getD i 0) := by
  rw [take_snoc' l i h, eb_snoc]
theorem dt_snoc (l : List Int) (a i : Nat) (ha : a ≤ i) (h : i < l.length) : (l.drop a).take (i + 1 - a) = (l.drop a).take (i - a) ++ [l.getD i 0] := by
  rw [show i + 1 - a = (i - a) + 1 by omega, List.take_succ_eq_append_getElem (by simp; omega)]
  simp [show a + (i - a) = i by omega, h]
theorem BI_ws_first {l xs : List Int} {sn i : Nat} (h : BI l xs sn (-1) i) (hi : i < l.length) (hb : blankB (l.getD i 0) = true) : BI l xs sn (i : Int) (i + 1) := by
  obtain ⟨h1, h2, h3⟩ := h
  rcases h3 with ⟨_, h4, h5⟩ | ⟨m, hm, _⟩
  · refine ⟨by omega, by omega, .inr ⟨i, rfl, h1, by omega, ?_, ?_⟩⟩
    · rw [col_snoc l i hi, hb, h5, h4]
      simp
    · rw [eb_take l i hi, hb]
  · omega
theorem BI_ws_more {l xs : List Int} {sn i m : Nat} (h : BI l xs sn (m : Int) i) (hi : i < l.length) (hb : blankB (l.getD i 0) = true) : BI l xs sn (m : Int) (i + 1) := by
  obtain ⟨h1, h2, h3⟩ := h
  rcases h3 with ⟨h3, _⟩ | ⟨m', hm, h4, h5, h6, h7⟩
  · omega
  · obtain rfl : m = m' := by omega
    refine ⟨by omega, by omega, .inr ⟨m, rfl, h4, by omega, ?_, ?_⟩⟩
    · rw [col_snoc l i hi, hb, h7, h6]
      simp
    · rw [eb_take l i hi, hb]
theorem BI_plain {l xs : List Int} {sn i : Nat} (h : BI l xs sn (-1) i) (hi : i < l.length) (hb : blankB (l.getD i 0) = false) : BI l xs sn (-1) (i + 1) := by
  obtain ⟨h1, h2, h3⟩ := h
  rcases h3 with ⟨_, h4, h5⟩ | ⟨m, hm, _⟩
  · refine ⟨by omega, by omega, .inl ⟨rfl, ?_, ?_⟩⟩
    · rw [col_snoc l i hi, hb, dt_snoc l sn i h1 hi, ← h4]
      simp
    · rw [eb_take l i hi, hb]
  · omega
theorem BI_one {l xs : List Int} {sn m : Nat} (h : BI l xs sn (m : Int) (m + 1)) (hi : m + 1 < l.length) (h32 : l.getD m 0 = 32) (hb : blankB (l.getD (m + 1) 0) = false) : BI l xs sn (-1) (m + 1 + 1) := by
  obtain ⟨h1, h2, h3⟩ := h
  rcases h3 with ⟨h3, _⟩ | ⟨m', hm, h4, h5, h6, h7⟩
  · omega
  · obtain rfl : m = m' := by omega
    refine ⟨by omega, by omega, .inl ⟨rfl, ?_, ?_⟩⟩
    · rw [col_snoc l (m + 1) hi, hb, dt_snoc l sn (m + 1) h1 hi, dt_snoc l sn m h4 (by omega), h32, ← h6]
      simp
    · rw [eb_take l (m + 1) hi, hb]
theorem BI_flush {l xs : List Int} {sn m i : Nat} (h : BI l xs sn (m : Int) i) (hi : i < l.length) (hb : blankB (l.getD i 0) = false) : BI l (xs ++ (l.drop sn).take (m - sn) ++ [32]) i (-1) (i + 1) := by
  obtain ⟨h1, h2, h3⟩ := h
  rcases h3 with ⟨h3, _⟩ | ⟨m', hm, h4, h5, h6, h7⟩
  · omega
  · obtain rfl : m = m' := by omega
    refine ⟨by omega, by omega, .inl ⟨rfl, ?_, ?_⟩⟩
    · rw [col_snoc l i hi, hb, dt_snoc l i i (Nat.le_refl _) hi, ← h6]
      simp
    · rw [eb_take l i hi, hb]
theorem BI_end_plain {l xs : List Int} {sn : Nat} (h : BI l xs sn (-1) l.length) : xs ++ l.drop sn = col l := by
  obtain ⟨h1, h2, h3⟩ := h
  rcases h3 with ⟨_, h4, h5⟩ | ⟨m, hm, _⟩
  · rw [List.take_length] at h4
    rw [← h4, List.take_of_length_le (by simp)]
  · omega
theorem BI_end_ws {l xs : List Int} {sn m : Nat} (h : BI l xs sn (m : Int) l.length) : xs ++ (l.drop sn).take (m - sn) ++ [32] = col l := by
  obtain ⟨h1, h2, h3⟩ := h
  rcases h3 with ⟨h3, _⟩ | ⟨m', hm, h4, h5, h6, h7⟩
  · omega
  · obtain rfl : m = m' := by omega
    rw [List.take_length] at h6
    exact h6
theorem BI_m {l xs : List Int} {sn i : Nat} {sm : Int} (h : BI l xs sn sm i) (hne : ¬ sm = -1) : ∃ m : Nat, sm = m ∧ sn ≤ m ∧ m < i := by
  obtain ⟨h1, h2, h3⟩ := h
  rcases h3 with ⟨h3, _⟩ | ⟨m, hm, h4, h5, _⟩
  · exact absurd h3 hne
  · exact ⟨m, hm, h4, h5⟩
theorem BI_len {l xs : List Int} {sn i : Nat} {sm : Int} (h : BI l xs sn sm i) : xs.length ≤ i := by
  have hc : ∀ (p : Bool) (l : List Int), (os p l).length ≤ l.length := by
    intro p l
    induction l generalizing p with
    | nil => simp [os]
    | cons x t ih =>
      simp only [os]
      split
      · split
        · have := ih true
          simp
          omega
        · have := ih true
          simp
          omega
      · have := ih false
        simp
        omega
  obtain ⟨h1, h2, h3⟩ := h
  have := hc false (l.take i)
  rcases h3 with ⟨_, h4, _⟩ | ⟨m, _, _, _, h4, _⟩
  · have h5 := congrArg List.length h4
    simp [col] at h5 this
    omega
  · have h5 := congrArg List.length h4
    simp [col] at h5 this
    omega
end Go.Proofs.Ytlallihdiffheaa.Hand
