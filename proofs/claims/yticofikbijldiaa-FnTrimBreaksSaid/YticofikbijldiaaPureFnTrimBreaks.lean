/- FnTrimBreaks, the plain part: hard line breaks that are taken out are white space alone; a text without two blanks ahead of a newline stays. No condition. -/
import Derived.Test.YticofikbijldiaaGFnTrimBreaksx1
namespace Go.Proofs.Yticofikbijldiaa.Pure
open Go.RowKit Go.Proofs.Yticofikbijldiaa.GFnTrimBreaks Go.Proofs.YticofikbijldiaaW.PrintWords Go.Proofs.YticofikbijldiaaW.PrintLast

/-- The bytes that inlineASCII keeps. -/
def okA (x : Int) : Bool := (decide (32 ≤ x) && decide (x ≤ 126)) || (x == 9 || x == 10)
theorem okA_iff {x : Int} : okA x = true ↔ (32 ≤ x ∧ x ≤ 126) ∨ x = 9 ∨ x = 10 := by simp [okA]
theorem drop_cons (l : List Int) (i : Nat) (h : i < l.length) : l.drop i = l.getD i 0 :: l.drop (i + 1) := by
  rw [List.drop_eq_getElem_cons h]
  simp [h]
theorem wrap_up (i : Nat) (h : i ≤ 140737488351232) : wrap64 ((i : Int) + 1) = ((i + 1 : Nat) : Int) := by
  unfold wrap64
  omega
theorem take_getD (l : List Int) (n i : Nat) (h : i < n) : (l.take n).getD i 0 = l.getD i 0 := by
  simp [List.getD_eq_getElem?_getD, h]
/-- What inlineASCII makes of a text. -/
def ascii (s : ByteArray) : List Int := ((Hand.bys s).take 300).filter okA
theorem ascii_loop (s : ByteArray) (n : Nat) (hn : n ≤ s.size) (hn2 : n ≤ 300) : ∀ (d i k : Nat) (xs : List Int), n - i = d → i ≤ n → d < k → xs.length ≤ i →
    laws_inlineASCII.l0 k s xs (n : Int) (i : Int) = some (strOfNums (xs ++ (((Hand.bys s).take n).drop i).filter okA)) := by
  intro d
  induction d with
  | zero =>
    intro i k xs hd hi hk hx
    obtain ⟨k, rfl⟩ : ∃ m, k = m + 1 := ⟨k - 1, by omega⟩
    obtain rfl : i = n := by omega
    simp only [laws_inlineASCII.l0]
    rw [if_neg (by omega), List.drop_of_length_le (by rw [List.length_take]; omega)]
    simp
  | succ d ih =>
    intro i k xs hd hi hk hx
    obtain ⟨k, rfl⟩ : ∃ m, k = m + 1 := ⟨k - 1, by omega⟩
    have hlt : i < n := by omega
    have hl := Hand.bys_length s
    have hdc := drop_cons ((Hand.bys s).take n) i (by rw [List.length_take]; omega)
    rw [take_getD _ _ _ hlt, ← Hand.bt_bys] at hdc
    rw [hdc]
    simp only [laws_inlineASCII.l0]
    rw [if_pos (by omega), if_pos (by omega), if_pos (by omega), wrap_up i (by omega)]
    generalize bt s (i : Int) = x
    have h1 := ih (i + 1) k xs (by omega) (by omega) (by omega) (by omega)
    have h2 := ih (i + 1) k (xs ++ [x]) (by omega) (by omega) (by omega) (by simp; omega)
    have hxl : xs.length < 140737488355328 := by omega
    by_cases hx : okA x = true
    · rw [List.filter_cons_of_pos hx]
      rw [List.append_assoc, List.singleton_append] at h2
      rw [okA_iff] at hx
      repeat' split
      all_goals first | exact h2 | (exfalso; omega)
    · rw [List.filter_cons_of_neg hx]
      rw [okA_iff] at hx
      repeat' split
      all_goals first | exact h1 | (exfalso; omega)
theorem ascii_eq (s : ByteArray) (k : Nat) (hk : 300 < k) : laws_inlineASCII.f k s = some (strOfNums (ascii s)) := by
  unfold laws_inlineASCII.f
  have hl := Hand.bys_length s
  have e : mn (s.size : Int) 300 = ((min s.size 300 : Nat) : Int) := by unfold mn; omega
  rw [e]
  have h := ascii_loop s (min s.size 300) (by omega) (by omega) (min s.size 300) 0 k [] (by omega) (by omega) (by omega) (by simp)
  rw [show ((0 : Nat) : Int) = 0 from rfl] at h
  rw [h]
  have e2 : (Hand.bys s).take (min s.size 300) = (Hand.bys s).take 300 := by
    by_cases c : s.size ≤ 300
    · rw [List.take_of_length_le (by rw [hl]; omega), List.take_of_length_le (by rw [hl]; omega)]
    · rw [show min s.size 300 = 300 by omega]
  rw [List.nil_append, List.drop_zero, e2]
  rfl
theorem ascii_ok (s : ByteArray) : ∀ x ∈ ascii s, (32 ≤ x ∧ x ≤ 126) ∨ x = 9 ∨ x = 10 := fun _ hx => okA_iff.1 (List.mem_filter.1 hx).2
theorem ascii_byte (s : ByteArray) : ∀ x ∈ ascii s, 0 ≤ x ∧ x < 256 := by
  intro x hx
  have h := ascii_ok s x hx
  omega
theorem ascii_len (s : ByteArray) : (ascii s).length ≤ 300 := by
  have h1 := List.length_filter_le okA ((Hand.bys s).take 300)
  have h2 := List.length_take_le 300 (Hand.bys s)
  unfold ascii
  omega
theorem bys_ascii (s : ByteArray) : Hand.bys (strOfNums (ascii s)) = ascii s := Hand.nums_byte _ (ascii_byte s)
theorem size_ascii (s : ByteArray) : (strOfNums (ascii s)).size = (ascii s).length := strOfNums_size _
theorem blank_eq (x : Int) : spec_Blank.f x = some (Hand.blankB x) := by
  unfold spec_Blank.f Hand.blankB
  by_cases h1 : x = 32
  · simp [h1]
  · by_cases h2 : x = 9
    · simp [h2]
    · by_cases h3 : x = 10
      · simp [h3]
      · rw [if_neg h1, if_neg h2, if_neg h3]
        have e1 : (x == 32) = false := by simpa using h1
        have e2 : (x == 9) = false := by simpa using h2
        have e3 : (x == 10) = false := by simpa using h3
        rw [e1, e2, e3]
        simp

/-- A text in which each old one is a new one; d: how many steps at most. -/
def repl (o n : List Int) : Nat → List Int → List Int
  | 0, _ => []
  | _ + 1, [] => []
  | d + 1, x :: t => if o.isPrefixOf (x :: t) then n ++ repl o n d ((x :: t).drop o.length) else x :: repl o n d t
theorem pre_split {o l : List Int} (h : o.isPrefixOf l = true) : l = o ++ l.drop o.length := by
  obtain ⟨r, hr⟩ := List.isPrefixOf_iff_prefix.1 h
  subst hr
  simp
theorem repl_nil (o n : List Int) (d : Nat) : repl o n d [] = [] := by cases d <;> rfl
theorem repl_solid (o n : List Int) (p : Int → Bool) (ho : o.filter p = []) (hn : n.filter p = []) (h0 : o ≠ []) : ∀ (d : Nat) (l : List Int), l.length ≤ d → (repl o n d l).filter p = l.filter p := by
  intro d
  induction d with
  | zero =>
    intro l hl
    obtain rfl : l = [] := List.eq_nil_of_length_eq_zero (by omega)
    rfl
  | succ d ih =>
    intro l hl
    cases l with
    | nil => rfl
    | cons x t =>
      simp only [repl]
      have hop : 0 < o.length := List.length_pos_iff.2 h0
      split
      · rename_i h
        have hs := pre_split h
        rw [List.filter_append, hn, List.nil_append, ih _ (by simp at hl ⊢; omega)]
        conv => rhs; rw [hs, List.filter_append, ho, List.nil_append]
      · rw [List.filter_cons, List.filter_cons, ih t (by simpa using hl)]
theorem repl_id (o n : List Int) : ∀ (d : Nat) (l : List Int), l.length ≤ d → (∀ q, o.isPrefixOf (l.drop q) = true → l.length ≤ q) → repl o n d l = l := by
  intro d
  induction d with
  | zero =>
    intro l hl _
    exact (List.eq_nil_of_length_eq_zero (by omega)).symm
  | succ d ih =>
    intro l hl hq
    cases l with
    | nil => rfl
    | cons x t =>
      simp only [repl]
      rw [if_neg (fun h => by have := hq 0 h; simp at this), ih t (by simpa using hl) (fun q h => by have := hq (q + 1) h; simpa using this)]
theorem repl_mem (o n : List Int) : ∀ (d : Nat) (l : List Int), ∀ x ∈ repl o n d l, x ∈ l ∨ x ∈ n := by
  intro d
  induction d with
  | zero => intro l x h; simp [repl] at h
  | succ d ih =>
    intro l x h
    cases l with
    | nil => simp [repl] at h
    | cons y t =>
      simp only [repl] at h
      split at h
      · rcases List.mem_append.1 h with h | h
        · exact .inr h
        · rcases ih _ x h with h | h
          · exact .inl (List.mem_of_mem_drop h)
          · exact .inr h
      · rcases List.mem_cons.1 h with h | h
        · exact .inl (by simp [h])
        · rcases ih _ x h with h | h
          · exact .inl (List.mem_cons_of_mem _ h)
          · exact .inr h
theorem repl_len (o n : List Int) (hon : n.length ≤ o.length) : ∀ (d : Nat) (l : List Int), (repl o n d l).length ≤ l.length := by
  intro d
  induction d with
  | zero => intro l; simp [repl]
  | succ d ih =>
    intro l
    cases l with
    | nil => simp [repl]
    | cons y t =>
      simp only [repl]
      split
      · rename_i h
        have h1 := ih ((y :: t).drop o.length)
        have h2 := (List.isPrefixOf_iff_prefix.1 h).length_le
        rw [List.length_drop] at h1
        rw [List.length_append]
        omega
      · have := ih t
        simp
        omega
theorem bytes_bys (n : ByteArray) : bytesOf n = Hand.bys n := by simp [bytesOf, Hand.bys]
open Go.Proofs.Yticofikbijldiaa.GIn1 in
set_option maxHeartbeats 1000000 in
theorem rep_loop (o n : ByteArray) (h0 : 0 < o.size) (ho : o.size ≤ 1000) (hn : n.size ≤ o.size) (l : List Int) (hl : l.length ≤ 300) (hb : ∀ x ∈ l, 0 ≤ x ∧ x < 256) : ∀ (d i k : Nat) (xs : List Int), l.length - i ≤ d → d < k → xs.length ≤ i → i ≤ l.length →
    textutils_zzReplaceAll.l0 k l o n xs (i : Int) = some (xs ++ repl (Hand.bys o) (Hand.bys n) d (l.drop i)) := by
  intro d
  have hbo := Hand.bys_length o
  have hbn := Hand.bys_length n
  induction d with
  | zero =>
    intro i k xs hd hk hx hi
    obtain ⟨k, rfl⟩ : ∃ m, k = m + 1 := ⟨k - 1, by omega⟩
    simp only [textutils_zzReplaceAll.l0]
    rw [if_neg (by omega)]
    simp [repl]
  | succ d ih =>
    intro i k xs hd hk hx hi
    obtain ⟨k, rfl⟩ : ∃ m, k = m + 1 := ⟨k - 1, by omega⟩
    simp only [textutils_zzReplaceAll.l0]
    by_cases hlt : i < l.length
    · have hw : wrap64 ((i : Int) + (o.size : Int)) = ((i + o.size : Nat) : Int) := by unfold wrap64; omega
      rw [if_pos (by omega), hw, wrap_up i (by omega)]
      clear hw
      have hdc := drop_cons l i hlt
      have hrd : rd l (i : Int) = l.getD i 0 := by simp [rd]
      have hplain : ¬ ((Hand.bys o).isPrefixOf (l.drop i) = true) → textutils_zzReplaceAll.l0 k l o n (xs ++ [rd l (i : Int)]) ((i + 1 : Nat) : Int) = some (xs ++ repl (Hand.bys o) (Hand.bys n) (d + 1) (l.drop i)) := by
        intro hp
        rw [ih (i + 1) k (xs ++ [rd l (i : Int)]) (by omega) (by omega) (by simp; omega) (by omega)]
        conv => rhs; rw [hdc]
        simp only [repl]
        rw [← hdc, if_neg hp, hrd]
        simp
      have hiff : ((i + o.size : Nat) : Int) ≤ (l.length : Int) → ((strOfNums ((l.take (((i + o.size : Nat) : Int)).toNat).drop ((i : Int)).toNat)).toList = o.toList ↔ (Hand.bys o).isPrefixOf (l.drop i) = true) := by
        intro hle
        have hcut : (l.take (((i + o.size : Nat) : Int)).toNat).drop ((i : Int)).toNat = (l.drop i).take (Hand.bys o).length := by
          have e9 : (((i + o.size : Nat) : Int)).toNat - ((i : Int)).toNat = o.size := by omega
          rw [hbo, List.drop_take, e9]
          simp
        rw [hcut, List.isPrefixOf_iff_prefix]
        constructor
        · intro h
          have e : Hand.bys (strOfNums ((l.drop i).take (Hand.bys o).length)) = Hand.bys o := by
            have h2 : strOfNums ((l.drop i).take (Hand.bys o).length) = o := by
              apply ByteArray.ext
              apply Array.toList_inj.1
              rwa [ByteArray.toList_eq, ByteArray.toList_eq] at h
            rw [h2]
          rw [Hand.nums_byte _ (fun x hx => hb x (List.mem_of_mem_drop (List.mem_of_mem_take hx)))] at e
          exact List.prefix_iff_eq_take.2 e.symm
        · intro h
          rw [← List.prefix_iff_eq_take.1 h, Hand.str_bys]
      by_cases c2 : ((i + o.size : Nat) : Int) ≤ (l.length : Int)
      · rw [if_pos c2, if_pos (by omega), if_pos (by omega)]
        by_cases c3 : (strOfNums ((l.take (((i + o.size : Nat) : Int)).toNat).drop ((i : Int)).toNat)).toList = o.toList
        · have hp := (hiff c2).1 c3
          rw [if_pos c3, if_pos (by omega)]
          rw [ih (i + o.size) k (xs ++ bytesOf n) (by omega) (by omega) (by simp [bytesOf_length]; omega) (by omega)]
          conv => rhs; rw [hdc]
          simp only [repl]
          rw [← hdc, if_pos hp, hbo, List.drop_drop]
          rw [bytes_bys, List.append_assoc]
        · rw [if_neg c3, if_pos (by omega)]
          exact hplain (fun h => c3 ((hiff c2).2 h))
      · rw [if_neg c2, if_pos (by omega), if_pos (by omega)]
        refine hplain (fun h => ?_)
        have := (List.isPrefixOf_iff_prefix.1 h).length_le
        rw [List.length_drop, hbo] at this
        omega
    · rw [if_neg (by omega), List.drop_of_length_le (by omega), repl_nil, List.append_nil]
/-- The three replacements. -/
def brk (d : Nat) (l : List Int) : List Int := repl [32, 32, 10, 32, 10] [10, 10] d (repl [32, 32, 10, 32, 32, 10] [10, 10] d (repl [32, 32, 10, 10] [10, 10] d l))
open Go.Proofs.Yticofikbijldiaa.GIn1 in
theorem rep_eq (o n : ByteArray) (h0 : 0 < o.size) (ho : o.size ≤ 1000) (hn : n.size ≤ o.size) (l : List Int) (hl : l.length ≤ 300) (hb : ∀ x ∈ l, 0 ≤ x ∧ x < 256) (d k : Nat) (hd : 300 ≤ d) (hk : d < k) : textutils_zzReplaceAll.f k l o n = some (repl (Hand.bys o) (Hand.bys n) d l) := by
  unfold textutils_zzReplaceAll.f
  have h := rep_loop o n h0 ho hn l hl hb d 0 k [] (by omega) hk (by simp) (by omega)
  rw [show ((0 : Nat) : Int) = 0 from rfl] at h
  rw [h]
  simp
theorem b1 : Hand.bys (⟨#[32, 32, 10, 10]⟩ : ByteArray) = [32, 32, 10, 10] := by decide +kernel
theorem b2 : Hand.bys (⟨#[32, 32, 10, 32, 32, 10]⟩ : ByteArray) = [32, 32, 10, 32, 32, 10] := by decide +kernel
theorem b3 : Hand.bys (⟨#[32, 32, 10, 32, 10]⟩ : ByteArray) = [32, 32, 10, 32, 10] := by decide +kernel
theorem b4 : Hand.bys (⟨#[10, 10]⟩ : ByteArray) = [10, 10] := by decide +kernel
theorem repl_byte {o l : List Int} {d : Nat} (hb : ∀ x ∈ l, 0 ≤ x ∧ x < 256) : ∀ x ∈ repl o [10, 10] d l, 0 ≤ x ∧ x < 256 := by
  intro x hx
  rcases repl_mem o [10, 10] d l x hx with h | h
  · exact hb x h
  · simp at h
    omega
open Go.Proofs.Yticofikbijldiaa.GIn1 in
theorem brk_eq (l : List Int) (hl : l.length ≤ 300) (hb : ∀ x ∈ l, 0 ≤ x ∧ x < 256) (d k : Nat) (hd : 300 ≤ d) (hk : d < k) : textutils_TrimUnnecessaryHardLineBreaks.f k l = some (brk d l) := by
  unfold textutils_TrimUnnecessaryHardLineBreaks.f
  have l1 := repl_len [32, 32, 10, 10] [10, 10] (by simp) d l
  have l2 := repl_len [32, 32, 10, 32, 32, 10] [10, 10] (by simp) d (repl [32, 32, 10, 10] [10, 10] d l)
  rw [rep_eq _ _ (by decide) (by decide) (by decide) l hl hb d k hd hk, b1, b4]
  simp only [Option.bind_some]
  rw [rep_eq _ _ (by decide) (by decide) (by decide) _ (by omega) (repl_byte hb) d k hd hk, b2, b4]
  simp only [Option.bind_some]
  rw [rep_eq _ _ (by decide) (by decide) (by decide) _ (by omega) (repl_byte (repl_byte hb)) d k hd hk, b3, b4]
  simp only [Option.bind_some, brk]
theorem brk_byte {l : List Int} {d : Nat} (hb : ∀ x ∈ l, 0 ≤ x ∧ x < 256) : ∀ x ∈ brk d l, 0 ≤ x ∧ x < 256 := repl_byte (repl_byte (repl_byte hb))
theorem brk_len (d : Nat) (l : List Int) : (brk d l).length ≤ l.length := by
  have l1 := repl_len [32, 32, 10, 10] [10, 10] (by simp) d l
  have l2 := repl_len [32, 32, 10, 32, 32, 10] [10, 10] (by simp) d (repl [32, 32, 10, 10] [10, 10] d l)
  have l3 := repl_len [32, 32, 10, 32, 10] [10, 10] (by simp) d (repl [32, 32, 10, 32, 32, 10] [10, 10] d (repl [32, 32, 10, 10] [10, 10] d l))
  unfold brk
  omega
/-- No white space. -/
def solidP (x : Int) : Bool := !Hand.blankB x
theorem s1 : ([32, 32, 10, 10] : List Int).filter solidP = [] := by decide
theorem s2 : ([32, 32, 10, 32, 32, 10] : List Int).filter solidP = [] := by decide
theorem s3 : ([32, 32, 10, 32, 10] : List Int).filter solidP = [] := by decide
theorem s4 : ([10, 10] : List Int).filter solidP = [] := by decide
theorem brk_solid (d : Nat) (l : List Int) (hl : l.length ≤ d) : (brk d l).filter solidP = l.filter solidP := by
  have l1 := repl_len [32, 32, 10, 10] [10, 10] (by simp) d l
  have l2 := repl_len [32, 32, 10, 32, 32, 10] [10, 10] (by simp) d (repl [32, 32, 10, 10] [10, 10] d l)
  unfold brk
  rw [repl_solid _ _ solidP s3 s4 (by simp) d _ (by omega), repl_solid _ _ solidP s2 s4 (by simp) d _ (by omega), repl_solid _ _ solidP s1 s4 (by simp) d _ hl]
theorem hard_of {l r : List Int} {q : Nat} (h : ((32 : Int) :: 32 :: 10 :: r).isPrefixOf (l.drop q) = true) : q + 2 < l.length ∧ l.getD q 0 = 32 ∧ l.getD (q + 1) 0 = 32 ∧ l.getD (q + 2) 0 = 10 := by
  obtain ⟨s, hs⟩ := List.isPrefixOf_iff_prefix.1 h
  have hlen := congrArg List.length hs
  simp at hlen
  have g : ∀ j, l.getD (q + j) 0 = (l.drop q).getD j 0 := by intro j; simp [List.getD_eq_getElem?_getD, List.getElem?_drop]
  refine ⟨by omega, ?_, ?_, ?_⟩
  · rw [show q = q + 0 by omega, g, ← hs]
    rfl
  · rw [g, ← hs]
    rfl
  · rw [g, ← hs]
    rfl
theorem brk_id (d : Nat) (l : List Int) (hl : l.length ≤ d) (h : ∀ j, 2 ≤ j → j < l.length → ¬ (l.getD j 0 = 10 ∧ l.getD (j - 1) 0 = 32 ∧ l.getD (j - 2) 0 = 32)) : brk d l = l := by
  have key : ∀ r : List Int, repl (32 :: 32 :: 10 :: r) [10, 10] d l = l := fun r => by
    refine repl_id _ _ d l hl (fun q hq => ?_)
    obtain ⟨h1, h2, h3, h4⟩ := hard_of hq
    exact absurd ⟨h4, h3, h2⟩ (h (q + 2) (by omega) h1)
  unfold brk
  rw [key, key, key]
theorem solid_loop (s : ByteArray) (hs : s.size ≤ 300) : ∀ (d i k : Nat) (xs : List Int), s.size - i = d → i ≤ s.size → d < k → xs.length ≤ i →
    spec_Solid.l0 k s xs (s.size : Int) (i : Int) = some (strOfNums (xs ++ ((Hand.bys s).drop i).filter solidP)) := by
  intro d
  have hl := Hand.bys_length s
  induction d with
  | zero =>
    intro i k xs hd hi hk hx
    obtain ⟨k, rfl⟩ : ∃ m, k = m + 1 := ⟨k - 1, by omega⟩
    obtain rfl : i = s.size := by omega
    simp only [spec_Solid.l0]
    rw [if_neg (by omega), List.drop_of_length_le (by omega)]
    simp
  | succ d ih =>
    intro i k xs hd hi hk hx
    obtain ⟨k, rfl⟩ : ∃ m, k = m + 1 := ⟨k - 1, by omega⟩
    have hdc := drop_cons (Hand.bys s) i (by omega)
    rw [← Hand.bt_bys] at hdc
    rw [hdc]
    simp only [spec_Solid.l0]
    rw [if_pos (by omega), if_pos (by omega), if_pos (by omega), blank_eq, wrap_up i (by omega)]
    simp only [Option.bind_some]
    by_cases hb : Hand.blankB (bt s (i : Int)) = true
    · rw [if_pos hb, List.filter_cons_of_neg (by simp [solidP, hb])]
      exact ih (i + 1) k xs (by omega) (by omega) (by omega) (by omega)
    · rw [if_neg hb, if_pos (by omega), List.filter_cons_of_pos (by simpa [solidP] using hb), ih (i + 1) k _ (by omega) (by omega) (by omega) (by simp; omega)]
      simp
theorem solid_eq (s : ByteArray) (hs : s.size ≤ 300) (k : Nat) (hk : 300 < k) : spec_Solid.f k s = some (strOfNums ((Hand.bys s).filter solidP)) := by
  unfold spec_Solid.f
  have h := solid_loop s hs s.size 0 k [] (by omega) (by omega) (by omega) (by simp)
  rw [show ((0 : Nat) : Int) = 0 from rfl] at h
  rw [h]
  simp
theorem law_loop (s t : ByteArray) (hs : s.size ≤ 300) (ht : t.size ≤ 300) (e1 : (Hand.bys t).filter solidP = (Hand.bys s).filter solidP)
    (e2 : (∀ j, 2 ≤ j → j < s.size → ¬ (bt s (j : Int) = 10 ∧ bt s ((j - 1 : Nat) : Int) = 32 ∧ bt s ((j - 2 : Nat) : Int) = 32)) → t = s) :
    ∀ (d i k : Nat) (h : Bool), s.size - i = d → 2 ≤ i → d + 301 < k → (h = false → ∀ j, 2 ≤ j → j < i → j < s.size → ¬ (bt s (j : Int) = 10 ∧ bt s ((j - 1 : Nat) : Int) = 32 ∧ bt s ((j - 2 : Nat) : Int) = 32)) →
    laws_FnTrimBreaks.l0 k s t h (i : Int) = some true := by
  intro d
  induction d with
  | zero =>
    intro i k h hd hi hk hh
    obtain ⟨k, rfl⟩ : ∃ m, k = m + 1 := ⟨k - 1, by omega⟩
    simp only [laws_FnTrimBreaks.l0]
    rw [if_neg (by omega), solid_eq t ht k (by omega), solid_eq s hs k (by omega)]
    simp only [Option.bind_some]
    rw [e1, if_pos rfl]
    cases h with
    | true => rfl
    | false =>
      have := e2 (fun j h1 h2 => hh rfl j h1 (by omega) h2)
      subst this
      simp only [laws_inlineLives.f, Option.bind_some]
      simp
  | succ d ih =>
    intro i k h hd hi hk hh
    obtain ⟨k, rfl⟩ : ∃ m, k = m + 1 := ⟨k - 1, by omega⟩
    simp only [laws_FnTrimBreaks.l0]
    rw [if_pos (by omega), wrap_up i (by omega)]
    have hw1 : wrap64 ((i : Int) - 1) = ((i - 1 : Nat) : Int) := by unfold wrap64; omega
    have hw2 : wrap64 ((i : Int) - 2) = ((i - 2 : Nat) : Int) := by unfold wrap64; omega
    rw [hw1, hw2]
    have next : ∀ h' : Bool, (h' = false → h = false ∧ ¬ (bt s (i : Int) = 10 ∧ bt s ((i - 1 : Nat) : Int) = 32 ∧ bt s ((i - 2 : Nat) : Int) = 32)) → laws_FnTrimBreaks.l0 k s t h' ((i + 1 : Nat) : Int) = some true := by
      intro h' hyes
      refine ih (i + 1) k h' (by omega) (by omega) (by omega) (fun e j h1 h2 h3 => ?_)
      obtain ⟨e3, e4⟩ := hyes e
      by_cases hj : j = i
      · subst hj
        exact e4
      · exact hh e3 j h1 (by omega) h3
    cases h with
    | true => exact next true (fun e => by cases e)
    | false =>
      rw [if_neg (by simp), if_pos (by omega)]
      by_cases c1 : bt s (i : Int) = 10
      · rw [if_pos c1, if_pos (by omega), if_pos (by omega)]
        by_cases c2 : bt s ((i - 1 : Nat) : Int) = 32
        · rw [if_pos c2, if_pos (by omega), if_pos (by omega)]
          exact next _ (fun e => ⟨rfl, fun hx => by simp [hx.2.2] at e⟩)
        · rw [if_neg c2]
          exact next false (fun _ => ⟨rfl, fun hx => c2 hx.2.1⟩)
      · rw [if_neg c1]
        exact next false (fun _ => ⟨rfl, fun hx => c1 hx.1⟩)
theorem FnTrimBreaks : laws_FnTrimBreaks.Pure := by
  intro s _
  refine ⟨700, ?_⟩
  unfold laws_FnTrimBreaks.f
  by_cases h : (s.size : Int) > 2147483647
  · rw [if_pos h]
  rw [if_neg h, ascii_eq s 700 (by omega)]
  simp only [Option.bind_some]
  have hz := size_ascii s
  have hle := ascii_len s
  have hb := ascii_byte s
  have hba := bys_ascii s
  generalize ascii s = l at *
  obtain ⟨d, hd⟩ : ∃ d : Nat, d = 300 := ⟨_, rfl⟩
  rw [impl_TrimBreaks.f, if_pos (by omega), hba, brk_eq l hle hb d 700 (by omega) (by omega)]
  simp only [Option.bind_some]
  have hbb := Hand.nums_byte (brk d l) (brk_byte hb)
  have hbl := brk_len d l
  have hz2 := strOfNums_size (brk d l)
  have h2 := law_loop (strOfNums l) (strOfNums (brk d l)) (by omega) (by omega) (by rw [hbb, hba]; exact brk_solid d l (by omega)) (fun hh => by
    rw [brk_id d l (by omega) (fun j h1 h2 hx => hh j h1 (by omega) (by rw [Hand.bt_bys, Hand.bt_bys, Hand.bt_bys, hba]; exact hx))]) ((strOfNums l).size - 2) 2 700 false (by omega) (by omega) (by omega) (fun _ j h1 h2 _ => by omega)
  exact h2

end Go.Proofs.Yticofikbijldiaa.Pure
