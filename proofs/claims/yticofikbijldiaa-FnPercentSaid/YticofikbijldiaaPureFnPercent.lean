/- FnPercent, the plain part: an address is written by percent signs, and read back. No condition. -/
import Derived.Test.YticofikbijldiaaGFnPercentx3
namespace Go.Proofs.Yticofikbijldiaa.Pure
open Go.RowKit Go.Proofs.Yticofikbijldiaa.GFnPercent Go.Proofs.YticofikbijldiaaW.PrintWords Go.Proofs.YticofikbijldiaaW.PrintLast

/-- The bytes that inlineASCII keeps. -/
def okA (x : Int) : Bool := (decide (32 ≤ x) && decide (x ≤ 126)) || (x == 9 || x == 10)
theorem okA_iff {x : Int} : okA x = true ↔ (32 ≤ x ∧ x ≤ 126) ∨ x = 9 ∨ x = 10 := by simp [okA]
theorem drop_cons (l : List Int) (i : Nat) (h : i < l.length) : l.drop i = l.getD i 0 :: l.drop (i + 1) := by
  rw [List.drop_eq_getElem_cons h]
  simp [h]
theorem wrap_up (i : Nat) (h : i ≤ 140737488351232) : wrap64 ((i : Int) + 1) = ((i + 1 : Nat) : Int) := by
  unfold wrap64
  omega
theorem take_getD (l : List Int) (n i : Nat) (h : i < n) : (l.take n).getD i 0 = l.getD i 0 := by
  simp [List.getD_eq_getElem?_getD, h]
/-- What inlineASCII makes of a text. -/
def ascii (s : ByteArray) : List Int := ((Hand.bys s).take 300).filter okA
theorem ascii_loop (s : ByteArray) (n : Nat) (hn : n ≤ s.size) (hn2 : n ≤ 300) : ∀ (d i k : Nat) (xs : List Int), n - i = d → i ≤ n → d < k → xs.length ≤ i →
    laws_inlineASCII.l0 k s xs (n : Int) (i : Int) = some (strOfNums (xs ++ (((Hand.bys s).take n).drop i).filter okA)) := by
  intro d
  induction d with
  | zero =>
    intro i k xs hd hi hk hx
    obtain ⟨k, rfl⟩ : ∃ m, k = m + 1 := ⟨k - 1, by omega⟩
    obtain rfl : i = n := by omega
    simp only [laws_inlineASCII.l0]
    rw [if_neg (by omega), List.drop_of_length_le (by rw [List.length_take]; omega)]
    simp
  | succ d ih =>
    intro i k xs hd hi hk hx
    obtain ⟨k, rfl⟩ : ∃ m, k = m + 1 := ⟨k - 1, by omega⟩
    have hlt : i < n := by omega
    have hl := Hand.bys_length s
    have hdc := drop_cons ((Hand.bys s).take n) i (by rw [List.length_take]; omega)
    rw [take_getD _ _ _ hlt, ← Hand.bt_bys] at hdc
    rw [hdc]
    simp only [laws_inlineASCII.l0]
    rw [if_pos (by omega), if_pos (by omega), if_pos (by omega), wrap_up i (by omega)]
    generalize bt s (i : Int) = x
    have h1 := ih (i + 1) k xs (by omega) (by omega) (by omega) (by omega)
    have h2 := ih (i + 1) k (xs ++ [x]) (by omega) (by omega) (by omega) (by simp; omega)
    have hxl : xs.length < 140737488355328 := by omega
    by_cases hx : okA x = true
    · rw [List.filter_cons_of_pos hx]
      rw [List.append_assoc, List.singleton_append] at h2
      rw [okA_iff] at hx
      repeat' split
      all_goals first | exact h2 | (exfalso; omega)
    · rw [List.filter_cons_of_neg hx]
      rw [okA_iff] at hx
      repeat' split
      all_goals first | exact h1 | (exfalso; omega)
theorem ascii_eq (s : ByteArray) (k : Nat) (hk : 300 < k) : laws_inlineASCII.f k s = some (strOfNums (ascii s)) := by
  unfold laws_inlineASCII.f
  have hl := Hand.bys_length s
  have e : mn (s.size : Int) 300 = ((min s.size 300 : Nat) : Int) := by unfold mn; omega
  rw [e]
  have h := ascii_loop s (min s.size 300) (by omega) (by omega) (min s.size 300) 0 k [] (by omega) (by omega) (by omega) (by simp)
  rw [show ((0 : Nat) : Int) = 0 from rfl] at h
  rw [h]
  have e2 : (Hand.bys s).take (min s.size 300) = (Hand.bys s).take 300 := by
    by_cases c : s.size ≤ 300
    · rw [List.take_of_length_le (by rw [hl]; omega), List.take_of_length_le (by rw [hl]; omega)]
    · rw [show min s.size 300 = 300 by omega]
  rw [List.nil_append, List.drop_zero, e2]
  rfl
theorem ascii_ok (s : ByteArray) : ∀ x ∈ ascii s, (32 ≤ x ∧ x ≤ 126) ∨ x = 9 ∨ x = 10 := fun _ hx => okA_iff.1 (List.mem_filter.1 hx).2
theorem ascii_byte (s : ByteArray) : ∀ x ∈ ascii s, 0 ≤ x ∧ x < 256 := by
  intro x hx
  have h := ascii_ok s x hx
  omega
theorem ascii_len (s : ByteArray) : (ascii s).length ≤ 300 := by
  have h1 := List.length_filter_le okA ((Hand.bys s).take 300)
  have h2 := List.length_take_le 300 (Hand.bys s)
  unfold ascii
  omega
theorem bys_ascii (s : ByteArray) : Hand.bys (strOfNums (ascii s)) = ascii s := Hand.nums_byte _ (ascii_byte s)
theorem size_ascii (s : ByteArray) : (strOfNums (ascii s)).size = (ascii s).length := strOfNums_size _

/-- What stands for a byte in an address. -/
def enc (x : Int) : List Int := if x = 32 then [37, 50, 48] else if x = 91 then [37, 53, 66] else if x = 93 then [37, 53, 68] else if x = 40 then [37, 50, 56] else if x = 41 then [37, 50, 57] else if x = 60 then [37, 51, 67] else if x = 62 then [37, 51, 69] else [x]
def pc : List Int → List Int
  | [] => []
  | x :: t => enc x ++ pc t
theorem pc_append (a b : List Int) : pc (a ++ b) = pc a ++ pc b := by
  induction a with
  | nil => rfl
  | cons x t ih => simp [pc, ih]
theorem enc_len (x : Int) : (enc x).length ≤ 3 := by
  unfold enc
  repeat' split
  all_goals simp
theorem pc_len (l : List Int) : (pc l).length ≤ 3 * l.length := by
  induction l with
  | nil => simp [pc]
  | cons x t ih =>
    have := enc_len x
    simp [pc]
    omega
theorem e20 : bytesOf (⟨#[37, 50, 48]⟩ : ByteArray) = [37, 50, 48] := by decide +kernel
theorem e5B : bytesOf (⟨#[37, 53, 66]⟩ : ByteArray) = [37, 53, 66] := by decide +kernel
theorem e5D : bytesOf (⟨#[37, 53, 68]⟩ : ByteArray) = [37, 53, 68] := by decide +kernel
theorem e28 : bytesOf (⟨#[37, 50, 56]⟩ : ByteArray) = [37, 50, 56] := by decide +kernel
theorem e29 : bytesOf (⟨#[37, 50, 57]⟩ : ByteArray) = [37, 50, 57] := by decide +kernel
theorem e3C : bytesOf (⟨#[37, 51, 67]⟩ : ByteArray) = [37, 51, 67] := by decide +kernel
theorem e3E : bytesOf (⟨#[37, 51, 69]⟩ : ByteArray) = [37, 51, 69] := by decide +kernel
theorem pc_loop (s : ByteArray) (hs : s.size ≤ 300) : ∀ (d i k : Nat) (xs : List Int), s.size - i = d → i ≤ s.size → d < k → xs.length ≤ 3 * i →
    converter_zzPercent.l0 k s xs (i : Int) = some (strOfNums (xs ++ pc ((Hand.bys s).drop i))) := by
  intro d
  have hl := Hand.bys_length s
  induction d with
  | zero =>
    intro i k xs hd hi hk hx
    obtain ⟨k, rfl⟩ : ∃ m, k = m + 1 := ⟨k - 1, by omega⟩
    simp only [converter_zzPercent.l0]
    rw [if_neg (by omega), List.drop_of_length_le (by omega)]
    simp [pc]
  | succ d ih =>
    intro i k xs hd hi hk hx
    obtain ⟨k, rfl⟩ : ∃ m, k = m + 1 := ⟨k - 1, by omega⟩
    have hdc := drop_cons (Hand.bys s) i (by omega)
    rw [← Hand.bt_bys] at hdc
    rw [hdc]
    simp only [converter_zzPercent.l0]
    rw [if_pos (by omega), if_pos (by omega), wrap_up i (by omega), e20, e5B, e5D, e28, e29, e3C, e3E]
    generalize bt s (i : Int) = x
    have h3 : xs.length + 3 < 140737488355328 := by omega
    have h1 : xs.length < 140737488355328 := by omega
    have next : ∀ ys : List Int, enc x = ys → converter_zzPercent.l0 k s (xs ++ ys) ((i + 1 : Nat) : Int) = some (strOfNums (xs ++ pc (x :: (Hand.bys s).drop (i + 1)))) := by
      intro ys hy
      have := enc_len x
      rw [hy] at this
      rw [ih (i + 1) k (xs ++ ys) (by omega) (by omega) (by omega) (by simp; omega)]
      simp only [pc, hy, List.append_assoc]
    by_cases c1 : x = 32
    · rw [if_pos c1, if_pos h3]
      exact next _ (by simp [enc, c1])
    rw [if_neg c1]
    by_cases c2 : x = 91
    · rw [if_pos c2, if_pos h3]
      exact next _ (by simp [enc, c2])
    rw [if_neg c2]
    by_cases c3 : x = 93
    · rw [if_pos c3, if_pos h3]
      exact next _ (by simp [enc, c3])
    rw [if_neg c3]
    by_cases c4 : x = 40
    · rw [if_pos c4, if_pos h3]
      exact next _ (by simp [enc, c4])
    rw [if_neg c4]
    by_cases c5 : x = 41
    · rw [if_pos c5, if_pos h3]
      exact next _ (by simp [enc, c5])
    rw [if_neg c5]
    by_cases c6 : x = 60
    · rw [if_pos c6, if_pos h3]
      exact next _ (by simp [enc, c6])
    rw [if_neg c6]
    by_cases c7 : x = 62
    · rw [if_pos c7, if_pos h3]
      exact next _ (by simp [enc, c7])
    rw [if_neg c7, if_pos h1]
    exact next _ (by simp [enc, c1, c2, c3, c4, c5, c6, c7])
theorem pc_eq (s : ByteArray) (hs : s.size ≤ 300) (k : Nat) (hk : 300 < k) : impl_Percent.f k s = some (strOfNums (pc (Hand.bys s))) := by
  unfold impl_Percent.f converter_ZzPercent.f converter_zzPercent.f
  have h := pc_loop s hs s.size 0 k [] (by omega) (by omega) (by omega) (by simp)
  rw [show ((0 : Nat) : Int) = 0 from rfl] at h
  rw [if_pos (by omega), if_pos (by omega), List.replicate_zero, h]
  simp
/-- What is written by a percent sign. -/
def sp (x : Int) : Bool := x == 32 || x == 91 || x == 93 || x == 40 || x == 41 || x == 60 || x == 62
theorem enc_plain (x : Int) (h : sp x = false) : enc x = [x] := by
  have : ¬ x = 32 ∧ ¬ x = 91 ∧ ¬ x = 93 ∧ ¬ x = 40 ∧ ¬ x = 41 ∧ ¬ x = 60 ∧ ¬ x = 62 := by simpa [sp, and_assoc] using h
  obtain ⟨c1, c2, c3, c4, c5, c6, c7⟩ := this
  simp [enc, c1, c2, c3, c4, c5, c6, c7]
/-- A byte of an address: a digit or a letter of hexadecimal, or one that stays. -/
def odd (x : Int) : Bool := sp x || x == 9 || x == 10
theorem odd_eq (x : Int) : laws_inlineOdd.f x = some (odd x) := by
  unfold laws_inlineOdd.f odd sp
  repeat' split
  all_goals simp_all
theorem enc_mem (x y : Int) (h : y ∈ enc x) : sp y = false ∧ 0 ≤ y ∧ y < 256 ∨ (y = x ∧ sp x = false) := by
  unfold enc at h
  repeat' split at h
  all_goals first
    | (simp at h; rcases h with rfl | rfl | rfl <;> exact .inl (by decide))
    | (simp at h; exact .inr ⟨h, by simp [sp, *]⟩)
theorem pc_mem (l : List Int) (y : Int) (h : y ∈ pc l) : sp y = false ∧ (0 ≤ y ∧ y < 256 ∨ y ∈ l) := by
  induction l with
  | nil => simp [pc] at h
  | cons x t ih =>
    simp only [pc] at h
    rcases List.mem_append.1 h with h | h
    · rcases enc_mem x y h with ⟨h1, h2⟩ | ⟨h1, h2⟩
      · exact ⟨h1, .inl h2⟩
      · rw [h1]
        exact ⟨h2, .inr (by simp)⟩
    · obtain ⟨h1, h2⟩ := ih h
      exact ⟨h1, h2.imp_right (fun z => List.mem_cons_of_mem _ z)⟩
theorem pc_id (l : List Int) (h : ∀ x ∈ l, sp x = false) : pc l = l := by
  induction l with
  | nil => rfl
  | cons x t ih => rw [pc, enc_plain x (h x (by simp)), ih (fun y hy => h y (List.mem_cons_of_mem _ hy))]; rfl
theorem hex_eq (k : Nat) (x v : Int) (h : (48 ≤ x ∧ x ≤ 57 ∧ v = x - 48) ∨ (65 ≤ x ∧ x ≤ 70 ∧ v = x - 55)) : laws_inlineHex.f (k + 2) x = some v := by
  unfold laws_inlineHex.f
  simp only [laws_inlineHex.j0, laws_inlineHex.j1]
  rcases h with ⟨h1, h2, rfl⟩ | ⟨h1, h2, rfl⟩
  · rw [if_pos (by omega), if_pos (by simpa using h2)]
    congr 1
    omega
  · rw [if_pos (by omega), if_neg (by simp; omega), if_pos (by omega), if_pos (by simpa using h2)]
    congr 1
    omega
theorem hex_some (k : Nat) (x : Int) : ∃ v, laws_inlineHex.f (k + 2) x = some v := by
  unfold laws_inlineHex.f
  simp only [laws_inlineHex.j0, laws_inlineHex.j1]
  repeat' split
  all_goals exact ⟨_, rfl⟩
theorem at_drop (t : ByteArray) (i : Nat) (a : Int) (r : List Int) (h : (Hand.bys t).drop i = a :: r) : i < t.size ∧ bt t (i : Int) = a ∧ (Hand.bys t).drop (i + 1) = r := by
  have hl := Hand.bys_length t
  have hlen := congrArg List.length h
  rw [List.length_drop, List.length_cons] at hlen
  have hdc := drop_cons (Hand.bys t) i (by omega)
  rw [h] at hdc
  injection hdc with h1 h2
  exact ⟨by omega, by rw [Hand.bt_bys]; exact h1.symm, h2.symm⟩
theorem wrap_at (i j : Nat) (hj : j ≤ 3) (h : i ≤ 140737488351232) : wrap64 ((i : Int) + (j : Int)) = ((i + j : Nat) : Int) := by
  unfold wrap64
  omega
theorem wrap_small (x : Int) (h : 0 ≤ x ∧ x ≤ 1000) : wrap64 x = x := by
  unfold wrap64
  omega
theorem read_loop (t : ByteArray) (ht : t.size ≤ 900) : ∀ (R : List Int) (i k : Nat) (xs : List Int), (∀ x ∈ R, ¬ x = 37) → (Hand.bys t).drop i = pc R → 2 * R.length + 6 < k → xs.length ≤ i → i ≤ t.size →
    laws_inlineRead.l0 k t xs (i : Int) = some (strOfNums (xs ++ R)) := by
  intro R
  induction R with
  | nil =>
    intro i k xs hR hd hk hx hi
    obtain ⟨k, rfl⟩ : ∃ m, k = m + 1 := ⟨k - 1, by omega⟩
    have hlen := congrArg List.length hd
    rw [List.length_drop, Hand.bys_length] at hlen
    simp only [pc, List.length_nil] at hlen
    simp only [laws_inlineRead.l0]
    rw [if_neg (by omega), List.append_nil]
  | cons c R ih =>
    intro i k xs hR hd hk hx hi
    obtain ⟨k, rfl⟩ : ∃ m, k = m + 1 + 1 + 1 + 1 := ⟨k - 4, by omega⟩
    have hR' : ∀ x ∈ R, ¬ x = 37 := fun x h => hR x (List.mem_cons_of_mem _ h)
    have hc37 : ¬ c = 37 := hR c (by simp)
    simp only [List.length_cons] at hk
    simp only [laws_inlineRead.l0]
    by_cases hs : sp c = true
    · have hcases : ∃ a b va vb : Int, enc c = [37, a, b] ∧ ((48 ≤ a ∧ a ≤ 57 ∧ va = a - 48) ∨ (65 ≤ a ∧ a ≤ 70 ∧ va = a - 55)) ∧ ((48 ≤ b ∧ b ≤ 57 ∧ vb = b - 48) ∨ (65 ≤ b ∧ b ≤ 70 ∧ vb = b - 55)) ∧ 0 ≤ va ∧ 0 ≤ vb ∧ 16 * va + vb = c ∧ 16 * va + vb < 256 ∧ va ≤ 15 ∧ vb ≤ 15 := by
        have : c = 32 ∨ c = 91 ∨ c = 93 ∨ c = 40 ∨ c = 41 ∨ c = 60 ∨ c = 62 := by simpa [sp, or_assoc] using hs
        rcases this with rfl | rfl | rfl | rfl | rfl | rfl | rfl
        · exact ⟨50, 48, 2, 0, rfl, by omega⟩
        · exact ⟨53, 66, 5, 11, rfl, by omega⟩
        · exact ⟨53, 68, 5, 13, rfl, by omega⟩
        · exact ⟨50, 56, 2, 8, rfl, by omega⟩
        · exact ⟨50, 57, 2, 9, rfl, by omega⟩
        · exact ⟨51, 67, 3, 12, rfl, by omega⟩
        · exact ⟨51, 69, 3, 14, rfl, by omega⟩
      obtain ⟨a, b, va, vb, he, ha, hb, h0a, h0b, hsum, hlt, h15a, h15b⟩ := hcases
      rw [pc, he] at hd
      obtain ⟨p1, q1, d1⟩ := at_drop t i 37 _ hd
      obtain ⟨p2, q2, d2⟩ := at_drop t (i + 1) a _ d1
      obtain ⟨p3, q3, d3⟩ := at_drop t (i + 1 + 1) b _ d2
      have hi9 : i + 1 + 1 ≤ 140737488351232 := by omega
      have hi8 : i ≤ 140737488351232 := by omega
      have hv1 : 0 ≤ 16 * va ∧ 16 * va ≤ 1000 := by omega
      have hv2 : 0 ≤ 16 * va + vb ∧ 16 * va + vb ≤ 1000 := by omega
      have hv3 : (16 * va + vb) % 256 = c := by omega
      have W1 := Lib.hid (wrap_up i hi8)
      have W2 := Lib.hid (show wrap64 ((i : Int) + 2) = ((i + 1 + 1 : Nat) : Int) from wrap_at i 2 (by decide) hi8)
      have W3 := Lib.hid (wrap_up (i + 1 + 1) hi9)
      have W4 := Lib.hid (show (wrap64 ((wrap64 (16 * va)) + vb)) % 256 = c by rw [wrap_small _ hv1, wrap_small _ hv2]; exact hv3)
      have g1 : (i : Int) < (t.size : Int) := by omega
      have g2 : (0 : Int) ≤ (i : Int) := by omega
      have g3 : ((i + 1 : Nat) : Int) < (t.size : Int) := by omega
      have g4 : (0 : Int) ≤ ((i + 1 : Nat) : Int) := by omega
      have g5 : ((i + 1 + 1 : Nat) : Int) < (t.size : Int) := by omega
      have g6 : (0 : Int) ≤ ((i + 1 + 1 : Nat) : Int) := by omega
      have g7 : xs.length < 140737488355328 := by omega
      rw [W1.out, W2.out, if_pos g1, if_pos g2, if_pos q1, if_pos g5, if_pos g4, if_pos g3, q2, hex_eq (k + 1) a va ha]
      simp only [Option.bind_some]
      rw [if_pos h0a, if_pos g6, q3, hex_eq (k + 1) b vb hb]
      simp only [Option.bind_some]
      rw [decide_eq_true h0b]
      simp only [laws_inlineRead.j1, if_true]
      rw [W1.out, W2.out, if_pos g4, if_pos g3, q2, hex_eq k a va ha]
      simp only [Option.bind_some]
      rw [if_pos g6, if_pos g5, q3, hex_eq k b vb hb]
      simp only [Option.bind_some]
      rw [if_pos g7, W4.out, W3.out]
      rw [ih (i + 1 + 1 + 1) (k + 1 + 1) (xs ++ [c]) hR' d3 (by omega) (by simp; omega) (by omega)]
      simp
    · have hs' : sp c = false := by simpa using hs
      rw [pc, enc_plain c hs'] at hd
      obtain ⟨p1, q1, d1⟩ := at_drop t i c _ hd
      have w1 : wrap64 ((i : Int) + 1) = ((i + 1 : Nat) : Int) := wrap_up i (by omega)
      rw [if_pos (by omega), if_pos (by omega), if_neg (by rw [q1]; exact hc37)]
      simp only [laws_inlineRead.j1, Bool.false_eq_true, if_false]
      rw [if_pos (by omega), if_pos (by omega), if_pos (by omega), q1, w1]
      clear w1
      rw [ih (i + 1) (k + 1 + 1) (xs ++ [c]) hR' d1 (by omega) (by simp; omega) (by omega)]
      simp
theorem read_eq (t : ByteArray) (ht : t.size ≤ 900) (R : List Int) (hR : ∀ x ∈ R, ¬ x = 37) (hl : R.length ≤ 300) (hd : Hand.bys t = pc R) (k : Nat) (hk : 700 < k) : laws_inlineRead.f k t = some (strOfNums R) := by
  unfold laws_inlineRead.f
  have h := read_loop t ht R 0 k [] hR (by rw [List.drop_zero]; exact hd) (by omega) (by simp) (by omega)
  rw [show ((0 : Nat) : Int) = 0 from rfl] at h
  rw [h]
  simp
/-- The loop over the address' bytes. -/
theorem law_l1 (s t : ByteArray) (ht : t.size ≤ 900) (hodd : ∀ x ∈ Hand.bys t, odd x = true → x = 9 ∨ x = 10) (plain sign : Bool) (he : plain = true → t = s)
    (hr : sign = false → ∀ k, 700 < k → laws_inlineRead.f k t = some s) : ∀ (d j k : Nat), t.size - j = d → j ≤ t.size → d + 701 < k → laws_FnPercent.l1 k s t plain sign (t.size : Int) (j : Int) = some true := by
  intro d
  have hl := Hand.bys_length t
  induction d with
  | zero =>
    intro j k hd hj hk
    obtain ⟨k, rfl⟩ : ∃ m, k = m + 1 := ⟨k - 1, by omega⟩
    simp only [laws_FnPercent.l1]
    rw [if_neg (by omega)]
    cases plain with
    | true =>
      have := he rfl
      cases sign with
      | true => simp [this, laws_inlineLives.f]
      | false =>
        have h2 := hr rfl k (by omega)
        rw [this] at h2
        simp [h2, this, laws_inlineLives.f]
    | false =>
      cases sign with
      | true => simp [laws_inlineLives.f]
      | false => simp [hr rfl k (by omega), laws_inlineLives.f]
  | succ d ih =>
    intro j k hd hj hk
    obtain ⟨k, rfl⟩ : ∃ m, k = m + 1 := ⟨k - 1, by omega⟩
    simp only [laws_FnPercent.l1]
    have hn := ih (j + 1) k (by omega) (by omega) (by omega)
    rw [if_pos (by omega), if_pos (by omega), if_pos (by omega), odd_eq, wrap_up j (by omega)]
    simp only [Option.bind_some]
    by_cases ho : odd (bt t (j : Int)) = true
    · rw [if_pos ho]
      have hm : bt t (j : Int) ∈ Hand.bys t := by
        rw [Hand.bt_bys, List.getD_eq_getElem?_getD, List.getElem?_eq_getElem (by omega)]
        simp
      rcases hodd _ hm ho with h | h
      · rw [if_pos h]
        exact hn
      · rw [if_neg (by omega), if_pos h]
        exact hn
    · rw [if_neg ho]
      exact hn
theorem law_l0 (s t : ByteArray) (hs : s.size ≤ 300) (ht : t.size ≤ 900) (hodd : ∀ x ∈ Hand.bys t, odd x = true → x = 9 ∨ x = 10) (he : (∀ x ∈ Hand.bys s, odd x = false) → t = s)
    (hr : (∀ x ∈ Hand.bys s, ¬ x = 37) → ∀ k, 700 < k → laws_inlineRead.f k t = some s) : ∀ (d i k : Nat) (plain sign : Bool), s.size - i = d → i ≤ s.size → d + 1700 < k →
    (plain = true → ∀ x ∈ (Hand.bys s).take i, odd x = false) → (sign = false → ∀ x ∈ (Hand.bys s).take i, ¬ x = 37) → laws_FnPercent.l0 k s t plain sign (s.size : Int) (i : Int) = some true := by
  intro d
  have hl := Hand.bys_length s
  induction d with
  | zero =>
    intro i k plain sign hd hi hk h1 h2
    obtain ⟨k, rfl⟩ : ∃ m, k = m + 1 := ⟨k - 1, by omega⟩
    simp only [laws_FnPercent.l0]
    rw [if_neg (by omega)]
    rw [List.take_of_length_le (by omega)] at h1 h2
    have h := law_l1 s t ht hodd plain sign (fun e => he (h1 e)) (fun e => hr (h2 e)) t.size 0 k (by omega) (by omega) (by omega)
    exact h
  | succ d ih =>
    intro i k plain sign hd hi hk h1 h2
    obtain ⟨k, rfl⟩ : ∃ m, k = m + 1 := ⟨k - 1, by omega⟩
    simp only [laws_FnPercent.l0]
    have hx := Hand.bt_bys s i
    have hts := Hand.take_snoc' (Hand.bys s) i (by omega)
    rw [← hx] at hts
    rw [if_pos (by omega), wrap_up i (by omega), odd_eq]
    simp only [Option.bind_some]
    have next : ∀ p' s' : Bool, (p' = true → plain = true ∧ odd (bt s (i : Int)) = false) → (s' = false → sign = false ∧ ¬ bt s (i : Int) = 37) → laws_FnPercent.l0 k s t p' s' (s.size : Int) ((i + 1 : Nat) : Int) = some true := by
      intro p' s' hp hq
      refine ih (i + 1) k p' s' (by omega) (by omega) (by omega) (fun e x hm => ?_) (fun e x hm => ?_)
      · rw [hts] at hm
        rcases List.mem_append.1 hm with hm | hm
        · exact h1 (hp e).1 x hm
        · rw [List.mem_singleton.1 hm]
          exact (hp e).2
      · rw [hts] at hm
        rcases List.mem_append.1 hm with hm | hm
        · exact h2 (hq e).1 x hm
        · rw [List.mem_singleton.1 hm]
          exact (hq e).2
    cases plain with
    | true =>
      rw [if_pos rfl, if_pos (by omega), if_pos (by omega)]
      cases sign with
      | true =>
        rw [if_pos rfl]
        exact next _ _ (fun e => ⟨rfl, by simpa using e⟩) (fun e => by cases e)
      | false =>
        rw [if_neg (by simp)]
        exact next _ _ (fun e => ⟨rfl, by simpa using e⟩) (fun e => ⟨rfl, by simpa using e⟩)
    | false =>
      rw [if_neg (by simp)]
      cases sign with
      | true =>
        rw [if_pos rfl]
        exact next _ _ (fun e => by cases e) (fun e => by cases e)
      | false =>
        rw [if_neg (by simp), if_pos (by omega), if_pos (by omega)]
        exact next _ _ (fun e => by cases e) (fun e => ⟨rfl, by simpa using e⟩)
theorem FnPercent : laws_FnPercent.Pure := by
  intro s _
  obtain ⟨k0, hk0⟩ : ∃ k : Nat, k = 2100 := ⟨_, rfl⟩
  refine ⟨k0, ?_⟩
  unfold laws_FnPercent.f
  by_cases h : (s.size : Int) > 2147483647
  · rw [if_pos h]
  rw [if_neg h, ascii_eq s k0 (by omega)]
  simp only [Option.bind_some]
  have hz := size_ascii s
  have hle := ascii_len s
  have hb := ascii_byte s
  have hba := bys_ascii s
  have hok := ascii_ok s
  generalize ascii s = l at *
  rw [pc_eq (strOfNums l) (by omega) k0 (by omega), hba]
  simp only [Option.bind_some]
  have hpb : ∀ x ∈ pc l, 0 ≤ x ∧ x < 256 := fun x hx => by
    rcases (pc_mem l x hx).2 with h | h
    · exact h
    · exact hb x h
  have hbp := Hand.nums_byte (pc l) hpb
  have hpl := pc_len l
  have hz2 := strOfNums_size (pc l)
  have key := law_l0 (strOfNums l) (strOfNums (pc l)) (by omega) (by omega) ?_ ?_ ?_ (strOfNums l).size 0 k0 true false (by omega) (by omega) (by omega) (fun _ x hx => by simp at hx) (fun _ x hx => by simp at hx)
  · exact key
  · rw [hbp]
    intro x hx ho
    have hsx := (pc_mem l x hx).1
    simpa [odd, hsx] using ho
  · rw [hba]
    intro hp
    rw [pc_id l (fun x hx => by have := hp x hx; simp [odd] at this; exact this.1.1)]
  · rw [hba]
    intro hn k hk
    exact read_eq _ (by omega) l hn hle hbp k hk

end Go.Proofs.Yticofikbijldiaa.Pure
