/- FnInlineCode, the plain part: the content of a code span stands on one line: its words, with one blank between each two where white space was. No condition. -/
import Derived.Test.YtnhcocjdkmelhaaDoorGFnInlineCodex2
import Derived.Lib.TrimByte
namespace Go.Proofs.YtnhcocjdkmelhaaDoor.Pure
open Go.RowKit Go.Proofs.YtnhcocjdkmelhaaDoor.GFnInlineCode Go.Proofs.YtnhcocjdkmelhaaDoorW.PrintWords Go.Proofs.YtnhcocjdkmelhaaDoorW.PrintLast
set_option linter.unusedVariables false
set_option linter.unusedSimpArgs false

/-- The bytes that inlineASCII keeps. -/
def okA (x : Int) : Bool := (decide (32 ≤ x) && decide (x ≤ 126)) || (x == 9 || x == 10)
theorem okA_iff {x : Int} : okA x = true ↔ (32 ≤ x ∧ x ≤ 126) ∨ x = 9 ∨ x = 10 := by simp [okA]
theorem drop_cons (l : List Int) (i : Nat) (h : i < l.length) : l.drop i = l.getD i 0 :: l.drop (i + 1) := by
  rw [List.drop_eq_getElem_cons h]
  simp [h]
theorem wrap_up (i : Nat) (h : i ≤ 140737488351232) : wrap64 ((i : Int) + 1) = ((i + 1 : Nat) : Int) := by
  unfold wrap64
  omega
theorem take_getD (l : List Int) (n i : Nat) (h : i < n) : (l.take n).getD i 0 = l.getD i 0 := by
  simp [List.getD_eq_getElem?_getD, h]
/-- What inlineASCII makes of a text. -/
def ascii (s : ByteArray) : List Int := ((Hand.bys s).take 300).filter okA
theorem ascii_loop (s : ByteArray) (n : Nat) (hn : n ≤ s.size) (hn2 : n ≤ 300) : ∀ (d i k : Nat) (xs : List Int), n - i = d → i ≤ n → d < k → xs.length ≤ i →
    laws_inlineASCII.l0 k s xs (n : Int) (i : Int) = some (strOfNums (xs ++ (((Hand.bys s).take n).drop i).filter okA)) := by
  intro d
  induction d with
  | zero =>
    intro i k xs hd hi hk hx
    obtain ⟨k, rfl⟩ : ∃ m, k = m + 1 := ⟨k - 1, by omega⟩
    obtain rfl : i = n := by omega
    simp only [laws_inlineASCII.l0]
    rw [if_neg (by omega), List.drop_of_length_le (by rw [List.length_take]; omega)]
    simp
  | succ d ih =>
    intro i k xs hd hi hk hx
    obtain ⟨k, rfl⟩ : ∃ m, k = m + 1 := ⟨k - 1, by omega⟩
    have hlt : i < n := by omega
    have hl := Hand.bys_length s
    have hdc := drop_cons ((Hand.bys s).take n) i (by rw [List.length_take]; omega)
    rw [take_getD _ _ _ hlt, ← Hand.bt_bys] at hdc
    rw [hdc]
    simp only [laws_inlineASCII.l0]
    rw [if_pos (by omega), if_pos (by omega), if_pos (by omega), wrap_up i (by omega)]
    generalize bt s (i : Int) = x
    have h1 := ih (i + 1) k xs (by omega) (by omega) (by omega) (by omega)
    have h2 := ih (i + 1) k (xs ++ [x]) (by omega) (by omega) (by omega) (by simp; omega)
    have hxl : xs.length < 140737488355328 := by omega
    by_cases hx : okA x = true
    · rw [List.filter_cons_of_pos hx]
      rw [List.append_assoc, List.singleton_append] at h2
      rw [okA_iff] at hx
      repeat' split
      all_goals first | exact h2 | (exfalso; omega)
    · rw [List.filter_cons_of_neg hx]
      rw [okA_iff] at hx
      repeat' split
      all_goals first | exact h1 | (exfalso; omega)
theorem ascii_eq (s : ByteArray) (k : Nat) (hk : 300 < k) : laws_inlineASCII.f k s = some (strOfNums (ascii s)) := by
  unfold laws_inlineASCII.f
  have hl := Hand.bys_length s
  have e : mn (s.size : Int) 300 = ((min s.size 300 : Nat) : Int) := by unfold mn; omega
  rw [e]
  have h := ascii_loop s (min s.size 300) (by omega) (by omega) (min s.size 300) 0 k [] (by omega) (by omega) (by omega) (by simp)
  rw [show ((0 : Nat) : Int) = 0 from rfl] at h
  rw [h]
  have e2 : (Hand.bys s).take (min s.size 300) = (Hand.bys s).take 300 := by
    by_cases c : s.size ≤ 300
    · rw [List.take_of_length_le (by rw [hl]; omega), List.take_of_length_le (by rw [hl]; omega)]
    · rw [show min s.size 300 = 300 by omega]
  rw [List.nil_append, List.drop_zero, e2]
  rfl
theorem ascii_ok (s : ByteArray) : ∀ x ∈ ascii s, (32 ≤ x ∧ x ≤ 126) ∨ x = 9 ∨ x = 10 := fun _ hx => okA_iff.1 (List.mem_filter.1 hx).2
theorem ascii_byte (s : ByteArray) : ∀ x ∈ ascii s, 0 ≤ x ∧ x < 256 := by
  intro x hx
  have h := ascii_ok s x hx
  omega
theorem ascii_len (s : ByteArray) : (ascii s).length ≤ 300 := by
  have h1 := List.length_filter_le okA ((Hand.bys s).take 300)
  have h2 := List.length_take_le 300 (Hand.bys s)
  unfold ascii
  omega
theorem bys_ascii (s : ByteArray) : Hand.bys (strOfNums (ascii s)) = ascii s := Hand.nums_byte _ (ascii_byte s)
theorem size_ascii (s : ByteArray) : (strOfNums (ascii s)).size = (ascii s).length := strOfNums_size _
theorem blank_eq (x : Int) : spec_Blank.f x = some (Hand.blankB x) := by
  unfold spec_Blank.f Hand.blankB
  by_cases h1 : x = 32
  · simp [h1]
  · by_cases h2 : x = 9
    · simp [h2]
    · by_cases h3 : x = 10
      · simp [h3]
      · rw [if_neg h1, if_neg h2, if_neg h3]
        have e1 : (x == 32) = false := by simpa using h1
        have e2 : (x == 9) = false := by simpa using h2
        have e3 : (x == 10) = false := by simpa using h3
        rw [e1, e2, e3]
        simp

/-- A text in which each old one is a new one; d: how many steps at most. -/
def repl (o n : List Int) : Nat → List Int → List Int
  | 0, _ => []
  | _ + 1, [] => []
  | d + 1, x :: t => if o.isPrefixOf (x :: t) then n ++ repl o n d ((x :: t).drop o.length) else x :: repl o n d t
theorem repl_nil (o n : List Int) (d : Nat) : repl o n d [] = [] := by cases d <;> rfl
theorem pre_split {o l : List Int} (h : o.isPrefixOf l = true) : l = o ++ l.drop o.length := by
  obtain ⟨r, hr⟩ := List.isPrefixOf_iff_prefix.1 h
  subst hr
  simp
theorem repl_mem (o n : List Int) : ∀ (d : Nat) (l : List Int), ∀ x ∈ repl o n d l, x ∈ l ∨ x ∈ n := by
  intro d
  induction d with
  | zero => intro l x h; simp [repl] at h
  | succ d ih =>
    intro l x h
    cases l with
    | nil => simp [repl] at h
    | cons y t =>
      simp only [repl] at h
      split at h
      · rcases List.mem_append.1 h with h | h
        · exact .inr h
        · rcases ih _ x h with h | h
          · exact .inl (List.mem_of_mem_drop h)
          · exact .inr h
      · rcases List.mem_cons.1 h with h | h
        · exact .inl (by simp [h])
        · rcases ih _ x h with h | h
          · exact .inl (List.mem_cons_of_mem _ h)
          · exact .inr h
theorem repl_len (o n : List Int) (hon : n.length ≤ o.length) : ∀ (d : Nat) (l : List Int), (repl o n d l).length ≤ l.length := by
  intro d
  induction d with
  | zero => intro l; simp [repl]
  | succ d ih =>
    intro l
    cases l with
    | nil => simp [repl]
    | cons y t =>
      simp only [repl]
      split
      · rename_i h
        have h1 := ih ((y :: t).drop o.length)
        have h2 := (List.isPrefixOf_iff_prefix.1 h).length_le
        rw [List.length_drop] at h1
        rw [List.length_append]
        omega
      · have := ih t
        simp
        omega
theorem bytes_bys (n : ByteArray) : bytesOf n = Hand.bys n := by simp [bytesOf, Hand.bys]
open Go.Proofs.YtnhcocjdkmelhaaDoor.GIn1 in
set_option maxHeartbeats 1000000 in
theorem rep_loop (o n : ByteArray) (h0 : 0 < o.size) (ho : o.size ≤ 1000) (hn : n.size ≤ o.size) (l : List Int) (hl : l.length ≤ 300) (hb : ∀ x ∈ l, 0 ≤ x ∧ x < 256) : ∀ (d i k : Nat) (xs : List Int), l.length - i ≤ d → d < k → xs.length ≤ i → i ≤ l.length →
    textutils_zzReplaceAll.l0 k l o n xs (i : Int) = some (xs ++ repl (Hand.bys o) (Hand.bys n) d (l.drop i)) := by
  intro d
  have hbo := Hand.bys_length o
  have hbn := Hand.bys_length n
  induction d with
  | zero =>
    intro i k xs hd hk hx hi
    obtain ⟨k, rfl⟩ : ∃ m, k = m + 1 := ⟨k - 1, by omega⟩
    simp only [textutils_zzReplaceAll.l0]
    rw [if_neg (by omega)]
    simp [repl]
  | succ d ih =>
    intro i k xs hd hk hx hi
    obtain ⟨k, rfl⟩ : ∃ m, k = m + 1 := ⟨k - 1, by omega⟩
    simp only [textutils_zzReplaceAll.l0]
    by_cases hlt : i < l.length
    · have hw : wrap64 ((i : Int) + (o.size : Int)) = ((i + o.size : Nat) : Int) := by unfold wrap64; omega
      rw [if_pos (by omega), hw, wrap_up i (by omega)]
      clear hw
      have hdc := drop_cons l i hlt
      have hrd : rd l (i : Int) = l.getD i 0 := by simp [rd]
      have hplain : ¬ ((Hand.bys o).isPrefixOf (l.drop i) = true) → textutils_zzReplaceAll.l0 k l o n (xs ++ [rd l (i : Int)]) ((i + 1 : Nat) : Int) = some (xs ++ repl (Hand.bys o) (Hand.bys n) (d + 1) (l.drop i)) := by
        intro hp
        rw [ih (i + 1) k (xs ++ [rd l (i : Int)]) (by omega) (by omega) (by simp; omega) (by omega)]
        conv => rhs; rw [hdc]
        simp only [repl]
        rw [← hdc, if_neg hp, hrd]
        simp
      have hiff : ((i + o.size : Nat) : Int) ≤ (l.length : Int) → ((strOfNums ((l.take (((i + o.size : Nat) : Int)).toNat).drop ((i : Int)).toNat)).toList = o.toList ↔ (Hand.bys o).isPrefixOf (l.drop i) = true) := by
        intro hle
        have hcut : (l.take (((i + o.size : Nat) : Int)).toNat).drop ((i : Int)).toNat = (l.drop i).take (Hand.bys o).length := by
          have e9 : (((i + o.size : Nat) : Int)).toNat - ((i : Int)).toNat = o.size := by omega
          rw [hbo, List.drop_take, e9]
          simp
        rw [hcut, List.isPrefixOf_iff_prefix]
        constructor
        · intro h
          have e : Hand.bys (strOfNums ((l.drop i).take (Hand.bys o).length)) = Hand.bys o := by
            have h2 : strOfNums ((l.drop i).take (Hand.bys o).length) = o := by
              apply ByteArray.ext
              apply Array.toList_inj.1
              rwa [ByteArray.toList_eq, ByteArray.toList_eq] at h
            rw [h2]
          rw [Hand.nums_byte _ (fun x hx => hb x (List.mem_of_mem_drop (List.mem_of_mem_take hx)))] at e
          exact List.prefix_iff_eq_take.2 e.symm
        · intro h
          rw [← List.prefix_iff_eq_take.1 h, Hand.str_bys]
      by_cases c2 : ((i + o.size : Nat) : Int) ≤ (l.length : Int)
      · rw [if_pos c2, if_pos (by omega), if_pos (by omega)]
        by_cases c3 : (strOfNums ((l.take (((i + o.size : Nat) : Int)).toNat).drop ((i : Int)).toNat)).toList = o.toList
        · have hp := (hiff c2).1 c3
          rw [if_pos c3, if_pos (by omega)]
          rw [ih (i + o.size) k (xs ++ bytesOf n) (by omega) (by omega) (by simp [bytesOf_length]; omega) (by omega)]
          conv => rhs; rw [hdc]
          simp only [repl]
          rw [← hdc, if_pos hp, hbo, List.drop_drop]
          rw [bytes_bys, List.append_assoc]
        · rw [if_neg c3, if_pos (by omega)]
          exact hplain (fun h => c3 ((hiff c2).2 h))
      · rw [if_neg c2, if_pos (by omega), if_pos (by omega)]
        refine hplain (fun h => ?_)
        have := (List.isPrefixOf_iff_prefix.1 h).length_le
        rw [List.length_drop, hbo] at this
        omega
    · rw [if_neg (by omega), List.drop_of_length_le (by omega), repl_nil, List.append_nil]
open Go.Proofs.YtnhcocjdkmelhaaDoor.GIn1 in
theorem rep_eq (o n : ByteArray) (h0 : 0 < o.size) (ho : o.size ≤ 1000) (hn : n.size ≤ o.size) (l : List Int) (hl : l.length ≤ 300) (hb : ∀ x ∈ l, 0 ≤ x ∧ x < 256) (d k : Nat) (hd : 300 ≤ d) (hk : d < k) : textutils_zzReplaceAll.f k l o n = some (repl (Hand.bys o) (Hand.bys n) d l) := by
  unfold textutils_zzReplaceAll.f
  have h := rep_loop o n h0 ho hn l hl hb d 0 k [] (by omega) hk (by simp) (by omega)
  rw [show ((0 : Nat) : Int) = 0 from rfl] at h
  rw [h]
  simp

def f1 (a x : Int) : Int := if x = a then 32 else x
theorem repl_map (a : Int) : ∀ (d : Nat) (l : List Int), l.length ≤ d → repl [a] [32] d l = l.map (f1 a) := by
  intro d
  induction d with
  | zero =>
    intro l hl
    obtain rfl : l = [] := List.eq_nil_of_length_eq_zero (by omega)
    rfl
  | succ d ih =>
    intro l hl
    cases l with
    | nil => rfl
    | cons x t =>
      simp only [repl, List.map_cons]
      rw [List.length_cons] at hl
      by_cases h : x = a
      · subst h
        rw [if_pos (by simp [List.isPrefixOf]), show f1 x x = 32 from if_pos rfl, ← ih t (by omega)]
        rfl
      · rw [if_neg (by simpa [List.isPrefixOf] using fun e => h e.symm), show f1 a x = x from if_neg h, ih t (by omega)]
/-- White space as a blank. -/
def phi (x : Int) : Int := f1 9 (f1 10 x)
def okC (x : Int) : Prop := (32 ≤ x ∧ x ≤ 126) ∨ x = 9 ∨ x = 10
theorem phi_blank {x : Int} (h : okC x) (hb : Hand.blankB x = true) : phi x = 32 := by
  rw [Hand.blankB_true] at hb
  unfold phi f1
  rcases hb with rfl | rfl | rfl | rfl <;> first | rfl | (exfalso; unfold okC at h; omega)
theorem phi_other {x : Int} (hb : Hand.blankB x = false) : phi x = x ∧ x ≠ 32 := by
  obtain ⟨h1, h2, h3, h4⟩ := Hand.blankB_false hb
  have e1 : x ≠ 32 := by simpa using h1
  have e3 : x ≠ 10 := by simpa using h3
  have e4 : x ≠ 9 := by simpa using h4
  unfold phi f1
  rw [if_neg e3, if_neg e4]
  exact ⟨rfl, e1⟩
theorem sp_small : ∀ n, n < 127 → 32 ≤ n → Lib.isSp (UInt8.ofNat n) = (n == 32) := by decide
theorem phi_sp {x : Int} (h : okC x) : Lib.isSp (UInt8.ofNat (phi x).toNat) = Hand.blankB x := by
  cases hb : Hand.blankB x with
  | true =>
    rw [phi_blank h hb]
    rfl
  | false =>
    obtain ⟨e, hx⟩ := phi_other hb
    have hr : 32 ≤ x ∧ x ≤ 126 := by
      rcases h with h | h | h
      · exact h
      · subst h; exact absurd hb (by decide)
      · subst h; exact absurd hb (by decide)
    rw [e, sp_small x.toNat (by omega) (by omega)]
    exact beq_eq_false_iff_ne.2 (by omega)
theorem dropWhile_same {α : Type} (p q : α → Bool) : ∀ l : List α, (∀ x ∈ l, p x = q x) → l.dropWhile p = l.dropWhile q := by
  intro l
  induction l with
  | nil => intro _; rfl
  | cons x l ih =>
    intro h
    rw [List.dropWhile_cons, List.dropWhile_cons, h x (by simp), ih (fun y hy => h y (by simp [hy]))]
def trimB (l : List Int) : List Int := ((l.dropWhile Hand.blankB).reverse.dropWhile Hand.blankB).reverse
theorem dropWhile_bytes (l : List Int) (h : ∀ x ∈ l, okC x) : (Lib.bytesOf (l.map phi)).dropWhile Lib.isSp = Lib.bytesOf ((l.dropWhile Hand.blankB).map phi) := by
  unfold Lib.bytesOf
  rw [List.map_map, List.dropWhile_map, List.map_map]
  congr 1
  exact dropWhile_same _ _ l (fun x hx => phi_sp (h x hx))
theorem mem_drop {l : List Int} {x : Int} (h : x ∈ l.dropWhile Hand.blankB) : x ∈ l := (List.dropWhile_sublist _).mem h
theorem bytes_reverse (l : List Int) : (Lib.bytesOf l).reverse = Lib.bytesOf l.reverse := by simp [Lib.bytesOf]
theorem trimSpace_bytes (l : List Int) (h : ∀ x ∈ l, okC x) : Lib.trimSpace (Lib.bytesOf (l.map phi)) = Lib.bytesOf ((trimB l).map phi) := by
  unfold Lib.trimSpace trimB
  rw [dropWhile_bytes l h, bytes_reverse, ← List.map_reverse, dropWhile_bytes _ (fun x hx => h x (mem_drop (List.mem_reverse.1 hx))), bytes_reverse, ← List.map_reverse]
theorem trimL_eq (l : List Int) (h : ∀ x ∈ l, okC x) : Hand.trimL (l.map phi) = (trimB l).map phi := by
  unfold Hand.trimL
  rw [trimSpace_bytes l h, Lib.bytesOf_length, List.length_map]
  have e1 : Lib.spLo (Lib.bytesOf (l.map phi)) = l.length - (l.dropWhile Hand.blankB).length := by
    unfold Lib.spLo
    rw [dropWhile_bytes l h, Lib.bytesOf_length, Lib.bytesOf_length, List.length_map, List.length_map]
  rw [e1, ← List.map_drop, ← List.map_take]
  congr 1
  rw [← List.suffix_iff_eq_drop.1 (List.dropWhile_suffix Hand.blankB)]
  have hp : trimB l <+: l.dropWhile Hand.blankB := by
    unfold trimB
    rw [← List.reverse_suffix, List.reverse_reverse]
    exact List.dropWhile_suffix _
  exact (List.prefix_iff_eq_take.1 hp).symm
theorem trimB_mem {l : List Int} {x : Int} (h : x ∈ trimB l) : x ∈ l := by
  unfold trimB at h
  exact mem_drop (List.mem_reverse.1 (mem_drop (List.mem_reverse.1 h)))
theorem trimB_len (l : List Int) : (trimB l).length ≤ l.length := by
  unfold trimB
  rw [List.length_reverse]
  have h1 := (List.dropWhile_sublist Hand.blankB (l := (l.dropWhile Hand.blankB).reverse)).length_le
  have h2 := (List.dropWhile_sublist Hand.blankB (l := l)).length_le
  rw [List.length_reverse] at h1
  omega
/-- Taking white space away at the end. -/
def rt (l : List Int) : List Int := (l.reverse.dropWhile Hand.blankB).reverse
theorem rt_snoc (l : List Int) (x : Int) : rt (l ++ [x]) = if Hand.blankB x = true then rt l else l ++ [x] := by
  unfold rt
  rw [List.reverse_append, List.reverse_singleton, List.singleton_append, List.dropWhile_cons]
  split <;> simp
theorem str_nil (l : List Int) : (strOfNums l).toList = [] ↔ l = [] := by
  rw [Lib.strOfNums_toList]
  simp [Lib.bytesOf]
theorem str_tail (x : Int) (l : List Int) : (strOfNums (x :: l)).extract 1 (strOfNums (x :: l)).size = strOfNums l := by
  rw [Lib.extract_from]
  simp [strOfNums]
theorem str_init (l : List Int) (x : Int) (n : Nat) (hn : n = l.length) : (strOfNums (l ++ [x])).extract 0 n = strOfNums l := by
  rw [Lib.extract_upto, hn]
  simp [strOfNums]
theorem bt_str (l : List Int) (hb : ∀ x ∈ l, 0 ≤ x ∧ x < 256) (i : Nat) : bt (strOfNums l) (i : Int) = l.getD i 0 := by rw [Hand.bt_bys, Hand.nums_byte l hb]
theorem trim_right : ∀ (n : Nat) (l : List Int), l.length = n → n ≤ 300 → (∀ x ∈ l, 0 ≤ x ∧ x < 256) → ∀ k, n < k → laws_inlineTrim.l1 k (strOfNums l) = some (strOfNums (rt l)) := by
  intro n
  induction n with
  | zero =>
    intro l hl _ hb k hk
    obtain ⟨k, rfl⟩ : ∃ m, k = m + 1 := ⟨k - 1, by omega⟩
    obtain rfl : l = [] := List.eq_nil_of_length_eq_zero hl
    simp only [laws_inlineTrim.l1]
    rw [if_pos (by rw [str_nil])]
    rfl
  | succ n ih =>
    intro l hl hn hb k hk
    obtain ⟨k, rfl⟩ : ∃ m, k = m + 1 := ⟨k - 1, by omega⟩
    rcases List.eq_nil_or_concat l with rfl | ⟨t, x, rfl⟩
    · simp at hl
    · rw [List.concat_eq_append] at *
      rw [List.length_append, List.length_singleton] at hl
      have hz : (strOfNums (t ++ [x])).size = n + 1 := by rw [strOfNums_size, List.length_append, List.length_singleton]; exact hl
      have hw : wrap64 (((strOfNums (t ++ [x])).size : Int) - 1) = ((n : Nat) : Int) := by rw [hz]; unfold wrap64; omega
      have hx : bt (strOfNums (t ++ [x])) ((n : Nat) : Int) = x := by
        rw [bt_str _ hb, show n = t.length by omega]
        simp
      simp only [laws_inlineTrim.l1]
      rw [if_neg (by rw [str_nil]; simp), hw, if_pos (by omega), if_pos (by omega), hx, blank_eq, rt_snoc]
      simp only [Option.bind_some]
      by_cases c : Hand.blankB x = true
      · rw [if_pos c, if_pos c, if_pos (by omega), str_init t x _ (by omega)]
        exact ih t (by omega) (by omega) (fun y hy => hb y (by simp [hy])) k (by omega)
      · rw [if_neg c, if_neg c]
theorem trim_left : ∀ (l : List Int), l.length ≤ 300 → (∀ x ∈ l, 0 ≤ x ∧ x < 256) → ∀ k, 2 * l.length + 3 < k → laws_inlineTrim.l0 k (strOfNums l) = some (strOfNums (trimB l)) := by
  intro l
  induction l with
  | nil =>
    intro _ hb k hk
    obtain ⟨k, rfl⟩ : ∃ m, k = m + 2 := ⟨k - 2, by omega⟩
    rw [show k + 2 = k + 1 + 1 from rfl]
    simp only [laws_inlineTrim.l0]
    rw [if_pos (by rw [str_nil])]
    simp only [laws_inlineTrim.j1]
    rw [trim_right 0 [] rfl (by omega) hb k (by simp at hk; omega)]
    rfl
  | cons x l ih =>
    intro hl hb k hk
    rw [List.length_cons] at hl hk
    obtain ⟨k, rfl⟩ : ∃ m, k = m + 1 := ⟨k - 1, by omega⟩
    have hz : (strOfNums (x :: l)).size = l.length + 1 := by rw [strOfNums_size, List.length_cons]
    have hx : bt (strOfNums (x :: l)) 0 = x := by
      have := bt_str (x :: l) hb 0
      simpa using this
    simp only [laws_inlineTrim.l0]
    rw [if_neg (by rw [str_nil]; simp), if_pos (by omega), hx, blank_eq]
    simp only [Option.bind_some]
    by_cases c : Hand.blankB x = true
    · rw [if_pos c, if_pos (by omega), str_tail, ih (by omega) (fun y hy => hb y (by simp [hy])) k (by omega)]
      unfold trimB
      rw [List.dropWhile_cons, if_pos c]
    · rw [if_neg c]
      obtain ⟨k, rfl⟩ : ∃ m, k = m + 1 := ⟨k - 1, by omega⟩
      simp only [laws_inlineTrim.j1]
      rw [trim_right (l.length + 1) (x :: l) (by simp) hl hb k (by omega)]
      unfold trimB rt
      rw [List.dropWhile_cons, if_neg c]
/-- What stands behind i characters. -/
def S (m : List Int) (i : Nat) : List Int × Nat := Hand.sq ((m.map phi).take i)
theorem S_next (m : List Int) (i : Nat) (h : i < m.length) : S m (i + 1) = Hand.stp (S m i) (phi (m.getD i 0)) := by
  unfold S
  rw [Hand.sq_next _ i (by rw [List.length_map]; exact h)]
  congr 1
  simp [List.getD_eq_getElem?_getD, h]
theorem S_count (m : List Int) (hm : ∀ x ∈ m, okC x) : ∀ i, i < m.length → ((0 < (S m (i + 1)).2) ↔ Hand.blankB (m.getD i 0) = true) := by
  intro i hi
  have ho : okC (m.getD i 0) := by
    rw [show m.getD i 0 = m[i]'hi from by simp [hi]]
    exact hm _ (List.getElem_mem _)
  rw [S_next m i hi]
  cases hb : Hand.blankB (m.getD i 0) with
  | true =>
    rw [phi_blank ho hb]
    unfold Hand.stp
    rw [if_pos rfl]
    split <;> simp
  | false =>
    obtain ⟨e, hx⟩ := phi_other hb
    rw [e]
    unfold Hand.stp
    rw [if_neg hx]
    simp
theorem one_loop (m : List Int) (hm : ∀ x ∈ m, okC x) (hl : m.length ≤ 300) : ∀ (d i k : Nat), m.length - i = d → i ≤ m.length → d < k →
    spec_OneSpace.l0 k (strOfNums m) (S m i).1 ((strOfNums m).size : Int) (i : Int) = some (strOfNums (S m m.length).1) := by
  have hb : ∀ x ∈ m, 0 ≤ x ∧ x < 256 := fun x hx => by have := hm x hx; unfold okC at this; omega
  have hz := strOfNums_size m
  intro d
  induction d with
  | zero =>
    intro i k hd hi hk
    obtain ⟨k, rfl⟩ : ∃ n, k = n + 1 := ⟨k - 1, by omega⟩
    obtain rfl : i = m.length := by omega
    simp only [spec_OneSpace.l0]
    rw [if_neg (by omega)]
  | succ d ih =>
    intro i k hd hi hk
    obtain ⟨k, rfl⟩ : ∃ n, k = n + 1 := ⟨k - 1, by omega⟩
    have hlt : i < m.length := by omega
    have ho : okC (m.getD i 0) := by
      rw [show m.getD i 0 = m[i]'hlt from by simp [hlt]]
      exact hm _ (List.getElem_mem _)
    have next := ih (i + 1) k (by omega) (by omega) (by omega)
    have hsl : (S m i).1.length ≤ 300 := by
      have h1 := (Hand.sq_len ((m.map phi).take i)).1
      rw [List.length_take, List.length_map] at h1
      unfold S
      omega
    rw [S_next m i hlt] at next
    simp only [spec_OneSpace.l0]
    rw [if_pos (by omega), if_pos (by omega), if_pos (by omega), bt_str m hb i, blank_eq, wrap_up i (by omega)]
    simp only [Option.bind_some]
    cases hbl : Hand.blankB (m.getD i 0) with
    | true =>
      rw [if_pos (by trivial)]
      rw [phi_blank ho hbl] at next
      unfold Hand.stp at next
      rw [if_pos rfl] at next
      by_cases hi0 : i = 0
      · subst hi0
        rw [if_pos (by rfl), if_pos (by omega)]
        exact next
      · have hw : wrap64 ((i : Int) - 1) = ((i - 1 : Nat) : Int) := by unfold wrap64; omega
        have hc := S_count m hm (i - 1) (by omega)
        rw [show i - 1 + 1 = i by omega] at hc
        rw [if_neg (by omega), hw, if_pos (by omega), if_pos (by omega), bt_str m hb (i - 1), blank_eq]
        simp only [Option.bind_some]
        cases hb2 : Hand.blankB (m.getD (i - 1) 0) with
        | true =>
          rw [if_pos (by trivial)]
          rw [if_pos (hc.2 hb2)] at next
          exact next
        | false =>
          rw [if_neg (by simp), if_pos (by omega)]
          rw [if_neg (fun h => by rw [hc.1 h] at hb2; cases hb2)] at next
          exact next
    | false =>
      obtain ⟨e, hx⟩ := phi_other hbl
      rw [if_neg (by simp), if_pos (by omega)]
      rw [e] at next
      unfold Hand.stp at next
      rw [if_neg hx] at next
      exact next
theorem c10 : Hand.bys (⟨#[10]⟩ : ByteArray) = [10] := by decide +kernel
theorem c9 : Hand.bys (⟨#[9]⟩ : ByteArray) = [9] := by decide +kernel
theorem c32 : Hand.bys (⟨#[32]⟩ : ByteArray) = [32] := by decide +kernel
theorem FnInlineCode : laws_FnInlineCode.Pure := by
  intro s _
  refine ⟨1000, ?_⟩
  unfold laws_FnInlineCode.f
  by_cases h : (s.size : Int) > 2147483647
  · rw [if_pos h]
  rw [if_neg h, ascii_eq s 1000 (by omega)]
  simp only [Option.bind_some]
  have hz := size_ascii s
  have hle := ascii_len s
  have hok : ∀ x ∈ ascii s, okC x := ascii_ok s
  have hb := ascii_byte s
  have hba := bys_ascii s
  generalize ascii s = l at *
  obtain ⟨d, hd⟩ : ∃ d : Nat, d = 400 := ⟨_, rfl⟩
  have h1 : GIn1.textutils_zzReplaceAll.f 1000 l ⟨#[10]⟩ ⟨#[32]⟩ = some (l.map (f1 10)) := by
    rw [rep_eq ⟨#[10]⟩ ⟨#[32]⟩ (by decide) (by decide) (by decide) l hle hb d 1000 (by omega) (by omega), c10, c32, repl_map 10 d l (by omega)]
  have hb2 : ∀ x ∈ l.map (f1 10), 0 ≤ x ∧ x < 256 := by
    intro x hx
    obtain ⟨y, hy, rfl⟩ := List.mem_map.1 hx
    have := hb y hy
    unfold f1
    split <;> omega
  have h2 : GIn1.textutils_zzReplaceAll.f 1000 (l.map (f1 10)) ⟨#[9]⟩ ⟨#[32]⟩ = some (l.map phi) := by
    rw [rep_eq ⟨#[9]⟩ ⟨#[32]⟩ (by decide) (by decide) (by decide) (l.map (f1 10)) (by rw [List.length_map]; exact hle) hb2 d 1000 (by omega) (by omega), c9, c32, repl_map 9 d _ (by rw [List.length_map]; omega), List.map_map]
    rfl
  have hc : impl_InlineCode.f 1000 (strOfNums l) = some (strOfNums (Hand.sq (Hand.trimL (l.map phi))).1) := by
    unfold impl_InlineCode.f
    rw [if_pos (by omega), hba, h1]
    simp only [Option.bind_some]
    rw [h2]
    simp only [Option.bind_some]
    have hasc : ∀ x ∈ l.map phi, 0 ≤ x ∧ x < 128 := by
      intro x hx
      obtain ⟨y, hy, rfl⟩ := List.mem_map.1 hx
      have := hok y hy
      unfold okC at this
      unfold phi f1
      split <;> split <;> omega
    rw [if_pos ⟨by rw [List.length_map]; omega, by rw [List.length_map]; omega, hasc⟩]
  rw [hc]
  simp only [Option.bind_some]
  rw [show laws_inlineTrim.f 1000 (strOfNums l) = some (strOfNums (trimB l)) from trim_left l hle hb 1000 (by omega)]
  simp only [Option.bind_some]
  have hone : spec_OneSpace.f 1000 (strOfNums (trimB l)) = some (strOfNums (S (trimB l) (trimB l).length).1) := by
    have hl := trimB_len l
    have := one_loop (trimB l) (fun x hx => hok x (trimB_mem hx)) (by omega) (trimB l).length 0 1000 (by omega) (by omega) (by omega)
    exact this
  rw [hone]
  simp only [Option.bind_some]
  have he : S (trimB l) (trimB l).length = Hand.sq (Hand.trimL (l.map phi)) := by
    unfold S
    rw [trimL_eq l hok, List.take_of_length_le (by rw [List.length_map]; omega)]
  rw [he]
  simp
theorem FnInlineCode_walk (a0 : ByteArray) (W : World) (h : a0.size ≤ 140737488351232) (hT : Hand.TabB W) :
    Calls Tryd.prog 5 #[.string a0] W fun e w' => e = .returned (.bool true) ∧ Below W.heap.size W w' := by
  obtain ⟨k, hk⟩ := FnInlineCode a0 h
  exact laws_FnInlineCode.calls k a0 true W hk hT
end Go.Proofs.YtnhcocjdkmelhaaDoor.Pure
