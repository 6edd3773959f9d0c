/- FnQuery, the plain part: a query of names and values of letters and digits stays as it is. No condition. -/
import Derived.Test.YtnhcocjdkmelhaaDoorGFnQueryx3
namespace Go.Proofs.YtnhcocjdkmelhaaDoor.Pure
open Go.RowKit Go.Proofs.YtnhcocjdkmelhaaDoor.GFnQuery Go.Proofs.YtnhcocjdkmelhaaDoorW.PrintWords Go.Proofs.YtnhcocjdkmelhaaDoorW.PrintLast Go.Proofs.YtnhcocjdkmelhaaDoorW.PrintMore
open Hand (alI splitU splitB)
set_option linter.unusedVariables false
set_option linter.unusedSimpArgs false

theorem drop_cons (l : List Int) (i : Nat) (h : i < l.length) : l.drop i = l.getD i 0 :: l.drop (i + 1) := by
  rw [List.drop_eq_getElem_cons h]
  simp [h]
theorem wrap_up (i : Nat) (h : i ≤ 140737488351232) : wrap64 ((i : Int) + 1) = ((i + 1 : Nat) : Int) := by
  unfold wrap64
  omega
theorem take_getD (l : List Int) (n i : Nat) (h : i < n) : (l.take n).getD i 0 = l.getD i 0 := by
  simp [List.getD_eq_getElem?_getD, h]
/-- What inlineLetters makes of a text. -/
def letters (s : ByteArray) : List Int := ((Hand.bys s).take 40).filter alI
theorem letters_loop (s : ByteArray) (n : Nat) (hn : n ≤ s.size) (hn2 : n ≤ 40) : ∀ (d i k : Nat) (xs : List Int), n - i = d → i ≤ n → d < k → xs.length ≤ i →
    laws_inlineLetters.l0 k s xs (n : Int) (i : Int) = some (strOfNums (xs ++ (((Hand.bys s).take n).drop i).filter alI)) := by
  intro d
  induction d with
  | zero =>
    intro i k xs hd hi hk hx
    obtain ⟨k, rfl⟩ : ∃ m, k = m + 1 := ⟨k - 1, by omega⟩
    obtain rfl : i = n := by omega
    simp only [laws_inlineLetters.l0]
    rw [if_neg (by omega), List.drop_of_length_le (by rw [List.length_take]; omega)]
    simp
  | succ d ih =>
    intro i k xs hd hi hk hx
    obtain ⟨k, rfl⟩ : ∃ m, k = m + 1 := ⟨k - 1, by omega⟩
    have hlt : i < n := by omega
    have hl := Hand.bys_length s
    have hdc := drop_cons ((Hand.bys s).take n) i (by rw [List.length_take]; omega)
    rw [take_getD _ _ _ hlt, ← Hand.bt_bys] at hdc
    rw [hdc]
    simp only [laws_inlineLetters.l0]
    rw [if_pos (by omega), if_pos (by omega), if_pos (by omega), wrap_up i (by omega)]
    generalize bt s (i : Int) = x
    have h1 := ih (i + 1) k xs (by omega) (by omega) (by omega) (by omega)
    have h2 := ih (i + 1) k (xs ++ [x]) (by omega) (by omega) (by omega) (by simp; omega)
    have hxl : xs.length < 140737488355328 := by omega
    by_cases hx : alI x = true
    · rw [List.filter_cons_of_pos hx]
      rw [List.append_assoc, List.singleton_append] at h2
      have hr := Hand.alI_range hx
      repeat' split
      all_goals first | exact h2 | (exfalso; omega)
    · rw [List.filter_cons_of_neg hx]
      have hr : ¬ ((97 ≤ x ∧ x ≤ 122) ∨ (65 ≤ x ∧ x ≤ 90) ∨ (48 ≤ x ∧ x ≤ 57)) := by
        intro h
        apply hx
        simp only [alI, Bool.or_eq_true, Bool.and_eq_true, decide_eq_true_eq]
        omega
      repeat' split
      all_goals first | exact h1 | (exfalso; omega)
theorem letters_eq (s : ByteArray) (k : Nat) (hk : 40 < k) : laws_inlineLetters.f k s = some (strOfNums (letters s)) := by
  unfold laws_inlineLetters.f
  have hl := Hand.bys_length s
  have e : mn (s.size : Int) 40 = ((min s.size 40 : Nat) : Int) := by unfold mn; omega
  rw [e]
  have h := letters_loop s (min s.size 40) (by omega) (by omega) (min s.size 40) 0 k [] (by omega) (by omega) (by omega) (by simp)
  rw [show ((0 : Nat) : Int) = 0 from rfl] at h
  rw [h]
  have e2 : (Hand.bys s).take (min s.size 40) = (Hand.bys s).take 40 := by
    by_cases c : s.size ≤ 40
    · rw [List.take_of_length_le (by rw [hl]; omega), List.take_of_length_le (by rw [hl]; omega)]
    · rw [show min s.size 40 = 40 by omega]
  rw [List.nil_append, List.drop_zero, e2]
  rfl
theorem letters_al (s : ByteArray) : ∀ x ∈ letters s, alI x = true := fun _ hx => (List.mem_filter.1 hx).2
theorem letters_len (s : ByteArray) : (letters s).length ≤ 40 := by
  have h1 := List.length_filter_le alI ((Hand.bys s).take 40)
  have h2 := List.length_take_le 40 (Hand.bys s)
  unfold letters
  omega
def g8 (n : Int) : UInt8 := UInt8.ofNat n.toNat
def word (l : List Int) : List UInt8 := l.map g8
theorem str_word (l : List Int) : strOfNums l = ⟨(word l).toArray⟩ := rfl
theorem al_byte : ∀ n, n < 128 → n ≠ 38 → n ≠ 61 → (UInt8.ofNat n ≠ 38 ∧ UInt8.ofNat n ≠ 61) := by decide
theorem word_no {l : List Int} (h : ∀ x ∈ l, alI x = true) : (38 : UInt8) ∉ word l ∧ (61 : UInt8) ∉ word l := by
  have key : ∀ x ∈ l, g8 x ≠ 38 ∧ g8 x ≠ 61 := by
    intro x hx
    have hr := Hand.alI_range (h x hx)
    exact al_byte x.toNat (by omega) (by omega) (by omega)
  constructor
  · intro hm
    obtain ⟨x, hx, e⟩ := List.mem_map.1 hm
    exact (key x hx).1 e
  · intro hm
    obtain ⟨x, hx, e⟩ := List.mem_map.1 hm
    exact (key x hx).2 e
/-- The name with its k, the value with its v. -/
def keyW (a : S32) : List Int := 107 :: letters a.f0
def valW (a : S32) : List Int := 118 :: letters a.f1
def piece (a : S32) : List UInt8 := word (keyW a) ++ 61 :: word (valW a)
theorem keyW_al (a : S32) : ∀ x ∈ keyW a, alI x = true := by
  intro x hx
  rcases List.mem_cons.1 hx with rfl | h
  · decide
  · exact letters_al _ x h
theorem valW_al (a : S32) : ∀ x ∈ valW a, alI x = true := by
  intro x hx
  rcases List.mem_cons.1 hx with rfl | h
  · decide
  · exact letters_al _ x h
theorem keyW_len (a : S32) : (keyW a).length ≤ 41 := by have := letters_len a.f0; simp [keyW]; omega
theorem valW_len (a : S32) : (valW a).length ≤ 41 := by have := letters_len a.f1; simp [valW]; omega
theorem word_length (l : List Int) : (word l).length = l.length := List.length_map _
theorem piece_len (a : S32) : (piece a).length ≤ 83 := by
  have h1 := keyW_len a
  have h2 := valW_len a
  simp only [piece, List.length_append, List.length_cons, word_length]
  omega
theorem piece_no (a : S32) : (38 : UInt8) ∉ piece a := by
  intro h
  unfold piece at h
  rcases List.mem_append.1 h with h | h
  · exact (word_no (keyW_al a)).1 h
  · rcases List.mem_cons.1 h with h | h
    · exact absurd h (by decide)
    · exact (word_no (valW_al a)).1 h
/-- Joined by '&'. -/
def jn : List (List UInt8) → List UInt8
  | [] => []
  | [x] => x
  | x :: y :: r => x ++ 38 :: jn (y :: r)
theorem jn_snoc : ∀ (xs : List (List UInt8)) (y : List UInt8), xs ≠ [] → jn (xs ++ [y]) = jn xs ++ 38 :: y := by
  intro xs
  induction xs with
  | nil => intro y h; exact absurd rfl h
  | cons x t ih =>
    intro y _
    cases t with
    | nil => rfl
    | cons z r =>
      have := ih y (by simp)
      simp only [List.cons_append, jn] at this ⊢
      rw [this]
      simp
theorem jn_join : ∀ xs : List (List UInt8), Lib.join xs [38] = jn xs := by
  intro xs
  induction xs with
  | nil => rfl
  | cons x t ih =>
    cases t with
    | nil => simp [Lib.join, jn, List.intercalate]
    | cons z r =>
      simp only [Lib.join, List.intercalate, jn] at ih ⊢
      simp only [List.intersperse, List.flatten_cons] at ih ⊢
      rw [← ih]
      rfl
theorem jn_split : ∀ xs : List (List UInt8), xs ≠ [] → (∀ x ∈ xs, (38 : UInt8) ∉ x) → splitU (jn xs) = xs := by
  intro xs
  induction xs with
  | nil => intro h; exact absurd rfl h
  | cons x t ih =>
    intro _ h
    cases t with
    | nil => exact Hand.splitU_none x (h x (by simp))
    | cons z r =>
      simp only [jn]
      rw [Hand.splitU_at x _ (h x (by simp)), ih (by simp) (fun y hy => h y (by simp [hy]))]
theorem jn_len (xs : List (List UInt8)) (h : ∀ x ∈ xs, x.length ≤ 83) : (jn xs).length ≤ 84 * xs.length := by
  induction xs with
  | nil => simp [jn]
  | cons x t ih =>
    have h1 := h x (by simp)
    have h2 := ih (fun y hy => h y (by simp [hy]))
    cases t with
    | nil => simp [jn]; omega
    | cons z r =>
      simp only [jn, List.length_append, List.length_cons] at h2 ⊢
      omega
/-- The parts of a query. -/
def partsB (ls : List S32) : List ByteArray := ls.map (fun a => (⟨(piece a).toArray⟩ : ByteArray))
def raw (ls : List S32) : ByteArray := ⟨(jn (ls.map piece)).toArray⟩
theorem raw_data (ls : List S32) : (raw ls).data.toList = jn (ls.map piece) := rfl
theorem raw_size (ls : List S32) : (raw ls).size ≤ 84 * ls.length := by
  have h := jn_len (ls.map piece) (fun x hx => by obtain ⟨a, _, rfl⟩ := List.mem_map.1 hx; exact piece_len a)
  rw [List.length_map] at h
  simpa [raw, ByteArray.size] using h
theorem raw_split (ls : List S32) (h : ls ≠ []) : splitB (raw ls) = partsB ls := by
  unfold splitB partsB
  rw [raw_data, jn_split _ (by simpa using h) (fun x hx => by obtain ⟨a, _, rfl⟩ := List.mem_map.1 hx; exact piece_no a), List.map_map]
  rfl
theorem toList_data (s : ByteArray) : s.toList = s.data.toList := by rw [ByteArray.toList_eq]
theorem raw_nil (ls : List S32) : (raw ls).toList = [] ↔ ls = [] := by
  rw [toList_data, raw_data]
  cases ls with
  | nil => simp [jn]
  | cons a t =>
    have hp : piece a ≠ [] := by simp [piece, keyW, word]
    cases t with
    | nil => simp [jn, hp]
    | cons b r => simp [jn]
theorem two_loop (s : ByteArray) (a b : List UInt8) (he : s.data.toList = a ++ 61 :: b) (ha : (61 : UInt8) ∉ a) (hs : s.size ≤ 100000) : ∀ (d i k : Nat), a.length - i = d → i ≤ a.length → d < k →
    converter_zzSplitTwo.l0 k s 61 (i : Int) = some [⟨a.toArray⟩, ⟨b.toArray⟩] := by
  have hsz : s.data.toList.length = s.size := Array.length_toList ..
  have hlen : a.length + 1 + b.length = s.size := by rw [← hsz, he]; simp; omega
  have hbt : ∀ i (h : i < s.size), bt s (i : Int) = ((s.data.toList[i]'(by omega)).toNat : Int) := by
    intro i h
    unfold bt
    rw [dif_pos (by simpa using h)]
    rfl
  intro d
  induction d with
  | zero =>
    intro i k hd hi hk
    obtain ⟨k, rfl⟩ : ∃ m, k = m + 1 := ⟨k - 1, by omega⟩
    obtain rfl : i = a.length := by omega
    have hw : wrap64 ((a.length : Int) + 1) = ((a.length + 1 : Nat) : Int) := wrap_up _ (by omega)
    have hx : bt s (a.length : Int) = 61 := by
      rw [hbt _ (by omega)]
      simp [he]
    simp only [converter_zzSplitTwo.l0]
    rw [if_pos (by omega), if_pos (by omega), if_pos hx, hw, if_pos (by omega), if_pos (by omega), if_pos (by omega), show ((a.length : Int)).toNat = a.length from by omega, show (((a.length + 1 : Nat) : Int)).toNat = a.length + 1 from by omega, Lib.extract_upto, Lib.extract_from, he]
    simp
  | succ d ih =>
    intro i k hd hi hk
    obtain ⟨k, rfl⟩ : ∃ m, k = m + 1 := ⟨k - 1, by omega⟩
    have hlt : i < a.length := by omega
    have hx : ¬ bt s (i : Int) = 61 := by
      rw [hbt _ (by omega)]
      intro e
      apply ha
      have e2 : s.data.toList[i]'(by omega) = a[i]'hlt := by
        simp [he, List.getElem_append_left hlt]
      rw [e2] at e
      have e3 : a[i]'hlt = 61 := by
        apply UInt8.toNat_inj.1
        simpa using (by omega : (a[i]'hlt).toNat = 61)
      rw [← e3]
      exact List.getElem_mem _
    simp only [converter_zzSplitTwo.l0]
    rw [if_pos (by omega), if_pos (by omega), if_neg hx, wrap_up i (by omega)]
    exact ih (i + 1) k (by omega) (by omega) (by omega)
theorem two_eq (a : S32) (k : Nat) (hk : 50 < k) : converter_zzSplitTwo.f k ⟨(piece a).toArray⟩ 61 = some [strOfNums (keyW a), strOfNums (valW a)] := by
  have h1 := keyW_len a
  have h2 := piece_len a
  unfold converter_zzSplitTwo.f
  exact two_loop ⟨(piece a).toArray⟩ (word (keyW a)) (word (valW a)) rfl (word_no (keyW_al a)).2 (by simp [ByteArray.size]; omega) (keyW a).length 0 k (by rw [word_length]; omega) (by omega) (by omega)
theorem decode_eq (l : List Int) (h : ∀ x ∈ l, alI x = true) (hl : l.length ≤ 1000) : converter_decodeAndEncode.f (strOfNums l) = some (strOfNums l) := by
  unfold converter_decodeAndEncode.f
  refine if_pos ⟨by rw [strOfNums_size]; exact hl, ?_⟩
  rw [Hand.nums_byte l (fun x hx => by have := Hand.alI_range (h x hx); omega)]
  exact List.all_eq_true.2 h
theorem set_next (ps : List ByteArray) (i : Nat) (h : i < ps.length) (e : ByteArray) : (ps.take i ++ List.replicate (ps.length - i) e).set i (ps[i]'h) = ps.take (i + 1) ++ List.replicate (ps.length - (i + 1)) e := by
  rw [List.set_append_right _ _ (by rw [List.length_take]; omega), List.length_take, Nat.min_eq_left (by omega), Nat.sub_self, show ps.length - i = (ps.length - (i + 1)) + 1 by omega, List.replicate_succ, List.set_cons_zero, List.take_succ_eq_append_getElem h, List.append_assoc]
  rfl
theorem parse_loop (ls : List S32) (hl : ls.length ≤ 20) : ∀ (d i k : Nat), ls.length - i = d → i ≤ ls.length → d + 60 < k →
    converter_ParseAndEncodeQuery.l0 k ((partsB ls).take i ++ List.replicate ((partsB ls).length - i) ⟨#[]⟩) (partsB ls) ((partsB ls).length : Int) (i : Int) = some (raw ls) := by
  have hpl : (partsB ls).length = ls.length := List.length_map _
  intro d
  induction d with
  | zero =>
    intro i k hd hi hk
    obtain ⟨k, rfl⟩ : ∃ m, k = m + 1 := ⟨k - 1, by omega⟩
    simp only [converter_ParseAndEncodeQuery.l0]
    rw [if_neg (by omega), List.take_of_length_le (by omega), show (partsB ls).length - i = 0 by omega, List.replicate_zero, List.append_nil]
    have hj : Lib.join ((partsB ls).map (·.data.toList)) ((⟨#[38]⟩ : ByteArray).data.toList) = jn (ls.map piece) := by
      rw [show ((⟨#[38]⟩ : ByteArray).data.toList) = [38] from rfl, jn_join]
      unfold partsB
      rw [List.map_map]
      rfl
    have hs := raw_size ls
    have : strings_Join.f (partsB ls) (⟨#[38]⟩ : ByteArray) = some (raw ls) := by
      unfold strings_Join.f
      rw [hj, if_pos ⟨by omega, by
        have h2 := jn_len (ls.map piece) (fun x hx => by obtain ⟨a, _, rfl⟩ := List.mem_map.1 hx; exact piece_len a)
        rw [List.length_map] at h2
        omega⟩]
      rfl
    rw [this]
    rfl
  | succ d ih =>
    intro i k hd hi hk
    obtain ⟨k, rfl⟩ : ∃ m, k = m + 1 := ⟨k - 1, by omega⟩
    have hlt : i < ls.length := by omega
    have next := ih (i + 1) k (by omega) (by omega) (by omega)
    have hpi : rdOf ByteArray.empty (partsB ls) (i : Int) = ⟨(piece (ls[i]'hlt)).toArray⟩ := by
      simp [rdOf, partsB, hlt]
    have hpi2 : (partsB ls)[i]'(by omega) = ⟨(piece (ls[i]'hlt)).toArray⟩ := by simp [partsB]
    rw [← set_next (partsB ls) i (by omega), hpi2] at next
    generalize ls[i]'hlt = a at *
    have hk1 := keyW_len a
    have hv1 := valW_len a
    have hz : ¬ (strOfNums (valW a)).toList = ([] : List UInt8) := by
      rw [Lib.strOfNums_toList]
      simp [Lib.bytesOf, valW]
    have hfin : (strOfNums (keyW a) ++ (⟨#[61]⟩ : ByteArray)) ++ strOfNums (valW a) = ⟨(piece a).toArray⟩ := by
      apply ByteArray.ext
      apply Array.ext'
      simp [str_word, piece, ByteArray.data_append]
    have e1 : (⟨#[61]⟩ : ByteArray).size = 1 := rfl
    simp only [converter_ParseAndEncodeQuery.l0]
    rw [if_pos (by omega), if_pos (by omega), if_pos (by omega), hpi, two_eq a k (by omega)]
    simp only [Option.bind_some]
    have r0 : rdOf ByteArray.empty [strOfNums (keyW a), strOfNums (valW a)] 0 = strOfNums (keyW a) := rfl
    have r1 : rdOf ByteArray.empty [strOfNums (keyW a), strOfNums (valW a)] 1 = strOfNums (valW a) := rfl
    have hl2 : (([strOfNums (keyW a), strOfNums (valW a)] : List ByteArray).length : Int) = 2 := rfl
    rw [hl2, if_neg (by omega), if_pos (by omega), r0, r1, if_neg hz, if_pos (by omega), decode_eq _ (keyW_al a) (by omega)]
    simp only [Option.bind_some]
    rw [if_pos (by rw [strOfNums_size]; omega), decode_eq _ (valW_al a) (by omega)]
    simp only [Option.bind_some]
    rw [if_pos (by rw [ByteArray.size_append, strOfNums_size, strOfNums_size, e1]; omega), if_pos (by simp; omega), hfin, wrap_up i (by omega), show ((i : Int)).toNat = i from by omega]
    exact next
theorem query_eq (ls : List S32) (hl : ls.length ≤ 20) (k : Nat) (hk : 100 < k) : impl_Query.f k (raw ls) = some (raw ls) := by
  unfold impl_Query.f converter_ParseAndEncodeQuery.f
  by_cases h0 : ls = []
  · subst h0
    rw [if_pos ((raw_nil []).2 rfl)]
    rfl
  · have hs := raw_size ls
    have hpl : (partsB ls).length = ls.length := List.length_map _
    have hsp : converter_zzSplit.f (raw ls) (⟨#[38]⟩ : ByteArray) = some (partsB ls) := by
      unfold converter_zzSplit.f
      rw [if_pos ⟨by omega, rfl⟩, raw_split ls h0]
    rw [if_neg (fun h => h0 ((raw_nil ls).1 h)), hsp]
    simp only [Option.bind_some]
    rw [if_pos (by omega), if_pos (by omega)]
    have := parse_loop ls hl ls.length 0 k (by omega) (by omega) (by omega)
    rw [List.take_zero, List.nil_append, Nat.sub_zero] at this
    rw [show (((partsB ls).length : Int)).toNat = (partsB ls).length from by omega]
    rw [show ((0 : Nat) : Int) = 0 from rfl] at this
    rw [this]
    rfl
theorem law_loop (ls : List S32) (hl : ls.length ≤ 20) : ∀ (d i k : Nat), ls.length - i = d → i ≤ ls.length → d + 200 < k → laws_FnQuery.l0 k (raw (ls.take i)) ls (ls.length : Int) (i : Int) = some true := by
  intro d
  induction d with
  | zero =>
    intro i k hd hi hk
    obtain ⟨k, rfl⟩ : ∃ m, k = m + 1 := ⟨k - 1, by omega⟩
    simp only [laws_FnQuery.l0]
    rw [if_neg (by omega), List.take_of_length_le (by omega), query_eq ls hl k (by omega)]
    simp only [Option.bind_some]
    rw [if_pos (by trivial)]
    rfl
  | succ d ih =>
    intro i k hd hi hk
    obtain ⟨k, rfl⟩ : ∃ m, k = m + 1 := ⟨k - 1, by omega⟩
    have hlt : i < ls.length := by omega
    have next := ih (i + 1) k (by omega) (by omega) (by omega)
    have hrd : rd_T32 ls (i : Int) = ls[i]'hlt := by simp [rd_T32, hlt]
    have hrs := raw_size (ls.take i)
    rw [List.length_take] at hrs
    rw [List.take_succ_eq_append_getElem hlt] at next
    generalize ls[i]'hlt = a at *
    have hk1 := letters_len a.f0
    have hv1 := letters_len a.f1
    have e1 : (⟨#[107]⟩ : ByteArray).size = 1 := rfl
    have e2 : (⟨#[61, 118]⟩ : ByteArray).size = 2 := rfl
    have e3 : (⟨#[38]⟩ : ByteArray).size = 1 := rfl
    have hp : (((⟨#[107]⟩ : ByteArray) ++ strOfNums (letters a.f0)) ++ (⟨#[61, 118]⟩ : ByteArray)) ++ strOfNums (letters a.f1) = ⟨(piece a).toArray⟩ := by
      apply ByteArray.ext
      apply Array.ext'
      simp [str_word, piece, ByteArray.data_append, keyW, valW, word, g8]
    have hnext0 : ls.take i = [] → raw (ls.take i) ++ ⟨(piece a).toArray⟩ = raw (ls.take i ++ [a]) := by
      intro h
      rw [h]
      apply ByteArray.ext
      apply Array.ext'
      simp [raw, jn, ByteArray.data_append]
    have hnext1 : ls.take i ≠ [] → (raw (ls.take i) ++ (⟨#[38]⟩ : ByteArray)) ++ ⟨(piece a).toArray⟩ = raw (ls.take i ++ [a]) := by
      intro h
      apply ByteArray.ext
      apply Array.ext'
      simp only [raw, ByteArray.data_append, Array.toList_append, List.map_append, List.map_cons, List.map_nil]
      rw [jn_snoc _ _ (by simpa using h)]
      simp
    simp only [laws_FnQuery.l0]
    rw [if_pos (by omega), if_pos (by omega), if_pos (by omega), hrd, letters_eq a.f0 k (by omega), letters_eq a.f1 k (by omega)]
    simp only [Option.bind_some]
    rw [hp, wrap_up i (by omega)]
    have hz0 := strOfNums_size (letters a.f0)
    have hz1 := strOfNums_size (letters a.f1)
    have hz2 : (⟨(piece a).toArray⟩ : ByteArray).size ≤ 83 := by have := piece_len a; simpa [ByteArray.size] using this
    by_cases h0 : (raw (ls.take i)).toList = []
    · rw [if_pos h0, if_pos (by omega), if_pos (by rw [ByteArray.size_append, e1]; omega), if_pos (by rw [ByteArray.size_append, ByteArray.size_append, e1, e2]; omega), if_pos (by omega), hnext0 ((raw_nil _).1 h0)]
      exact next
    · rw [if_neg h0, if_pos (by omega), if_pos (by omega), if_pos (by rw [ByteArray.size_append, e1]; omega), if_pos (by rw [ByteArray.size_append, ByteArray.size_append, e1, e2]; omega), if_pos (by rw [ByteArray.size_append, e3]; omega), hnext1 (fun h => h0 ((raw_nil _).2 h))]
      exact next
theorem fits3_loop (l : List S32) (hl : (l.length : Int) ≤ 2147483647) : ∀ (k i : Nat), l.length - i < k → i ≤ l.length → ∃ r, laws_zzFits3.l0 k l (l.length : Int) (i : Int) = some r
  | 0, i, h, _ => by omega
  | k + 1, i, h, hi => by
    by_cases hc : i < l.length
    · have hw : wrap64 ((i : Int) + 1) = ((i + 1 : Nat) : Int) := by unfold wrap64; omega
      have h4 : ∃ r, laws_zzFits4.f (rd_T32 l (i : Int)).f0 (rd_T32 l (i : Int)).f1 = some r := by
        unfold laws_zzFits4.f
        split
        · exact ⟨_, rfl⟩
        · split <;> exact ⟨_, rfl⟩
      obtain ⟨r, hr⟩ := h4
      obtain ⟨r2, hr2⟩ := fits3_loop l hl k (i + 1) (by omega) (by omega)
      rw [laws_zzFits3.l0, if_pos (by omega), if_pos (by omega), if_pos (by omega), hr, Option.bind_some, hw, hr2]
      split <;> exact ⟨_, rfl⟩
    · rw [laws_zzFits3.l0, if_neg (by omega)]
      exact ⟨_, rfl⟩
theorem law_true (l : List S32) : ∃ k, laws_FnQuery.f k l = some true := by
  refine ⟨l.length + 1000, ?_⟩
  have h3 : ∃ r, laws_zzFits3.f (l.length + 1000) l = some r := by
    unfold laws_zzFits3.f
    split
    · exact ⟨_, rfl⟩
    · exact fits3_loop l (by omega) _ 0 (by omega) (by omega)
  obtain ⟨r, hr⟩ := h3
  unfold laws_FnQuery.f
  rw [hr]
  simp only [Option.bind_some]
  cases r with
  | false => rw [if_neg (by simp)]
  | true =>
    have e : mn (l.length : Int) 20 = ((min l.length 20 : Nat) : Int) := by unfold mn; omega
    rw [if_pos rfl, e, if_pos (by omega), if_pos (by omega), show (((min l.length 20 : Nat) : Int)).toNat = min l.length 20 from by omega]
    have hlen : (l.take (min l.length 20)).length ≤ 20 := by rw [List.length_take]; omega
    have := law_loop (l.take (min l.length 20)) hlen _ 0 (l.length + 1000) rfl (Nat.zero_le _) (by omega)
    exact this
theorem FnQuery_walk {W : World} (A0 : Option Addr) (c0 : Nat) (l0 : List S32) (hC0 : Kd.C k32 W A0 l0.length l0) (hc0 : l0.length ≤ c0) (hT : Hand.TabB W) :
    Calls Tryd.prog 6 #[.slice A0 l0.length c0] W fun e w' => e = .returned (.bool true) ∧ Below W.heap.size W w' := by
  obtain ⟨k, h⟩ := law_true l0
  exact laws_FnQuery.calls k A0 c0 l0 true W hC0 hc0 h hT
end Go.Proofs.YtnhcocjdkmelhaaDoor.Pure
