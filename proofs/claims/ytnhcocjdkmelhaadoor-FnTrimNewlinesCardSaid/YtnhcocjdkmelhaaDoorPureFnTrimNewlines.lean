/- FnTrimNewlines, the plain part: never three newlines in a row; nothing but white space is lost; done again it changes nothing. No condition. -/
import Derived.Test.YtnhcocjdkmelhaaDoorGFnTrimNewlinesx1
namespace Go.Proofs.YtnhcocjdkmelhaaDoor.Pure
open Go.RowKit Go.Proofs.YtnhcocjdkmelhaaDoor.GFnTrimNewlines Go.Proofs.YtnhcocjdkmelhaaDoorW.PrintWords Go.Proofs.YtnhcocjdkmelhaaDoorW.PrintLast
set_option linter.unusedVariables false
set_option linter.unusedSimpArgs false

/-- The bytes that inlineASCII keeps. -/
def okA (x : Int) : Bool := (decide (32 ≤ x) && decide (x ≤ 126)) || (x == 9 || x == 10)
theorem okA_iff {x : Int} : okA x = true ↔ (32 ≤ x ∧ x ≤ 126) ∨ x = 9 ∨ x = 10 := by simp [okA]
theorem drop_cons (l : List Int) (i : Nat) (h : i < l.length) : l.drop i = l.getD i 0 :: l.drop (i + 1) := by
  rw [List.drop_eq_getElem_cons h]
  simp [h]
theorem wrap_up (i : Nat) (h : i ≤ 140737488351232) : wrap64 ((i : Int) + 1) = ((i + 1 : Nat) : Int) := by
  unfold wrap64
  omega
theorem take_getD (l : List Int) (n i : Nat) (h : i < n) : (l.take n).getD i 0 = l.getD i 0 := by
  simp [List.getD_eq_getElem?_getD, h]
/-- What inlineASCII makes of a text. -/
def ascii (s : ByteArray) : List Int := ((Hand.bys s).take 300).filter okA
theorem ascii_loop (s : ByteArray) (n : Nat) (hn : n ≤ s.size) (hn2 : n ≤ 300) : ∀ (d i k : Nat) (xs : List Int), n - i = d → i ≤ n → d < k → xs.length ≤ i →
    laws_inlineASCII.l0 k s xs (n : Int) (i : Int) = some (strOfNums (xs ++ (((Hand.bys s).take n).drop i).filter okA)) := by
  intro d
  induction d with
  | zero =>
    intro i k xs hd hi hk hx
    obtain ⟨k, rfl⟩ : ∃ m, k = m + 1 := ⟨k - 1, by omega⟩
    obtain rfl : i = n := by omega
    simp only [laws_inlineASCII.l0]
    rw [if_neg (by omega), List.drop_of_length_le (by rw [List.length_take]; omega)]
    simp
  | succ d ih =>
    intro i k xs hd hi hk hx
    obtain ⟨k, rfl⟩ : ∃ m, k = m + 1 := ⟨k - 1, by omega⟩
    have hlt : i < n := by omega
    have hl := Hand.bys_length s
    have hdc := drop_cons ((Hand.bys s).take n) i (by rw [List.length_take]; omega)
    rw [take_getD _ _ _ hlt, ← Hand.bt_bys] at hdc
    rw [hdc]
    simp only [laws_inlineASCII.l0]
    rw [if_pos (by omega), if_pos (by omega), if_pos (by omega), wrap_up i (by omega)]
    generalize bt s (i : Int) = x
    have h1 := ih (i + 1) k xs (by omega) (by omega) (by omega) (by omega)
    have h2 := ih (i + 1) k (xs ++ [x]) (by omega) (by omega) (by omega) (by simp; omega)
    have hxl : xs.length < 140737488355328 := by omega
    by_cases hx : okA x = true
    · rw [List.filter_cons_of_pos hx]
      rw [List.append_assoc, List.singleton_append] at h2
      rw [okA_iff] at hx
      repeat' split
      all_goals first | exact h2 | (exfalso; omega)
    · rw [List.filter_cons_of_neg hx]
      rw [okA_iff] at hx
      repeat' split
      all_goals first | exact h1 | (exfalso; omega)
theorem ascii_eq (s : ByteArray) (k : Nat) (hk : 300 < k) : laws_inlineASCII.f k s = some (strOfNums (ascii s)) := by
  unfold laws_inlineASCII.f
  have hl := Hand.bys_length s
  have e : mn (s.size : Int) 300 = ((min s.size 300 : Nat) : Int) := by unfold mn; omega
  rw [e]
  have h := ascii_loop s (min s.size 300) (by omega) (by omega) (min s.size 300) 0 k [] (by omega) (by omega) (by omega) (by simp)
  rw [show ((0 : Nat) : Int) = 0 from rfl] at h
  rw [h]
  have e2 : (Hand.bys s).take (min s.size 300) = (Hand.bys s).take 300 := by
    by_cases c : s.size ≤ 300
    · rw [List.take_of_length_le (by rw [hl]; omega), List.take_of_length_le (by rw [hl]; omega)]
    · rw [show min s.size 300 = 300 by omega]
  rw [List.nil_append, List.drop_zero, e2]
  rfl
theorem ascii_ok (s : ByteArray) : ∀ x ∈ ascii s, (32 ≤ x ∧ x ≤ 126) ∨ x = 9 ∨ x = 10 := fun _ hx => okA_iff.1 (List.mem_filter.1 hx).2
theorem ascii_byte (s : ByteArray) : ∀ x ∈ ascii s, 0 ≤ x ∧ x < 256 := by
  intro x hx
  have h := ascii_ok s x hx
  omega
theorem ascii_len (s : ByteArray) : (ascii s).length ≤ 300 := by
  have h1 := List.length_filter_le okA ((Hand.bys s).take 300)
  have h2 := List.length_take_le 300 (Hand.bys s)
  unfold ascii
  omega
theorem bys_ascii (s : ByteArray) : Hand.bys (strOfNums (ascii s)) = ascii s := Hand.nums_byte _ (ascii_byte s)
theorem size_ascii (s : ByteArray) : (strOfNums (ascii s)).size = (ascii s).length := strOfNums_size _
theorem blank_eq (x : Int) : spec_Blank.f x = some (Hand.blankB x) := by
  unfold spec_Blank.f Hand.blankB
  by_cases h1 : x = 32
  · simp [h1]
  · by_cases h2 : x = 9
    · simp [h2]
    · by_cases h3 : x = 10
      · simp [h3]
      · rw [if_neg h1, if_neg h2, if_neg h3]
        have e1 : (x == 32) = false := by simpa using h1
        have e2 : (x == 9) = false := by simpa using h2
        have e3 : (x == 10) = false := by simpa using h3
        rw [e1, e2, e3]
        simp

/-- No white space. -/
def solidP (x : Int) : Bool := !Hand.blankB x
theorem solid_loop (s : ByteArray) (hs : s.size ≤ 300) : ∀ (d i k : Nat) (xs : List Int), s.size - i = d → i ≤ s.size → d < k → xs.length ≤ i →
    spec_Solid.l0 k s xs (s.size : Int) (i : Int) = some (strOfNums (xs ++ ((Hand.bys s).drop i).filter solidP)) := by
  intro d
  have hl := Hand.bys_length s
  induction d with
  | zero =>
    intro i k xs hd hi hk hx
    obtain ⟨k, rfl⟩ : ∃ m, k = m + 1 := ⟨k - 1, by omega⟩
    obtain rfl : i = s.size := by omega
    simp only [spec_Solid.l0]
    rw [if_neg (by omega), List.drop_of_length_le (by omega)]
    simp
  | succ d ih =>
    intro i k xs hd hi hk hx
    obtain ⟨k, rfl⟩ : ∃ m, k = m + 1 := ⟨k - 1, by omega⟩
    have hdc := drop_cons (Hand.bys s) i (by omega)
    rw [← Hand.bt_bys] at hdc
    rw [hdc]
    simp only [spec_Solid.l0]
    rw [if_pos (by omega), if_pos (by omega), if_pos (by omega), blank_eq, wrap_up i (by omega)]
    simp only [Option.bind_some]
    by_cases hb : Hand.blankB (bt s (i : Int)) = true
    · rw [if_pos hb, List.filter_cons_of_neg (by simp [solidP, hb])]
      exact ih (i + 1) k xs (by omega) (by omega) (by omega) (by omega)
    · rw [if_neg hb, if_pos (by omega), List.filter_cons_of_pos (by simpa [solidP] using hb), ih (i + 1) k _ (by omega) (by omega) (by omega) (by simp; omega)]
      simp
theorem solid_eq (s : ByteArray) (hs : s.size ≤ 300) (k : Nat) (hk : 300 < k) : spec_Solid.f k s = some (strOfNums ((Hand.bys s).filter solidP)) := by
  unfold spec_Solid.f
  have h := solid_loop s hs s.size 0 k [] (by omega) (by omega) (by omega) (by simp)
  rw [show ((0 : Nat) : Int) = 0 from rfl] at h
  rw [h]
  simp

/-- The text without newlines behind two of them; n: newlines so far, buf: the blanks that wait. -/
def go : List Int → List Int → Nat → List Int → List Int
  | [], res, _, buf => res ++ buf
  | x :: l, res, n, buf => if x = 10 then (if n + 1 ≤ 2 then go l (res ++ buf ++ [10]) (n + 1) [] else go l res (n + 1) []) else (if x = 32 then go l res n (buf ++ [32]) else go l (res ++ buf ++ [x]) 0 [])
theorem go_len : ∀ (l res : List Int) (n : Nat) (buf : List Int), (go l res n buf).length ≤ res.length + buf.length + l.length := by
  intro l
  induction l with
  | nil => intro res n buf; simp [go]
  | cons x l ih =>
    intro res n buf
    simp only [go]
    split
    · split
      · have := ih (res ++ buf ++ [10]) (n + 1) []
        simp at this ⊢
        omega
      · have := ih res (n + 1) []
        simp at this ⊢
        omega
    · split
      · have := ih res n (buf ++ [32])
        simp at this ⊢
        omega
      · have := ih (res ++ buf ++ [x]) 0 []
        simp at this ⊢
        omega
theorem go_mem : ∀ (l res : List Int) (n : Nat) (buf : List Int), ∀ y ∈ go l res n buf, y ∈ res ∨ y ∈ buf ∨ y ∈ l ∨ y = 10 ∨ y = 32 := by
  intro l
  induction l with
  | nil => intro res n buf y h; simp [go] at h; rcases h with h | h <;> simp [h]
  | cons x l ih =>
    intro res n buf y h
    simp only [go] at h
    split at h
    · split at h
      · have := ih _ _ _ y h
        simp at this ⊢
        rcases this with (h | h | h) | h | h | h <;> simp [h]
      · have := ih _ _ _ y h
        simp at this ⊢
        rcases this with h | h | h | h <;> simp [h]
    · split at h
      · have := ih _ _ _ y h
        simp at this ⊢
        rcases this with h | (h | h) | h | h | h <;> simp [h]
      · have := ih _ _ _ y h
        simp at this ⊢
        rcases this with (h | h | h) | h | h | h <;> simp [h]
/-- Never more than two newlines, blanks between them left aside. -/
def ok : List Int → Nat → Bool
  | [], _ => true
  | x :: l, n => if x = 10 then (decide (n + 1 ≤ 2) && ok l (n + 1)) else (if x = 32 then ok l n else ok l 0)
/-- How many newlines stand at the end. -/
def cnt : List Int → Nat → Nat
  | [], n => n
  | x :: l, n => if x = 10 then cnt l (n + 1) else (if x = 32 then cnt l n else cnt l 0)
theorem ok_append : ∀ (a b : List Int) (n : Nat), ok (a ++ b) n = (ok a n && ok b (cnt a n)) := by
  intro a
  induction a with
  | nil => intro b n; simp [ok, cnt]
  | cons x a ih =>
    intro b n
    simp only [List.cons_append, ok, cnt]
    split
    · rw [ih, Bool.and_assoc]
    · split <;> exact ih _ _
theorem cnt_append : ∀ (a b : List Int) (n : Nat), cnt (a ++ b) n = cnt b (cnt a n) := by
  intro a
  induction a with
  | nil => intro b n; rfl
  | cons x a ih =>
    intro b n
    simp only [List.cons_append, cnt]
    split
    · exact ih _ _
    · split <;> exact ih _ _
theorem blanks_ok : ∀ (b : List Int) (n : Nat), (∀ x ∈ b, x = 32) → ok b n = true ∧ cnt b n = n := by
  intro b
  induction b with
  | nil => intro n _; exact ⟨rfl, rfl⟩
  | cons x b ih =>
    intro n h
    obtain rfl := h x (by simp)
    simp only [ok, cnt]
    exact ih n (fun y hy => h y (by simp [hy]))
theorem go_ok : ∀ (l res : List Int) (n : Nat) (buf : List Int), ok res 0 = true → cnt res 0 = min n 2 → (∀ x ∈ buf, x = 32) → ok (go l res n buf) 0 = true := by
  intro l
  induction l with
  | nil =>
    intro res n buf h1 h2 h3
    simp only [go]
    rw [ok_append, h1, (blanks_ok buf _ h3).1]
    rfl
  | cons x l ih =>
    intro res n buf h1 h2 h3
    simp only [go]
    have hb := blanks_ok buf (cnt res 0) h3
    split
    · split
      · refine ih _ _ _ ?_ ?_ (by simp)
        · rw [ok_append, ok_append, cnt_append, h1, hb.1, hb.2, h2]
          simp [ok]
          omega
        · rw [cnt_append, cnt_append, hb.2, h2]
          simp [cnt]
          omega
      · exact ih _ _ _ h1 (by omega) (by simp)
    · split
      · exact ih _ _ _ h1 h2 (fun y hy => by rcases List.mem_append.1 hy with h | h; exact h3 y h; simpa using h)
      · rename_i hx1 hx2
        refine ih _ _ _ ?_ ?_ (by simp)
        · rw [ok_append, ok_append, cnt_append, h1, hb.1]
          simp [ok, hx1, hx2]
        · rw [cnt_append]
          simp [cnt, hx1, hx2]
theorem go_same : ∀ (l res : List Int) (n : Nat) (buf : List Int), ok l n = true → go l res n buf = res ++ buf ++ l := by
  intro l
  induction l with
  | nil => intro res n buf _; simp [go]
  | cons x l ih =>
    intro res n buf h
    simp only [ok] at h
    simp only [go]
    split
    · rename_i hx
      rw [if_pos hx] at h
      simp only [Bool.and_eq_true, decide_eq_true_eq] at h
      rw [if_pos h.1, ih _ _ _ h.2, hx]
      simp
    · rename_i hx
      rw [if_neg hx] at h
      split
      · rename_i hx2
        rw [if_pos hx2] at h
        rw [ih _ _ _ h, hx2]
        simp
      · rename_i hx2
        rw [if_neg hx2] at h
        rw [ih _ _ _ h]
        simp
theorem ok_drop : ∀ (i : Nat) (l : List Int) (n : Nat), ok l n = true → ∃ m, ok (l.drop i) m = true := by
  intro i
  induction i with
  | zero => intro l n h; exact ⟨n, h⟩
  | succ i ih =>
    intro l n h
    cases l with
    | nil => exact ⟨0, rfl⟩
    | cons x l =>
      simp only [ok] at h
      rw [List.drop_succ_cons]
      split at h
      · exact ih l _ (by simp at h; exact h.2)
      · split at h <;> exact ih l _ h
theorem ok_three {l : List Int} (h : ok l 0 = true) (j : Nat) (hj : j + 2 < l.length) : ¬ (l.getD (j + 2) 0 = 10 ∧ l.getD (j + 1) 0 = 10 ∧ l.getD j 0 = 10) := by
  rintro ⟨h2, h1, h0⟩
  obtain ⟨m, hm⟩ := ok_drop j l 0 h
  rw [drop_cons l j (by omega), drop_cons l (j + 1) (by omega), drop_cons l (j + 1 + 1) (by omega), h0, h1, h2] at hm
  simp [ok] at hm
theorem go_solid : ∀ (l res : List Int) (n : Nat) (buf : List Int), (∀ x ∈ buf, x = 32) → (go l res n buf).filter solidP = res.filter solidP ++ l.filter solidP := by
  intro l
  have e10 : solidP 10 = false := rfl
  have e32 : solidP 32 = false := rfl
  have hbuf : ∀ b : List Int, (∀ x ∈ b, x = 32) → b.filter solidP = [] := by
    intro b hb
    rw [List.filter_eq_nil_iff]
    intro x hx
    rw [hb x hx, e32]
    simp
  induction l with
  | nil =>
    intro res n buf h
    simp [go, hbuf buf h]
  | cons x l ih =>
    intro res n buf h
    simp only [go]
    split
    · rename_i hx
      subst hx
      rw [List.filter_cons_of_neg (by simp [e10])]
      split
      · rw [ih _ _ _ (by simp), List.filter_append, List.filter_append, hbuf buf h]
        simp [e10]
      · exact ih _ _ _ (by simp)
    · split
      · rename_i hx
        subst hx
        rw [List.filter_cons_of_neg (by simp [e32])]
        exact ih _ _ _ (fun y hy => by rcases List.mem_append.1 hy with h4 | h4; exact h y h4; simpa using h4)
      · rw [ih _ _ _ (by simp), List.filter_append, List.filter_append, hbuf buf h, List.append_nil, List.append_assoc, ← List.filter_append]
        rfl
open Go.Proofs.YtnhcocjdkmelhaaDoor.GTn in
theorem decode_eq (l : List Int) (i k : Nat) (hi : i < l.length) (hb : ∀ x ∈ l, 0 ≤ x ∧ x < 128) (hk : 1 < k) : utf8_DecodeRune.f k (l.drop i) = some (l.getD i 0, 1) := by
  obtain ⟨k, rfl⟩ : ∃ m, k = m + 1 := ⟨k - 1, by omega⟩
  unfold utf8_DecodeRune.f
  simp only [utf8_DecodeRune.l0]
  have hr : rd (l.drop i) 0 = l.getD i 0 := by
    rw [drop_cons l i hi]
    rfl
  have hm : 0 ≤ l.getD i 0 ∧ l.getD i 0 < 128 := by
    rw [show l.getD i 0 = l[i]'hi from by simp [hi]]
    exact hb _ (List.getElem_mem _)
  rw [List.length_drop, if_pos (by omega), if_pos (by omega), if_pos (by omega), hr, if_pos hm.2]
  have : wrap32 (l.getD i 0) = l.getD i 0 := by unfold wrap32; omega
  rw [this]
open Go.Proofs.YtnhcocjdkmelhaaDoor.GTn in
set_option maxHeartbeats 1000000 in
theorem trim_loop (l : List Int) (hl : l.length ≤ 300) (hb : ∀ x ∈ l, 0 ≤ x ∧ x < 128) : ∀ (d i k n : Nat) (res buf : List Int), l.length - i = d → i ≤ l.length → d + 1 < k → res.length + buf.length ≤ i → n ≤ i →
    textutils_TrimConsecutiveNewlines.l0 k l res (n : Int) buf (i : Int) = some (go (l.drop i) res n buf) := by
  intro d
  induction d with
  | zero =>
    intro i k n res buf hd hi hk hx hn
    obtain ⟨k, rfl⟩ : ∃ m, k = m + 1 := ⟨k - 1, by omega⟩
    simp only [textutils_TrimConsecutiveNewlines.l0]
    rw [if_neg (by omega), List.drop_of_length_le (by omega)]
    simp only [go]
    rw [if_pos (by omega)]
  | succ d ih =>
    intro i k n res buf hd hi hk hx hn
    obtain ⟨k, rfl⟩ : ∃ m, k = m + 1 := ⟨k - 1, by omega⟩
    have hlt : i < l.length := by omega
    have hdc := drop_cons l i hlt
    have hcut : (l.take (i + 1)).drop i = [l.getD i 0] := by
      rw [List.drop_take, show i + 1 - i = 1 by omega, hdc]
      rfl
    rw [hdc]
    simp only [textutils_TrimConsecutiveNewlines.l0]
    rw [if_pos (by omega), if_pos (by omega), if_pos (by omega), show ((i : Int)).toNat = i from by omega, decode_eq l i k hlt hb (by omega)]
    simp only [Option.bind_some]
    have hw : wrap64 ((n : Int) + 1) = ((n + 1 : Nat) : Int) := by unfold wrap64; omega
    rw [wrap_up i (by omega), hw, show (((i + 1 : Nat) : Int)).toNat = i + 1 from by omega, hcut]
    clear hw hcut hdc
    simp only [go]
    by_cases c1 : l.getD i 0 = 10
    · rw [if_pos c1, if_pos c1]
      by_cases c2 : n + 1 ≤ 2
      · rw [if_pos (by omega), if_pos c2, if_pos (by omega), if_pos (by simp; omega), if_pos (by omega)]
        have := ih (i + 1) k (n + 1) (res ++ buf ++ [10]) [] (by omega) (by omega) (by omega) (by simp; omega) (by omega)
        simpa using this
      · rw [if_neg (by omega), if_neg c2, if_pos (by omega)]
        have := ih (i + 1) k (n + 1) res [] (by omega) (by omega) (by omega) (by simp; omega) (by omega)
        simpa using this
    · rw [if_neg c1, if_neg c1]
      by_cases c2 : l.getD i 0 = 32
      · rw [if_pos c2, if_pos c2, if_pos (by omega), if_pos (by omega), if_pos (by simp; omega), c2]
        exact ih (i + 1) k n res (buf ++ [32]) (by omega) (by omega) (by omega) (by simp; omega) (by omega)
      · rw [if_neg c2, if_neg c2, if_pos (by omega), if_pos (by omega), if_pos (by omega), if_pos (by simp; omega), if_pos (by omega)]
        have := ih (i + 1) k 0 (res ++ buf ++ [l.getD i 0]) [] (by omega) (by omega) (by omega) (by simp; omega) (by omega)
        simpa using this
open Go.Proofs.YtnhcocjdkmelhaaDoor.GTn in
theorem trim_eq (l : List Int) (hl : l.length ≤ 300) (hb : ∀ x ∈ l, 0 ≤ x ∧ x < 128) (k : Nat) (hk : 301 < k) : textutils_TrimConsecutiveNewlines.f k l = some (go l [] 0 []) := by
  unfold textutils_TrimConsecutiveNewlines.f
  have h := trim_loop l hl hb l.length 0 k 0 [] [] (by omega) (by omega) (by omega) (by simp) (by omega)
  rw [show ((0 : Nat) : Int) = 0 from rfl] at h
  rw [h]
  rfl
theorem law_loop (s t : ByteArray) (hs : s.size ≤ 300) (ht : t.size ≤ 300) (e1 : (Hand.bys t).filter solidP = (Hand.bys s).filter solidP) (e2 : ∀ k, 301 < k → impl_TrimNewlines.f k t = some t)
    (e3 : ∀ j, j + 2 < t.size → ¬ (bt t ((j + 2 : Nat) : Int) = 10 ∧ bt t ((j + 1 : Nat) : Int) = 10 ∧ bt t (j : Int) = 10)) :
    ∀ (d i k : Nat), t.size - i = d → 2 ≤ i → d + 302 < k → laws_FnTrimNewlines.l0 k s t (i : Int) = some true := by
  intro d
  induction d with
  | zero =>
    intro i k hd hi hk
    obtain ⟨k, rfl⟩ : ∃ m, k = m + 1 := ⟨k - 1, by omega⟩
    simp only [laws_FnTrimNewlines.l0]
    rw [if_neg (by omega), solid_eq t ht k (by omega), solid_eq s hs k (by omega), e2 k (by omega)]
    simp only [Option.bind_some]
    rw [e1, if_pos (by trivial), if_pos (by trivial)]
    simp only [laws_inlineLives.f, Option.bind_some]
  | succ d ih =>
    intro i k hd hi hk
    obtain ⟨k, rfl⟩ : ∃ m, k = m + 1 := ⟨k - 1, by omega⟩
    obtain ⟨j, rfl⟩ : ∃ j, i = j + 2 := ⟨i - 2, by omega⟩
    simp only [laws_FnTrimNewlines.l0]
    have hw1 : wrap64 (((j + 2 : Nat) : Int) - 1) = ((j + 1 : Nat) : Int) := by unfold wrap64; omega
    have hw2 : wrap64 (((j + 2 : Nat) : Int) - 2) = (j : Int) := by unfold wrap64; omega
    rw [if_pos (by omega), wrap_up (j + 2) (by omega), hw1, hw2, if_pos (by omega)]
    have next := ih (j + 2 + 1) k (by omega) (by omega) (by omega)
    have h3 := e3 j (by omega)
    by_cases c1 : bt t ((j + 2 : Nat) : Int) = 10
    · rw [if_pos c1, if_pos (by omega), if_pos (by omega)]
      by_cases c2 : bt t ((j + 1 : Nat) : Int) = 10
      · rw [if_pos c2, if_pos (by omega), if_pos (by omega), if_neg (fun c3 => h3 ⟨c1, c2, c3⟩)]
        exact next
      · rw [if_neg c2]
        exact next
    · rw [if_neg c1]
      exact next
theorem FnTrimNewlines : laws_FnTrimNewlines.Pure := by
  intro s _
  refine ⟨700, ?_⟩
  unfold laws_FnTrimNewlines.f
  by_cases h : (s.size : Int) > 2147483647
  · rw [if_pos h]
  rw [if_neg h, ascii_eq s 700 (by omega)]
  simp only [Option.bind_some]
  have hz := size_ascii s
  have hle := ascii_len s
  have hb : ∀ x ∈ ascii s, 0 ≤ x ∧ x < 128 := by
    intro x hx
    have h := ascii_ok s x hx
    omega
  have hba := bys_ascii s
  generalize ascii s = l at *
  have hgl : (go l [] 0 []).length ≤ 300 := by
    have := go_len l [] 0 []
    simp at this
    omega
  have hgb : ∀ x ∈ go l [] 0 [], 0 ≤ x ∧ x < 128 := by
    intro x hx
    rcases go_mem l [] 0 [] x hx with h | h | h | h | h
    · simp at h
    · simp at h
    · exact hb x h
    · omega
    · omega
  have hok := go_ok l [] 0 [] rfl rfl (by simp)
  have hso := go_solid l [] 0 [] (by simp)
  have hsame := go_same (go l [] 0 []) [] 0 [] hok
  rw [impl_TrimNewlines.f, if_pos (by omega), hba, trim_eq l hle hb 700 (by omega)]
  simp only [Option.bind_some]
  generalize go l [] 0 [] = y at *
  have hbb := Hand.nums_byte y (fun x hx => by have := hgb x hx; omega)
  have hz2 := strOfNums_size y
  refine law_loop (strOfNums l) (strOfNums y) (by omega) (by omega) (by rw [hbb, hba]; simpa using hso) (fun k hk => ?_) (fun j hj => ?_) ((strOfNums y).size - 2) 2 700 (by omega) (by omega) (by omega)
  · rw [impl_TrimNewlines.f, if_pos (by omega), hbb, trim_eq y hgl hgb k hk, hsame]
    simp
  · rw [Hand.bt_bys, Hand.bt_bys, Hand.bt_bys, hbb]
    exact ok_three hok j (by omega)
end Go.Proofs.YtnhcocjdkmelhaaDoor.Pure
