/- Decoding from the end meets the same runes as decoding from the front. Plain (no program in sight). -/
import Derived.Lib.DecodeN
import Derived.Lib.SpaceU
import Derived.Shelf.Unicode.DecodeLast
import Derived.Test.YtnhcocjdkmelhaaDoorHB
namespace Go.Proofs.YtnhcocjdkmelhaaDoor.Utf
open Go.Lib
set_option linter.unusedVariables false
set_option linter.unusedSimpArgs false

/-- The rune at place i of the first n bytes, and its width. -/
def dec (g : Nat → Nat) (n i : Nat) : Nat × Nat := decodeN (n - i) (g i) (g (i + 1)) (g (i + 2)) (g (i + 3))
theorem dec_width (g : Nat → Nat) (n i : Nat) (h : i < n) : 1 ≤ (dec g n i).2 ∧ i + (dec g n i).2 ≤ n ∧ (dec g n i).2 ≤ 4 := by
  unfold dec decodeN
  repeat' split
  all_goals (refine ⟨?_, ?_, ?_⟩ <;> first | (simp only; omega) | omega)
/-- A wide rune: a lead, then marks. -/
theorem dec_wide (g : Nat → Nat) (n i : Nat) (h : 2 ≤ (dec g n i).2) : g i / 64 ≠ 2 ∧ 128 ≤ g i ∧ ∀ j, 0 < j → j < (dec g n i).2 → g (i + j) / 64 = 2 := by
  unfold dec decodeN at h ⊢
  split at h
  · simp at h
  · rename_i h0
    rw [if_neg h0]
    split at h
    · rename_i h1
      rw [if_pos h1]
      split at h
      · rename_i h2
        rw [if_pos h2]
        refine ⟨by omega, by omega, fun j hj hj2 => ?_⟩
        simp only at hj2
        obtain rfl : j = 1 := by omega
        exact h1.2.2
      · simp at h
    · rename_i h1
      rw [if_neg h1]
      split at h
      · rename_i h2
        rw [if_pos h2]
        split at h
        · rename_i h3
          rw [if_pos h3]
          refine ⟨by omega, by omega, fun j hj hj2 => ?_⟩
          simp only at hj2
          rcases (by omega : j = 1 ∨ j = 2) with rfl | rfl
          · exact h2.2.1.2
          · exact h2.2.2.2
        · simp at h
      · rename_i h2
        rw [if_neg h2]
        split at h
        · rename_i h3
          rw [if_pos h3]
          split at h
          · rename_i h4
            rw [if_pos h4]
            refine ⟨by omega, by omega, fun j hj hj2 => ?_⟩
            simp only at hj2
            rcases (by omega : j = 1 ∨ j = 2 ∨ j = 3) with rfl | rfl | rfl
            · exact h3.2.1.2
            · exact h3.2.2.1.2
            · exact h3.2.2.2.2
          · simp at h
        · simp at h
/-- A narrow one: the byte, or the mark of a fault. -/
theorem dec_narrow (g : Nat → Nat) (n i : Nat) (h : (dec g n i).2 = 1) : dec g n i = if g i < 128 then (g i, 1) else (65533, 1) := by
  unfold dec decodeN at h ⊢
  split
  · rfl
  · rename_i h0
    rw [if_neg h0] at h
    repeat' split
    all_goals first | rfl | (simp_all; done) | (exfalso; simp_all; done)
/-- A shorter text decodes alike where the rune lies within it. -/
theorem dec_short (g : Nat → Nat) (n m i : Nat) (hm : m ≤ n) (h : i + (dec g n i).2 ≤ m) : dec g m i = dec g n i := by
  unfold dec decodeN at h ⊢
  by_cases h0 : g i < 128
  · rw [if_pos h0, if_pos h0]
  · rw [if_neg h0] at h ⊢
    rw [if_neg h0]
    by_cases h1 : g i / 32 = 6 ∧ (1 < n - i ∧ g (i + 1) / 64 = 2)
    · rw [if_pos h1] at h ⊢
      split at h
      · rename_i hv
        simp only at h
        rw [if_pos ⟨h1.1, by omega, h1.2.2⟩, if_pos hv]
      · rename_i hv
        by_cases hh : g i / 32 = 6 ∧ (1 < m - i ∧ g (i + 1) / 64 = 2)
        · rw [if_pos hh]
        · rw [if_neg hh, if_neg (by omega), if_neg (by omega), if_neg hv]
    · rw [if_neg h1] at h ⊢
      rw [if_neg (fun hh => h1 ⟨hh.1, by omega, hh.2.2⟩)]
      by_cases h2 : g i / 16 = 14 ∧ (1 < n - i ∧ g (i + 1) / 64 = 2) ∧ (2 < n - i ∧ g (i + 2) / 64 = 2)
      · rw [if_pos h2] at h ⊢
        split at h
        · rename_i hv
          simp only at h
          rw [if_pos ⟨h2.1, ⟨by omega, h2.2.1.2⟩, by omega, h2.2.2.2⟩, if_pos hv]
        · rename_i hv
          by_cases hh : g i / 16 = 14 ∧ (1 < m - i ∧ g (i + 1) / 64 = 2) ∧ (2 < m - i ∧ g (i + 2) / 64 = 2)
          · rw [if_pos hh]
          · rw [if_neg hh, if_neg (by omega), if_neg hv]
      · rw [if_neg h2] at h ⊢
        rw [if_neg (fun hh => h2 ⟨hh.1, ⟨by omega, hh.2.1.2⟩, by omega, hh.2.2.2⟩)]
        by_cases h3 : g i / 8 = 30 ∧ (1 < n - i ∧ g (i + 1) / 64 = 2) ∧ (2 < n - i ∧ g (i + 2) / 64 = 2) ∧ (3 < n - i ∧ g (i + 3) / 64 = 2)
        · rw [if_pos h3] at h ⊢
          split at h
          · rename_i hv
            simp only at h
            rw [if_pos ⟨h3.1, ⟨by omega, h3.2.1.2⟩, ⟨by omega, h3.2.2.1.2⟩, by omega, h3.2.2.2.2⟩, if_pos hv]
          · rename_i hv
            by_cases hh : g i / 8 = 30 ∧ (1 < m - i ∧ g (i + 1) / 64 = 2) ∧ (2 < m - i ∧ g (i + 2) / 64 = 2) ∧ (3 < m - i ∧ g (i + 3) / 64 = 2)
            · rw [if_pos hh]
            · rw [if_neg hh, if_neg hv]
        · rw [if_neg h3] at h ⊢
          rw [if_neg (fun hh => h3 ⟨hh.1, ⟨by omega, hh.2.1.2⟩, ⟨by omega, hh.2.2.1.2⟩, by omega, hh.2.2.2.2⟩)]
/-- A wide rune of a shorter text is one of the longer. -/
theorem dec_long (g : Nat → Nat) (n m i : Nat) (hm : m ≤ n) (h : 2 ≤ (dec g m i).2) : dec g n i = dec g m i := by
  unfold dec decodeN at h ⊢
  by_cases h0 : g i < 128
  · rw [if_pos h0] at h
    simp at h
  · rw [if_neg h0] at h ⊢
    rw [if_neg h0]
    by_cases h1 : g i / 32 = 6 ∧ (1 < m - i ∧ g (i + 1) / 64 = 2)
    · rw [if_pos h1] at h ⊢
      rw [if_pos ⟨h1.1, by omega, h1.2.2⟩]
    · rw [if_neg h1] at h ⊢
      by_cases h2 : g i / 16 = 14 ∧ (1 < m - i ∧ g (i + 1) / 64 = 2) ∧ (2 < m - i ∧ g (i + 2) / 64 = 2)
      · rw [if_pos h2] at h ⊢
        rw [if_neg (by omega), if_pos ⟨h2.1, ⟨by omega, h2.2.1.2⟩, by omega, h2.2.2.2⟩]
      · rw [if_neg h2] at h ⊢
        by_cases h3 : g i / 8 = 30 ∧ (1 < m - i ∧ g (i + 1) / 64 = 2) ∧ (2 < m - i ∧ g (i + 2) / 64 = 2) ∧ (3 < m - i ∧ g (i + 3) / 64 = 2)
        · rw [if_pos h3] at h ⊢
          rw [if_neg (by omega), if_neg (by omega), if_pos ⟨h3.1, ⟨by omega, h3.2.1.2⟩, ⟨by omega, h3.2.2.1.2⟩, by omega, h3.2.2.2.2⟩]
        · rw [if_neg h3] at h
          simp at h
/-- The places where runes begin (and the end). -/
inductive Bd (g : Nat → Nat) (n : Nat) : Nat → Prop where
  | zero : Bd g n 0
  | next (i : Nat) (h : i < n) (b : Bd g n i) : Bd g n (i + (dec g n i).2)
theorem Bd.le {g : Nat → Nat} {n i : Nat} (h : Bd g n i) : i ≤ n := by
  induction h with
  | zero => omega
  | next i h b ih => exact (dec_width g n i h).2.1
/-- No place lies within a rune. -/
theorem Bd.apart {g : Nat → Nat} {n a b : Nat} (ha : Bd g n a) (hb : Bd g n b) (hlt : a < b) : a + (dec g n a).2 ≤ b := by
  induction hb generalizing a with
  | zero => omega
  | next i h bi ih =>
    rcases Nat.lt_trichotomy a i with h1 | h1 | h1
    · have := ih ha h1
      omega
    · subst h1; omega
    · exfalso
      -- i < a < i + w(i): a is a place: its predecessor is at most i ..
      clear ih
      have key : ∀ {x}, Bd g n x → ¬ (i < x ∧ x < i + (dec g n i).2) := by
        intro x hx
        induction hx with
        | zero => omega
        | next y hy by' ih =>
          rintro ⟨k1, k2⟩
          have wy := dec_width g n y hy
          rcases Nat.lt_trichotomy y i with e | e | e
          · -- i would lie within the rune at y
            have hw : 2 ≤ (dec g n y).2 := by omega
            have hc := (dec_wide g n y hw).2.2 (i - y) (by omega) (by omega)
            rw [show y + (i - y) = i by omega] at hc
            have hw2 : 2 ≤ (dec g n i).2 := by omega
            exact (dec_wide g n i hw2).1 hc
          · subst e; omega
          · exact ih ⟨e, by omega⟩
      exact key ha ⟨h1, by omega⟩
/-- A byte that is no mark begins a rune. -/
theorem Bd.start {g : Nat → Nat} {n : Nat} : ∀ (d i q : Nat), q - i = d → Bd g n i → i ≤ q → q < n → g q / 64 ≠ 2 → Bd g n q := by
  intro d
  induction d using Nat.strongRecOn with
  | _ d ih =>
    intro i q hd hb hiq hq hg
    by_cases e : i = q
    · subst e; exact hb
    · have hw := dec_width g n i (by omega)
      have hb2 := Bd.next i (by omega) hb
      by_cases hle : i + (dec g n i).2 ≤ q
      · exact ih (q - (i + (dec g n i).2)) (by omega) _ q rfl hb2 hle hq hg
      · exfalso
        have hc := (dec_wide g n i (by omega)).2.2 (q - i) (by omega) (by omega)
        rw [show i + (q - i) = q by omega] at hc
        exact hg hc
/-- The bytes of a text as numbers. -/
def gb (s : ByteArray) (i : Nat) : Nat := (s.get! i).toNat
theorem dec_text (s : ByteArray) (i : Nat) : Utf8.decode s i = dec (gb s) s.size i := decode_at s i
theorem get_data (s : ByteArray) (i : Nat) (h : i < s.data.toList.length) : s.get! i = s.data.toList[i]'h := by
  cases s with
  | mk d =>
    have h2 : i < d.size := by simpa using h
    show d[i]! = _
    rw [getElem!_pos d i h2]
    simp
theorem get_out (s : ByteArray) (i : Nat) (h : s.data.toList.length ≤ i) : s.get! i = 0 := by
  cases s with
  | mk d =>
    have h2 : ¬ i < d.size := by simpa using h
    show d[i]! = _
    rw [getElem!_neg d i h2]
    rfl
/-- The decoder at a part of a text. -/
theorem decodeL_part (s : ByteArray) (m i : Nat) (hm : m ≤ s.size) (hi : i < m) : decodeL ((s.data.toList.take m).drop i) = dec (gb s) m i := by
  have hsz : s.data.toList.length = s.size := Array.length_toList ..
  have hsd : s.data.size = s.size := rfl
  unfold decodeL
  rw [decode_at]
  have hl : (⟨((s.data.toList.take m).drop i).toArray⟩ : ByteArray).size - 0 = m - i := by
    rw [Nat.sub_zero]
    show ((s.data.toList.take m).drop i).toArray.size = m - i
    rw [List.size_toArray, List.length_drop, List.length_take, hsz]
    omega
  have hg : ∀ j, i + j < m → ((⟨((s.data.toList.take m).drop i).toArray⟩ : ByteArray).get! (0 + j)).toNat = gb s (i + j) := by
    intro j hj
    have hsd : s.data.size = s.size := rfl
    rw [get_data _ _ (by simp; omega), gb, get_data _ _ (by omega)]
    simp
  have h0 := hg 0 (by omega)
  rw [hl]
  unfold dec
  -- a byte behind the end is not looked at
  have hd : ∀ n b0 b1 b2 b3 c1 c2 c3, (1 < n → b1 = c1) → (2 < n → b2 = c2) → (3 < n → b3 = c3) → decodeN n b0 b1 b2 b3 = decodeN n b0 c1 c2 c3 := by
    intro n b0 b1 b2 b3 c1 c2 c3 e1 e2 e3
    by_cases k1 : 1 < n
    · rw [e1 k1]
      by_cases k2 : 2 < n
      · rw [e2 k2]
        by_cases k3 : 3 < n
        · rw [e3 k3]
        · simp [decodeN, k3]
      · have k3 : ¬ 3 < n := by omega
        simp [decodeN, k2, k3]
    · have k2 : ¬ 2 < n := by omega
      have k3 : ¬ 3 < n := by omega
      simp [decodeN, k1, k2, k3]
  rw [h0]
  exact hd _ _ _ _ _ _ _ _ (fun h => hg 1 (by omega)) (fun h => hg 2 (by omega)) (fun h => hg 3 (by omega))
theorem getD_at (s : ByteArray) (i : Nat) (h : i < s.data.toList.length) : s.data.toList.getD i 0 = s.data.toList[i]'h := by
  rw [List.getD_eq_getElem?_getD, List.getElem?_eq_getElem h]
  rfl
theorem runeStart_gb (s : ByteArray) (i : Nat) (h : i < s.data.toList.length) : runeStartB (s.data.toList.getD i 0) = (gb s i / 64 != 2) := by
  unfold runeStartB gb
  rw [get_data s i h, getD_at s i h]
/-- The last rune of the first m bytes, m a place where a rune ends. -/
theorem last_eq (s : ByteArray) (b : Nat) (hb : Bd (gb s) s.size b) (hlt : b < s.size) : decodeLastL (s.data.toList.take (b + (dec (gb s) s.size b).2)) = dec (gb s) s.size b := by
  have hsz : s.data.toList.length = s.size := Array.length_toList ..
  have hw := dec_width (gb s) s.size b hlt
  obtain ⟨m, hm⟩ : ∃ m, m = b + (dec (gb s) s.size b).2 := ⟨_, rfl⟩
  have hbm := Bd.next b hlt hb
  rw [← hm] at hbm ⊢
  have hml : (s.data.toList.take m).length = m := by rw [List.length_take]; omega
  have hget : ∀ j, j < m → (s.data.toList.take m).getD j 0 = s.data.toList.getD j 0 := by
    intro j hj
    simp [List.getD_eq_getElem?_getD, List.getElem?_take, hj]
  have hgb : ∀ j, j < m → ((s.data.toList.take m).getD j 0).toNat = gb s j := by
    intro j hj
    rw [hget j hj, gb, get_data s j (by omega), getD_at s j (by omega)]
  have hrs : ∀ j, j < m → runeStartB ((s.data.toList.take m).getD j 0) = (gb s j / 64 != 2) := by
    intro j hj
    rw [hget j hj]
    exact runeStart_gb s j (by omega)
  have hne : s.data.toList.take m ≠ [] := fun h => by rw [h] at hml; simp at hml; omega
  unfold decodeLastL
  rw [if_neg hne, hml, hgb (m - 1) (by omega)]
  by_cases ha : gb s (m - 1) < 128
  · -- an ASCII byte is a rune of its own
    rw [if_pos ha]
    have hbd := Bd.start (m - 1 - b) b (m - 1) rfl hb (by omega) (by omega) (by omega)
    have heq : b = m - 1 := by
      by_cases e : b = m - 1
      · exact e
      · have := Bd.apart hb hbd (by omega)
        omega
    have hn := dec_narrow (gb s) s.size b (by omega)
    rw [← heq] at ha ⊢
    rw [hn, if_pos ha]
  · rw [if_neg ha]
    by_cases hwide : 2 ≤ (dec (gb s) s.size b).2
    · -- its lead is found
      obtain ⟨h1, h2, h3⟩ := dec_wide (gb s) s.size b hwide
      have hst : lastStart (s.data.toList.take m) = b := by
        unfold lastStart
        simp only [hml]
        rw [if_neg (by omega)]
        rcases (by omega : (dec (gb s) s.size b).2 = 2 ∨ (dec (gb s) s.size b).2 = 3 ∨ (dec (gb s) s.size b).2 = 4) with e | e | e
        · rw [hrs (m - 2) (by omega), show m - 2 = b by omega, if_pos (by simpa using h1)]
        · have c1 := h3 1 (by omega) (by omega)
          rw [hrs (m - 2) (by omega), show m - 2 = b + 1 by omega, if_neg (by simp [c1]), if_neg (by omega), hrs (m - 3) (by omega), show m - 3 = b by omega, if_pos (by simpa using h1)]
        · have c1 := h3 1 (by omega) (by omega)
          have c2 := h3 2 (by omega) (by omega)
          rw [hrs (m - 2) (by omega), show m - 2 = b + 2 by omega, if_neg (by simp [c2]), if_neg (by omega), hrs (m - 3) (by omega), show m - 3 = b + 1 by omega, if_neg (by simp [c1]), if_neg (by omega), hrs (m - 4) (by omega), show m - 4 = b by omega, if_pos (by simpa using h1)]
      have hd : decodeL ((s.data.toList.take m).drop b) = dec (gb s) s.size b := by
        rw [decodeL_part s m b (by omega) (by omega)]
        exact dec_short (gb s) s.size m b (by omega) (by omega)
      simp only [hst, hd]
      rw [if_pos hm.symm]
    · -- a fault of one byte
      have hn := dec_narrow (gb s) s.size b (by omega)
      have heq : m = b + 1 := by omega
      rw [if_neg (by rw [show b = m - 1 by omega]; exact ha)] at hn
      have hlt2 : lastStart (s.data.toList.take m) < m := by
        have := lastStart_lt (s.data.toList.take m) hne
        rwa [hml] at this
      obtain ⟨st, hst⟩ : ∃ st, st = lastStart (s.data.toList.take m) := ⟨_, rfl⟩
      rw [← hst] at hlt2 ⊢
      have hd := decodeL_part s m st (by omega) hlt2
      simp only [hd]
      split
      · rename_i hc
        by_cases e : st = b
        · subst e
          have h4 : dec (gb s) m st = dec (gb s) s.size st := dec_short (gb s) s.size m st (by omega) (by omega)
          rw [h4]
        · exfalso
          have hw2 : 2 ≤ (dec (gb s) m st).2 := by omega
          have h4 := dec_long (gb s) s.size m st (by omega) hw2
          have hw3 := (dec_wide (gb s) m st hw2).1
          have hbs := Bd.start (g := gb s) (n := s.size) st 0 st (by omega) Bd.zero (by omega) (by omega) hw3
          have := Bd.apart hbs hb (by omega)
          rw [h4] at this
          omega
      · rw [hn]
        rfl
end Go.Proofs.YtnhcocjdkmelhaaDoor.Utf
