/- A text's white space at its ends: where it is found from the front and from the end. Plain. -/
import Derived.Test.YtnhcocjdkmelhaaDoorUtf8
import Derived.Shelf.Spec.BytesTrimFunc
import Derived.Lib.TrimByte
namespace Go.Proofs.YtnhcocjdkmelhaaDoor.Utf
open Go.Lib
set_option linter.unusedVariables false
set_option linter.unusedSimpArgs false

def sp (s : ByteArray) (b : Nat) : Prop := isSpaceR (dec (gb s) s.size b).1 = true
def wd (s : ByteArray) (b : Nat) : Nat := (dec (gb s) s.size b).2
abbrev B (s : ByteArray) (i : Nat) : Prop := Bd (gb s) s.size i
theorem wd_range (s : ByteArray) (i : Nat) (h : i < s.size) : 1 ≤ wd s i ∧ i + wd s i ≤ s.size := ⟨(dec_width _ _ _ h).1, (dec_width _ _ _ h).2.1⟩
/-- Where the text's first rune that is no white space begins, where its last ends, seen up to place i. -/
inductive Sc (s : ByteArray) : Nat → Int → Nat → Prop where
  | zero : Sc s 0 (-1) 0
  | space (i : Nat) (f : Int) (t : Nat) (h : Sc s i f t) (hi : i < s.size) (hs : sp s i) : Sc s (i + wd s i) f t
  | word (i : Nat) (f : Int) (t : Nat) (h : Sc s i f t) (hi : i < s.size) (hs : ¬ sp s i) : Sc s (i + wd s i) (if f < 0 then (i : Int) else f) (i + wd s i)
theorem Sc.bd {s : ByteArray} {i t : Nat} {f : Int} (h : Sc s i f t) : B s i := by
  induction h with
  | zero => exact Bd.zero
  | space i f t h hi hs ih => exact Bd.next i hi ih
  | word i f t h hi hs ih => exact Bd.next i hi ih
theorem bd_le {s : ByteArray} {i b : Nat} (hi : i < s.size) (h : B s i) (hb : B s b) (hlt : b < i + wd s i) : b ≤ i := by
  by_cases e : i < b
  · have := Bd.apart h hb e
    unfold wd at hlt
    omega
  · omega
theorem Sc.facts {s : ByteArray} {i t : Nat} {f : Int} (h : Sc s i f t) :
    (f = -1 ∧ t = 0 ∧ ∀ b, B s b → b < i → sp s b) ∨
    (∃ a e, f = ((a : Nat) : Int) ∧ B s a ∧ a < s.size ∧ ¬ sp s a ∧ (∀ b, B s b → b < a → sp s b) ∧ B s e ∧ e < s.size ∧ e + wd s e = t ∧ a ≤ e ∧ t ≤ i ∧ (∀ b, B s b → t ≤ b → b < i → sp s b)) := by
  induction h with
  | zero => exact .inl ⟨rfl, rfl, fun b _ hb => by omega⟩
  | space i f t h hi hs ih =>
    have hw := wd_range s i hi
    rcases ih with ⟨h1, h2, h3⟩ | ⟨a, e, h1, h2, h3, h4, h5, h6, h7, h8, h9, h10, h11⟩
    · refine .inl ⟨h1, h2, fun b hb hlt => ?_⟩
      have := bd_le hi h.bd hb hlt
      by_cases e : b = i
      · subst e; exact hs
      · exact h3 b hb (by omega)
    · refine .inr ⟨a, e, h1, h2, h3, h4, h5, h6, h7, h8, h9, by omega, fun b hb htb hlt => ?_⟩
      have := bd_le hi h.bd hb hlt
      by_cases e : b = i
      · subst e; exact hs
      · exact h11 b hb htb (by omega)
  | word i f t h hi hs ih =>
    have hw := wd_range s i hi
    rcases ih with ⟨h1, h2, h3⟩ | ⟨a, e, h1, h2, h3, h4, h5, h6, h7, h8, h9, h10, h11⟩
    · refine .inr ⟨i, i, by rw [if_pos (by omega)], h.bd, hi, hs, h3, h.bd, hi, rfl, Nat.le_refl _, Nat.le_refl _, fun b hb htb hlt => by omega⟩
    · refine .inr ⟨a, i, by rw [if_neg (by omega)]; exact h1, h2, h3, h4, h5, h.bd, hi, rfl, by omega, Nat.le_refl _, fun b hb htb hlt => by omega⟩
/-- From the end: the last rune that is no white space. -/
theorem Sc.last {s : ByteArray} {i t : Nat} {f : Int} (h : Sc s i f t) : ∀ fuel, i ≤ fuel →
    (f = -1 ∧ lastIdxFuncFrom isSpaceR false s fuel i = -1) ∨ (0 ≤ f ∧ ∃ e, lastIdxFuncFrom isSpaceR false s fuel i = ((e : Nat) : Int) ∧ e < s.size ∧ e + wd s e = t) := by
  induction h with
  | zero => intro fuel _; exact .inl ⟨rfl, lastIdxFuncFrom_zero _ _ _ _⟩
  | space i f t h hi hs ih =>
    intro fuel hfu
    have hw := wd_range s i hi
    obtain ⟨k, rfl⟩ : ∃ k, fuel = k + 1 := ⟨fuel - 1, by omega⟩
    have hl := last_eq s i h.bd hi
    unfold lastIdxFuncFrom
    rw [if_pos (by omega)]
    unfold wd at *
    rw [hl, if_neg (by unfold sp at hs; rw [hs]; simp), Nat.add_sub_cancel]
    exact ih k (by omega)
  | word i f t h hi hs ih =>
    intro fuel hfu
    have hw := wd_range s i hi
    obtain ⟨k, rfl⟩ : ∃ k, fuel = k + 1 := ⟨fuel - 1, by omega⟩
    have hl := last_eq s i h.bd hi
    refine .inr ⟨?_, i, ?_, hi, rfl⟩
    · split
      · omega
      · omega
    · unfold lastIdxFuncFrom
      rw [if_pos (by omega)]
      unfold wd at *
      rw [hl, if_pos (by unfold sp at hs; simpa using hs), Nat.add_sub_cancel]
theorem extract_part (s : ByteArray) (a m : Nat) (hm : m ≤ s.size) : (s.extract a m).data.toList = (s.data.toList.take m).drop a := by
  rw [ByteArray.data_extract, Array.toList_extract, List.extract_eq_take_drop, List.drop_take]
/-- The decoder at a part of a text. -/
theorem part_dec (s : ByteArray) (a m i : Nat) (hm : m ≤ s.size) (hi : a + i < m) : Utf8.decode (s.extract a m) i = dec (gb s) m (a + i) := by
  have hx := extract_part s a m hm
  have hsz : s.data.toList.length = s.size := Array.length_toList ..
  have hxs : (s.extract a m).size = m - a := by
    have : (s.extract a m).data.toList.length = (s.extract a m).size := Array.length_toList ..
    rw [← this, hx, List.length_drop, List.length_take, hsz]
    omega
  have h1 := decodeL_part (s.extract a m) (s.extract a m).size i (Nat.le_refl _) (by omega)
  have h2 := decodeL_part s m (a + i) hm hi
  have hxl : (s.extract a m).data.toList.length = (s.extract a m).size := Array.length_toList ..
  rw [List.take_of_length_le (by omega), hx, List.drop_drop] at h1
  rw [dec_text, ← h1]
  exact h2
/-- Where TrimRightFunc cuts. -/
theorem right_end {s : ByteArray} {t : Nat} {f : Int} (h : Sc s s.size f t) : rightEndF isSpaceR s = t := by
  have hf := h.facts
  unfold rightEndF lastIdxFunc
  rcases h.last s.size (Nat.le_refl _) with ⟨h1, h2⟩ | ⟨h1, e, h2, h3, h4⟩
  · rw [h2, if_neg (by omega)]
    rcases hf with ⟨_, h5, _⟩ | ⟨a, e, h5, _⟩
    · exact h5.symm
    · omega
  · rw [h2, if_pos (by omega), Int.toNat_natCast]
    have hsz : (s.extract e s.size).size = s.size - e := by simp
    unfold decodeGoB
    rw [if_neg (by omega), part_dec s e s.size 0 (Nat.le_refl _) (by omega), Nat.add_zero]
    exact h4
/-- Where TrimLeftFunc cuts what is left. -/
theorem left_from {s : ByteArray} {a t : Nat} (ht : t ≤ s.size) (haz : a < s.size) (ha : B s a) (hat : a + wd s a ≤ t) (hn : ¬ sp s a) (hb : ∀ b, B s b → b < a → sp s b) :
    ∀ (fuel pos : Nat), B s pos → pos ≤ a → t ≤ pos + fuel → idxFuncFrom isSpaceR false (s.extract 0 t) fuel pos = (a : Int) := by
  intro fuel
  have hsz : (s.extract 0 t).size = t := by simp; omega
  induction fuel with
  | zero =>
    intro pos hp hpa hf
    have := wd_range s a haz
    omega
  | succ k ih =>
    intro pos hp hpa hf
    have hwa := wd_range s a haz
    have hps : pos < s.size := by omega
    have hw := wd_range s pos hps
    have hend : pos + wd s pos ≤ t := by
      by_cases e : pos = a
      · rw [e]; exact hat
      · have := Bd.apart hp ha (by omega)
        unfold wd
        omega
    unfold idxFuncFrom
    rw [hsz, if_pos (by omega), part_dec s 0 t pos ht (by omega), Nat.zero_add, dec_short (gb s) s.size t pos ht hend]
    by_cases e : pos = a
    · subst e
      rw [if_pos (by unfold sp at hn; simpa using hn)]
    · have hs := hb pos hp (by omega)
      rw [if_neg (by unfold sp at hs; rw [hs]; simp)]
      have := Bd.apart hp ha (by omega)
      exact ih _ (Bd.next pos hps hp) this (by unfold wd at hw; omega)
/-- All runes from a place on are white space. -/
def allSp (s : ByteArray) : Nat → Nat → Bool
  | 0, _ => true
  | k + 1, pos => if pos < s.size then (if isSpaceR (Utf8.decode s pos).1 = true then allSp s k (pos + (Utf8.decode s pos).2) else false) else true
theorem allSp_part {s : ByteArray} {a m : Nat} (hm : m ≤ s.size) (ha : B s a) (hbm : B s m) (hb : ∀ b, B s b → a ≤ b → b < m → sp s b) :
    ∀ (fuel pos : Nat), B s (a + pos) → allSp (s.extract a m) fuel pos = true := by
  intro fuel
  have hsz : (s.extract a m).size = m - a := by simp; omega
  induction fuel with
  | zero => intro pos _; rfl
  | succ k ih =>
    intro pos hp
    unfold allSp
    rw [hsz]
    split
    · rename_i hlt
      have hps : a + pos < s.size := by omega
      have hend : a + pos + wd s (a + pos) ≤ m := Bd.apart hp hbm (by omega)
      rw [part_dec s a m pos hm (by omega), dec_short (gb s) s.size m (a + pos) hm hend]
      have hs := hb (a + pos) hp (by omega) (by omega)
      rw [if_pos (show isSpaceR (dec (gb s) s.size (a + pos)).1 = true from hs)]
      have hbn := Bd.next (a + pos) hps hp
      rw [Nat.add_assoc] at hbn
      exact ih _ hbn
    · rfl
/-- The scan from the front. -/
def mid (s : ByteArray) : Nat → Nat → Int → Nat → Int × Nat
  | 0, _, f, t => (f, t)
  | k + 1, pos, f, t => if pos < s.size then (if isSpaceR (Utf8.decode s pos).1 = true then mid s k (pos + (Utf8.decode s pos).2) f t else mid s k (pos + (Utf8.decode s pos).2) (if f < 0 then (pos : Int) else f) (pos + (Utf8.decode s pos).2)) else (f, t)
def mid29 (s : ByteArray) : Int × Nat := mid s s.size 0 (-1) 0
theorem mid_sc (s : ByteArray) : ∀ (k pos : Nat) (f : Int) (t : Nat), Sc s pos f t → s.size ≤ pos + k → Sc s s.size (mid s k pos f t).1 (mid s k pos f t).2 := by
  intro k
  induction k with
  | zero =>
    intro pos f t h hk
    have := Bd.le h.bd
    obtain rfl : pos = s.size := by omega
    exact h
  | succ k ih =>
    intro pos f t h hk
    unfold mid
    by_cases hp : pos < s.size
    · rw [if_pos hp]
      have hw := wd_range s pos hp
      have e : (Utf8.decode s pos) = dec (gb s) s.size pos := dec_text s pos
      split
      · rename_i hs
        rw [e] at hs ⊢
        exact ih _ f t (Sc.space pos f t h hp hs) (by unfold wd at hw; omega)
      · rename_i hs
        rw [e] at hs ⊢
        exact ih _ _ _ (Sc.word pos f t h hp hs) (by unfold wd at hw; omega)
    · rw [if_neg hp]
      have := Bd.le h.bd
      obtain rfl : pos = s.size := by omega
      exact h
theorem mid29_sc (s : ByteArray) : Sc s s.size (mid29 s).1 (mid29 s).2 := mid_sc s s.size 0 (-1) 0 Sc.zero (by omega)
end Go.Proofs.YtnhcocjdkmelhaaDoor.Utf
