/- Lines and their characters: plain, over what spec.Lines and commonmark.runeCount were printed as. -/
import Derived.Test.YticofikbijldiaaPrefixPure
import Derived.Test.YticofikbijldiaaRun
import Derived.Test.YticofikbijldiaaGRux1
namespace Go.Proofs.Yticofikbijldiaa.Hand
open Go.RowKit Go.Proofs.YticofikbijldiaaW.PrintWords Go.Proofs.YticofikbijldiaaW.PrintLast Go.Proofs.YticofikbijldiaaW.PrintMore Go.Proofs.Yticofikbijldiaa.GRu
set_option linter.unusedVariables false

/-- How many characters that are no marks. -/
def cnt : List Int → Nat
  | [] => 0
  | x :: l => if x = 7 then cnt l else cnt l + 1
theorem cnt_le : ∀ l : List Int, cnt l ≤ l.length
  | [] => Nat.le_refl _
  | x :: l => by
    have := cnt_le l
    unfold cnt
    rw [List.length_cons]
    split <;> omega
theorem count_loop (l : List Int) (hl : l.length ≤ 1048576) : ∀ (d i k a : Nat), l.length - i = d → i ≤ l.length → d + 1 ≤ k → a ≤ i →
    commonmark_runeCount.l0 k (a : Int) l (l.length : Int) (i : Int) = some ((a + cnt (l.drop i) : Nat) : Int) := by
  intro d
  induction d with
  | zero =>
    intro i k a hd hi hk ha
    obtain ⟨k, rfl⟩ : ∃ m, k = m + 1 := ⟨k - 1, by omega⟩
    rw [commonmark_runeCount.l0, if_neg (by omega), List.drop_eq_nil_of_le (by omega)]
    rfl
  | succ d ih =>
    intro i k a hd hi hk ha
    obtain ⟨k, rfl⟩ : ∃ m, k = m + 1 := ⟨k - 1, by omega⟩
    have hlt : i < l.length := by omega
    have hw : wrap64 ((i : Int) + 1) = ((i + 1 : Nat) : Int) := by unfold wrap64; omega
    have hwa : wrap64 ((a : Int) + 1) = ((a + 1 : Nat) : Int) := by unfold wrap64; omega
    have e : rd l (i : Int) = l[i] := by simp [rd, hlt]
    rw [commonmark_runeCount.l0, if_pos (by omega), if_pos (by omega), if_pos (by omega), e, hw, hwa, List.drop_eq_getElem_cons hlt, cnt]
    by_cases h : l[i] = 7
    · rw [if_pos h, if_pos h, ih (i + 1) k a (by omega) (by omega) (by omega) (by omega)]
    · rw [if_neg h, if_neg h, ih (i + 1) k (a + 1) (by omega) (by omega) (by omega) (by omega)]
      congr 1
      omega
theorem count_f (l : List Int) (hl : l.length ≤ 1048576) : commonmark_runeCount.f (l.length + 1) l = some ((cnt l : Nat) : Int) := by
  unfold commonmark_runeCount.f
  have h := count_loop l hl l.length 0 (l.length + 1) 0 (by omega) (by omega) (by omega) (by omega)
  simpa using h
theorem last_of (done : List ByteArray) (cur : ByteArray) : rdOf ByteArray.empty (done ++ [cur]) (done.length : Int) = cur := by simp [rdOf]
theorem set_last (done : List ByteArray) (cur y : ByteArray) : (done ++ [cur]).set done.length y = done ++ [y] := by
  rw [List.set_append_right _ _ (Nat.le_refl _), Nat.sub_self]
  rfl
theorem slines_loop (s : ByteArray) (hs : s.size ≤ 1048576) : ∀ (d i k : Nat) (done : List ByteArray) (cur : ByteArray), s.size - i = d → i ≤ s.size → d + 1 ≤ k → done.length ≤ i → cur.size ≤ i →
    ∃ L, spec_Lines.l0 k s (done ++ [cur]) (i : Int) = some (done ++ L) ∧ L.map bys = linesL (bys cur) ((bys s).drop i) ∧ L.length ≤ d + 1 := by
  intro d
  induction d with
  | zero =>
    intro i k done cur hd hi hk hx hc
    obtain ⟨k, rfl⟩ : ∃ m, k = m + 1 := ⟨k - 1, by omega⟩
    refine ⟨[cur], ?_, ?_, by simp⟩
    · rw [spec_Lines.l0, if_neg (by omega)]
    · rw [List.drop_eq_nil_of_le (show (bys s).length ≤ i by rw [bys_length]; omega)]
      rfl
  | succ d ih =>
    intro i k done cur hd hi hk hx hc
    obtain ⟨k, rfl⟩ : ∃ m, k = m + 1 := ⟨k - 1, by omega⟩
    have hlt : i < (bys s).length := by rw [bys_length]; omega
    have hw : wrap64 ((i : Int) + 1) = ((i + 1 : Nat) : Int) := by unfold wrap64; omega
    have hl : ((done ++ [cur]).length : Int) = (done.length : Int) + 1 := by simp
    have hwl : wrap64 ((done.length : Int) + 1 - 1) = (done.length : Int) := by unfold wrap64; omega
    have e : bt s (i : Int) = (bys s)[i] := by
      rw [bt_bys]
      simp [hlt]
    have hx1 : (s.extract i (i + 1)).size = 1 := by simp; omega
    rw [spec_Lines.l0, if_pos (by omega), if_pos (by omega), e, hw, hl, hwl, List.drop_eq_getElem_cons hlt]
    by_cases h : (bys s)[i] = 10
    · obtain ⟨L, h1, h2, h3⟩ := ih (i + 1) k (done ++ [cur]) ⟨#[]⟩ (by omega) (by omega) (by omega) (by simp; omega) (Nat.zero_le _)
      refine ⟨cur :: L, ?_, ?_, by rw [List.length_cons]; omega⟩
      · rw [if_pos h, if_pos (by simp; omega)]
        simpa using h1
      · rw [linesL, if_pos h, List.map_cons, h2]
        rfl
    · obtain ⟨L, h1, h2, h3⟩ := ih (i + 1) k done (cur ++ s.extract i (i + 1)) (by omega) (by omega) (by omega) (by omega) (by rw [ByteArray.size_append, hx1]; omega)
      refine ⟨L, ?_, ?_, by omega⟩
      · rw [if_neg h, if_pos (by omega), if_pos (by omega), if_pos (by omega), if_pos (by omega), last_of, Int.toNat_natCast, Int.toNat_natCast, Int.toNat_natCast, if_pos (by rw [hx1]; omega), set_last]
        exact h1
      · rw [linesL, if_neg h, h2, bys_append, bys_extract]
        congr 2
        rw [List.drop_eq_getElem_cons hlt, show i + 1 - i = 1 by omega]
        rfl
theorem slines_f (s : ByteArray) (hs : s.size ≤ 1048576) : ∃ L, spec_Lines.f (s.size + 1) s = some L ∧ L.map bys = linesL [] (bys s) ∧ L.length ≤ 1048577 := by
  obtain ⟨L, h1, h2, h3⟩ := slines_loop s hs s.size 0 (s.size + 1) [] ⟨#[]⟩ (by omega) (by omega) (Nat.le_refl _) (Nat.le_refl _) (Nat.le_refl _)
  refine ⟨L, ?_, h2, by omega⟩
  unfold spec_Lines.f
  simpa using h1
/-- The widest line, at least so wide. -/
def widest (a : Nat) : List (List Int) → Nat
  | [] => a
  | l :: t => widest (max a (cnt (runes (strOfNums l)))) t
theorem widest_max : ∀ (t : List (List Int)) (a : Nat), widest a t = max a (widest 0 t)
  | [], a => by simp [widest]
  | l :: t, a => by
    rw [widest, widest, widest_max t (max a _), widest_max t (max 0 _)]
    omega
theorem runesFrom_rns (s : ByteArray) : ∀ (b i : Nat) (acc : Array Value), (Conv.runesFrom s b i acc).toList = acc.toList ++ (rns s b i).map (Value.int .i32)
  | 0, i, acc => by simp [Conv.runesFrom, rns]
  | b + 1, i, acc => by
    unfold Conv.runesFrom rns
    split
    · rw [runesFrom_rns s b]
      simp
    · simp
end Go.Proofs.Yticofikbijldiaa.Hand
