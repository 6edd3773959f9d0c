/- Lines with a prefix: plain, over what spec.Lines29, spec.Joined29 and textutils.PrefixLines were printed as. -/
import Derived.Test.YticofikbijldiaaBytes
import Derived.Test.YticofikbijldiaaGPfx1
namespace Go.Proofs.Yticofikbijldiaa.Hand
open Go.RowKit Go.Proofs.YticofikbijldiaaW.PrintWords Go.Proofs.YticofikbijldiaaW.PrintLast Go.Proofs.YticofikbijldiaaW.PrintMore Go.Proofs.Yticofikbijldiaa.GPf
set_option linter.unusedVariables false

theorem bytesOf_bys (s : ByteArray) : bytesOf s = bys s := rfl
/-- A prefix behind every line feed. -/
def pl (r : List Int) : List Int → List Int
  | [] => []
  | b :: s => if b = 10 then b :: (r ++ pl r s) else b :: pl r s
theorem pl_length (r : List Int) : ∀ s : List Int, (pl r s).length ≤ (1 + r.length) * s.length
  | [] => by simp [pl]
  | b :: s => by
    have := pl_length r s
    rw [List.length_cons, Nat.mul_add, Nat.mul_one]
    unfold pl
    split
    · rw [List.length_cons, List.length_append]
      omega
    · rw [List.length_cons]
      omega
/-- The lines of numbers, behind what the first one has already. -/
def linesL (acc : List Int) : List Int → List (List Int)
  | [] => [acc]
  | b :: s => if b = 10 then acc :: linesL [] s else linesL (acc ++ [b]) s
def tailsL : List (List Int) → List Int
  | [] => []
  | x :: t => 10 :: (x ++ tailsL t)
def joinL : List (List Int) → List Int
  | [] => []
  | x :: t => x ++ tailsL t
theorem linesL_ne (acc s : List Int) : ∃ x t, linesL acc s = x :: t := by
  induction s generalizing acc with
  | nil => exact ⟨acc, [], rfl⟩
  | cons b s ih =>
    unfold linesL
    split
    · exact ⟨acc, _, rfl⟩
    · exact ih _
theorem tails_join (l : List (List Int)) (x : List Int) (t : List (List Int)) (h : l = x :: t) : tailsL l = 10 :: joinL l := by
  subst h
  rfl
theorem join_lines (r : List Int) : ∀ (s acc : List Int), joinL ((linesL acc s).map (r ++ ·)) = r ++ acc ++ pl r s
  | [], acc => by simp [linesL, joinL, tailsL, pl]
  | b :: s, acc => by
    unfold linesL pl
    split
    · rename_i h
      obtain ⟨x, t, e⟩ := linesL_ne [] s
      have ih := join_lines r s []
      rw [e] at ih ⊢
      rw [List.map_cons, joinL, List.map_cons, tailsL]
      rw [List.map_cons, joinL, List.append_nil] at ih
      rw [h, ih]
    · rw [join_lines r s (acc ++ [b])]
      simp
theorem prefix_loop (r l : List Int) (hl : l.length ≤ 1048576) (hr : r.length ≤ 1048576) : ∀ (d i k : Nat) (x5 : List Int), l.length - i = d → i ≤ l.length → d + 1 ≤ k → x5.length + (1 + r.length) * d < 140737488355328 →
    textutils_PrefixLines.l0 k r x5 l (l.length : Int) (i : Int) = some (x5 ++ pl r (l.drop i)) := by
  intro d
  induction d with
  | zero =>
    intro i k x5 hd hi hk _
    obtain ⟨k, rfl⟩ : ∃ m, k = m + 1 := ⟨k - 1, by omega⟩
    rw [textutils_PrefixLines.l0, if_neg (by omega), List.drop_eq_nil_of_le (by omega)]
    simp [pl]
  | succ d ih =>
    intro i k x5 hd hi hk hb
    obtain ⟨k, rfl⟩ : ∃ m, k = m + 1 := ⟨k - 1, by omega⟩
    have hlt : i < l.length := by omega
    have hw : wrap64 ((i : Int) + 1) = ((i + 1 : Nat) : Int) := by unfold wrap64; omega
    have e : rd l (i : Int) = l[i] := by simp [rd, hlt]
    rw [Nat.mul_add, Nat.mul_one] at hb
    generalize hm : (1 + r.length) * d = m at hb
    rw [textutils_PrefixLines.l0, if_pos (by omega), if_pos (by omega), if_pos (by omega), if_pos (by omega), Option.bind_some, e, List.drop_eq_getElem_cons hlt]
    generalize l[i] = b
    by_cases h : b = 10
    · rw [if_pos h, if_pos (by rw [List.length_append, List.length_singleton]; omega), hw, ih (i + 1) k _ (by omega) (by omega) (by omega) (by rw [hm, List.length_append, List.length_append, List.length_singleton]; omega)]
      simp [pl, h]
    · rw [if_neg h, hw, ih (i + 1) k _ (by omega) (by omega) (by omega) (by rw [hm, List.length_append, List.length_singleton]; omega)]
      simp [pl, h]
theorem prefix_f (r l : List Int) (hl : l.length ≤ 1048576) (hr : r.length ≤ 1048576) : textutils_PrefixLines.f (l.length + 1) l r = some (r ++ pl r l) := by
  have hb : (1 + r.length) * l.length ≤ 1048577 * 1048576 := Nat.mul_le_mul (by omega) hl
  have h := prefix_loop r l hl hr l.length 0 (l.length + 1) ([] ++ r) (by omega) (by omega) (by omega) (by rw [List.nil_append]; omega)
  unfold textutils_PrefixLines.f
  rw [if_pos (by omega), if_pos (by omega), Option.bind_some, if_pos (by simp; omega)]
  simpa using h
theorem take_next (l : List Int) (a i : Nat) (h : a ≤ i) (hi : i < l.length) : (l.drop a).take (i + 1 - a) = (l.drop a).take (i - a) ++ [l[i]] := by
  rw [show i + 1 - a = (i - a) + 1 by omega, List.take_succ_eq_append_getElem (by rw [List.length_drop]; omega)]
  congr 2
  rw [List.getElem_drop]
  congr 1
  omega
theorem lines_loop (s : ByteArray) (hs : s.size ≤ 1048576) : ∀ (d i a k : Nat) (x3 : List ByteArray), s.size - i = d → i ≤ s.size → a ≤ i → d + 1 ≤ k → x3.length ≤ i →
    ∃ L, spec_Lines29.l0 k s x3 (a : Int) (s.size : Int) (i : Int) = some (x3 ++ L) ∧ L.map bys = linesL (((bys s).drop a).take (i - a)) ((bys s).drop i) ∧ L.length ≤ d + 1 := by
  intro d
  induction d with
  | zero =>
    intro i a k x3 hd hi ha hk hx
    obtain ⟨k, rfl⟩ : ∃ m, k = m + 1 := ⟨k - 1, by omega⟩
    refine ⟨[s.extract a s.size], ?_, ?_, by simp⟩
    · rw [spec_Lines29.l0, if_neg (by omega), if_pos (by omega), if_pos (by omega), if_pos (by omega)]
      simp
    · rw [List.drop_eq_nil_of_le (show (bys s).length ≤ i by rw [bys_length]; omega)]
      simp only [List.map_cons, List.map_nil, linesL, bys_extract]
      rw [show i = s.size by omega]
  | succ d ih =>
    intro i a k x3 hd hi ha hk hx
    obtain ⟨k, rfl⟩ : ∃ m, k = m + 1 := ⟨k - 1, by omega⟩
    have hlt : i < (bys s).length := by rw [bys_length]; omega
    have hw : wrap64 ((i : Int) + 1) = ((i + 1 : Nat) : Int) := by unfold wrap64; omega
    have e : bt s (i : Int) = (bys s)[i] := by
      rw [bt_bys]
      simp [hlt]
    rw [spec_Lines29.l0, if_pos (by omega), if_pos (by omega), if_pos (by omega), e, hw, List.drop_eq_getElem_cons hlt]
    by_cases h : (bys s)[i] = 10
    · obtain ⟨L, h1, h2, h3⟩ := ih (i + 1) (i + 1) k (x3 ++ [s.extract a i]) (by omega) (by omega) (Nat.le_refl _) (by omega) (by simp; omega)
      refine ⟨s.extract a i :: L, ?_, ?_, by rw [List.length_cons]; omega⟩
      · rw [if_pos h, if_pos (by omega), if_pos (by omega), if_pos (by omega), if_pos (by omega)]
        simpa using h1
      · rw [linesL, if_pos h, List.map_cons, h2, bys_extract]
        simp
    · obtain ⟨L, h1, h2, h3⟩ := ih (i + 1) a k x3 (by omega) (by omega) (by omega) (by omega) (by omega)
      refine ⟨L, ?_, ?_, by omega⟩
      · rw [if_neg h]
        exact h1
      · rw [linesL, if_neg h, h2, take_next (bys s) a i ha hlt]
theorem lines_f (s : ByteArray) (hs : s.size ≤ 1048576) : ∃ L, spec_Lines29.f (s.size + 1) s = some L ∧ L.map bys = linesL [] (bys s) ∧ L.length ≤ 1048577 := by
  obtain ⟨L, h1, h2, h3⟩ := lines_loop s hs s.size 0 0 (s.size + 1) [] (by omega) (by omega) (Nat.le_refl _) (Nat.le_refl _) (Nat.le_refl _)
  refine ⟨L, ?_, by simpa using h2, by omega⟩
  unfold spec_Lines29.f
  simpa using h1
theorem join_loop (l : List ByteArray) (hl : l.length ≤ 1048577) : ∀ (d i k : Nat) (x3 : List Int), l.length - i = d → 0 < i → i ≤ l.length → d + 1 ≤ k → x3.length + (tailsL ((l.drop i).map bys)).length < 140737488355328 →
    spec_Joined29.l0 k x3 l (l.length : Int) (i : Int) = some (strOfNums (x3 ++ tailsL ((l.drop i).map bys))) := by
  intro d
  induction d with
  | zero =>
    intro i k x3 hd h0 hi hk _
    obtain ⟨k, rfl⟩ : ∃ m, k = m + 1 := ⟨k - 1, by omega⟩
    rw [spec_Joined29.l0, if_neg (by omega), List.drop_eq_nil_of_le (by omega)]
    simp [tailsL]
  | succ d ih =>
    intro i k x3 hd h0 hi hk hb
    obtain ⟨k, rfl⟩ : ∃ m, k = m + 1 := ⟨k - 1, by omega⟩
    have hlt : i < l.length := by omega
    have hw : wrap64 ((i : Int) + 1) = ((i + 1 : Nat) : Int) := by unfold wrap64; omega
    have e : rdOf ByteArray.empty l (i : Int) = l[i] := by simp [rdOf, hlt]
    rw [List.drop_eq_getElem_cons hlt, List.map_cons, tailsL] at hb ⊢
    rw [List.length_cons, List.length_append, bys_length] at hb
    rw [spec_Joined29.l0, if_pos (by omega), if_pos (by omega), if_pos (by omega), if_pos (by omega), if_pos (by omega), Option.bind_some, e, if_pos (by rw [List.length_append, List.length_singleton]; omega), hw, ih (i + 1) k _ (by omega) (by omega) (by omega) (by omega) (by rw [List.length_append, List.length_append, List.length_singleton, bytesOf_bys, bys_length]; omega)]
    simp [bytesOf_bys]
theorem join_f (l : List ByteArray) (hl : l.length ≤ 1048577) (hn : 0 < l.length) (hb : (joinL (l.map bys)).length < 140737488355328) : spec_Joined29.f (l.length + 1) l = some (strOfNums (joinL (l.map bys))) := by
  have e0 : rdOf ByteArray.empty l ((0 : Nat) : Int) = l[0] := by simp [rdOf, hn]
  have hj : joinL (l.map bys) = bys l[0] ++ tailsL ((l.drop 1).map bys) := by
    cases l with
    | nil => simp at hn
    | cons x t => rfl
  rw [hj] at hb ⊢
  rw [List.length_append, bys_length] at hb
  unfold spec_Joined29.f
  have hw : wrap64 (((0 : Nat) : Int) + 1) = ((1 : Nat) : Int) := by unfold wrap64; omega
  have h := join_loop l hl (l.length - 1) 1 l.length (bys l[0]) rfl (by omega) (by omega) (by omega) (by rw [bys_length]; omega)
  rw [show (0 : Int) = ((0 : Nat) : Int) from rfl, spec_Joined29.l0, if_pos (by omega), if_pos (by omega), if_pos (by omega), if_neg (by omega), e0, if_pos (by rw [List.length_nil]; omega), hw, List.nil_append, bytesOf_bys]
  exact h
end Go.Proofs.Yticofikbijldiaa.Hand
