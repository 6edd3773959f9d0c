/- FnSpaces, the plain part: a text is parted at the white space at its ends. No condition. -/
import Derived.Test.YtnhcocjdkmelhaaDoorGFnSpacesx1
namespace Go.Proofs.YtnhcocjdkmelhaaDoor.Pure
open Go.RowKit Go.Proofs.YtnhcocjdkmelhaaDoor.GFnSpaces Go.Proofs.YtnhcocjdkmelhaaDoorW.PrintWords Go.Proofs.YtnhcocjdkmelhaaDoorW.PrintLast Go.Proofs.YtnhcocjdkmelhaaDoor.Utf
set_option linter.unusedVariables false
set_option linter.unusedSimpArgs false

theorem blank_f (x : ByteArray) (hx : x.size ≤ 2147483647) (h : allSp x x.size 0 = true) : spec_Blank29.f x = some true := by
  unfold spec_Blank29.f
  rw [if_pos hx, h]
theorem law_true (s : ByteArray) : laws_FnSpaces.f s = some true := by
  unfold laws_FnSpaces.f
  by_cases h : (s.size : Int) > 2147483647
  · rw [if_pos h]
  have hs : s.size ≤ 2147483647 := by omega
  have hsc := mid29_sc s
  have hbn : B s s.size := hsc.bd
  have h1 : impl_Spaces.f s = some (Hand.spacesOf s) := if_pos hs
  have h2 : spec_Middle29.f s = some (Hand.midOut s) := if_pos hs
  rw [if_neg h, h1, h2]
  simp only [Option.bind_some]
  unfold Hand.spacesOf Hand.midOut
  have e0 : (⟨#[]⟩ : ByteArray).size = 0 := rfl
  rcases hsc.facts with ⟨f1, f2, f3⟩ | ⟨a, e, f1, f2, f3, f4, f5, f6, f7, f8, f9, f10, f11⟩
  · have hneg : (mid29 s).1 < 0 := by omega
    have hall : allSp s s.size 0 = true := by
      have := allSp_part (s := s) (a := 0) (m := s.size) (Nat.le_refl _) Bd.zero hbn (fun b hb _ hlt => f3 b hb hlt) s.size 0 Bd.zero
      have ee : s.extract 0 s.size = s := by simp
      rwa [ee] at this
    have hb1 : spec_Blank29.f (⟨#[]⟩ : ByteArray) = some true := blank_f _ (by rw [e0]; omega) rfl
    have hl0 : ((⟨#[]⟩ : ByteArray) ++ (⟨#[]⟩ : ByteArray)) ++ s = s := by
      apply ByteArray.ext
      apply Array.ext'
      simp [ByteArray.data_append]
    rw [if_pos hneg, if_pos hneg]
    simp only
    rw [if_pos (by rw [e0]; omega), if_pos (by rw [ByteArray.size_append, e0]; omega), if_pos (by rw [hl0]), if_pos (by trivial), if_pos (by decide +kernel), hb1]
    simp only [Option.bind_some]
    rw [if_pos (by trivial), blank_f s hs hall]
    rfl
  · have hneg : ¬ (mid29 s).1 < 0 := by omega
    have hat : a < (mid29 s).2 := by have := wd_range s e f7; omega
    have hbt : B s (mid29 s).2 := by
      rw [← f8]
      exact Bd.next e f7 f6
    rw [if_neg hneg, if_neg hneg, f1]
    simp only [Int.toNat_natCast]
    generalize (mid29 s).2 = t at *
    have z1 : (s.extract 0 a).size = a := by simp; omega
    have z2 : (s.extract a t).size = t - a := by simp; omega
    have z3 : (s.extract t s.size).size = s.size - t := by simp
    have hl : (s.extract 0 a ++ s.extract a t) ++ s.extract t s.size = s := by
      apply ByteArray.ext
      apply Array.ext'
      rw [ByteArray.data_append, ByteArray.data_append, Array.toList_append, Array.toList_append, extract_part s 0 a (by omega), extract_part s a t f10, extract_part s t s.size (Nat.le_refl _)]
      have hsz : s.data.toList.length = s.size := Array.length_toList ..
      rw [List.drop_zero, List.take_of_length_le (by omega : s.data.toList.length ≤ s.size)]
      have e1 : s.data.toList.take a ++ (s.data.toList.take t).drop a = s.data.toList.take t := by
        have := List.take_append_drop a (s.data.toList.take t)
        rwa [List.take_take, Nat.min_eq_left (by omega)] at this
      rw [e1, List.take_append_drop]
    have hne : ¬ (s.extract a t).toList = ([] : List UInt8) := by
      intro hh
      have h3 := congrArg List.length hh
      rw [ByteArray.toList_eq] at h3
      have h4 : (s.extract a t).data.toList.length = (s.extract a t).size := Array.length_toList ..
      rw [h4, z2] at h3
      simp at h3
      omega
    have b1 := blank_f (s.extract 0 a) (by omega) (allSp_part (s := s) (a := 0) (m := a) (by omega) Bd.zero f2 (fun b hb _ hlt => f5 b hb hlt) _ 0 Bd.zero)
    have b2 := blank_f (s.extract t s.size) (by omega) (allSp_part (s := s) (a := t) (m := s.size) (Nat.le_refl _) hbt hbn (fun b hb hge hlt => f11 b hb hge hlt) _ 0 hbt)
    rw [if_pos (by omega), if_pos (by rw [ByteArray.size_append]; omega), if_pos (by rw [hl]), if_pos (by trivial), if_neg hne, if_pos (by omega), b1]
    simp only [Option.bind_some]
    rw [if_pos (by trivial), b2]
    rfl
theorem FnSpaces_walk (a0 : ByteArray) (W : World) (h : a0.size ≤ 140737488351232) (hT : Hand.TabB W) :
    Calls Tryd.prog 4 #[.string a0] W fun e w' => e = .returned (.bool true) ∧ Below W.heap.size W w' :=
  laws_FnSpaces.calls a0 true W (law_true a0) hT
end Go.Proofs.YtnhcocjdkmelhaaDoor.Pure
