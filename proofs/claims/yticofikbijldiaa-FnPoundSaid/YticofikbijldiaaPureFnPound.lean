/- FnPound, the plain part: a pound sign at the end of a heading, ahead of which a mark stands, gets a backslash ahead of it; all else stays. No condition. -/
import Derived.Test.YticofikbijldiaaGFnPoundx1
namespace Go.Proofs.Yticofikbijldiaa.Pure
open Go.RowKit Go.Proofs.Yticofikbijldiaa.GFnPound Go.Proofs.YticofikbijldiaaW.PrintWords Go.Proofs.YticofikbijldiaaW.PrintLast

theorem set_last (l : List Int) (a b c : Int) (p : List Int) (h : l = p ++ [a, b]) : l.set (l.length - 2) c = p ++ [c, b] := by
  subst h
  simp
theorem split2 (s : ByteArray) (h2 : 2 ≤ s.size) : Hand.bys s = Hand.bys (s.extract 0 (s.size - 2)) ++ [bt s ((s.size : Int) - 2), bt s ((s.size : Int) - 1)] := by
  rw [show (s.size : Int) - 2 = ((s.size - 2 : Nat) : Int) by omega, show (s.size : Int) - 1 = ((s.size - 1 : Nat) : Int) by omega, Hand.bt_bys, Hand.bt_bys, Hand.bys_extract]
  have hl := Hand.bys_length s
  generalize Hand.bys s = l at *
  rw [← hl] at h2 ⊢
  apply List.ext_getElem
  · simp
    omega
  · intro i h1 h3
    rw [List.getElem_append]
    split
    · simp
    · rename_i h4
      simp at h4
      have : i = l.length - 2 ∨ i = l.length - 1 := by omega
      rcases this with rfl | rfl
      · simp [show min (l.length - 2) l.length = l.length - 2 by omega, List.getElem?_eq_getElem h1]
      · simp [show min (l.length - 2) l.length = l.length - 2 by omega, List.getElem?_eq_getElem h1, show l.length - 1 - (l.length - 2) = 1 by omega]
theorem pounds (s : ByteArray) (h2 : 2 ≤ s.size) (hl : bt s ((s.size : Int) - 1) = 35) : Hand.poundOf s = Hand.specPound s := by
  have hs := split2 s h2
  have hsz : (Hand.bys s).length = s.size := Hand.bys_length s
  have hset : ∀ c, (Hand.bys s).set (s.size - 2) c = Hand.bys (s.extract 0 (s.size - 2)) ++ [c, bt s ((s.size : Int) - 1)] := fun c => by
    have := set_last (Hand.bys s) _ _ c _ hs
    rwa [hsz] at this
  unfold Hand.poundOf Hand.specPound
  rw [if_pos hl, if_pos hl]
  by_cases e : bt s ((s.size : Int) - 2) = 92
  · rw [if_pos e]
    split
    · rfl
    · rw [hset, ← e, ← hs, Hand.str_bys]
  · rw [if_neg e]
    split
    · rfl
    · rw [hset, hl, show ((s.size : Int) - 2).toNat = s.size - 2 by omega]
      rw [← Hand.str_bys (s.extract 0 (s.size - 2) ++ (⟨#[92, 35]⟩ : ByteArray)), Hand.bys_append]
      rfl
theorem wrapm (n k : Nat) (hk : k ≤ 3) (h : n ≤ 140737488351232) : wrap64 ((n : Int) - k) = (n : Int) - k := by
  unfold wrap64
  omega
theorem FnPound : laws_FnPound.Pure := by
  intro s hs
  unfold laws_FnPound.f
  by_cases c0 : (s.size : Int) > 2147483647
  · rw [if_pos c0]
  rw [if_neg c0]
  have w1 : wrap64 ((s.size : Int) - 1) = (s.size : Int) - 1 := wrapm s.size 1 (by omega) hs
  have w2 : wrap64 ((s.size : Int) - 1 - 1) = (s.size : Int) - 2 := by unfold wrap64; omega
  have key : 1 ≤ s.size → (bt s ((s.size : Int) - 1) = 35 → 2 ≤ s.size ∧ (bt s ((s.size : Int) - 2) = 7 ∨ bt s ((s.size : Int) - 2) = 92)) →
      (impl_Pound.f s).bind (fun t102 => (spec_Pound.f s).bind fun t103 => some (t102.toList == t103.toList)) = some true := by
    intro h1 h2
    have hc : 0 < s.size ∧ s.size ≤ 2147483647 ∧ (bt s ((s.size : Int) - 1) = 35 → 2 ≤ s.size) := ⟨by omega, by omega, fun h => (h2 h).1⟩
    rw [impl_Pound.f, if_pos hc, spec_Pound.f, if_pos hc]
    simp only [Option.bind_some]
    have e : Hand.poundOf s = Hand.specPound s := by
      by_cases hl : bt s ((s.size : Int) - 1) = 35
      · exact pounds s (h2 hl).1 hl
      · rw [Hand.poundOf, Hand.specPound, if_neg hl, if_neg hl]
    rw [e]
    simp
  unfold spec_Marked.f
  rw [w1, w2]
  by_cases c1 : (s.size : Int) - 1 ≥ 0
  · rw [if_pos c1, if_pos c1, if_pos (by omega)]
    by_cases c2 : bt s ((s.size : Int) - 1) = 35
    · rw [if_pos c2]
      by_cases c3 : (s.size : Int) - 1 > 0
      · rw [if_pos c3, if_pos (show 0 ≤ (s.size : Int) - 2 by omega), if_pos (by omega)]
        by_cases c4 : bt s ((s.size : Int) - 2) = 7
        · rw [if_pos c4]
          simp only [Option.bind_some, if_true]
          split
          · rfl
          · exact key (by omega) (fun _ => ⟨by omega, .inl c4⟩)
        · rw [if_neg c4]
          simp only [Option.bind_some]
          split
          · rename_i h
            split
            · rfl
            · exact key (by omega) (fun _ => ⟨by omega, .inr (by simpa using h)⟩)
          · rfl
      · rw [if_neg c3]
        rfl
    · rw [if_neg c2]
      simp only [Option.bind_some, if_true]
      split
      · rfl
      · exact key (by omega) (fun h => absurd h c2)
  · rw [if_neg c1]
    rfl

end Go.Proofs.Yticofikbijldiaa.Pure
