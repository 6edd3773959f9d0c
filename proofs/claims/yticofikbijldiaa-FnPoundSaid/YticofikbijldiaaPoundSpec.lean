/- A contract by hand: spec.Pound, of texts with a mark or a backslash ahead of a pound sign at the end: it is poundOf, too. -/
import Derived.Test.YticofikbijldiaaPound
namespace Go.Proofs.Yticofikbijldiaa.Hand
open Go.RowKit Go.Proofs.YticofikbijldiaaW.PrintWords Go.Proofs.YticofikbijldiaaW.PrintLast Go.Proofs.YticofikbijldiaaW.PrintMore
set_option linter.unusedVariables false

def specPound (s : ByteArray) : ByteArray :=
  if bt s ((s.size : Int) - 1) = 35 then (if bt s ((s.size : Int) - 2) = 92 then s else if 3 ≤ s.size ∧ bt s ((s.size : Int) - 3) = 92 then s else s.extract 0 ((s.size : Int) - 2).toNat ++ (⟨#[92, 35]⟩ : ByteArray)) else s

theorem at_bt (s : ByteArray) (i : Nat) (j : Int) (h : i < s.size) (e : j = (i : Int)) : ((s[i]'h).toNat : Int) = bt s j := by
  subst e
  exact bt_at s (i : Int) h
theorem snd_at {a : Nat} (p : Prop) (q : Prop) (h : p ∨ q) (hq : ¬ q) : p := h.resolve_right hq

set_option maxRecDepth 100000 in
theorem spec_pound_any (s : ByteArray) (w : World) (hs : 0 < s.size) (hs2 : s.size ≤ 2147483647) (hm : bt s ((s.size : Int) - 1) = 35 → 2 ≤ s.size) :
    Calls Try.prog 25 #[.string s] w fun e w' => e = .returned (.string (specPound s)) ∧ Below w.heap.size w w' := by
  have x1 : ∀ h : s.size - 1 < s.size, ((s[s.size - 1]'h).toNat : Int) = bt s ((s.size : Int) - 1) := fun h => at_bt s _ _ h (by omega)
  have x2 : ∀ h : s.size - 1 - 1 < s.size, ((s[s.size - 1 - 1]'h).toNat : Int) = bt s ((s.size : Int) - 2) ∨ s.size < 2 := fun h => by
    by_cases e : s.size < 2
    · exact .inr e
    · exact .inl (at_bt s _ _ h (by omega))
  have x3 : ∀ h : s.size - 1 - 2 < s.size, ((s[s.size - 1 - 2]'h).toNat : Int) = bt s ((s.size : Int) - 3) ∨ s.size < 3 := fun h => by
    by_cases e : s.size < 3
    · exact .inr e
    · exact .inl (at_bt s _ _ h (by omega))
  have HM := Lib.hid hm
  clear hm
  have hs' : (0 : Int) < (s.size : Int) := by omega
  obtain ⟨y, hy⟩ : ∃ y, bt s ((s.size : Int) - 1) = y := ⟨_, rfl⟩
  obtain ⟨z, hz⟩ : ∃ z, bt s ((s.size : Int) - 2) = z := ⟨_, rfl⟩
  obtain ⟨u, hu⟩ : ∃ u, bt s ((s.size : Int) - 3) = u := ⟨_, rfl⟩
  rw [hy] at x1
  rw [hz] at x2
  rw [hu] at x3
  have HY := Lib.hid hy
  have HZ := Lib.hid hz
  have HU := Lib.hid hu
  clear hy hz hu
  by_cases e1 : y = 35
  · have h2 : 2 ≤ s.size := HM.out (HY.out.trans e1)
    have t1 : (y != 35) = false := by simpa using e1
    have HE := Lib.hid e1
    clear e1
    have x2' := fun h => (x2 h).resolve_right (by omega)
    clear x2
    by_cases e2 : z = 92
    · have t2 : (z == 92) = true := by simpa using e2
      have HE2 := Lib.hid e2
      clear e2 x3
      have hp : specPound s = s := by rw [specPound, if_pos (by rw [HY.out]; exact HE.out), if_pos (by rw [HZ.out]; exact HE2.out)]
      have HP := Lib.hid hp
      clear hp
      go_enter Try.func25, Try.ntmps25
      go_wp2
      all_goals go_ret
      all_goals exact ⟨by rw [HP.out]; rfl, Below.refl _ _⟩
    · have t2 : (z == 92) = false := by simpa using e2
      have HE2 := Lib.hid e2
      clear e2
      by_cases e3 : 3 ≤ s.size
      · have x3' := fun h => (x3 h).resolve_right (by omega)
        clear x3
        by_cases e4 : u = 92
        · have t4 : (u == 92) = true := by simpa using e4
          have HE4 := Lib.hid e4
          clear e4
          have hp : specPound s = s := by rw [specPound, if_pos (by rw [HY.out]; exact HE.out), if_neg (by rw [HZ.out]; exact HE2.out), if_pos ⟨e3, by rw [HU.out]; exact HE4.out⟩]
          have HP := Lib.hid hp
          clear hp
          go_enter Try.func25, Try.ntmps25
          go_wp2
          all_goals go_ret
          all_goals exact ⟨by rw [HP.out]; rfl, Below.refl _ _⟩
        · have t4 : (u == 92) = false := by simpa using e4
          have HE4 := Lib.hid e4
          clear e4
          go_enter Try.func25, Try.ntmps25
          have hp : specPound s = s.extract 0 (s.size - 2) ++ (⟨#[92, 35]⟩ : ByteArray) := by
            rw [specPound, if_pos (by rw [HY.out]; exact HE.out), if_neg (by rw [HZ.out]; exact HE2.out), if_neg (fun h => HE4.out (HU.out.symm.trans h.2)), show ((s.size : Int) - 2).toNat = s.size - 2 by omega]
          have HP := Lib.hid hp
          clear hp
          go_wp2
          all_goals go_ret
          all_goals exact ⟨by rw [HP.out, show s.size - 2 = s.size - 1 - 1 by omega]; rfl, Below.refl _ _⟩
      · have hp : specPound s = s.extract 0 (s.size - 2) ++ (⟨#[92, 35]⟩ : ByteArray) := by
          rw [specPound, if_pos (by rw [HY.out]; exact HE.out), if_neg (by rw [HZ.out]; exact HE2.out), if_neg (fun h => e3 h.1), show ((s.size : Int) - 2).toNat = s.size - 2 by omega]
        have HP := Lib.hid hp
        clear hp
        have t3 : decide (1 < (s.size : Int) - 1) = false := decide_eq_false (by omega)
        go_enter Try.func25, Try.ntmps25
        go_wp2
        all_goals go_ret
        all_goals exact ⟨by rw [HP.out, show s.size - 2 = s.size - 1 - 1 by omega]; rfl, Below.refl _ _⟩
  · have t1 : (y != 35) = true := by simpa using e1
    have HE := Lib.hid e1
    clear e1
    go_enter Try.func25, Try.ntmps25
    go_wp2
    all_goals go_ret
    all_goals refine ⟨?_, Below.refl _ _⟩
    all_goals (rw [specPound, if_neg (by rw [HY.out]; exact HE.out)]; rfl)
end Go.Proofs.Yticofikbijldiaa.Hand
