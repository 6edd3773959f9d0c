-- PRINTED BY print.sh 35421559b90ae4d0a3588c463048766b98c2df88dd9212a6774a882060cdf62d: not written by this session
import Derived.Test.YticofikbijldiaaPFnFenceCountx0
namespace Go.Proofs.Yticofikbijldiaa.PFnFenceCount
open Go.RowKit Go.Proofs.YticofikbijldiaaW.PrintWords Go.Proofs.YticofikbijldiaaW.PrintLast Go.Proofs.YticofikbijldiaaW.PrintMore
attribute [local go_sem] max2_int min2_int max_two min_two max_three min_three max_four min_four   -- for this text's walks alone
set_option linter.unusedVariables false
set_option linter.unusedSimpArgs false

/-! ### textutils_findMax: function 71 -/
def textutils_findMax.l0 : Nat → List Int → Int → List Int → Int → Int → Option (Int)
  | 0, _, _, _, _, _ => none
  | k + 1, x0, x2, x5, x6, x7 => if x7 < x6 then (if 0 ≤ x7 then (if x7 < (x5.length : Int) then (if x7 = 0 then (if x7 < (x0.length : Int) then (if (rd x5 x7) > (rd x0 x7) then (textutils_findMax.l0 k x0 (rd x5 x7) x5 x6 (wrap64 (x7 + 1))) else (textutils_findMax.l0 k x0 (rd x0 x7) x5 x6 (wrap64 (x7 + 1)))) else (none)) else (if (rd x5 x7) > x2 then (textutils_findMax.l0 k x0 (rd x5 x7) x5 x6 (wrap64 (x7 + 1))) else (textutils_findMax.l0 k x0 x2 x5 x6 (wrap64 (x7 + 1))))) else (none)) else (none)) else (some x2)
def textutils_findMax.f (k : Nat) (l0 : List Int) : Option (Int) := textutils_findMax.l0 k l0 0 l0 (l0.length : Int) 0
theorem textutils_findMax.mono_l : ∀ k, (∀ y0 y1 y2 y3 y4, LeO (textutils_findMax.l0 k y0 y1 y2 y3 y4) (textutils_findMax.l0 (k + 1) y0 y1 y2 y3 y4))
  | 0 => fun _ _ _ _ _ r h => by simp [textutils_findMax.l0] at h
  | k + 1 => by
    have ih0 := textutils_findMax.mono_l k
    · intro y0 y1 y2 y3 y4
      unfold textutils_findMax.l0
      repeat' first
      | (with_reducible exact ih0 _ _ _ _ _)
      | (with_reducible exact LeO.refl _)
      | (with_reducible exact LeO.none _)
      | (with_reducible refine LeO.ite ?_ ?_)
      | (with_reducible refine LeO.bind ?_ (fun _ => ?_))
      | exact ih0 _ _ _ _ _
      | exact LeO.none _
      | refine LeO.ite ?_ ?_
      | refine LeO.bind ?_ (fun _ => ?_)
theorem textutils_findMax.mono : ∀ a0 k, LeO (textutils_findMax.f k a0) (textutils_findMax.f (k + 1) a0) := by
  intro a0 k
  have ih0 := textutils_findMax.mono_l k
  unfold textutils_findMax.f
  repeat' first
      | (with_reducible exact ih0 _ _ _ _ _)
      | (with_reducible exact LeO.refl _)
      | (with_reducible exact LeO.none _)
      | (with_reducible refine LeO.ite ?_ ?_)
      | (with_reducible refine LeO.bind ?_ (fun _ => ?_))
      | exact ih0 _ _ _ _ _
      | exact LeO.none _
      | refine LeO.ite ?_ ?_
      | refine LeO.bind ?_ (fun _ => ?_)
set_option maxHeartbeats 8000000 in
set_option maxRecDepth 100000 in
theorem textutils_findMax.calls (k : Nat) (A0 : Option Addr) (c0 : Nat) (l0 : List Int) (r : Int) (w : World) (hr0 : Kd.C (Kd.int .i64) w A0 l0.length l0) (hc0 : l0.length ≤ c0) (h : textutils_findMax.f k l0 = some r) :
    Calls Try.prog 71 #[.slice A0 l0.length c0] w fun e w' => e = .returned (.int .i64 r) ∧ Drawn0 w w' := by
  have HR0 := Aside0.mk hr0
  have HC0 := Aside0.mk hc0
  clear hr0 hc0
  have H : (textutils_findMax.l0 k l0 0 l0 (l0.length : Int) 0) = some r := h
  clear h
  have H' := Aside0.mk H
  clear H
  go_enter Try.func71, Try.ntmps71
  go_wp2
  go_loopg [2, 7] k (fun kq v2 v7 w' => ∃ (x2_1 : Int) (x7_1 : Int), v2 = .int .i64 x2_1 ∧ v7 = .int .i64 x7_1 ∧ Aside0 (textutils_findMax.l0 kq l0 x2_1 l0 (l0.length : Int) x7_1 = some r) ∧ Aside0 (kq ≤ k) ∧ Drawn0 w w')
  case atStart => exact ⟨(0), (0), (by first | rfl | (simp; done) | (simp [*]; done)), (by first | rfl | (simp; done) | (simp [*]; done)), H', ⟨Nat.le_refl _⟩, by repeat (first | exact Drawn0.refl _ | apply Drawn0.step)⟩
  case round =>
    clear H'
    obtain ⟨x2_1, x7_1, rfl, rfl, HA, HK1, ⟨m1, rfl⟩⟩ := hrel
    cases gk with
    | zero => exact absurd HA.out (by simp [textutils_findMax.l0])
    | succ k1 =>
      have H := HA.out
      clear HA
      simp only [textutils_findMax.l0] at H
      by_cases c2 : x7_1 < (l0.length : Int)
      · rw [if_pos c2] at H
        have c2b0 : decide (x7_1 < (l0.length : Int)) = true := decide_eq_true c2
        clear c2
        by_cases c3 : 0 ≤ x7_1
        · rw [if_pos c3] at H
          have c3b0 : decide (0 ≤ x7_1) = true := decide_eq_true c3
          clear c3
          by_cases c4 : x7_1 < (l0.length : Int)
          · rw [if_pos c4] at H
            have c4b0 : decide (x7_1 < (l0.length : Int)) = true := decide_eq_true c4
            clear c4
            by_cases c5 : x7_1 = 0
            · rw [if_pos c5] at H
              have c5b0 : (x7_1 == 0) = true := beq_iff_eq.mpr c5
              have c5b1 : (x7_1 != 0) = false := bne_eq_false_iff_eq.mpr c5
              clear c5
              by_cases c6 : x7_1 < (l0.length : Int)
              · rw [if_pos c6] at H
                have c6b0 : decide (x7_1 < (l0.length : Int)) = true := decide_eq_true c6
                clear c6
                by_cases c7 : (rd l0 x7_1) > (rd l0 x7_1)
                · rw [if_pos c7] at H
                  have c7b0 : decide ((rd l0 x7_1) < (rd l0 x7_1)) = true := decide_eq_true c7
                  clear c7
                  have H' := Aside0.mk H
                  clear H
                  have p101 : 0 ≤ (x7_1 : Int) := of_decide_eq_true (by first | (with_reducible assumption) | assumption)
                  have q101 : x7_1 < (l0.length : Int) := of_decide_eq_true (by first | (with_reducible assumption) | assumption)
                  obtain ⟨ad101, e101, hx101_0⟩ := Kd.at_int HR0.out x7_1 p101 q101
                  cases e101
                  replace p101 := eq_true p101
                  replace q101 := eq_true q101
                  have p102 : 0 ≤ (x7_1 : Int) := of_decide_eq_true (by first | (with_reducible assumption) | assumption)
                  have q102 : x7_1 < (l0.length : Int) := of_decide_eq_true (by first | (with_reducible assumption) | assumption)
                  obtain ⟨ad102, e102, hx102_0⟩ := Kd.at_int HR0.out x7_1 p102 q102
                  obtain rfl : ad101 = ad102 := (by injection e102)
                  replace p102 := eq_true p102
                  replace q102 := eq_true q102
                  go_wp2
                  go_roundg k1
                  case measure => have := HK1.out; omega
                  case rel => exact ⟨(rd l0 x7_1), (wrap64 (x7_1 + 1)), (by first | rfl | (simp; done) | (simp [*]; done)), (by first | rfl | (simp; done) | (simp [*]; done)), H', ⟨by have := HK1.out; omega⟩, by repeat (first | exact Drawn0.refl _ | apply Drawn0.step)⟩
                · rw [if_neg c7] at H
                  have c7b0 : decide ((rd l0 x7_1) < (rd l0 x7_1)) = false := decide_eq_false c7
                  clear c7
                  have H' := Aside0.mk H
                  clear H
                  have p101 : 0 ≤ (x7_1 : Int) := of_decide_eq_true (by first | (with_reducible assumption) | assumption)
                  have q101 : x7_1 < (l0.length : Int) := of_decide_eq_true (by first | (with_reducible assumption) | assumption)
                  obtain ⟨ad101, e101, hx101_0⟩ := Kd.at_int HR0.out x7_1 p101 q101
                  cases e101
                  replace p101 := eq_true p101
                  replace q101 := eq_true q101
                  have p102 : 0 ≤ (x7_1 : Int) := of_decide_eq_true (by first | (with_reducible assumption) | assumption)
                  have q102 : x7_1 < (l0.length : Int) := of_decide_eq_true (by first | (with_reducible assumption) | assumption)
                  obtain ⟨ad102, e102, hx102_0⟩ := Kd.at_int HR0.out x7_1 p102 q102
                  obtain rfl : ad101 = ad102 := (by injection e102)
                  replace p102 := eq_true p102
                  replace q102 := eq_true q102
                  go_wp2
                  go_roundg k1
                  case measure => have := HK1.out; omega
                  case rel => exact ⟨(rd l0 x7_1), (wrap64 (x7_1 + 1)), (by first | rfl | (simp; done) | (simp [*]; done)), (by first | rfl | (simp; done) | (simp [*]; done)), H', ⟨by have := HK1.out; omega⟩, by repeat (first | exact Drawn0.refl _ | apply Drawn0.step)⟩
              · rw [if_neg c6] at H
                exact absurd H (by simp)
            · rw [if_neg c5] at H
              have c5b0 : (x7_1 == 0) = false := beq_eq_false_iff_ne.mpr c5
              have c5b1 : (x7_1 != 0) = true := bne_iff_ne.mpr c5
              by_cases c8 : (rd l0 x7_1) > x2_1
              · rw [if_pos c8] at H
                have c8b0 : decide (x2_1 < (rd l0 x7_1)) = true := decide_eq_true c8
                clear c8
                have H' := Aside0.mk H
                clear H
                have p101 : 0 ≤ (x7_1 : Int) := of_decide_eq_true (by first | (with_reducible assumption) | assumption)
                have q101 : x7_1 < (l0.length : Int) := of_decide_eq_true (by first | (with_reducible assumption) | assumption)
                obtain ⟨ad101, e101, hx101_0⟩ := Kd.at_int HR0.out x7_1 p101 q101
                cases e101
                replace p101 := eq_true p101
                replace q101 := eq_true q101
                go_wp2
                go_roundg k1
                case measure => have := HK1.out; omega
                case rel => exact ⟨(rd l0 x7_1), (wrap64 (x7_1 + 1)), (by first | rfl | (simp; done) | (simp [*]; done)), (by first | rfl | (simp; done) | (simp [*]; done)), H', ⟨by have := HK1.out; omega⟩, by repeat (first | exact Drawn0.refl _ | apply Drawn0.step)⟩
              · rw [if_neg c8] at H
                have c8b0 : decide (x2_1 < (rd l0 x7_1)) = false := decide_eq_false c8
                clear c8
                have H' := Aside0.mk H
                clear H
                have p101 : 0 ≤ (x7_1 : Int) := of_decide_eq_true (by first | (with_reducible assumption) | assumption)
                have q101 : x7_1 < (l0.length : Int) := of_decide_eq_true (by first | (with_reducible assumption) | assumption)
                obtain ⟨ad101, e101, hx101_0⟩ := Kd.at_int HR0.out x7_1 p101 q101
                cases e101
                replace p101 := eq_true p101
                replace q101 := eq_true q101
                go_wp2
                go_roundg k1
                case measure => have := HK1.out; omega
                case rel => exact ⟨(x2_1), (wrap64 (x7_1 + 1)), (by first | rfl | (simp; done) | (simp [*]; done)), (by first | rfl | (simp; done) | (simp [*]; done)), H', ⟨by have := HK1.out; omega⟩, by repeat (first | exact Drawn0.refl _ | apply Drawn0.step)⟩
          · rw [if_neg c4] at H
            exact absurd H (by simp)
        · rw [if_neg c3] at H
          exact absurd H (by simp)
      · rw [if_neg c2] at H
        have c2b0 : decide (x7_1 < (l0.length : Int)) = false := decide_eq_false c2
        clear c2
        obtain rfl := Option.some.inj H
        go_wp2
        go_ret
        exact ⟨by first | rfl | (simp; done) | (simp [*]; done), by repeat (first | exact Drawn0.refl _ | apply Drawn0.step)⟩

-- NOT PRINTED: function 47 (textutils_CalculateCodeFenceOccurrences)

-- NOT PRINTED: function 21 (impl_FenceCount)

-- NOT PRINTED: function 22 (spec_Run29)

-- NOT PRINTED: function 5 (laws_FnFenceCount)

end Go.Proofs.Yticofikbijldiaa.PFnFenceCount
