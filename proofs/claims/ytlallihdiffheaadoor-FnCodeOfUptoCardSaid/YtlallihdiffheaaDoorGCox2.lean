-- made by a program of this session, after the kit's print
import Derived.Test.YtlallihdiffheaaDoorGCox0
namespace Go.Proofs.YtlallihdiffheaaDoor.GCo
open Go.RowKit Go.Proofs.YtlallihdiffheaaDoorW.PrintWords Go.Proofs.YtlallihdiffheaaDoorW.PrintLast Go.Proofs.YtlallihdiffheaaDoorW.PrintMore
attribute [local go_sem] max2_int min2_int max_two min_two max_three min_three max_four min_four   -- for this text's walks alone
set_option linter.unusedVariables false
set_option linter.unusedSimpArgs false

/-! ### laws_words29: function 13 -/
def laws_words29.l0 : Nat → ByteArray → Int → Int → Option (Bool)
  | 0, _, _, _ => none
  | k + 1, x0, x7, x8 => if x8 < x7 then (if 0 ≤ x8 then (if x8 < (x0.size : Int) then (if (bt x0 x8) ≥ 97 then (if (bt x0 x8) ≤ 122 then (laws_words29.l0 k x0 x7 (wrap64 (x8 + 1))) else (if (bt x0 x8) ≥ 65 then (if (bt x0 x8) ≤ 90 then (laws_words29.l0 k x0 x7 (wrap64 (x8 + 1))) else (if (bt x0 x8) ≥ 48 then (if ((bt x0 x8) ≤ 57) then (laws_words29.l0 k x0 x7 (wrap64 (x8 + 1))) else (if (bt x0 x8) = 32 then (if x8 = 0 then (some false) else (if (wrap64 (x8 + 1)) = (x0.size : Int) then (some false) else (if 0 ≤ (wrap64 (x8 - 1)) then (if (wrap64 (x8 - 1)) < (x0.size : Int) then (if (bt x0 (wrap64 (x8 - 1))) = 32 then (some false) else (laws_words29.l0 k x0 x7 (wrap64 (x8 + 1)))) else (none)) else (none)))) else (some false))) else (if (bt x0 x8) = 32 then (if x8 = 0 then (some false) else (if (wrap64 (x8 + 1)) = (x0.size : Int) then (some false) else (if 0 ≤ (wrap64 (x8 - 1)) then (if (wrap64 (x8 - 1)) < (x0.size : Int) then (if (bt x0 (wrap64 (x8 - 1))) = 32 then (some false) else (laws_words29.l0 k x0 x7 (wrap64 (x8 + 1)))) else (none)) else (none)))) else (some false)))) else (if (bt x0 x8) ≥ 48 then (if ((bt x0 x8) ≤ 57) then (laws_words29.l0 k x0 x7 (wrap64 (x8 + 1))) else (if (bt x0 x8) = 32 then (if x8 = 0 then (some false) else (if (wrap64 (x8 + 1)) = (x0.size : Int) then (some false) else (if 0 ≤ (wrap64 (x8 - 1)) then (if (wrap64 (x8 - 1)) < (x0.size : Int) then (if (bt x0 (wrap64 (x8 - 1))) = 32 then (some false) else (laws_words29.l0 k x0 x7 (wrap64 (x8 + 1)))) else (none)) else (none)))) else (some false))) else (if (bt x0 x8) = 32 then (if x8 = 0 then (some false) else (if (wrap64 (x8 + 1)) = (x0.size : Int) then (some false) else (if 0 ≤ (wrap64 (x8 - 1)) then (if (wrap64 (x8 - 1)) < (x0.size : Int) then (if (bt x0 (wrap64 (x8 - 1))) = 32 then (some false) else (laws_words29.l0 k x0 x7 (wrap64 (x8 + 1)))) else (none)) else (none)))) else (some false))))) else (if (bt x0 x8) ≥ 65 then (if (bt x0 x8) ≤ 90 then (laws_words29.l0 k x0 x7 (wrap64 (x8 + 1))) else (if (bt x0 x8) ≥ 48 then (if ((bt x0 x8) ≤ 57) then (laws_words29.l0 k x0 x7 (wrap64 (x8 + 1))) else (if (bt x0 x8) = 32 then (if x8 = 0 then (some false) else (if (wrap64 (x8 + 1)) = (x0.size : Int) then (some false) else (if 0 ≤ (wrap64 (x8 - 1)) then (if (wrap64 (x8 - 1)) < (x0.size : Int) then (if (bt x0 (wrap64 (x8 - 1))) = 32 then (some false) else (laws_words29.l0 k x0 x7 (wrap64 (x8 + 1)))) else (none)) else (none)))) else (some false))) else (if (bt x0 x8) = 32 then (if x8 = 0 then (some false) else (if (wrap64 (x8 + 1)) = (x0.size : Int) then (some false) else (if 0 ≤ (wrap64 (x8 - 1)) then (if (wrap64 (x8 - 1)) < (x0.size : Int) then (if (bt x0 (wrap64 (x8 - 1))) = 32 then (some false) else (laws_words29.l0 k x0 x7 (wrap64 (x8 + 1)))) else (none)) else (none)))) else (some false)))) else (if (bt x0 x8) ≥ 48 then (if ((bt x0 x8) ≤ 57) then (laws_words29.l0 k x0 x7 (wrap64 (x8 + 1))) else (if (bt x0 x8) = 32 then (if x8 = 0 then (some false) else (if (wrap64 (x8 + 1)) = (x0.size : Int) then (some false) else (if 0 ≤ (wrap64 (x8 - 1)) then (if (wrap64 (x8 - 1)) < (x0.size : Int) then (if (bt x0 (wrap64 (x8 - 1))) = 32 then (some false) else (laws_words29.l0 k x0 x7 (wrap64 (x8 + 1)))) else (none)) else (none)))) else (some false))) else (if (bt x0 x8) = 32 then (if x8 = 0 then (some false) else (if (wrap64 (x8 + 1)) = (x0.size : Int) then (some false) else (if 0 ≤ (wrap64 (x8 - 1)) then (if (wrap64 (x8 - 1)) < (x0.size : Int) then (if (bt x0 (wrap64 (x8 - 1))) = 32 then (some false) else (laws_words29.l0 k x0 x7 (wrap64 (x8 + 1)))) else (none)) else (none)))) else (some false))))) else (none)) else (none)) else (some true)
def laws_words29.f (k : Nat) (a0 : ByteArray) : Option (Bool) := laws_words29.l0 k a0 (a0.size : Int) 0
theorem laws_words29.mono_l : ∀ k, (∀ y0 y1 y2, LeO (laws_words29.l0 k y0 y1 y2) (laws_words29.l0 (k + 1) y0 y1 y2))
  | 0 => fun _ _ _ r h => by simp [laws_words29.l0] at h
  | k + 1 => by
    have ih0 := laws_words29.mono_l k
    · intro y0 y1 y2
      unfold laws_words29.l0
      repeat' first
      | (with_reducible exact ih0 _ _ _)
      | (with_reducible exact LeO.refl _)
      | (with_reducible exact LeO.none _)
      | (with_reducible refine LeO.ite ?_ ?_)
      | (with_reducible refine LeO.bind ?_ (fun _ => ?_))
      | exact ih0 _ _ _
      | exact LeO.none _
      | refine LeO.ite ?_ ?_
      | refine LeO.bind ?_ (fun _ => ?_)
theorem laws_words29.mono : ∀ a0 k, LeO (laws_words29.f k a0) (laws_words29.f (k + 1) a0) := by
  intro a0 k
  have ih0 := laws_words29.mono_l k
  unfold laws_words29.f
  repeat' first
      | (with_reducible exact ih0 _ _ _)
      | (with_reducible exact LeO.refl _)
      | (with_reducible exact LeO.none _)
      | (with_reducible refine LeO.ite ?_ ?_)
      | (with_reducible refine LeO.bind ?_ (fun _ => ?_))
      | exact ih0 _ _ _
      | exact LeO.none _
      | refine LeO.ite ?_ ?_
      | refine LeO.bind ?_ (fun _ => ?_)
set_option maxHeartbeats 8000000 in
set_option maxRecDepth 100000 in
theorem laws_words29.calls (k : Nat) (a0 : ByteArray) (r : Bool) (w : World) (h : laws_words29.f k a0 = some r) :
    Calls Tryd.prog 13 #[.string a0] w fun e w' => e = .returned (.bool r) ∧ Drawn0 w w' := by
  have H : (laws_words29.l0 k a0 (a0.size : Int) 0) = some r := h
  clear h
  have H' := Aside0.mk H
  clear H
  go_enter Tryd.func13, Tryd.ntmps13
  go_wp2
  go_loopg [8] k (fun kq v8 w' => ∃ (x8_1 : Int), v8 = .int .i64 x8_1 ∧ Aside0 (laws_words29.l0 kq a0 (a0.size : Int) x8_1 = some r) ∧ Aside0 (kq ≤ k) ∧ Drawn0 w w')
  case atStart => exact ⟨(0), (by first | rfl | (simp; done) | (simp [*]; done)), H', ⟨Nat.le_refl _⟩, by repeat (first | exact Drawn0.refl _ | apply Drawn0.step)⟩
  case round =>
    clear H'
    try clear c1
    obtain ⟨x8_1, rfl, HA, HK1, ⟨m1, rfl⟩⟩ := hrel
    cases gk with
    | zero => exact absurd HA.out (by simp [laws_words29.l0])
    | succ k1 =>
      have H := HA.out
      clear HA
      simp only [laws_words29.l0] at H
      by_cases c2 : x8_1 < (a0.size : Int)
      · rw [if_pos c2] at H
        have c2b0 : decide (x8_1 < (a0.size : Int)) = true := decide_eq_true c2
        clear c2
        by_cases c3 : 0 ≤ x8_1
        · rw [if_pos c3] at H
          have c3b0 : decide (0 ≤ x8_1) = true := decide_eq_true c3
          clear c3
          by_cases c4 : x8_1 < (a0.size : Int)
          · rw [if_pos c4] at H
            have c4b0 : decide (x8_1 < (a0.size : Int)) = true := decide_eq_true c4
            clear c4
            by_cases c6 : (bt a0 x8_1) ≥ 97
            · rw [if_pos c6] at H
              have c6b0 : decide (97 ≤ (bt a0 x8_1)) = true := decide_eq_true c6
              clear c6
              by_cases c7 : (bt a0 x8_1) ≤ 122
              · rw [if_pos c7] at H
                have c7b0 : decide ((bt a0 x8_1) ≤ 122) = true := decide_eq_true c7
                clear c7
                have H' := Aside0.mk H
                clear H
                have p5 : 0 ≤ (x8_1 : Int) := of_decide_eq_true (by first | (with_reducible assumption) | assumption)
                have q5 : x8_1 < (a0.size : Int) := of_decide_eq_true (by first | (with_reducible assumption) | assumption)
                have hx5 := bt_at a0 x8_1
                replace p5 := eq_true p5
                replace q5 := eq_true q5
                go_wp2
                go_roundg k1
                case measure => have := HK1.out; omega
                case rel => exact ⟨(wrap64 (x8_1 + 1)), (by first | rfl | (simp; done) | (simp [*]; done)), H', ⟨by have := HK1.out; omega⟩, by repeat (first | exact Drawn0.refl _ | apply Drawn0.step)⟩
              · rw [if_neg c7] at H
                have c7b0 : decide ((bt a0 x8_1) ≤ 122) = false := decide_eq_false c7
                clear c7
                by_cases c8 : (bt a0 x8_1) ≥ 65
                · rw [if_pos c8] at H
                  have c8b0 : decide (65 ≤ (bt a0 x8_1)) = true := decide_eq_true c8
                  clear c8
                  by_cases c9 : (bt a0 x8_1) ≤ 90
                  · rw [if_pos c9] at H
                    have c9b0 : decide ((bt a0 x8_1) ≤ 90) = true := decide_eq_true c9
                    clear c9
                    have H' := Aside0.mk H
                    clear H
                    have p5 : 0 ≤ (x8_1 : Int) := of_decide_eq_true (by first | (with_reducible assumption) | assumption)
                    have q5 : x8_1 < (a0.size : Int) := of_decide_eq_true (by first | (with_reducible assumption) | assumption)
                    have hx5 := bt_at a0 x8_1
                    replace p5 := eq_true p5
                    replace q5 := eq_true q5
                    go_wp2
                    go_roundg k1
                    case measure => have := HK1.out; omega
                    case rel => exact ⟨(wrap64 (x8_1 + 1)), (by first | rfl | (simp; done) | (simp [*]; done)), H', ⟨by have := HK1.out; omega⟩, by repeat (first | exact Drawn0.refl _ | apply Drawn0.step)⟩
                  · rw [if_neg c9] at H
                    have c9b0 : decide ((bt a0 x8_1) ≤ 90) = false := decide_eq_false c9
                    clear c9
                    by_cases c10 : (bt a0 x8_1) ≥ 48
                    · rw [if_pos c10] at H
                      have c10b0 : decide (48 ≤ (bt a0 x8_1)) = true := decide_eq_true c10
                      clear c10
                      by_cases c11 : ((bt a0 x8_1) ≤ 57)
                      · rw [if_pos c11] at H
                        have c11b0 : decide ((bt a0 x8_1) ≤ 57) = true := decide_eq_true c11
                        clear c11
                        have H' := Aside0.mk H
                        clear H
                        have p5 : 0 ≤ (x8_1 : Int) := of_decide_eq_true (by first | (with_reducible assumption) | assumption)
                        have q5 : x8_1 < (a0.size : Int) := of_decide_eq_true (by first | (with_reducible assumption) | assumption)
                        have hx5 := bt_at a0 x8_1
                        replace p5 := eq_true p5
                        replace q5 := eq_true q5
                        go_wp2
                        go_roundg k1
                        case measure => have := HK1.out; omega
                        case rel => exact ⟨(wrap64 (x8_1 + 1)), (by first | rfl | (simp; done) | (simp [*]; done)), H', ⟨by have := HK1.out; omega⟩, by repeat (first | exact Drawn0.refl _ | apply Drawn0.step)⟩
                      · rw [if_neg c11] at H
                        have c11b0 : decide ((bt a0 x8_1) ≤ 57) = false := decide_eq_false c11
                        clear c11
                        by_cases c12 : (bt a0 x8_1) = 32
                        · rw [if_pos c12] at H
                          have c12b0 : ((bt a0 x8_1) == 32) = true := beq_iff_eq.mpr c12
                          have c12b1 : ((bt a0 x8_1) != 32) = false := bne_eq_false_iff_eq.mpr c12
                          clear c12
                          by_cases c13 : x8_1 = 0
                          · rw [if_pos c13] at H
                            have c13b0 : (x8_1 == 0) = true := beq_iff_eq.mpr c13
                            have c13b1 : (x8_1 != 0) = false := bne_eq_false_iff_eq.mpr c13
                            clear c13
                            obtain rfl := Option.some.inj H
                            have p5 : 0 ≤ (x8_1 : Int) := of_decide_eq_true (by first | (with_reducible assumption) | assumption)
                            have q5 : x8_1 < (a0.size : Int) := of_decide_eq_true (by first | (with_reducible assumption) | assumption)
                            have hx5 := bt_at a0 x8_1
                            replace p5 := eq_true p5
                            replace q5 := eq_true q5
                            go_wp2
                            go_ret
                            exact ⟨by first | rfl | (simp; done) | (simp [*]; done), by repeat (first | exact Drawn0.refl _ | apply Drawn0.step)⟩
                          · rw [if_neg c13] at H
                            have c13b0 : (x8_1 == 0) = false := beq_eq_false_iff_ne.mpr c13
                            have c13b1 : (x8_1 != 0) = true := bne_iff_ne.mpr c13
                            by_cases c14 : (wrap64 (x8_1 + 1)) = (a0.size : Int)
                            · rw [if_pos c14] at H
                              have c14b0 : ((wrap64 (x8_1 + 1)) == (a0.size : Int)) = true := beq_iff_eq.mpr c14
                              have c14b1 : ((wrap64 (x8_1 + 1)) != (a0.size : Int)) = false := bne_eq_false_iff_eq.mpr c14
                              clear c14
                              obtain rfl := Option.some.inj H
                              have p5 : 0 ≤ (x8_1 : Int) := of_decide_eq_true (by first | (with_reducible assumption) | assumption)
                              have q5 : x8_1 < (a0.size : Int) := of_decide_eq_true (by first | (with_reducible assumption) | assumption)
                              have hx5 := bt_at a0 x8_1
                              replace p5 := eq_true p5
                              replace q5 := eq_true q5
                              go_wp2
                              go_ret
                              exact ⟨by first | rfl | (simp; done) | (simp [*]; done), by repeat (first | exact Drawn0.refl _ | apply Drawn0.step)⟩
                            · rw [if_neg c14] at H
                              have c14b0 : ((wrap64 (x8_1 + 1)) == (a0.size : Int)) = false := beq_eq_false_iff_ne.mpr c14
                              have c14b1 : ((wrap64 (x8_1 + 1)) != (a0.size : Int)) = true := bne_iff_ne.mpr c14
                              obtain ⟨ji15, hji15⟩ : ∃ j_ : Int, (wrap64 (x8_1 - 1)) = j_ := ⟨_, rfl⟩
                              replace H : (if 0 ≤ (ji15) then (if (ji15) < (a0.size : Int) then (if (bt a0 (ji15)) = 32 then (some false) else (laws_words29.l0 k1 a0 (a0.size : Int) (wrap64 (x8_1 + 1)))) else (none)) else (none)) = some r := by first | (rw [hji15] at H; exact H) | (simp only [hji15] at H ⊢; exact H)
                              have hji15w : (IntKind.i64.wrap (x8_1 - 1)) = ji15 := (i64_w _).trans hji15
                              by_cases c16 : 0 ≤ (ji15)
                              · rw [if_pos c16] at H
                                have c16b0 : decide (0 ≤ (ji15)) = true := decide_eq_true c16
                                clear c16
                                by_cases c17 : (ji15) < (a0.size : Int)
                                · rw [if_pos c17] at H
                                  have c17b0 : decide ((ji15) < (a0.size : Int)) = true := decide_eq_true c17
                                  clear c17
                                  by_cases c19 : (bt a0 (ji15)) = 32
                                  · rw [if_pos c19] at H
                                    have c19b0 : ((bt a0 (ji15)) == 32) = true := beq_iff_eq.mpr c19
                                    have c19b1 : ((bt a0 (ji15)) != 32) = false := bne_eq_false_iff_eq.mpr c19
                                    clear c19
                                    obtain rfl := Option.some.inj H
                                    have p5 : 0 ≤ (x8_1 : Int) := of_decide_eq_true (by first | (with_reducible assumption) | assumption)
                                    have q5 : x8_1 < (a0.size : Int) := of_decide_eq_true (by first | (with_reducible assumption) | assumption)
                                    have hx5 := bt_at a0 x8_1
                                    replace p5 := eq_true p5
                                    replace q5 := eq_true q5
                                    have p18 : 0 ≤ ((ji15) : Int) := of_decide_eq_true (by first | (with_reducible assumption) | assumption)
                                    have q18 : (ji15) < (a0.size : Int) := of_decide_eq_true (by first | (with_reducible assumption) | assumption)
                                    have hx18 := bt_at a0 (ji15)
                                    replace p18 := eq_true p18
                                    replace q18 := eq_true q18
                                    go_wp2
                                    go_ret
                                    exact ⟨by first | rfl | (simp; done) | (simp only [← hji15] <;> (first | rfl | simp)) | (simp [*]; done), by repeat (first | exact Drawn0.refl _ | apply Drawn0.step)⟩
                                  · rw [if_neg c19] at H
                                    have c19b0 : ((bt a0 (ji15)) == 32) = false := beq_eq_false_iff_ne.mpr c19
                                    have c19b1 : ((bt a0 (ji15)) != 32) = true := bne_iff_ne.mpr c19
                                    have H' := Aside0.mk H
                                    clear H
                                    have p5 : 0 ≤ (x8_1 : Int) := of_decide_eq_true (by first | (with_reducible assumption) | assumption)
                                    have q5 : x8_1 < (a0.size : Int) := of_decide_eq_true (by first | (with_reducible assumption) | assumption)
                                    have hx5 := bt_at a0 x8_1
                                    replace p5 := eq_true p5
                                    replace q5 := eq_true q5
                                    have p18 : 0 ≤ ((ji15) : Int) := of_decide_eq_true (by first | (with_reducible assumption) | assumption)
                                    have q18 : (ji15) < (a0.size : Int) := of_decide_eq_true (by first | (with_reducible assumption) | assumption)
                                    have hx18 := bt_at a0 (ji15)
                                    replace p18 := eq_true p18
                                    replace q18 := eq_true q18
                                    go_wp2
                                    go_roundg k1
                                    case measure => have := HK1.out; omega
                                    case rel => exact ⟨(wrap64 (x8_1 + 1)), (by first | rfl | (simp; done) | (simp [*]; done)), H', ⟨by have := HK1.out; omega⟩, by repeat (first | exact Drawn0.refl _ | apply Drawn0.step)⟩
                                · rw [if_neg c17] at H
                                  exact absurd H (by simp)
                              · rw [if_neg c16] at H
                                exact absurd H (by simp)
                        · rw [if_neg c12] at H
                          have c12b0 : ((bt a0 x8_1) == 32) = false := beq_eq_false_iff_ne.mpr c12
                          have c12b1 : ((bt a0 x8_1) != 32) = true := bne_iff_ne.mpr c12
                          obtain rfl := Option.some.inj H
                          have p5 : 0 ≤ (x8_1 : Int) := of_decide_eq_true (by first | (with_reducible assumption) | assumption)
                          have q5 : x8_1 < (a0.size : Int) := of_decide_eq_true (by first | (with_reducible assumption) | assumption)
                          have hx5 := bt_at a0 x8_1
                          replace p5 := eq_true p5
                          replace q5 := eq_true q5
                          go_wp2
                          go_ret
                          exact ⟨by first | rfl | (simp; done) | (simp [*]; done), by repeat (first | exact Drawn0.refl _ | apply Drawn0.step)⟩
                    · rw [if_neg c10] at H
                      have c10b0 : decide (48 ≤ (bt a0 x8_1)) = false := decide_eq_false c10
                      clear c10
                      by_cases c20 : (bt a0 x8_1) = 32
                      · rw [if_pos c20] at H
                        have c20b0 : ((bt a0 x8_1) == 32) = true := beq_iff_eq.mpr c20
                        have c20b1 : ((bt a0 x8_1) != 32) = false := bne_eq_false_iff_eq.mpr c20
                        clear c20
                        by_cases c21 : x8_1 = 0
                        · rw [if_pos c21] at H
                          have c21b0 : (x8_1 == 0) = true := beq_iff_eq.mpr c21
                          have c21b1 : (x8_1 != 0) = false := bne_eq_false_iff_eq.mpr c21
                          clear c21
                          obtain rfl := Option.some.inj H
                          have p5 : 0 ≤ (x8_1 : Int) := of_decide_eq_true (by first | (with_reducible assumption) | assumption)
                          have q5 : x8_1 < (a0.size : Int) := of_decide_eq_true (by first | (with_reducible assumption) | assumption)
                          have hx5 := bt_at a0 x8_1
                          replace p5 := eq_true p5
                          replace q5 := eq_true q5
                          go_wp2
                          go_ret
                          exact ⟨by first | rfl | (simp; done) | (simp [*]; done), by repeat (first | exact Drawn0.refl _ | apply Drawn0.step)⟩
                        · rw [if_neg c21] at H
                          have c21b0 : (x8_1 == 0) = false := beq_eq_false_iff_ne.mpr c21
                          have c21b1 : (x8_1 != 0) = true := bne_iff_ne.mpr c21
                          by_cases c22 : (wrap64 (x8_1 + 1)) = (a0.size : Int)
                          · rw [if_pos c22] at H
                            have c22b0 : ((wrap64 (x8_1 + 1)) == (a0.size : Int)) = true := beq_iff_eq.mpr c22
                            have c22b1 : ((wrap64 (x8_1 + 1)) != (a0.size : Int)) = false := bne_eq_false_iff_eq.mpr c22
                            clear c22
                            obtain rfl := Option.some.inj H
                            have p5 : 0 ≤ (x8_1 : Int) := of_decide_eq_true (by first | (with_reducible assumption) | assumption)
                            have q5 : x8_1 < (a0.size : Int) := of_decide_eq_true (by first | (with_reducible assumption) | assumption)
                            have hx5 := bt_at a0 x8_1
                            replace p5 := eq_true p5
                            replace q5 := eq_true q5
                            go_wp2
                            go_ret
                            exact ⟨by first | rfl | (simp; done) | (simp [*]; done), by repeat (first | exact Drawn0.refl _ | apply Drawn0.step)⟩
                          · rw [if_neg c22] at H
                            have c22b0 : ((wrap64 (x8_1 + 1)) == (a0.size : Int)) = false := beq_eq_false_iff_ne.mpr c22
                            have c22b1 : ((wrap64 (x8_1 + 1)) != (a0.size : Int)) = true := bne_iff_ne.mpr c22
                            obtain ⟨ji23, hji23⟩ : ∃ j_ : Int, (wrap64 (x8_1 - 1)) = j_ := ⟨_, rfl⟩
                            replace H : (if 0 ≤ (ji23) then (if (ji23) < (a0.size : Int) then (if (bt a0 (ji23)) = 32 then (some false) else (laws_words29.l0 k1 a0 (a0.size : Int) (wrap64 (x8_1 + 1)))) else (none)) else (none)) = some r := by first | (rw [hji23] at H; exact H) | (simp only [hji23] at H ⊢; exact H)
                            have hji23w : (IntKind.i64.wrap (x8_1 - 1)) = ji23 := (i64_w _).trans hji23
                            by_cases c24 : 0 ≤ (ji23)
                            · rw [if_pos c24] at H
                              have c24b0 : decide (0 ≤ (ji23)) = true := decide_eq_true c24
                              clear c24
                              by_cases c25 : (ji23) < (a0.size : Int)
                              · rw [if_pos c25] at H
                                have c25b0 : decide ((ji23) < (a0.size : Int)) = true := decide_eq_true c25
                                clear c25
                                by_cases c27 : (bt a0 (ji23)) = 32
                                · rw [if_pos c27] at H
                                  have c27b0 : ((bt a0 (ji23)) == 32) = true := beq_iff_eq.mpr c27
                                  have c27b1 : ((bt a0 (ji23)) != 32) = false := bne_eq_false_iff_eq.mpr c27
                                  clear c27
                                  obtain rfl := Option.some.inj H
                                  have p5 : 0 ≤ (x8_1 : Int) := of_decide_eq_true (by first | (with_reducible assumption) | assumption)
                                  have q5 : x8_1 < (a0.size : Int) := of_decide_eq_true (by first | (with_reducible assumption) | assumption)
                                  have hx5 := bt_at a0 x8_1
                                  replace p5 := eq_true p5
                                  replace q5 := eq_true q5
                                  have p26 : 0 ≤ ((ji23) : Int) := of_decide_eq_true (by first | (with_reducible assumption) | assumption)
                                  have q26 : (ji23) < (a0.size : Int) := of_decide_eq_true (by first | (with_reducible assumption) | assumption)
                                  have hx26 := bt_at a0 (ji23)
                                  replace p26 := eq_true p26
                                  replace q26 := eq_true q26
                                  go_wp2
                                  go_ret
                                  exact ⟨by first | rfl | (simp; done) | (simp only [← hji23] <;> (first | rfl | simp)) | (simp [*]; done), by repeat (first | exact Drawn0.refl _ | apply Drawn0.step)⟩
                                · rw [if_neg c27] at H
                                  have c27b0 : ((bt a0 (ji23)) == 32) = false := beq_eq_false_iff_ne.mpr c27
                                  have c27b1 : ((bt a0 (ji23)) != 32) = true := bne_iff_ne.mpr c27
                                  have H' := Aside0.mk H
                                  clear H
                                  have p5 : 0 ≤ (x8_1 : Int) := of_decide_eq_true (by first | (with_reducible assumption) | assumption)
                                  have q5 : x8_1 < (a0.size : Int) := of_decide_eq_true (by first | (with_reducible assumption) | assumption)
                                  have hx5 := bt_at a0 x8_1
                                  replace p5 := eq_true p5
                                  replace q5 := eq_true q5
                                  have p26 : 0 ≤ ((ji23) : Int) := of_decide_eq_true (by first | (with_reducible assumption) | assumption)
                                  have q26 : (ji23) < (a0.size : Int) := of_decide_eq_true (by first | (with_reducible assumption) | assumption)
                                  have hx26 := bt_at a0 (ji23)
                                  replace p26 := eq_true p26
                                  replace q26 := eq_true q26
                                  go_wp2
                                  go_roundg k1
                                  case measure => have := HK1.out; omega
                                  case rel => exact ⟨(wrap64 (x8_1 + 1)), (by first | rfl | (simp; done) | (simp [*]; done)), H', ⟨by have := HK1.out; omega⟩, by repeat (first | exact Drawn0.refl _ | apply Drawn0.step)⟩
                              · rw [if_neg c25] at H
                                exact absurd H (by simp)
                            · rw [if_neg c24] at H
                              exact absurd H (by simp)
                      · rw [if_neg c20] at H
                        have c20b0 : ((bt a0 x8_1) == 32) = false := beq_eq_false_iff_ne.mpr c20
                        have c20b1 : ((bt a0 x8_1) != 32) = true := bne_iff_ne.mpr c20
                        obtain rfl := Option.some.inj H
                        have p5 : 0 ≤ (x8_1 : Int) := of_decide_eq_true (by first | (with_reducible assumption) | assumption)
                        have q5 : x8_1 < (a0.size : Int) := of_decide_eq_true (by first | (with_reducible assumption) | assumption)
                        have hx5 := bt_at a0 x8_1
                        replace p5 := eq_true p5
                        replace q5 := eq_true q5
                        go_wp2
                        go_ret
                        exact ⟨by first | rfl | (simp; done) | (simp [*]; done), by repeat (first | exact Drawn0.refl _ | apply Drawn0.step)⟩
                · rw [if_neg c8] at H
                  have c8b0 : decide (65 ≤ (bt a0 x8_1)) = false := decide_eq_false c8
                  clear c8
                  by_cases c28 : (bt a0 x8_1) ≥ 48
                  · rw [if_pos c28] at H
                    have c28b0 : decide (48 ≤ (bt a0 x8_1)) = true := decide_eq_true c28
                    clear c28
                    by_cases c29 : ((bt a0 x8_1) ≤ 57)
                    · rw [if_pos c29] at H
                      have c29b0 : decide ((bt a0 x8_1) ≤ 57) = true := decide_eq_true c29
                      clear c29
                      have H' := Aside0.mk H
                      clear H
                      have p5 : 0 ≤ (x8_1 : Int) := of_decide_eq_true (by first | (with_reducible assumption) | assumption)
                      have q5 : x8_1 < (a0.size : Int) := of_decide_eq_true (by first | (with_reducible assumption) | assumption)
                      have hx5 := bt_at a0 x8_1
                      replace p5 := eq_true p5
                      replace q5 := eq_true q5
                      go_wp2
                      go_roundg k1
                      case measure => have := HK1.out; omega
                      case rel => exact ⟨(wrap64 (x8_1 + 1)), (by first | rfl | (simp; done) | (simp [*]; done)), H', ⟨by have := HK1.out; omega⟩, by repeat (first | exact Drawn0.refl _ | apply Drawn0.step)⟩
                    · rw [if_neg c29] at H
                      have c29b0 : decide ((bt a0 x8_1) ≤ 57) = false := decide_eq_false c29
                      clear c29
                      by_cases c30 : (bt a0 x8_1) = 32
                      · rw [if_pos c30] at H
                        have c30b0 : ((bt a0 x8_1) == 32) = true := beq_iff_eq.mpr c30
                        have c30b1 : ((bt a0 x8_1) != 32) = false := bne_eq_false_iff_eq.mpr c30
                        clear c30
                        by_cases c31 : x8_1 = 0
                        · rw [if_pos c31] at H
                          have c31b0 : (x8_1 == 0) = true := beq_iff_eq.mpr c31
                          have c31b1 : (x8_1 != 0) = false := bne_eq_false_iff_eq.mpr c31
                          clear c31
                          obtain rfl := Option.some.inj H
                          have p5 : 0 ≤ (x8_1 : Int) := of_decide_eq_true (by first | (with_reducible assumption) | assumption)
                          have q5 : x8_1 < (a0.size : Int) := of_decide_eq_true (by first | (with_reducible assumption) | assumption)
                          have hx5 := bt_at a0 x8_1
                          replace p5 := eq_true p5
                          replace q5 := eq_true q5
                          go_wp2
                          go_ret
                          exact ⟨by first | rfl | (simp; done) | (simp [*]; done), by repeat (first | exact Drawn0.refl _ | apply Drawn0.step)⟩
                        · rw [if_neg c31] at H
                          have c31b0 : (x8_1 == 0) = false := beq_eq_false_iff_ne.mpr c31
                          have c31b1 : (x8_1 != 0) = true := bne_iff_ne.mpr c31
                          by_cases c32 : (wrap64 (x8_1 + 1)) = (a0.size : Int)
                          · rw [if_pos c32] at H
                            have c32b0 : ((wrap64 (x8_1 + 1)) == (a0.size : Int)) = true := beq_iff_eq.mpr c32
                            have c32b1 : ((wrap64 (x8_1 + 1)) != (a0.size : Int)) = false := bne_eq_false_iff_eq.mpr c32
                            clear c32
                            obtain rfl := Option.some.inj H
                            have p5 : 0 ≤ (x8_1 : Int) := of_decide_eq_true (by first | (with_reducible assumption) | assumption)
                            have q5 : x8_1 < (a0.size : Int) := of_decide_eq_true (by first | (with_reducible assumption) | assumption)
                            have hx5 := bt_at a0 x8_1
                            replace p5 := eq_true p5
                            replace q5 := eq_true q5
                            go_wp2
                            go_ret
                            exact ⟨by first | rfl | (simp; done) | (simp [*]; done), by repeat (first | exact Drawn0.refl _ | apply Drawn0.step)⟩
                          · rw [if_neg c32] at H
                            have c32b0 : ((wrap64 (x8_1 + 1)) == (a0.size : Int)) = false := beq_eq_false_iff_ne.mpr c32
                            have c32b1 : ((wrap64 (x8_1 + 1)) != (a0.size : Int)) = true := bne_iff_ne.mpr c32
                            obtain ⟨ji33, hji33⟩ : ∃ j_ : Int, (wrap64 (x8_1 - 1)) = j_ := ⟨_, rfl⟩
                            replace H : (if 0 ≤ (ji33) then (if (ji33) < (a0.size : Int) then (if (bt a0 (ji33)) = 32 then (some false) else (laws_words29.l0 k1 a0 (a0.size : Int) (wrap64 (x8_1 + 1)))) else (none)) else (none)) = some r := by first | (rw [hji33] at H; exact H) | (simp only [hji33] at H ⊢; exact H)
                            have hji33w : (IntKind.i64.wrap (x8_1 - 1)) = ji33 := (i64_w _).trans hji33
                            by_cases c34 : 0 ≤ (ji33)
                            · rw [if_pos c34] at H
                              have c34b0 : decide (0 ≤ (ji33)) = true := decide_eq_true c34
                              clear c34
                              by_cases c35 : (ji33) < (a0.size : Int)
                              · rw [if_pos c35] at H
                                have c35b0 : decide ((ji33) < (a0.size : Int)) = true := decide_eq_true c35
                                clear c35
                                by_cases c37 : (bt a0 (ji33)) = 32
                                · rw [if_pos c37] at H
                                  have c37b0 : ((bt a0 (ji33)) == 32) = true := beq_iff_eq.mpr c37
                                  have c37b1 : ((bt a0 (ji33)) != 32) = false := bne_eq_false_iff_eq.mpr c37
                                  clear c37
                                  obtain rfl := Option.some.inj H
                                  have p5 : 0 ≤ (x8_1 : Int) := of_decide_eq_true (by first | (with_reducible assumption) | assumption)
                                  have q5 : x8_1 < (a0.size : Int) := of_decide_eq_true (by first | (with_reducible assumption) | assumption)
                                  have hx5 := bt_at a0 x8_1
                                  replace p5 := eq_true p5
                                  replace q5 := eq_true q5
                                  have p36 : 0 ≤ ((ji33) : Int) := of_decide_eq_true (by first | (with_reducible assumption) | assumption)
                                  have q36 : (ji33) < (a0.size : Int) := of_decide_eq_true (by first | (with_reducible assumption) | assumption)
                                  have hx36 := bt_at a0 (ji33)
                                  replace p36 := eq_true p36
                                  replace q36 := eq_true q36
                                  go_wp2
                                  go_ret
                                  exact ⟨by first | rfl | (simp; done) | (simp only [← hji33] <;> (first | rfl | simp)) | (simp [*]; done), by repeat (first | exact Drawn0.refl _ | apply Drawn0.step)⟩
                                · rw [if_neg c37] at H
                                  have c37b0 : ((bt a0 (ji33)) == 32) = false := beq_eq_false_iff_ne.mpr c37
                                  have c37b1 : ((bt a0 (ji33)) != 32) = true := bne_iff_ne.mpr c37
                                  have H' := Aside0.mk H
                                  clear H
                                  have p5 : 0 ≤ (x8_1 : Int) := of_decide_eq_true (by first | (with_reducible assumption) | assumption)
                                  have q5 : x8_1 < (a0.size : Int) := of_decide_eq_true (by first | (with_reducible assumption) | assumption)
                                  have hx5 := bt_at a0 x8_1
                                  replace p5 := eq_true p5
                                  replace q5 := eq_true q5
                                  have p36 : 0 ≤ ((ji33) : Int) := of_decide_eq_true (by first | (with_reducible assumption) | assumption)
                                  have q36 : (ji33) < (a0.size : Int) := of_decide_eq_true (by first | (with_reducible assumption) | assumption)
                                  have hx36 := bt_at a0 (ji33)
                                  replace p36 := eq_true p36
                                  replace q36 := eq_true q36
                                  go_wp2
                                  go_roundg k1
                                  case measure => have := HK1.out; omega
                                  case rel => exact ⟨(wrap64 (x8_1 + 1)), (by first | rfl | (simp; done) | (simp [*]; done)), H', ⟨by have := HK1.out; omega⟩, by repeat (first | exact Drawn0.refl _ | apply Drawn0.step)⟩
                              · rw [if_neg c35] at H
                                exact absurd H (by simp)
                            · rw [if_neg c34] at H
                              exact absurd H (by simp)
                      · rw [if_neg c30] at H
                        have c30b0 : ((bt a0 x8_1) == 32) = false := beq_eq_false_iff_ne.mpr c30
                        have c30b1 : ((bt a0 x8_1) != 32) = true := bne_iff_ne.mpr c30
                        obtain rfl := Option.some.inj H
                        have p5 : 0 ≤ (x8_1 : Int) := of_decide_eq_true (by first | (with_reducible assumption) | assumption)
                        have q5 : x8_1 < (a0.size : Int) := of_decide_eq_true (by first | (with_reducible assumption) | assumption)
                        have hx5 := bt_at a0 x8_1
                        replace p5 := eq_true p5
                        replace q5 := eq_true q5
                        go_wp2
                        go_ret
                        exact ⟨by first | rfl | (simp; done) | (simp [*]; done), by repeat (first | exact Drawn0.refl _ | apply Drawn0.step)⟩
                  · rw [if_neg c28] at H
                    have c28b0 : decide (48 ≤ (bt a0 x8_1)) = false := decide_eq_false c28
                    clear c28
                    by_cases c38 : (bt a0 x8_1) = 32
                    · rw [if_pos c38] at H
                      have c38b0 : ((bt a0 x8_1) == 32) = true := beq_iff_eq.mpr c38
                      have c38b1 : ((bt a0 x8_1) != 32) = false := bne_eq_false_iff_eq.mpr c38
                      clear c38
                      by_cases c39 : x8_1 = 0
                      · rw [if_pos c39] at H
                        have c39b0 : (x8_1 == 0) = true := beq_iff_eq.mpr c39
                        have c39b1 : (x8_1 != 0) = false := bne_eq_false_iff_eq.mpr c39
                        clear c39
                        obtain rfl := Option.some.inj H
                        have p5 : 0 ≤ (x8_1 : Int) := of_decide_eq_true (by first | (with_reducible assumption) | assumption)
                        have q5 : x8_1 < (a0.size : Int) := of_decide_eq_true (by first | (with_reducible assumption) | assumption)
                        have hx5 := bt_at a0 x8_1
                        replace p5 := eq_true p5
                        replace q5 := eq_true q5
                        go_wp2
                        go_ret
                        exact ⟨by first | rfl | (simp; done) | (simp [*]; done), by repeat (first | exact Drawn0.refl _ | apply Drawn0.step)⟩
                      · rw [if_neg c39] at H
                        have c39b0 : (x8_1 == 0) = false := beq_eq_false_iff_ne.mpr c39
                        have c39b1 : (x8_1 != 0) = true := bne_iff_ne.mpr c39
                        by_cases c40 : (wrap64 (x8_1 + 1)) = (a0.size : Int)
                        · rw [if_pos c40] at H
                          have c40b0 : ((wrap64 (x8_1 + 1)) == (a0.size : Int)) = true := beq_iff_eq.mpr c40
                          have c40b1 : ((wrap64 (x8_1 + 1)) != (a0.size : Int)) = false := bne_eq_false_iff_eq.mpr c40
                          clear c40
                          obtain rfl := Option.some.inj H
                          have p5 : 0 ≤ (x8_1 : Int) := of_decide_eq_true (by first | (with_reducible assumption) | assumption)
                          have q5 : x8_1 < (a0.size : Int) := of_decide_eq_true (by first | (with_reducible assumption) | assumption)
                          have hx5 := bt_at a0 x8_1
                          replace p5 := eq_true p5
                          replace q5 := eq_true q5
                          go_wp2
                          go_ret
                          exact ⟨by first | rfl | (simp; done) | (simp [*]; done), by repeat (first | exact Drawn0.refl _ | apply Drawn0.step)⟩
                        · rw [if_neg c40] at H
                          have c40b0 : ((wrap64 (x8_1 + 1)) == (a0.size : Int)) = false := beq_eq_false_iff_ne.mpr c40
                          have c40b1 : ((wrap64 (x8_1 + 1)) != (a0.size : Int)) = true := bne_iff_ne.mpr c40
                          obtain ⟨ji41, hji41⟩ : ∃ j_ : Int, (wrap64 (x8_1 - 1)) = j_ := ⟨_, rfl⟩
                          replace H : (if 0 ≤ (ji41) then (if (ji41) < (a0.size : Int) then (if (bt a0 (ji41)) = 32 then (some false) else (laws_words29.l0 k1 a0 (a0.size : Int) (wrap64 (x8_1 + 1)))) else (none)) else (none)) = some r := by first | (rw [hji41] at H; exact H) | (simp only [hji41] at H ⊢; exact H)
                          have hji41w : (IntKind.i64.wrap (x8_1 - 1)) = ji41 := (i64_w _).trans hji41
                          by_cases c42 : 0 ≤ (ji41)
                          · rw [if_pos c42] at H
                            have c42b0 : decide (0 ≤ (ji41)) = true := decide_eq_true c42
                            clear c42
                            by_cases c43 : (ji41) < (a0.size : Int)
                            · rw [if_pos c43] at H
                              have c43b0 : decide ((ji41) < (a0.size : Int)) = true := decide_eq_true c43
                              clear c43
                              by_cases c45 : (bt a0 (ji41)) = 32
                              · rw [if_pos c45] at H
                                have c45b0 : ((bt a0 (ji41)) == 32) = true := beq_iff_eq.mpr c45
                                have c45b1 : ((bt a0 (ji41)) != 32) = false := bne_eq_false_iff_eq.mpr c45
                                clear c45
                                obtain rfl := Option.some.inj H
                                have p5 : 0 ≤ (x8_1 : Int) := of_decide_eq_true (by first | (with_reducible assumption) | assumption)
                                have q5 : x8_1 < (a0.size : Int) := of_decide_eq_true (by first | (with_reducible assumption) | assumption)
                                have hx5 := bt_at a0 x8_1
                                replace p5 := eq_true p5
                                replace q5 := eq_true q5
                                have p44 : 0 ≤ ((ji41) : Int) := of_decide_eq_true (by first | (with_reducible assumption) | assumption)
                                have q44 : (ji41) < (a0.size : Int) := of_decide_eq_true (by first | (with_reducible assumption) | assumption)
                                have hx44 := bt_at a0 (ji41)
                                replace p44 := eq_true p44
                                replace q44 := eq_true q44
                                go_wp2
                                go_ret
                                exact ⟨by first | rfl | (simp; done) | (simp only [← hji41] <;> (first | rfl | simp)) | (simp [*]; done), by repeat (first | exact Drawn0.refl _ | apply Drawn0.step)⟩
                              · rw [if_neg c45] at H
                                have c45b0 : ((bt a0 (ji41)) == 32) = false := beq_eq_false_iff_ne.mpr c45
                                have c45b1 : ((bt a0 (ji41)) != 32) = true := bne_iff_ne.mpr c45
                                have H' := Aside0.mk H
                                clear H
                                have p5 : 0 ≤ (x8_1 : Int) := of_decide_eq_true (by first | (with_reducible assumption) | assumption)
                                have q5 : x8_1 < (a0.size : Int) := of_decide_eq_true (by first | (with_reducible assumption) | assumption)
                                have hx5 := bt_at a0 x8_1
                                replace p5 := eq_true p5
                                replace q5 := eq_true q5
                                have p44 : 0 ≤ ((ji41) : Int) := of_decide_eq_true (by first | (with_reducible assumption) | assumption)
                                have q44 : (ji41) < (a0.size : Int) := of_decide_eq_true (by first | (with_reducible assumption) | assumption)
                                have hx44 := bt_at a0 (ji41)
                                replace p44 := eq_true p44
                                replace q44 := eq_true q44
                                go_wp2
                                go_roundg k1
                                case measure => have := HK1.out; omega
                                case rel => exact ⟨(wrap64 (x8_1 + 1)), (by first | rfl | (simp; done) | (simp [*]; done)), H', ⟨by have := HK1.out; omega⟩, by repeat (first | exact Drawn0.refl _ | apply Drawn0.step)⟩
                            · rw [if_neg c43] at H
                              exact absurd H (by simp)
                          · rw [if_neg c42] at H
                            exact absurd H (by simp)
                    · rw [if_neg c38] at H
                      have c38b0 : ((bt a0 x8_1) == 32) = false := beq_eq_false_iff_ne.mpr c38
                      have c38b1 : ((bt a0 x8_1) != 32) = true := bne_iff_ne.mpr c38
                      obtain rfl := Option.some.inj H
                      have p5 : 0 ≤ (x8_1 : Int) := of_decide_eq_true (by first | (with_reducible assumption) | assumption)
                      have q5 : x8_1 < (a0.size : Int) := of_decide_eq_true (by first | (with_reducible assumption) | assumption)
                      have hx5 := bt_at a0 x8_1
                      replace p5 := eq_true p5
                      replace q5 := eq_true q5
                      go_wp2
                      go_ret
                      exact ⟨by first | rfl | (simp; done) | (simp [*]; done), by repeat (first | exact Drawn0.refl _ | apply Drawn0.step)⟩
            · rw [if_neg c6] at H
              have c6b0 : decide (97 ≤ (bt a0 x8_1)) = false := decide_eq_false c6
              clear c6
              by_cases c46 : (bt a0 x8_1) ≥ 65
              · rw [if_pos c46] at H
                have c46b0 : decide (65 ≤ (bt a0 x8_1)) = true := decide_eq_true c46
                clear c46
                by_cases c47 : (bt a0 x8_1) ≤ 90
                · rw [if_pos c47] at H
                  have c47b0 : decide ((bt a0 x8_1) ≤ 90) = true := decide_eq_true c47
                  clear c47
                  have H' := Aside0.mk H
                  clear H
                  have p5 : 0 ≤ (x8_1 : Int) := of_decide_eq_true (by first | (with_reducible assumption) | assumption)
                  have q5 : x8_1 < (a0.size : Int) := of_decide_eq_true (by first | (with_reducible assumption) | assumption)
                  have hx5 := bt_at a0 x8_1
                  replace p5 := eq_true p5
                  replace q5 := eq_true q5
                  go_wp2
                  go_roundg k1
                  case measure => have := HK1.out; omega
                  case rel => exact ⟨(wrap64 (x8_1 + 1)), (by first | rfl | (simp; done) | (simp [*]; done)), H', ⟨by have := HK1.out; omega⟩, by repeat (first | exact Drawn0.refl _ | apply Drawn0.step)⟩
                · rw [if_neg c47] at H
                  have c47b0 : decide ((bt a0 x8_1) ≤ 90) = false := decide_eq_false c47
                  clear c47
                  by_cases c48 : (bt a0 x8_1) ≥ 48
                  · rw [if_pos c48] at H
                    have c48b0 : decide (48 ≤ (bt a0 x8_1)) = true := decide_eq_true c48
                    clear c48
                    by_cases c49 : ((bt a0 x8_1) ≤ 57)
                    · rw [if_pos c49] at H
                      have c49b0 : decide ((bt a0 x8_1) ≤ 57) = true := decide_eq_true c49
                      clear c49
                      have H' := Aside0.mk H
                      clear H
                      have p5 : 0 ≤ (x8_1 : Int) := of_decide_eq_true (by first | (with_reducible assumption) | assumption)
                      have q5 : x8_1 < (a0.size : Int) := of_decide_eq_true (by first | (with_reducible assumption) | assumption)
                      have hx5 := bt_at a0 x8_1
                      replace p5 := eq_true p5
                      replace q5 := eq_true q5
                      go_wp2
                      go_roundg k1
                      case measure => have := HK1.out; omega
                      case rel => exact ⟨(wrap64 (x8_1 + 1)), (by first | rfl | (simp; done) | (simp [*]; done)), H', ⟨by have := HK1.out; omega⟩, by repeat (first | exact Drawn0.refl _ | apply Drawn0.step)⟩
                    · rw [if_neg c49] at H
                      have c49b0 : decide ((bt a0 x8_1) ≤ 57) = false := decide_eq_false c49
                      clear c49
                      by_cases c50 : (bt a0 x8_1) = 32
                      · rw [if_pos c50] at H
                        have c50b0 : ((bt a0 x8_1) == 32) = true := beq_iff_eq.mpr c50
                        have c50b1 : ((bt a0 x8_1) != 32) = false := bne_eq_false_iff_eq.mpr c50
                        clear c50
                        by_cases c51 : x8_1 = 0
                        · rw [if_pos c51] at H
                          have c51b0 : (x8_1 == 0) = true := beq_iff_eq.mpr c51
                          have c51b1 : (x8_1 != 0) = false := bne_eq_false_iff_eq.mpr c51
                          clear c51
                          obtain rfl := Option.some.inj H
                          have p5 : 0 ≤ (x8_1 : Int) := of_decide_eq_true (by first | (with_reducible assumption) | assumption)
                          have q5 : x8_1 < (a0.size : Int) := of_decide_eq_true (by first | (with_reducible assumption) | assumption)
                          have hx5 := bt_at a0 x8_1
                          replace p5 := eq_true p5
                          replace q5 := eq_true q5
                          go_wp2
                          go_ret
                          exact ⟨by first | rfl | (simp; done) | (simp [*]; done), by repeat (first | exact Drawn0.refl _ | apply Drawn0.step)⟩
                        · rw [if_neg c51] at H
                          have c51b0 : (x8_1 == 0) = false := beq_eq_false_iff_ne.mpr c51
                          have c51b1 : (x8_1 != 0) = true := bne_iff_ne.mpr c51
                          by_cases c52 : (wrap64 (x8_1 + 1)) = (a0.size : Int)
                          · rw [if_pos c52] at H
                            have c52b0 : ((wrap64 (x8_1 + 1)) == (a0.size : Int)) = true := beq_iff_eq.mpr c52
                            have c52b1 : ((wrap64 (x8_1 + 1)) != (a0.size : Int)) = false := bne_eq_false_iff_eq.mpr c52
                            clear c52
                            obtain rfl := Option.some.inj H
                            have p5 : 0 ≤ (x8_1 : Int) := of_decide_eq_true (by first | (with_reducible assumption) | assumption)
                            have q5 : x8_1 < (a0.size : Int) := of_decide_eq_true (by first | (with_reducible assumption) | assumption)
                            have hx5 := bt_at a0 x8_1
                            replace p5 := eq_true p5
                            replace q5 := eq_true q5
                            go_wp2
                            go_ret
                            exact ⟨by first | rfl | (simp; done) | (simp [*]; done), by repeat (first | exact Drawn0.refl _ | apply Drawn0.step)⟩
                          · rw [if_neg c52] at H
                            have c52b0 : ((wrap64 (x8_1 + 1)) == (a0.size : Int)) = false := beq_eq_false_iff_ne.mpr c52
                            have c52b1 : ((wrap64 (x8_1 + 1)) != (a0.size : Int)) = true := bne_iff_ne.mpr c52
                            obtain ⟨ji53, hji53⟩ : ∃ j_ : Int, (wrap64 (x8_1 - 1)) = j_ := ⟨_, rfl⟩
                            replace H : (if 0 ≤ (ji53) then (if (ji53) < (a0.size : Int) then (if (bt a0 (ji53)) = 32 then (some false) else (laws_words29.l0 k1 a0 (a0.size : Int) (wrap64 (x8_1 + 1)))) else (none)) else (none)) = some r := by first | (rw [hji53] at H; exact H) | (simp only [hji53] at H ⊢; exact H)
                            have hji53w : (IntKind.i64.wrap (x8_1 - 1)) = ji53 := (i64_w _).trans hji53
                            by_cases c54 : 0 ≤ (ji53)
                            · rw [if_pos c54] at H
                              have c54b0 : decide (0 ≤ (ji53)) = true := decide_eq_true c54
                              clear c54
                              by_cases c55 : (ji53) < (a0.size : Int)
                              · rw [if_pos c55] at H
                                have c55b0 : decide ((ji53) < (a0.size : Int)) = true := decide_eq_true c55
                                clear c55
                                by_cases c57 : (bt a0 (ji53)) = 32
                                · rw [if_pos c57] at H
                                  have c57b0 : ((bt a0 (ji53)) == 32) = true := beq_iff_eq.mpr c57
                                  have c57b1 : ((bt a0 (ji53)) != 32) = false := bne_eq_false_iff_eq.mpr c57
                                  clear c57
                                  obtain rfl := Option.some.inj H
                                  have p5 : 0 ≤ (x8_1 : Int) := of_decide_eq_true (by first | (with_reducible assumption) | assumption)
                                  have q5 : x8_1 < (a0.size : Int) := of_decide_eq_true (by first | (with_reducible assumption) | assumption)
                                  have hx5 := bt_at a0 x8_1
                                  replace p5 := eq_true p5
                                  replace q5 := eq_true q5
                                  have p56 : 0 ≤ ((ji53) : Int) := of_decide_eq_true (by first | (with_reducible assumption) | assumption)
                                  have q56 : (ji53) < (a0.size : Int) := of_decide_eq_true (by first | (with_reducible assumption) | assumption)
                                  have hx56 := bt_at a0 (ji53)
                                  replace p56 := eq_true p56
                                  replace q56 := eq_true q56
                                  go_wp2
                                  go_ret
                                  exact ⟨by first | rfl | (simp; done) | (simp only [← hji53] <;> (first | rfl | simp)) | (simp [*]; done), by repeat (first | exact Drawn0.refl _ | apply Drawn0.step)⟩
                                · rw [if_neg c57] at H
                                  have c57b0 : ((bt a0 (ji53)) == 32) = false := beq_eq_false_iff_ne.mpr c57
                                  have c57b1 : ((bt a0 (ji53)) != 32) = true := bne_iff_ne.mpr c57
                                  have H' := Aside0.mk H
                                  clear H
                                  have p5 : 0 ≤ (x8_1 : Int) := of_decide_eq_true (by first | (with_reducible assumption) | assumption)
                                  have q5 : x8_1 < (a0.size : Int) := of_decide_eq_true (by first | (with_reducible assumption) | assumption)
                                  have hx5 := bt_at a0 x8_1
                                  replace p5 := eq_true p5
                                  replace q5 := eq_true q5
                                  have p56 : 0 ≤ ((ji53) : Int) := of_decide_eq_true (by first | (with_reducible assumption) | assumption)
                                  have q56 : (ji53) < (a0.size : Int) := of_decide_eq_true (by first | (with_reducible assumption) | assumption)
                                  have hx56 := bt_at a0 (ji53)
                                  replace p56 := eq_true p56
                                  replace q56 := eq_true q56
                                  go_wp2
                                  go_roundg k1
                                  case measure => have := HK1.out; omega
                                  case rel => exact ⟨(wrap64 (x8_1 + 1)), (by first | rfl | (simp; done) | (simp [*]; done)), H', ⟨by have := HK1.out; omega⟩, by repeat (first | exact Drawn0.refl _ | apply Drawn0.step)⟩
                              · rw [if_neg c55] at H
                                exact absurd H (by simp)
                            · rw [if_neg c54] at H
                              exact absurd H (by simp)
                      · rw [if_neg c50] at H
                        have c50b0 : ((bt a0 x8_1) == 32) = false := beq_eq_false_iff_ne.mpr c50
                        have c50b1 : ((bt a0 x8_1) != 32) = true := bne_iff_ne.mpr c50
                        obtain rfl := Option.some.inj H
                        have p5 : 0 ≤ (x8_1 : Int) := of_decide_eq_true (by first | (with_reducible assumption) | assumption)
                        have q5 : x8_1 < (a0.size : Int) := of_decide_eq_true (by first | (with_reducible assumption) | assumption)
                        have hx5 := bt_at a0 x8_1
                        replace p5 := eq_true p5
                        replace q5 := eq_true q5
                        go_wp2
                        go_ret
                        exact ⟨by first | rfl | (simp; done) | (simp [*]; done), by repeat (first | exact Drawn0.refl _ | apply Drawn0.step)⟩
                  · rw [if_neg c48] at H
                    have c48b0 : decide (48 ≤ (bt a0 x8_1)) = false := decide_eq_false c48
                    clear c48
                    by_cases c58 : (bt a0 x8_1) = 32
                    · rw [if_pos c58] at H
                      have c58b0 : ((bt a0 x8_1) == 32) = true := beq_iff_eq.mpr c58
                      have c58b1 : ((bt a0 x8_1) != 32) = false := bne_eq_false_iff_eq.mpr c58
                      clear c58
                      by_cases c59 : x8_1 = 0
                      · rw [if_pos c59] at H
                        have c59b0 : (x8_1 == 0) = true := beq_iff_eq.mpr c59
                        have c59b1 : (x8_1 != 0) = false := bne_eq_false_iff_eq.mpr c59
                        clear c59
                        obtain rfl := Option.some.inj H
                        have p5 : 0 ≤ (x8_1 : Int) := of_decide_eq_true (by first | (with_reducible assumption) | assumption)
                        have q5 : x8_1 < (a0.size : Int) := of_decide_eq_true (by first | (with_reducible assumption) | assumption)
                        have hx5 := bt_at a0 x8_1
                        replace p5 := eq_true p5
                        replace q5 := eq_true q5
                        go_wp2
                        go_ret
                        exact ⟨by first | rfl | (simp; done) | (simp [*]; done), by repeat (first | exact Drawn0.refl _ | apply Drawn0.step)⟩
                      · rw [if_neg c59] at H
                        have c59b0 : (x8_1 == 0) = false := beq_eq_false_iff_ne.mpr c59
                        have c59b1 : (x8_1 != 0) = true := bne_iff_ne.mpr c59
                        by_cases c60 : (wrap64 (x8_1 + 1)) = (a0.size : Int)
                        · rw [if_pos c60] at H
                          have c60b0 : ((wrap64 (x8_1 + 1)) == (a0.size : Int)) = true := beq_iff_eq.mpr c60
                          have c60b1 : ((wrap64 (x8_1 + 1)) != (a0.size : Int)) = false := bne_eq_false_iff_eq.mpr c60
                          clear c60
                          obtain rfl := Option.some.inj H
                          have p5 : 0 ≤ (x8_1 : Int) := of_decide_eq_true (by first | (with_reducible assumption) | assumption)
                          have q5 : x8_1 < (a0.size : Int) := of_decide_eq_true (by first | (with_reducible assumption) | assumption)
                          have hx5 := bt_at a0 x8_1
                          replace p5 := eq_true p5
                          replace q5 := eq_true q5
                          go_wp2
                          go_ret
                          exact ⟨by first | rfl | (simp; done) | (simp [*]; done), by repeat (first | exact Drawn0.refl _ | apply Drawn0.step)⟩
                        · rw [if_neg c60] at H
                          have c60b0 : ((wrap64 (x8_1 + 1)) == (a0.size : Int)) = false := beq_eq_false_iff_ne.mpr c60
                          have c60b1 : ((wrap64 (x8_1 + 1)) != (a0.size : Int)) = true := bne_iff_ne.mpr c60
                          obtain ⟨ji61, hji61⟩ : ∃ j_ : Int, (wrap64 (x8_1 - 1)) = j_ := ⟨_, rfl⟩
                          replace H : (if 0 ≤ (ji61) then (if (ji61) < (a0.size : Int) then (if (bt a0 (ji61)) = 32 then (some false) else (laws_words29.l0 k1 a0 (a0.size : Int) (wrap64 (x8_1 + 1)))) else (none)) else (none)) = some r := by first | (rw [hji61] at H; exact H) | (simp only [hji61] at H ⊢; exact H)
                          have hji61w : (IntKind.i64.wrap (x8_1 - 1)) = ji61 := (i64_w _).trans hji61
                          by_cases c62 : 0 ≤ (ji61)
                          · rw [if_pos c62] at H
                            have c62b0 : decide (0 ≤ (ji61)) = true := decide_eq_true c62
                            clear c62
                            by_cases c63 : (ji61) < (a0.size : Int)
                            · rw [if_pos c63] at H
                              have c63b0 : decide ((ji61) < (a0.size : Int)) = true := decide_eq_true c63
                              clear c63
                              by_cases c65 : (bt a0 (ji61)) = 32
                              · rw [if_pos c65] at H
                                have c65b0 : ((bt a0 (ji61)) == 32) = true := beq_iff_eq.mpr c65
                                have c65b1 : ((bt a0 (ji61)) != 32) = false := bne_eq_false_iff_eq.mpr c65
                                clear c65
                                obtain rfl := Option.some.inj H
                                have p5 : 0 ≤ (x8_1 : Int) := of_decide_eq_true (by first | (with_reducible assumption) | assumption)
                                have q5 : x8_1 < (a0.size : Int) := of_decide_eq_true (by first | (with_reducible assumption) | assumption)
                                have hx5 := bt_at a0 x8_1
                                replace p5 := eq_true p5
                                replace q5 := eq_true q5
                                have p64 : 0 ≤ ((ji61) : Int) := of_decide_eq_true (by first | (with_reducible assumption) | assumption)
                                have q64 : (ji61) < (a0.size : Int) := of_decide_eq_true (by first | (with_reducible assumption) | assumption)
                                have hx64 := bt_at a0 (ji61)
                                replace p64 := eq_true p64
                                replace q64 := eq_true q64
                                go_wp2
                                go_ret
                                exact ⟨by first | rfl | (simp; done) | (simp only [← hji61] <;> (first | rfl | simp)) | (simp [*]; done), by repeat (first | exact Drawn0.refl _ | apply Drawn0.step)⟩
                              · rw [if_neg c65] at H
                                have c65b0 : ((bt a0 (ji61)) == 32) = false := beq_eq_false_iff_ne.mpr c65
                                have c65b1 : ((bt a0 (ji61)) != 32) = true := bne_iff_ne.mpr c65
                                have H' := Aside0.mk H
                                clear H
                                have p5 : 0 ≤ (x8_1 : Int) := of_decide_eq_true (by first | (with_reducible assumption) | assumption)
                                have q5 : x8_1 < (a0.size : Int) := of_decide_eq_true (by first | (with_reducible assumption) | assumption)
                                have hx5 := bt_at a0 x8_1
                                replace p5 := eq_true p5
                                replace q5 := eq_true q5
                                have p64 : 0 ≤ ((ji61) : Int) := of_decide_eq_true (by first | (with_reducible assumption) | assumption)
                                have q64 : (ji61) < (a0.size : Int) := of_decide_eq_true (by first | (with_reducible assumption) | assumption)
                                have hx64 := bt_at a0 (ji61)
                                replace p64 := eq_true p64
                                replace q64 := eq_true q64
                                go_wp2
                                go_roundg k1
                                case measure => have := HK1.out; omega
                                case rel => exact ⟨(wrap64 (x8_1 + 1)), (by first | rfl | (simp; done) | (simp [*]; done)), H', ⟨by have := HK1.out; omega⟩, by repeat (first | exact Drawn0.refl _ | apply Drawn0.step)⟩
                            · rw [if_neg c63] at H
                              exact absurd H (by simp)
                          · rw [if_neg c62] at H
                            exact absurd H (by simp)
                    · rw [if_neg c58] at H
                      have c58b0 : ((bt a0 x8_1) == 32) = false := beq_eq_false_iff_ne.mpr c58
                      have c58b1 : ((bt a0 x8_1) != 32) = true := bne_iff_ne.mpr c58
                      obtain rfl := Option.some.inj H
                      have p5 : 0 ≤ (x8_1 : Int) := of_decide_eq_true (by first | (with_reducible assumption) | assumption)
                      have q5 : x8_1 < (a0.size : Int) := of_decide_eq_true (by first | (with_reducible assumption) | assumption)
                      have hx5 := bt_at a0 x8_1
                      replace p5 := eq_true p5
                      replace q5 := eq_true q5
                      go_wp2
                      go_ret
                      exact ⟨by first | rfl | (simp; done) | (simp [*]; done), by repeat (first | exact Drawn0.refl _ | apply Drawn0.step)⟩
              · rw [if_neg c46] at H
                have c46b0 : decide (65 ≤ (bt a0 x8_1)) = false := decide_eq_false c46
                clear c46
                by_cases c66 : (bt a0 x8_1) ≥ 48
                · rw [if_pos c66] at H
                  have c66b0 : decide (48 ≤ (bt a0 x8_1)) = true := decide_eq_true c66
                  clear c66
                  by_cases c67 : ((bt a0 x8_1) ≤ 57)
                  · rw [if_pos c67] at H
                    have c67b0 : decide ((bt a0 x8_1) ≤ 57) = true := decide_eq_true c67
                    clear c67
                    have H' := Aside0.mk H
                    clear H
                    have p5 : 0 ≤ (x8_1 : Int) := of_decide_eq_true (by first | (with_reducible assumption) | assumption)
                    have q5 : x8_1 < (a0.size : Int) := of_decide_eq_true (by first | (with_reducible assumption) | assumption)
                    have hx5 := bt_at a0 x8_1
                    replace p5 := eq_true p5
                    replace q5 := eq_true q5
                    go_wp2
                    go_roundg k1
                    case measure => have := HK1.out; omega
                    case rel => exact ⟨(wrap64 (x8_1 + 1)), (by first | rfl | (simp; done) | (simp [*]; done)), H', ⟨by have := HK1.out; omega⟩, by repeat (first | exact Drawn0.refl _ | apply Drawn0.step)⟩
                  · rw [if_neg c67] at H
                    have c67b0 : decide ((bt a0 x8_1) ≤ 57) = false := decide_eq_false c67
                    clear c67
                    by_cases c68 : (bt a0 x8_1) = 32
                    · rw [if_pos c68] at H
                      have c68b0 : ((bt a0 x8_1) == 32) = true := beq_iff_eq.mpr c68
                      have c68b1 : ((bt a0 x8_1) != 32) = false := bne_eq_false_iff_eq.mpr c68
                      clear c68
                      by_cases c69 : x8_1 = 0
                      · rw [if_pos c69] at H
                        have c69b0 : (x8_1 == 0) = true := beq_iff_eq.mpr c69
                        have c69b1 : (x8_1 != 0) = false := bne_eq_false_iff_eq.mpr c69
                        clear c69
                        obtain rfl := Option.some.inj H
                        have p5 : 0 ≤ (x8_1 : Int) := of_decide_eq_true (by first | (with_reducible assumption) | assumption)
                        have q5 : x8_1 < (a0.size : Int) := of_decide_eq_true (by first | (with_reducible assumption) | assumption)
                        have hx5 := bt_at a0 x8_1
                        replace p5 := eq_true p5
                        replace q5 := eq_true q5
                        go_wp2
                        go_ret
                        exact ⟨by first | rfl | (simp; done) | (simp [*]; done), by repeat (first | exact Drawn0.refl _ | apply Drawn0.step)⟩
                      · rw [if_neg c69] at H
                        have c69b0 : (x8_1 == 0) = false := beq_eq_false_iff_ne.mpr c69
                        have c69b1 : (x8_1 != 0) = true := bne_iff_ne.mpr c69
                        by_cases c70 : (wrap64 (x8_1 + 1)) = (a0.size : Int)
                        · rw [if_pos c70] at H
                          have c70b0 : ((wrap64 (x8_1 + 1)) == (a0.size : Int)) = true := beq_iff_eq.mpr c70
                          have c70b1 : ((wrap64 (x8_1 + 1)) != (a0.size : Int)) = false := bne_eq_false_iff_eq.mpr c70
                          clear c70
                          obtain rfl := Option.some.inj H
                          have p5 : 0 ≤ (x8_1 : Int) := of_decide_eq_true (by first | (with_reducible assumption) | assumption)
                          have q5 : x8_1 < (a0.size : Int) := of_decide_eq_true (by first | (with_reducible assumption) | assumption)
                          have hx5 := bt_at a0 x8_1
                          replace p5 := eq_true p5
                          replace q5 := eq_true q5
                          go_wp2
                          go_ret
                          exact ⟨by first | rfl | (simp; done) | (simp [*]; done), by repeat (first | exact Drawn0.refl _ | apply Drawn0.step)⟩
                        · rw [if_neg c70] at H
                          have c70b0 : ((wrap64 (x8_1 + 1)) == (a0.size : Int)) = false := beq_eq_false_iff_ne.mpr c70
                          have c70b1 : ((wrap64 (x8_1 + 1)) != (a0.size : Int)) = true := bne_iff_ne.mpr c70
                          obtain ⟨ji71, hji71⟩ : ∃ j_ : Int, (wrap64 (x8_1 - 1)) = j_ := ⟨_, rfl⟩
                          replace H : (if 0 ≤ (ji71) then (if (ji71) < (a0.size : Int) then (if (bt a0 (ji71)) = 32 then (some false) else (laws_words29.l0 k1 a0 (a0.size : Int) (wrap64 (x8_1 + 1)))) else (none)) else (none)) = some r := by first | (rw [hji71] at H; exact H) | (simp only [hji71] at H ⊢; exact H)
                          have hji71w : (IntKind.i64.wrap (x8_1 - 1)) = ji71 := (i64_w _).trans hji71
                          by_cases c72 : 0 ≤ (ji71)
                          · rw [if_pos c72] at H
                            have c72b0 : decide (0 ≤ (ji71)) = true := decide_eq_true c72
                            clear c72
                            by_cases c73 : (ji71) < (a0.size : Int)
                            · rw [if_pos c73] at H
                              have c73b0 : decide ((ji71) < (a0.size : Int)) = true := decide_eq_true c73
                              clear c73
                              by_cases c75 : (bt a0 (ji71)) = 32
                              · rw [if_pos c75] at H
                                have c75b0 : ((bt a0 (ji71)) == 32) = true := beq_iff_eq.mpr c75
                                have c75b1 : ((bt a0 (ji71)) != 32) = false := bne_eq_false_iff_eq.mpr c75
                                clear c75
                                obtain rfl := Option.some.inj H
                                have p5 : 0 ≤ (x8_1 : Int) := of_decide_eq_true (by first | (with_reducible assumption) | assumption)
                                have q5 : x8_1 < (a0.size : Int) := of_decide_eq_true (by first | (with_reducible assumption) | assumption)
                                have hx5 := bt_at a0 x8_1
                                replace p5 := eq_true p5
                                replace q5 := eq_true q5
                                have p74 : 0 ≤ ((ji71) : Int) := of_decide_eq_true (by first | (with_reducible assumption) | assumption)
                                have q74 : (ji71) < (a0.size : Int) := of_decide_eq_true (by first | (with_reducible assumption) | assumption)
                                have hx74 := bt_at a0 (ji71)
                                replace p74 := eq_true p74
                                replace q74 := eq_true q74
                                go_wp2
                                go_ret
                                exact ⟨by first | rfl | (simp; done) | (simp only [← hji71] <;> (first | rfl | simp)) | (simp [*]; done), by repeat (first | exact Drawn0.refl _ | apply Drawn0.step)⟩
                              · rw [if_neg c75] at H
                                have c75b0 : ((bt a0 (ji71)) == 32) = false := beq_eq_false_iff_ne.mpr c75
                                have c75b1 : ((bt a0 (ji71)) != 32) = true := bne_iff_ne.mpr c75
                                have H' := Aside0.mk H
                                clear H
                                have p5 : 0 ≤ (x8_1 : Int) := of_decide_eq_true (by first | (with_reducible assumption) | assumption)
                                have q5 : x8_1 < (a0.size : Int) := of_decide_eq_true (by first | (with_reducible assumption) | assumption)
                                have hx5 := bt_at a0 x8_1
                                replace p5 := eq_true p5
                                replace q5 := eq_true q5
                                have p74 : 0 ≤ ((ji71) : Int) := of_decide_eq_true (by first | (with_reducible assumption) | assumption)
                                have q74 : (ji71) < (a0.size : Int) := of_decide_eq_true (by first | (with_reducible assumption) | assumption)
                                have hx74 := bt_at a0 (ji71)
                                replace p74 := eq_true p74
                                replace q74 := eq_true q74
                                go_wp2
                                go_roundg k1
                                case measure => have := HK1.out; omega
                                case rel => exact ⟨(wrap64 (x8_1 + 1)), (by first | rfl | (simp; done) | (simp [*]; done)), H', ⟨by have := HK1.out; omega⟩, by repeat (first | exact Drawn0.refl _ | apply Drawn0.step)⟩
                            · rw [if_neg c73] at H
                              exact absurd H (by simp)
                          · rw [if_neg c72] at H
                            exact absurd H (by simp)
                    · rw [if_neg c68] at H
                      have c68b0 : ((bt a0 x8_1) == 32) = false := beq_eq_false_iff_ne.mpr c68
                      have c68b1 : ((bt a0 x8_1) != 32) = true := bne_iff_ne.mpr c68
                      obtain rfl := Option.some.inj H
                      have p5 : 0 ≤ (x8_1 : Int) := of_decide_eq_true (by first | (with_reducible assumption) | assumption)
                      have q5 : x8_1 < (a0.size : Int) := of_decide_eq_true (by first | (with_reducible assumption) | assumption)
                      have hx5 := bt_at a0 x8_1
                      replace p5 := eq_true p5
                      replace q5 := eq_true q5
                      go_wp2
                      go_ret
                      exact ⟨by first | rfl | (simp; done) | (simp [*]; done), by repeat (first | exact Drawn0.refl _ | apply Drawn0.step)⟩
                · rw [if_neg c66] at H
                  have c66b0 : decide (48 ≤ (bt a0 x8_1)) = false := decide_eq_false c66
                  clear c66
                  by_cases c76 : (bt a0 x8_1) = 32
                  · rw [if_pos c76] at H
                    have c76b0 : ((bt a0 x8_1) == 32) = true := beq_iff_eq.mpr c76
                    have c76b1 : ((bt a0 x8_1) != 32) = false := bne_eq_false_iff_eq.mpr c76
                    clear c76
                    by_cases c77 : x8_1 = 0
                    · rw [if_pos c77] at H
                      have c77b0 : (x8_1 == 0) = true := beq_iff_eq.mpr c77
                      have c77b1 : (x8_1 != 0) = false := bne_eq_false_iff_eq.mpr c77
                      clear c77
                      obtain rfl := Option.some.inj H
                      have p5 : 0 ≤ (x8_1 : Int) := of_decide_eq_true (by first | (with_reducible assumption) | assumption)
                      have q5 : x8_1 < (a0.size : Int) := of_decide_eq_true (by first | (with_reducible assumption) | assumption)
                      have hx5 := bt_at a0 x8_1
                      replace p5 := eq_true p5
                      replace q5 := eq_true q5
                      go_wp2
                      go_ret
                      exact ⟨by first | rfl | (simp; done) | (simp [*]; done), by repeat (first | exact Drawn0.refl _ | apply Drawn0.step)⟩
                    · rw [if_neg c77] at H
                      have c77b0 : (x8_1 == 0) = false := beq_eq_false_iff_ne.mpr c77
                      have c77b1 : (x8_1 != 0) = true := bne_iff_ne.mpr c77
                      by_cases c78 : (wrap64 (x8_1 + 1)) = (a0.size : Int)
                      · rw [if_pos c78] at H
                        have c78b0 : ((wrap64 (x8_1 + 1)) == (a0.size : Int)) = true := beq_iff_eq.mpr c78
                        have c78b1 : ((wrap64 (x8_1 + 1)) != (a0.size : Int)) = false := bne_eq_false_iff_eq.mpr c78
                        clear c78
                        obtain rfl := Option.some.inj H
                        have p5 : 0 ≤ (x8_1 : Int) := of_decide_eq_true (by first | (with_reducible assumption) | assumption)
                        have q5 : x8_1 < (a0.size : Int) := of_decide_eq_true (by first | (with_reducible assumption) | assumption)
                        have hx5 := bt_at a0 x8_1
                        replace p5 := eq_true p5
                        replace q5 := eq_true q5
                        go_wp2
                        go_ret
                        exact ⟨by first | rfl | (simp; done) | (simp [*]; done), by repeat (first | exact Drawn0.refl _ | apply Drawn0.step)⟩
                      · rw [if_neg c78] at H
                        have c78b0 : ((wrap64 (x8_1 + 1)) == (a0.size : Int)) = false := beq_eq_false_iff_ne.mpr c78
                        have c78b1 : ((wrap64 (x8_1 + 1)) != (a0.size : Int)) = true := bne_iff_ne.mpr c78
                        obtain ⟨ji79, hji79⟩ : ∃ j_ : Int, (wrap64 (x8_1 - 1)) = j_ := ⟨_, rfl⟩
                        replace H : (if 0 ≤ (ji79) then (if (ji79) < (a0.size : Int) then (if (bt a0 (ji79)) = 32 then (some false) else (laws_words29.l0 k1 a0 (a0.size : Int) (wrap64 (x8_1 + 1)))) else (none)) else (none)) = some r := by first | (rw [hji79] at H; exact H) | (simp only [hji79] at H ⊢; exact H)
                        have hji79w : (IntKind.i64.wrap (x8_1 - 1)) = ji79 := (i64_w _).trans hji79
                        by_cases c80 : 0 ≤ (ji79)
                        · rw [if_pos c80] at H
                          have c80b0 : decide (0 ≤ (ji79)) = true := decide_eq_true c80
                          clear c80
                          by_cases c81 : (ji79) < (a0.size : Int)
                          · rw [if_pos c81] at H
                            have c81b0 : decide ((ji79) < (a0.size : Int)) = true := decide_eq_true c81
                            clear c81
                            by_cases c83 : (bt a0 (ji79)) = 32
                            · rw [if_pos c83] at H
                              have c83b0 : ((bt a0 (ji79)) == 32) = true := beq_iff_eq.mpr c83
                              have c83b1 : ((bt a0 (ji79)) != 32) = false := bne_eq_false_iff_eq.mpr c83
                              clear c83
                              obtain rfl := Option.some.inj H
                              have p5 : 0 ≤ (x8_1 : Int) := of_decide_eq_true (by first | (with_reducible assumption) | assumption)
                              have q5 : x8_1 < (a0.size : Int) := of_decide_eq_true (by first | (with_reducible assumption) | assumption)
                              have hx5 := bt_at a0 x8_1
                              replace p5 := eq_true p5
                              replace q5 := eq_true q5
                              have p82 : 0 ≤ ((ji79) : Int) := of_decide_eq_true (by first | (with_reducible assumption) | assumption)
                              have q82 : (ji79) < (a0.size : Int) := of_decide_eq_true (by first | (with_reducible assumption) | assumption)
                              have hx82 := bt_at a0 (ji79)
                              replace p82 := eq_true p82
                              replace q82 := eq_true q82
                              go_wp2
                              go_ret
                              exact ⟨by first | rfl | (simp; done) | (simp only [← hji79] <;> (first | rfl | simp)) | (simp [*]; done), by repeat (first | exact Drawn0.refl _ | apply Drawn0.step)⟩
                            · rw [if_neg c83] at H
                              have c83b0 : ((bt a0 (ji79)) == 32) = false := beq_eq_false_iff_ne.mpr c83
                              have c83b1 : ((bt a0 (ji79)) != 32) = true := bne_iff_ne.mpr c83
                              have H' := Aside0.mk H
                              clear H
                              have p5 : 0 ≤ (x8_1 : Int) := of_decide_eq_true (by first | (with_reducible assumption) | assumption)
                              have q5 : x8_1 < (a0.size : Int) := of_decide_eq_true (by first | (with_reducible assumption) | assumption)
                              have hx5 := bt_at a0 x8_1
                              replace p5 := eq_true p5
                              replace q5 := eq_true q5
                              have p82 : 0 ≤ ((ji79) : Int) := of_decide_eq_true (by first | (with_reducible assumption) | assumption)
                              have q82 : (ji79) < (a0.size : Int) := of_decide_eq_true (by first | (with_reducible assumption) | assumption)
                              have hx82 := bt_at a0 (ji79)
                              replace p82 := eq_true p82
                              replace q82 := eq_true q82
                              go_wp2
                              go_roundg k1
                              case measure => have := HK1.out; omega
                              case rel => exact ⟨(wrap64 (x8_1 + 1)), (by first | rfl | (simp; done) | (simp [*]; done)), H', ⟨by have := HK1.out; omega⟩, by repeat (first | exact Drawn0.refl _ | apply Drawn0.step)⟩
                          · rw [if_neg c81] at H
                            exact absurd H (by simp)
                        · rw [if_neg c80] at H
                          exact absurd H (by simp)
                  · rw [if_neg c76] at H
                    have c76b0 : ((bt a0 x8_1) == 32) = false := beq_eq_false_iff_ne.mpr c76
                    have c76b1 : ((bt a0 x8_1) != 32) = true := bne_iff_ne.mpr c76
                    obtain rfl := Option.some.inj H
                    have p5 : 0 ≤ (x8_1 : Int) := of_decide_eq_true (by first | (with_reducible assumption) | assumption)
                    have q5 : x8_1 < (a0.size : Int) := of_decide_eq_true (by first | (with_reducible assumption) | assumption)
                    have hx5 := bt_at a0 x8_1
                    replace p5 := eq_true p5
                    replace q5 := eq_true q5
                    go_wp2
                    go_ret
                    exact ⟨by first | rfl | (simp; done) | (simp [*]; done), by repeat (first | exact Drawn0.refl _ | apply Drawn0.step)⟩
          · rw [if_neg c4] at H
            exact absurd H (by simp)
        · rw [if_neg c3] at H
          exact absurd H (by simp)
      · rw [if_neg c2] at H
        have c2b0 : decide (x8_1 < (a0.size : Int)) = false := decide_eq_false c2
        clear c2
        obtain rfl := Option.some.inj H
        go_wp2
        go_ret
        exact ⟨by first | rfl | (simp; done) | (simp [*]; done), by repeat (first | exact Drawn0.refl _ | apply Drawn0.step)⟩

/-- THE ONE PURE STATEMENT of laws_words29: yours. -/
def laws_words29.Pure : Prop := ∀ (a0 : ByteArray), a0.size ≤ 140737488351232 → ∃ k, laws_words29.f k a0 = some true
theorem laws_words29.walk (P : laws_words29.Pure) (a0 : ByteArray) (w : World) (w0 : a0.size ≤ 140737488351232) :
    Calls Tryd.prog 13 #[.string a0] w fun e w' => e = .returned (.bool true) ∧ Below w.heap.size w w' := by
  obtain ⟨k, h⟩ := P a0 w0
  refine (laws_words29.calls k a0 true w h).mono ?_
  rintro e w' ⟨rfl, hd⟩
  exact ⟨rfl, hd.below⟩

end Go.Proofs.YtlallihdiffheaaDoor.GCo
