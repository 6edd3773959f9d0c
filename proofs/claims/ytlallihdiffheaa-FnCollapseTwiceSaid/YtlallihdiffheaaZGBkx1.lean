-- made by a program of this session, after the kit's print
import Derived.Test.YtlallihdiffheaaZGBkx0
namespace Go.Proofs.Ytlallihdiffheaa.GBk
open Go.RowKit Go.Proofs.YtlallihdiffheaaW.PrintWords Go.Proofs.YtlallihdiffheaaW.PrintLast Go.Proofs.YtlallihdiffheaaW.PrintMore
attribute [local go_sem] max2_int min2_int max_two min_two max_three min_three max_four min_four   -- for this text's walks alone
set_option linter.unusedVariables false
set_option linter.unusedSimpArgs false

/-! ### dom_NameIsBlockNode: function 163 -/
def dom_NameIsBlockNode.f (a0 : ByteArray) : Option (Bool) := if a0.toList = ([97, 100, 100, 114, 101, 115, 115] : List UInt8) then (some true) else (if a0.toList = ([97, 114, 116, 105, 99, 108, 101] : List UInt8) then (some true) else (if a0.toList = ([97, 115, 105, 100, 101] : List UInt8) then (some true) else (if a0.toList = ([98, 108, 111, 99, 107, 113, 117, 111, 116, 101] : List UInt8) then (some true) else (if a0.toList = ([100, 101, 116, 97, 105, 108, 115] : List UInt8) then (some true) else (if a0.toList = ([100, 105, 97, 108, 111, 103] : List UInt8) then (some true) else (if a0.toList = ([100, 100] : List UInt8) then (some true) else (if a0.toList = ([100, 105, 118] : List UInt8) then (some true) else (if a0.toList = ([100, 108] : List UInt8) then (some true) else (if a0.toList = ([100, 116] : List UInt8) then (some true) else (if a0.toList = ([102, 105, 101, 108, 100, 115, 101, 116] : List UInt8) then (some true) else (if a0.toList = ([102, 105, 103, 99, 97, 112, 116, 105, 111, 110] : List UInt8) then (some true) else (if a0.toList = ([102, 105, 103, 117, 114, 101] : List UInt8) then (some true) else (if a0.toList = ([102, 111, 111, 116, 101, 114] : List UInt8) then (some true) else (if a0.toList = ([102, 111, 114, 109] : List UInt8) then (some true) else (if a0.toList = ([104, 49] : List UInt8) then (some true) else (if a0.toList = ([104, 50] : List UInt8) then (some true) else (if a0.toList = ([104, 51] : List UInt8) then (some true) else (if a0.toList = ([104, 52] : List UInt8) then (some true) else (if a0.toList = ([104, 53] : List UInt8) then (some true) else (if a0.toList = ([104, 54] : List UInt8) then (some true) else (if a0.toList = ([104, 101, 97, 100, 101, 114] : List UInt8) then (some true) else (if a0.toList = ([104, 103, 114, 111, 117, 112] : List UInt8) then (some true) else (if a0.toList = ([104, 114] : List UInt8) then (some true) else (if a0.toList = ([108, 105] : List UInt8) then (some true) else (if a0.toList = ([109, 97, 105, 110] : List UInt8) then (some true) else (if a0.toList = ([110, 97, 118] : List UInt8) then (some true) else (if a0.toList = ([111, 108] : List UInt8) then (some true) else (if a0.toList = ([112] : List UInt8) then (some true) else (if a0.toList = ([112, 114, 101] : List UInt8) then (some true) else (if a0.toList = ([115, 101, 99, 116, 105, 111, 110] : List UInt8) then (some true) else (if a0.toList = ([116, 97, 98, 108, 101] : List UInt8) then (some true) else (if a0.toList = ([117, 108] : List UInt8) then (some true) else (some false)))))))))))))))))))))))))))))))))
set_option maxHeartbeats 8000000 in
set_option maxRecDepth 100000 in
theorem dom_NameIsBlockNode.calls (a0 : ByteArray) (r : Bool) (w : World) (h : dom_NameIsBlockNode.f a0 = some r) :
    Calls Try.prog 163 #[.string a0] w fun e w' => e = .returned (.bool r) ∧ Drawn0 w w' := by
  have H : (if a0.toList = ([97, 100, 100, 114, 101, 115, 115] : List UInt8) then (some true) else (if a0.toList = ([97, 114, 116, 105, 99, 108, 101] : List UInt8) then (some true) else (if a0.toList = ([97, 115, 105, 100, 101] : List UInt8) then (some true) else (if a0.toList = ([98, 108, 111, 99, 107, 113, 117, 111, 116, 101] : List UInt8) then (some true) else (if a0.toList = ([100, 101, 116, 97, 105, 108, 115] : List UInt8) then (some true) else (if a0.toList = ([100, 105, 97, 108, 111, 103] : List UInt8) then (some true) else (if a0.toList = ([100, 100] : List UInt8) then (some true) else (if a0.toList = ([100, 105, 118] : List UInt8) then (some true) else (if a0.toList = ([100, 108] : List UInt8) then (some true) else (if a0.toList = ([100, 116] : List UInt8) then (some true) else (if a0.toList = ([102, 105, 101, 108, 100, 115, 101, 116] : List UInt8) then (some true) else (if a0.toList = ([102, 105, 103, 99, 97, 112, 116, 105, 111, 110] : List UInt8) then (some true) else (if a0.toList = ([102, 105, 103, 117, 114, 101] : List UInt8) then (some true) else (if a0.toList = ([102, 111, 111, 116, 101, 114] : List UInt8) then (some true) else (if a0.toList = ([102, 111, 114, 109] : List UInt8) then (some true) else (if a0.toList = ([104, 49] : List UInt8) then (some true) else (if a0.toList = ([104, 50] : List UInt8) then (some true) else (if a0.toList = ([104, 51] : List UInt8) then (some true) else (if a0.toList = ([104, 52] : List UInt8) then (some true) else (if a0.toList = ([104, 53] : List UInt8) then (some true) else (if a0.toList = ([104, 54] : List UInt8) then (some true) else (if a0.toList = ([104, 101, 97, 100, 101, 114] : List UInt8) then (some true) else (if a0.toList = ([104, 103, 114, 111, 117, 112] : List UInt8) then (some true) else (if a0.toList = ([104, 114] : List UInt8) then (some true) else (if a0.toList = ([108, 105] : List UInt8) then (some true) else (if a0.toList = ([109, 97, 105, 110] : List UInt8) then (some true) else (if a0.toList = ([110, 97, 118] : List UInt8) then (some true) else (if a0.toList = ([111, 108] : List UInt8) then (some true) else (if a0.toList = ([112] : List UInt8) then (some true) else (if a0.toList = ([112, 114, 101] : List UInt8) then (some true) else (if a0.toList = ([115, 101, 99, 116, 105, 111, 110] : List UInt8) then (some true) else (if a0.toList = ([116, 97, 98, 108, 101] : List UInt8) then (some true) else (if a0.toList = ([117, 108] : List UInt8) then (some true) else (some false)))))))))))))))))))))))))))))))))) = some r := h
  clear h
  by_cases c2 : a0.toList = ([97, 100, 100, 114, 101, 115, 115] : List UInt8)
  · rw [if_pos c2] at H
    have c2b0 : (a0.toList == ([97, 100, 100, 114, 101, 115, 115] : List UInt8)) = true := beq_iff_eq.mpr c2
    have c2b1 : (a0.toList != ([97, 100, 100, 114, 101, 115, 115] : List UInt8)) = false := bne_eq_false_iff_eq.mpr c2
    clear c2
    obtain rfl := Option.some.inj H
    go_enter Try.func163, Try.ntmps163
    go_wp2
    go_ret
    exact ⟨by first | rfl | (simp; done) | (simp [*]; done), by repeat (first | exact Drawn0.refl _ | apply Drawn0.step)⟩
  · rw [if_neg c2] at H
    have c2b0 : (a0.toList == ([97, 100, 100, 114, 101, 115, 115] : List UInt8)) = false := beq_eq_false_iff_ne.mpr c2
    have c2b1 : (a0.toList != ([97, 100, 100, 114, 101, 115, 115] : List UInt8)) = true := bne_iff_ne.mpr c2
    by_cases c3 : a0.toList = ([97, 114, 116, 105, 99, 108, 101] : List UInt8)
    · rw [if_pos c3] at H
      have c3b0 : (a0.toList == ([97, 114, 116, 105, 99, 108, 101] : List UInt8)) = true := beq_iff_eq.mpr c3
      have c3b1 : (a0.toList != ([97, 114, 116, 105, 99, 108, 101] : List UInt8)) = false := bne_eq_false_iff_eq.mpr c3
      clear c3
      obtain rfl := Option.some.inj H
      go_enter Try.func163, Try.ntmps163
      go_wp2
      go_ret
      exact ⟨by first | rfl | (simp; done) | (simp [*]; done), by repeat (first | exact Drawn0.refl _ | apply Drawn0.step)⟩
    · rw [if_neg c3] at H
      have c3b0 : (a0.toList == ([97, 114, 116, 105, 99, 108, 101] : List UInt8)) = false := beq_eq_false_iff_ne.mpr c3
      have c3b1 : (a0.toList != ([97, 114, 116, 105, 99, 108, 101] : List UInt8)) = true := bne_iff_ne.mpr c3
      by_cases c4 : a0.toList = ([97, 115, 105, 100, 101] : List UInt8)
      · rw [if_pos c4] at H
        have c4b0 : (a0.toList == ([97, 115, 105, 100, 101] : List UInt8)) = true := beq_iff_eq.mpr c4
        have c4b1 : (a0.toList != ([97, 115, 105, 100, 101] : List UInt8)) = false := bne_eq_false_iff_eq.mpr c4
        clear c4
        obtain rfl := Option.some.inj H
        go_enter Try.func163, Try.ntmps163
        go_wp2
        go_ret
        exact ⟨by first | rfl | (simp; done) | (simp [*]; done), by repeat (first | exact Drawn0.refl _ | apply Drawn0.step)⟩
      · rw [if_neg c4] at H
        have c4b0 : (a0.toList == ([97, 115, 105, 100, 101] : List UInt8)) = false := beq_eq_false_iff_ne.mpr c4
        have c4b1 : (a0.toList != ([97, 115, 105, 100, 101] : List UInt8)) = true := bne_iff_ne.mpr c4
        by_cases c5 : a0.toList = ([98, 108, 111, 99, 107, 113, 117, 111, 116, 101] : List UInt8)
        · rw [if_pos c5] at H
          have c5b0 : (a0.toList == ([98, 108, 111, 99, 107, 113, 117, 111, 116, 101] : List UInt8)) = true := beq_iff_eq.mpr c5
          have c5b1 : (a0.toList != ([98, 108, 111, 99, 107, 113, 117, 111, 116, 101] : List UInt8)) = false := bne_eq_false_iff_eq.mpr c5
          clear c5
          obtain rfl := Option.some.inj H
          go_enter Try.func163, Try.ntmps163
          go_wp2
          go_ret
          exact ⟨by first | rfl | (simp; done) | (simp [*]; done), by repeat (first | exact Drawn0.refl _ | apply Drawn0.step)⟩
        · rw [if_neg c5] at H
          have c5b0 : (a0.toList == ([98, 108, 111, 99, 107, 113, 117, 111, 116, 101] : List UInt8)) = false := beq_eq_false_iff_ne.mpr c5
          have c5b1 : (a0.toList != ([98, 108, 111, 99, 107, 113, 117, 111, 116, 101] : List UInt8)) = true := bne_iff_ne.mpr c5
          by_cases c6 : a0.toList = ([100, 101, 116, 97, 105, 108, 115] : List UInt8)
          · rw [if_pos c6] at H
            have c6b0 : (a0.toList == ([100, 101, 116, 97, 105, 108, 115] : List UInt8)) = true := beq_iff_eq.mpr c6
            have c6b1 : (a0.toList != ([100, 101, 116, 97, 105, 108, 115] : List UInt8)) = false := bne_eq_false_iff_eq.mpr c6
            clear c6
            obtain rfl := Option.some.inj H
            go_enter Try.func163, Try.ntmps163
            go_wp2
            go_ret
            exact ⟨by first | rfl | (simp; done) | (simp [*]; done), by repeat (first | exact Drawn0.refl _ | apply Drawn0.step)⟩
          · rw [if_neg c6] at H
            have c6b0 : (a0.toList == ([100, 101, 116, 97, 105, 108, 115] : List UInt8)) = false := beq_eq_false_iff_ne.mpr c6
            have c6b1 : (a0.toList != ([100, 101, 116, 97, 105, 108, 115] : List UInt8)) = true := bne_iff_ne.mpr c6
            by_cases c7 : a0.toList = ([100, 105, 97, 108, 111, 103] : List UInt8)
            · rw [if_pos c7] at H
              have c7b0 : (a0.toList == ([100, 105, 97, 108, 111, 103] : List UInt8)) = true := beq_iff_eq.mpr c7
              have c7b1 : (a0.toList != ([100, 105, 97, 108, 111, 103] : List UInt8)) = false := bne_eq_false_iff_eq.mpr c7
              clear c7
              obtain rfl := Option.some.inj H
              go_enter Try.func163, Try.ntmps163
              go_wp2
              go_ret
              exact ⟨by first | rfl | (simp; done) | (simp [*]; done), by repeat (first | exact Drawn0.refl _ | apply Drawn0.step)⟩
            · rw [if_neg c7] at H
              have c7b0 : (a0.toList == ([100, 105, 97, 108, 111, 103] : List UInt8)) = false := beq_eq_false_iff_ne.mpr c7
              have c7b1 : (a0.toList != ([100, 105, 97, 108, 111, 103] : List UInt8)) = true := bne_iff_ne.mpr c7
              by_cases c8 : a0.toList = ([100, 100] : List UInt8)
              · rw [if_pos c8] at H
                have c8b0 : (a0.toList == ([100, 100] : List UInt8)) = true := beq_iff_eq.mpr c8
                have c8b1 : (a0.toList != ([100, 100] : List UInt8)) = false := bne_eq_false_iff_eq.mpr c8
                clear c8
                obtain rfl := Option.some.inj H
                go_enter Try.func163, Try.ntmps163
                go_wp2
                go_ret
                exact ⟨by first | rfl | (simp; done) | (simp [*]; done), by repeat (first | exact Drawn0.refl _ | apply Drawn0.step)⟩
              · rw [if_neg c8] at H
                have c8b0 : (a0.toList == ([100, 100] : List UInt8)) = false := beq_eq_false_iff_ne.mpr c8
                have c8b1 : (a0.toList != ([100, 100] : List UInt8)) = true := bne_iff_ne.mpr c8
                by_cases c9 : a0.toList = ([100, 105, 118] : List UInt8)
                · rw [if_pos c9] at H
                  have c9b0 : (a0.toList == ([100, 105, 118] : List UInt8)) = true := beq_iff_eq.mpr c9
                  have c9b1 : (a0.toList != ([100, 105, 118] : List UInt8)) = false := bne_eq_false_iff_eq.mpr c9
                  clear c9
                  obtain rfl := Option.some.inj H
                  go_enter Try.func163, Try.ntmps163
                  go_wp2
                  go_ret
                  exact ⟨by first | rfl | (simp; done) | (simp [*]; done), by repeat (first | exact Drawn0.refl _ | apply Drawn0.step)⟩
                · rw [if_neg c9] at H
                  have c9b0 : (a0.toList == ([100, 105, 118] : List UInt8)) = false := beq_eq_false_iff_ne.mpr c9
                  have c9b1 : (a0.toList != ([100, 105, 118] : List UInt8)) = true := bne_iff_ne.mpr c9
                  by_cases c10 : a0.toList = ([100, 108] : List UInt8)
                  · rw [if_pos c10] at H
                    have c10b0 : (a0.toList == ([100, 108] : List UInt8)) = true := beq_iff_eq.mpr c10
                    have c10b1 : (a0.toList != ([100, 108] : List UInt8)) = false := bne_eq_false_iff_eq.mpr c10
                    clear c10
                    obtain rfl := Option.some.inj H
                    go_enter Try.func163, Try.ntmps163
                    go_wp2
                    go_ret
                    exact ⟨by first | rfl | (simp; done) | (simp [*]; done), by repeat (first | exact Drawn0.refl _ | apply Drawn0.step)⟩
                  · rw [if_neg c10] at H
                    have c10b0 : (a0.toList == ([100, 108] : List UInt8)) = false := beq_eq_false_iff_ne.mpr c10
                    have c10b1 : (a0.toList != ([100, 108] : List UInt8)) = true := bne_iff_ne.mpr c10
                    by_cases c11 : a0.toList = ([100, 116] : List UInt8)
                    · rw [if_pos c11] at H
                      have c11b0 : (a0.toList == ([100, 116] : List UInt8)) = true := beq_iff_eq.mpr c11
                      have c11b1 : (a0.toList != ([100, 116] : List UInt8)) = false := bne_eq_false_iff_eq.mpr c11
                      clear c11
                      obtain rfl := Option.some.inj H
                      go_enter Try.func163, Try.ntmps163
                      go_wp2
                      go_ret
                      exact ⟨by first | rfl | (simp; done) | (simp [*]; done), by repeat (first | exact Drawn0.refl _ | apply Drawn0.step)⟩
                    · rw [if_neg c11] at H
                      have c11b0 : (a0.toList == ([100, 116] : List UInt8)) = false := beq_eq_false_iff_ne.mpr c11
                      have c11b1 : (a0.toList != ([100, 116] : List UInt8)) = true := bne_iff_ne.mpr c11
                      by_cases c12 : a0.toList = ([102, 105, 101, 108, 100, 115, 101, 116] : List UInt8)
                      · rw [if_pos c12] at H
                        have c12b0 : (a0.toList == ([102, 105, 101, 108, 100, 115, 101, 116] : List UInt8)) = true := beq_iff_eq.mpr c12
                        have c12b1 : (a0.toList != ([102, 105, 101, 108, 100, 115, 101, 116] : List UInt8)) = false := bne_eq_false_iff_eq.mpr c12
                        clear c12
                        obtain rfl := Option.some.inj H
                        go_enter Try.func163, Try.ntmps163
                        go_wp2
                        go_ret
                        exact ⟨by first | rfl | (simp; done) | (simp [*]; done), by repeat (first | exact Drawn0.refl _ | apply Drawn0.step)⟩
                      · rw [if_neg c12] at H
                        have c12b0 : (a0.toList == ([102, 105, 101, 108, 100, 115, 101, 116] : List UInt8)) = false := beq_eq_false_iff_ne.mpr c12
                        have c12b1 : (a0.toList != ([102, 105, 101, 108, 100, 115, 101, 116] : List UInt8)) = true := bne_iff_ne.mpr c12
                        by_cases c13 : a0.toList = ([102, 105, 103, 99, 97, 112, 116, 105, 111, 110] : List UInt8)
                        · rw [if_pos c13] at H
                          have c13b0 : (a0.toList == ([102, 105, 103, 99, 97, 112, 116, 105, 111, 110] : List UInt8)) = true := beq_iff_eq.mpr c13
                          have c13b1 : (a0.toList != ([102, 105, 103, 99, 97, 112, 116, 105, 111, 110] : List UInt8)) = false := bne_eq_false_iff_eq.mpr c13
                          clear c13
                          obtain rfl := Option.some.inj H
                          go_enter Try.func163, Try.ntmps163
                          go_wp2
                          go_ret
                          exact ⟨by first | rfl | (simp; done) | (simp [*]; done), by repeat (first | exact Drawn0.refl _ | apply Drawn0.step)⟩
                        · rw [if_neg c13] at H
                          have c13b0 : (a0.toList == ([102, 105, 103, 99, 97, 112, 116, 105, 111, 110] : List UInt8)) = false := beq_eq_false_iff_ne.mpr c13
                          have c13b1 : (a0.toList != ([102, 105, 103, 99, 97, 112, 116, 105, 111, 110] : List UInt8)) = true := bne_iff_ne.mpr c13
                          by_cases c14 : a0.toList = ([102, 105, 103, 117, 114, 101] : List UInt8)
                          · rw [if_pos c14] at H
                            have c14b0 : (a0.toList == ([102, 105, 103, 117, 114, 101] : List UInt8)) = true := beq_iff_eq.mpr c14
                            have c14b1 : (a0.toList != ([102, 105, 103, 117, 114, 101] : List UInt8)) = false := bne_eq_false_iff_eq.mpr c14
                            clear c14
                            obtain rfl := Option.some.inj H
                            go_enter Try.func163, Try.ntmps163
                            go_wp2
                            go_ret
                            exact ⟨by first | rfl | (simp; done) | (simp [*]; done), by repeat (first | exact Drawn0.refl _ | apply Drawn0.step)⟩
                          · rw [if_neg c14] at H
                            have c14b0 : (a0.toList == ([102, 105, 103, 117, 114, 101] : List UInt8)) = false := beq_eq_false_iff_ne.mpr c14
                            have c14b1 : (a0.toList != ([102, 105, 103, 117, 114, 101] : List UInt8)) = true := bne_iff_ne.mpr c14
                            by_cases c15 : a0.toList = ([102, 111, 111, 116, 101, 114] : List UInt8)
                            · rw [if_pos c15] at H
                              have c15b0 : (a0.toList == ([102, 111, 111, 116, 101, 114] : List UInt8)) = true := beq_iff_eq.mpr c15
                              have c15b1 : (a0.toList != ([102, 111, 111, 116, 101, 114] : List UInt8)) = false := bne_eq_false_iff_eq.mpr c15
                              clear c15
                              obtain rfl := Option.some.inj H
                              go_enter Try.func163, Try.ntmps163
                              go_wp2
                              go_ret
                              exact ⟨by first | rfl | (simp; done) | (simp [*]; done), by repeat (first | exact Drawn0.refl _ | apply Drawn0.step)⟩
                            · rw [if_neg c15] at H
                              have c15b0 : (a0.toList == ([102, 111, 111, 116, 101, 114] : List UInt8)) = false := beq_eq_false_iff_ne.mpr c15
                              have c15b1 : (a0.toList != ([102, 111, 111, 116, 101, 114] : List UInt8)) = true := bne_iff_ne.mpr c15
                              by_cases c16 : a0.toList = ([102, 111, 114, 109] : List UInt8)
                              · rw [if_pos c16] at H
                                have c16b0 : (a0.toList == ([102, 111, 114, 109] : List UInt8)) = true := beq_iff_eq.mpr c16
                                have c16b1 : (a0.toList != ([102, 111, 114, 109] : List UInt8)) = false := bne_eq_false_iff_eq.mpr c16
                                clear c16
                                obtain rfl := Option.some.inj H
                                go_enter Try.func163, Try.ntmps163
                                go_wp2
                                go_ret
                                exact ⟨by first | rfl | (simp; done) | (simp [*]; done), by repeat (first | exact Drawn0.refl _ | apply Drawn0.step)⟩
                              · rw [if_neg c16] at H
                                have c16b0 : (a0.toList == ([102, 111, 114, 109] : List UInt8)) = false := beq_eq_false_iff_ne.mpr c16
                                have c16b1 : (a0.toList != ([102, 111, 114, 109] : List UInt8)) = true := bne_iff_ne.mpr c16
                                by_cases c17 : a0.toList = ([104, 49] : List UInt8)
                                · rw [if_pos c17] at H
                                  have c17b0 : (a0.toList == ([104, 49] : List UInt8)) = true := beq_iff_eq.mpr c17
                                  have c17b1 : (a0.toList != ([104, 49] : List UInt8)) = false := bne_eq_false_iff_eq.mpr c17
                                  clear c17
                                  obtain rfl := Option.some.inj H
                                  go_enter Try.func163, Try.ntmps163
                                  go_wp2
                                  go_ret
                                  exact ⟨by first | rfl | (simp; done) | (simp [*]; done), by repeat (first | exact Drawn0.refl _ | apply Drawn0.step)⟩
                                · rw [if_neg c17] at H
                                  have c17b0 : (a0.toList == ([104, 49] : List UInt8)) = false := beq_eq_false_iff_ne.mpr c17
                                  have c17b1 : (a0.toList != ([104, 49] : List UInt8)) = true := bne_iff_ne.mpr c17
                                  by_cases c18 : a0.toList = ([104, 50] : List UInt8)
                                  · rw [if_pos c18] at H
                                    have c18b0 : (a0.toList == ([104, 50] : List UInt8)) = true := beq_iff_eq.mpr c18
                                    have c18b1 : (a0.toList != ([104, 50] : List UInt8)) = false := bne_eq_false_iff_eq.mpr c18
                                    clear c18
                                    obtain rfl := Option.some.inj H
                                    go_enter Try.func163, Try.ntmps163
                                    go_wp2
                                    go_ret
                                    exact ⟨by first | rfl | (simp; done) | (simp [*]; done), by repeat (first | exact Drawn0.refl _ | apply Drawn0.step)⟩
                                  · rw [if_neg c18] at H
                                    have c18b0 : (a0.toList == ([104, 50] : List UInt8)) = false := beq_eq_false_iff_ne.mpr c18
                                    have c18b1 : (a0.toList != ([104, 50] : List UInt8)) = true := bne_iff_ne.mpr c18
                                    by_cases c19 : a0.toList = ([104, 51] : List UInt8)
                                    · rw [if_pos c19] at H
                                      have c19b0 : (a0.toList == ([104, 51] : List UInt8)) = true := beq_iff_eq.mpr c19
                                      have c19b1 : (a0.toList != ([104, 51] : List UInt8)) = false := bne_eq_false_iff_eq.mpr c19
                                      clear c19
                                      obtain rfl := Option.some.inj H
                                      go_enter Try.func163, Try.ntmps163
                                      go_wp2
                                      go_ret
                                      exact ⟨by first | rfl | (simp; done) | (simp [*]; done), by repeat (first | exact Drawn0.refl _ | apply Drawn0.step)⟩
                                    · rw [if_neg c19] at H
                                      have c19b0 : (a0.toList == ([104, 51] : List UInt8)) = false := beq_eq_false_iff_ne.mpr c19
                                      have c19b1 : (a0.toList != ([104, 51] : List UInt8)) = true := bne_iff_ne.mpr c19
                                      by_cases c20 : a0.toList = ([104, 52] : List UInt8)
                                      · rw [if_pos c20] at H
                                        have c20b0 : (a0.toList == ([104, 52] : List UInt8)) = true := beq_iff_eq.mpr c20
                                        have c20b1 : (a0.toList != ([104, 52] : List UInt8)) = false := bne_eq_false_iff_eq.mpr c20
                                        clear c20
                                        obtain rfl := Option.some.inj H
                                        go_enter Try.func163, Try.ntmps163
                                        go_wp2
                                        go_ret
                                        exact ⟨by first | rfl | (simp; done) | (simp [*]; done), by repeat (first | exact Drawn0.refl _ | apply Drawn0.step)⟩
                                      · rw [if_neg c20] at H
                                        have c20b0 : (a0.toList == ([104, 52] : List UInt8)) = false := beq_eq_false_iff_ne.mpr c20
                                        have c20b1 : (a0.toList != ([104, 52] : List UInt8)) = true := bne_iff_ne.mpr c20
                                        by_cases c21 : a0.toList = ([104, 53] : List UInt8)
                                        · rw [if_pos c21] at H
                                          have c21b0 : (a0.toList == ([104, 53] : List UInt8)) = true := beq_iff_eq.mpr c21
                                          have c21b1 : (a0.toList != ([104, 53] : List UInt8)) = false := bne_eq_false_iff_eq.mpr c21
                                          clear c21
                                          obtain rfl := Option.some.inj H
                                          go_enter Try.func163, Try.ntmps163
                                          go_wp2
                                          go_ret
                                          exact ⟨by first | rfl | (simp; done) | (simp [*]; done), by repeat (first | exact Drawn0.refl _ | apply Drawn0.step)⟩
                                        · rw [if_neg c21] at H
                                          have c21b0 : (a0.toList == ([104, 53] : List UInt8)) = false := beq_eq_false_iff_ne.mpr c21
                                          have c21b1 : (a0.toList != ([104, 53] : List UInt8)) = true := bne_iff_ne.mpr c21
                                          by_cases c22 : a0.toList = ([104, 54] : List UInt8)
                                          · rw [if_pos c22] at H
                                            have c22b0 : (a0.toList == ([104, 54] : List UInt8)) = true := beq_iff_eq.mpr c22
                                            have c22b1 : (a0.toList != ([104, 54] : List UInt8)) = false := bne_eq_false_iff_eq.mpr c22
                                            clear c22
                                            obtain rfl := Option.some.inj H
                                            go_enter Try.func163, Try.ntmps163
                                            go_wp2
                                            go_ret
                                            exact ⟨by first | rfl | (simp; done) | (simp [*]; done), by repeat (first | exact Drawn0.refl _ | apply Drawn0.step)⟩
                                          · rw [if_neg c22] at H
                                            have c22b0 : (a0.toList == ([104, 54] : List UInt8)) = false := beq_eq_false_iff_ne.mpr c22
                                            have c22b1 : (a0.toList != ([104, 54] : List UInt8)) = true := bne_iff_ne.mpr c22
                                            by_cases c23 : a0.toList = ([104, 101, 97, 100, 101, 114] : List UInt8)
                                            · rw [if_pos c23] at H
                                              have c23b0 : (a0.toList == ([104, 101, 97, 100, 101, 114] : List UInt8)) = true := beq_iff_eq.mpr c23
                                              have c23b1 : (a0.toList != ([104, 101, 97, 100, 101, 114] : List UInt8)) = false := bne_eq_false_iff_eq.mpr c23
                                              clear c23
                                              obtain rfl := Option.some.inj H
                                              go_enter Try.func163, Try.ntmps163
                                              go_wp2
                                              go_ret
                                              exact ⟨by first | rfl | (simp; done) | (simp [*]; done), by repeat (first | exact Drawn0.refl _ | apply Drawn0.step)⟩
                                            · rw [if_neg c23] at H
                                              have c23b0 : (a0.toList == ([104, 101, 97, 100, 101, 114] : List UInt8)) = false := beq_eq_false_iff_ne.mpr c23
                                              have c23b1 : (a0.toList != ([104, 101, 97, 100, 101, 114] : List UInt8)) = true := bne_iff_ne.mpr c23
                                              by_cases c24 : a0.toList = ([104, 103, 114, 111, 117, 112] : List UInt8)
                                              · rw [if_pos c24] at H
                                                have c24b0 : (a0.toList == ([104, 103, 114, 111, 117, 112] : List UInt8)) = true := beq_iff_eq.mpr c24
                                                have c24b1 : (a0.toList != ([104, 103, 114, 111, 117, 112] : List UInt8)) = false := bne_eq_false_iff_eq.mpr c24
                                                clear c24
                                                obtain rfl := Option.some.inj H
                                                go_enter Try.func163, Try.ntmps163
                                                go_wp2
                                                go_ret
                                                exact ⟨by first | rfl | (simp; done) | (simp [*]; done), by repeat (first | exact Drawn0.refl _ | apply Drawn0.step)⟩
                                              · rw [if_neg c24] at H
                                                have c24b0 : (a0.toList == ([104, 103, 114, 111, 117, 112] : List UInt8)) = false := beq_eq_false_iff_ne.mpr c24
                                                have c24b1 : (a0.toList != ([104, 103, 114, 111, 117, 112] : List UInt8)) = true := bne_iff_ne.mpr c24
                                                by_cases c25 : a0.toList = ([104, 114] : List UInt8)
                                                · rw [if_pos c25] at H
                                                  have c25b0 : (a0.toList == ([104, 114] : List UInt8)) = true := beq_iff_eq.mpr c25
                                                  have c25b1 : (a0.toList != ([104, 114] : List UInt8)) = false := bne_eq_false_iff_eq.mpr c25
                                                  clear c25
                                                  obtain rfl := Option.some.inj H
                                                  go_enter Try.func163, Try.ntmps163
                                                  go_wp2
                                                  go_ret
                                                  exact ⟨by first | rfl | (simp; done) | (simp [*]; done), by repeat (first | exact Drawn0.refl _ | apply Drawn0.step)⟩
                                                · rw [if_neg c25] at H
                                                  have c25b0 : (a0.toList == ([104, 114] : List UInt8)) = false := beq_eq_false_iff_ne.mpr c25
                                                  have c25b1 : (a0.toList != ([104, 114] : List UInt8)) = true := bne_iff_ne.mpr c25
                                                  by_cases c26 : a0.toList = ([108, 105] : List UInt8)
                                                  · rw [if_pos c26] at H
                                                    have c26b0 : (a0.toList == ([108, 105] : List UInt8)) = true := beq_iff_eq.mpr c26
                                                    have c26b1 : (a0.toList != ([108, 105] : List UInt8)) = false := bne_eq_false_iff_eq.mpr c26
                                                    clear c26
                                                    obtain rfl := Option.some.inj H
                                                    go_enter Try.func163, Try.ntmps163
                                                    go_wp2
                                                    go_ret
                                                    exact ⟨by first | rfl | (simp; done) | (simp [*]; done), by repeat (first | exact Drawn0.refl _ | apply Drawn0.step)⟩
                                                  · rw [if_neg c26] at H
                                                    have c26b0 : (a0.toList == ([108, 105] : List UInt8)) = false := beq_eq_false_iff_ne.mpr c26
                                                    have c26b1 : (a0.toList != ([108, 105] : List UInt8)) = true := bne_iff_ne.mpr c26
                                                    by_cases c27 : a0.toList = ([109, 97, 105, 110] : List UInt8)
                                                    · rw [if_pos c27] at H
                                                      have c27b0 : (a0.toList == ([109, 97, 105, 110] : List UInt8)) = true := beq_iff_eq.mpr c27
                                                      have c27b1 : (a0.toList != ([109, 97, 105, 110] : List UInt8)) = false := bne_eq_false_iff_eq.mpr c27
                                                      clear c27
                                                      obtain rfl := Option.some.inj H
                                                      go_enter Try.func163, Try.ntmps163
                                                      go_wp2
                                                      go_ret
                                                      exact ⟨by first | rfl | (simp; done) | (simp [*]; done), by repeat (first | exact Drawn0.refl _ | apply Drawn0.step)⟩
                                                    · rw [if_neg c27] at H
                                                      have c27b0 : (a0.toList == ([109, 97, 105, 110] : List UInt8)) = false := beq_eq_false_iff_ne.mpr c27
                                                      have c27b1 : (a0.toList != ([109, 97, 105, 110] : List UInt8)) = true := bne_iff_ne.mpr c27
                                                      by_cases c28 : a0.toList = ([110, 97, 118] : List UInt8)
                                                      · rw [if_pos c28] at H
                                                        have c28b0 : (a0.toList == ([110, 97, 118] : List UInt8)) = true := beq_iff_eq.mpr c28
                                                        have c28b1 : (a0.toList != ([110, 97, 118] : List UInt8)) = false := bne_eq_false_iff_eq.mpr c28
                                                        clear c28
                                                        obtain rfl := Option.some.inj H
                                                        go_enter Try.func163, Try.ntmps163
                                                        go_wp2
                                                        go_ret
                                                        exact ⟨by first | rfl | (simp; done) | (simp [*]; done), by repeat (first | exact Drawn0.refl _ | apply Drawn0.step)⟩
                                                      · rw [if_neg c28] at H
                                                        have c28b0 : (a0.toList == ([110, 97, 118] : List UInt8)) = false := beq_eq_false_iff_ne.mpr c28
                                                        have c28b1 : (a0.toList != ([110, 97, 118] : List UInt8)) = true := bne_iff_ne.mpr c28
                                                        by_cases c29 : a0.toList = ([111, 108] : List UInt8)
                                                        · rw [if_pos c29] at H
                                                          have c29b0 : (a0.toList == ([111, 108] : List UInt8)) = true := beq_iff_eq.mpr c29
                                                          have c29b1 : (a0.toList != ([111, 108] : List UInt8)) = false := bne_eq_false_iff_eq.mpr c29
                                                          clear c29
                                                          obtain rfl := Option.some.inj H
                                                          go_enter Try.func163, Try.ntmps163
                                                          go_wp2
                                                          go_ret
                                                          exact ⟨by first | rfl | (simp; done) | (simp [*]; done), by repeat (first | exact Drawn0.refl _ | apply Drawn0.step)⟩
                                                        · rw [if_neg c29] at H
                                                          have c29b0 : (a0.toList == ([111, 108] : List UInt8)) = false := beq_eq_false_iff_ne.mpr c29
                                                          have c29b1 : (a0.toList != ([111, 108] : List UInt8)) = true := bne_iff_ne.mpr c29
                                                          by_cases c30 : a0.toList = ([112] : List UInt8)
                                                          · rw [if_pos c30] at H
                                                            have c30b0 : (a0.toList == ([112] : List UInt8)) = true := beq_iff_eq.mpr c30
                                                            have c30b1 : (a0.toList != ([112] : List UInt8)) = false := bne_eq_false_iff_eq.mpr c30
                                                            clear c30
                                                            obtain rfl := Option.some.inj H
                                                            go_enter Try.func163, Try.ntmps163
                                                            go_wp2
                                                            go_ret
                                                            exact ⟨by first | rfl | (simp; done) | (simp [*]; done), by repeat (first | exact Drawn0.refl _ | apply Drawn0.step)⟩
                                                          · rw [if_neg c30] at H
                                                            have c30b0 : (a0.toList == ([112] : List UInt8)) = false := beq_eq_false_iff_ne.mpr c30
                                                            have c30b1 : (a0.toList != ([112] : List UInt8)) = true := bne_iff_ne.mpr c30
                                                            by_cases c31 : a0.toList = ([112, 114, 101] : List UInt8)
                                                            · rw [if_pos c31] at H
                                                              have c31b0 : (a0.toList == ([112, 114, 101] : List UInt8)) = true := beq_iff_eq.mpr c31
                                                              have c31b1 : (a0.toList != ([112, 114, 101] : List UInt8)) = false := bne_eq_false_iff_eq.mpr c31
                                                              clear c31
                                                              obtain rfl := Option.some.inj H
                                                              go_enter Try.func163, Try.ntmps163
                                                              go_wp2
                                                              go_ret
                                                              exact ⟨by first | rfl | (simp; done) | (simp [*]; done), by repeat (first | exact Drawn0.refl _ | apply Drawn0.step)⟩
                                                            · rw [if_neg c31] at H
                                                              have c31b0 : (a0.toList == ([112, 114, 101] : List UInt8)) = false := beq_eq_false_iff_ne.mpr c31
                                                              have c31b1 : (a0.toList != ([112, 114, 101] : List UInt8)) = true := bne_iff_ne.mpr c31
                                                              by_cases c32 : a0.toList = ([115, 101, 99, 116, 105, 111, 110] : List UInt8)
                                                              · rw [if_pos c32] at H
                                                                have c32b0 : (a0.toList == ([115, 101, 99, 116, 105, 111, 110] : List UInt8)) = true := beq_iff_eq.mpr c32
                                                                have c32b1 : (a0.toList != ([115, 101, 99, 116, 105, 111, 110] : List UInt8)) = false := bne_eq_false_iff_eq.mpr c32
                                                                clear c32
                                                                obtain rfl := Option.some.inj H
                                                                go_enter Try.func163, Try.ntmps163
                                                                go_wp2
                                                                go_ret
                                                                exact ⟨by first | rfl | (simp; done) | (simp [*]; done), by repeat (first | exact Drawn0.refl _ | apply Drawn0.step)⟩
                                                              · rw [if_neg c32] at H
                                                                have c32b0 : (a0.toList == ([115, 101, 99, 116, 105, 111, 110] : List UInt8)) = false := beq_eq_false_iff_ne.mpr c32
                                                                have c32b1 : (a0.toList != ([115, 101, 99, 116, 105, 111, 110] : List UInt8)) = true := bne_iff_ne.mpr c32
                                                                by_cases c33 : a0.toList = ([116, 97, 98, 108, 101] : List UInt8)
                                                                · rw [if_pos c33] at H
                                                                  have c33b0 : (a0.toList == ([116, 97, 98, 108, 101] : List UInt8)) = true := beq_iff_eq.mpr c33
                                                                  have c33b1 : (a0.toList != ([116, 97, 98, 108, 101] : List UInt8)) = false := bne_eq_false_iff_eq.mpr c33
                                                                  clear c33
                                                                  obtain rfl := Option.some.inj H
                                                                  go_enter Try.func163, Try.ntmps163
                                                                  go_wp2
                                                                  go_ret
                                                                  exact ⟨by first | rfl | (simp; done) | (simp [*]; done), by repeat (first | exact Drawn0.refl _ | apply Drawn0.step)⟩
                                                                · rw [if_neg c33] at H
                                                                  have c33b0 : (a0.toList == ([116, 97, 98, 108, 101] : List UInt8)) = false := beq_eq_false_iff_ne.mpr c33
                                                                  have c33b1 : (a0.toList != ([116, 97, 98, 108, 101] : List UInt8)) = true := bne_iff_ne.mpr c33
                                                                  by_cases c34 : a0.toList = ([117, 108] : List UInt8)
                                                                  · rw [if_pos c34] at H
                                                                    have c34b0 : (a0.toList == ([117, 108] : List UInt8)) = true := beq_iff_eq.mpr c34
                                                                    have c34b1 : (a0.toList != ([117, 108] : List UInt8)) = false := bne_eq_false_iff_eq.mpr c34
                                                                    clear c34
                                                                    obtain rfl := Option.some.inj H
                                                                    go_enter Try.func163, Try.ntmps163
                                                                    go_wp2
                                                                    go_ret
                                                                    exact ⟨by first | rfl | (simp; done) | (simp [*]; done), by repeat (first | exact Drawn0.refl _ | apply Drawn0.step)⟩
                                                                  · rw [if_neg c34] at H
                                                                    have c34b0 : (a0.toList == ([117, 108] : List UInt8)) = false := beq_eq_false_iff_ne.mpr c34
                                                                    have c34b1 : (a0.toList != ([117, 108] : List UInt8)) = true := bne_iff_ne.mpr c34
                                                                    obtain rfl := Option.some.inj H
                                                                    go_enter Try.func163, Try.ntmps163
                                                                    go_wp2
                                                                    go_ret
                                                                    exact ⟨by first | rfl | (simp; done) | (simp [*]; done), by repeat (first | exact Drawn0.refl _ | apply Drawn0.step)⟩

/-- THE ONE PURE STATEMENT of dom_NameIsBlockNode: yours. -/
def dom_NameIsBlockNode.Pure : Prop := ∀ (a0 : ByteArray), a0.size ≤ 140737488351232 → dom_NameIsBlockNode.f a0 = some true
theorem dom_NameIsBlockNode.walk (P : dom_NameIsBlockNode.Pure) (a0 : ByteArray) (w : World) (w0 : a0.size ≤ 140737488351232) :
    Calls Try.prog 163 #[.string a0] w fun e w' => e = .returned (.bool true) ∧ Below w.heap.size w w' := by
  have h := P a0 w0
  refine (dom_NameIsBlockNode.calls a0 true w h).mono ?_
  rintro e w' ⟨rfl, hd⟩
  exact ⟨rfl, hd.below⟩

end Go.Proofs.Ytlallihdiffheaa.GBk
