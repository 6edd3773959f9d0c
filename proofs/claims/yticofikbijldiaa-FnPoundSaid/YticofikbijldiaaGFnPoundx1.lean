-- made by a program of this session, after the kit's print
import Derived.Test.YticofikbijldiaaGFnPoundx0
import Derived.Test.YticofikbijldiaaGivFnPound
namespace Go.Proofs.Yticofikbijldiaa.GFnPound
open Go.RowKit Go.Proofs.YticofikbijldiaaW.PrintWords Go.Proofs.YticofikbijldiaaW.PrintLast Go.Proofs.YticofikbijldiaaW.PrintMore
attribute [local go_sem] max2_int min2_int max_two min_two max_three min_three max_four min_four   -- for this text's walks alone
set_option linter.unusedVariables false
set_option linter.unusedSimpArgs false

/-! ### spec_Marked: function 23 -/
def spec_Marked.f (a0 : ByteArray) : Option (Bool) := if (wrap64 ((a0.size : Int) - 1)) ≥ 0 then (if 0 ≤ (wrap64 ((a0.size : Int) - 1)) then (if (wrap64 ((a0.size : Int) - 1)) < (a0.size : Int) then (if (bt a0 (wrap64 ((a0.size : Int) - 1))) = 35 then (if (wrap64 ((a0.size : Int) - 1)) > 0 then (if 0 ≤ (wrap64 ((wrap64 ((a0.size : Int) - 1)) - 1)) then (if (wrap64 ((wrap64 ((a0.size : Int) - 1)) - 1)) < (a0.size : Int) then (if (bt a0 (wrap64 ((wrap64 ((a0.size : Int) - 1)) - 1))) = 7 then (some true) else (some ((bt a0 (wrap64 ((wrap64 ((a0.size : Int) - 1)) - 1))) == 92))) else (none)) else (none)) else (some false)) else (some true)) else (none)) else (none)) else (some false)
set_option maxHeartbeats 8000000 in
set_option maxRecDepth 100000 in
theorem spec_Marked.calls (a0 : ByteArray) (r : Bool) (w : World) (h : spec_Marked.f a0 = some r) :
    Calls Try.prog 23 #[.string a0] w fun e w' => e = .returned (.bool r) ∧ Drawn0 w w' := by
  have H : (if (wrap64 ((a0.size : Int) - 1)) ≥ 0 then (if 0 ≤ (wrap64 ((a0.size : Int) - 1)) then (if (wrap64 ((a0.size : Int) - 1)) < (a0.size : Int) then (if (bt a0 (wrap64 ((a0.size : Int) - 1))) = 35 then (if (wrap64 ((a0.size : Int) - 1)) > 0 then (if 0 ≤ (wrap64 ((wrap64 ((a0.size : Int) - 1)) - 1)) then (if (wrap64 ((wrap64 ((a0.size : Int) - 1)) - 1)) < (a0.size : Int) then (if (bt a0 (wrap64 ((wrap64 ((a0.size : Int) - 1)) - 1))) = 7 then (some true) else (some ((bt a0 (wrap64 ((wrap64 ((a0.size : Int) - 1)) - 1))) == 92))) else (none)) else (none)) else (some false)) else (some true)) else (none)) else (none)) else (some false)) = some r := h
  clear h
  by_cases c2 : (wrap64 ((a0.size : Int) - 1)) ≥ 0
  · rw [if_pos c2] at H
    have c2b0 : decide (0 ≤ (wrap64 ((a0.size : Int) - 1))) = true := decide_eq_true c2
    clear c2
    obtain ⟨ji3, hji3⟩ : ∃ j_ : Int, (wrap64 ((a0.size : Int) - 1)) = j_ := ⟨_, rfl⟩
    replace H : (if 0 ≤ (ji3) then (if (ji3) < (a0.size : Int) then (if (bt a0 (ji3)) = 35 then (if (ji3) > 0 then (if 0 ≤ (wrap64 ((ji3) - 1)) then (if (wrap64 ((ji3) - 1)) < (a0.size : Int) then (if (bt a0 (wrap64 ((ji3) - 1))) = 7 then (some true) else (some ((bt a0 (wrap64 ((ji3) - 1))) == 92))) else (none)) else (none)) else (some false)) else (some true)) else (none)) else (none)) = some r := by first | (rw [hji3] at H; exact H) | (simp only [hji3] at H ⊢; exact H)
    (try rw [hji3] at c2b0)
    have hji3w : (IntKind.i64.wrap ((a0.size : Int) - 1)) = ji3 := (i64_w _).trans hji3
    by_cases c4 : 0 ≤ (ji3)
    · rw [if_pos c4] at H
      have c4b0 : decide (0 ≤ (ji3)) = true := decide_eq_true c4
      clear c4
      by_cases c5 : (ji3) < (a0.size : Int)
      · rw [if_pos c5] at H
        have c5b0 : decide ((ji3) < (a0.size : Int)) = true := decide_eq_true c5
        clear c5
        by_cases c7 : (bt a0 (ji3)) = 35
        · rw [if_pos c7] at H
          have c7b0 : ((bt a0 (ji3)) == 35) = true := beq_iff_eq.mpr c7
          have c7b1 : ((bt a0 (ji3)) != 35) = false := bne_eq_false_iff_eq.mpr c7
          clear c7
          by_cases c8 : (ji3) > 0
          · rw [if_pos c8] at H
            have c8b0 : decide (0 < (ji3)) = true := decide_eq_true c8
            clear c8
            obtain ⟨ji9, hji9⟩ : ∃ j_ : Int, (wrap64 ((ji3) - 1)) = j_ := ⟨_, rfl⟩
            replace H : (if 0 ≤ (ji9) then (if (ji9) < (a0.size : Int) then (if (bt a0 (ji9)) = 7 then (some true) else (some ((bt a0 (ji9)) == 92))) else (none)) else (none)) = some r := by first | (rw [hji9] at H; exact H) | (simp only [hji9] at H ⊢; exact H)
            have hji9w : (IntKind.i64.wrap ((ji3) - 1)) = ji9 := (i64_w _).trans hji9
            by_cases c10 : 0 ≤ (ji9)
            · rw [if_pos c10] at H
              have c10b0 : decide (0 ≤ (ji9)) = true := decide_eq_true c10
              clear c10
              by_cases c11 : (ji9) < (a0.size : Int)
              · rw [if_pos c11] at H
                have c11b0 : decide ((ji9) < (a0.size : Int)) = true := decide_eq_true c11
                clear c11
                by_cases c13 : (bt a0 (ji9)) = 7
                · rw [if_pos c13] at H
                  have c13b0 : ((bt a0 (ji9)) == 7) = true := beq_iff_eq.mpr c13
                  have c13b1 : ((bt a0 (ji9)) != 7) = false := bne_eq_false_iff_eq.mpr c13
                  clear c13
                  obtain rfl := Option.some.inj H
                  have p6 : 0 ≤ ((ji3) : Int) := of_decide_eq_true (by first | (with_reducible assumption) | assumption)
                  have q6 : (ji3) < (a0.size : Int) := of_decide_eq_true (by first | (with_reducible assumption) | assumption)
                  have hx6 := bt_at a0 (ji3)
                  replace p6 := eq_true p6
                  replace q6 := eq_true q6
                  have p12 : 0 ≤ ((ji9) : Int) := of_decide_eq_true (by first | (with_reducible assumption) | assumption)
                  have q12 : (ji9) < (a0.size : Int) := of_decide_eq_true (by first | (with_reducible assumption) | assumption)
                  have hx12 := bt_at a0 (ji9)
                  replace p12 := eq_true p12
                  replace q12 := eq_true q12
                  go_enter Try.func23, Try.ntmps23
                  go_wp2
                  go_ret
                  exact ⟨by first | rfl | (simp; done) | (simp only [← hji3, ← hji9] <;> (first | rfl | simp)) | (simp [*]; done), by repeat (first | exact Drawn0.refl _ | apply Drawn0.step)⟩
                · rw [if_neg c13] at H
                  have c13b0 : ((bt a0 (ji9)) == 7) = false := beq_eq_false_iff_ne.mpr c13
                  have c13b1 : ((bt a0 (ji9)) != 7) = true := bne_iff_ne.mpr c13
                  obtain rfl := Option.some.inj H
                  have p6 : 0 ≤ ((ji3) : Int) := of_decide_eq_true (by first | (with_reducible assumption) | assumption)
                  have q6 : (ji3) < (a0.size : Int) := of_decide_eq_true (by first | (with_reducible assumption) | assumption)
                  have hx6 := bt_at a0 (ji3)
                  replace p6 := eq_true p6
                  replace q6 := eq_true q6
                  have p12 : 0 ≤ ((ji9) : Int) := of_decide_eq_true (by first | (with_reducible assumption) | assumption)
                  have q12 : (ji9) < (a0.size : Int) := of_decide_eq_true (by first | (with_reducible assumption) | assumption)
                  have hx12 := bt_at a0 (ji9)
                  replace p12 := eq_true p12
                  replace q12 := eq_true q12
                  have p14 : 0 ≤ ((ji9) : Int) := of_decide_eq_true (by first | (with_reducible assumption) | assumption)
                  have q14 : (ji9) < (a0.size : Int) := of_decide_eq_true (by first | (with_reducible assumption) | assumption)
                  have hx14 := bt_at a0 (ji9)
                  replace p14 := eq_true p14
                  replace q14 := eq_true q14
                  go_enter Try.func23, Try.ntmps23
                  go_wp2
                  go_ret
                  exact ⟨by first | rfl | (simp; done) | (simp only [← hji3, ← hji9] <;> (first | rfl | simp)) | (simp [*]; done), by repeat (first | exact Drawn0.refl _ | apply Drawn0.step)⟩
              · rw [if_neg c11] at H
                exact absurd H (by simp)
            · rw [if_neg c10] at H
              exact absurd H (by simp)
          · rw [if_neg c8] at H
            have c8b0 : decide (0 < (ji3)) = false := decide_eq_false c8
            clear c8
            obtain rfl := Option.some.inj H
            have p6 : 0 ≤ ((ji3) : Int) := of_decide_eq_true (by first | (with_reducible assumption) | assumption)
            have q6 : (ji3) < (a0.size : Int) := of_decide_eq_true (by first | (with_reducible assumption) | assumption)
            have hx6 := bt_at a0 (ji3)
            replace p6 := eq_true p6
            replace q6 := eq_true q6
            go_enter Try.func23, Try.ntmps23
            go_wp2
            go_ret
            exact ⟨by first | rfl | (simp; done) | (simp only [← hji3] <;> (first | rfl | simp)) | (simp [*]; done), by repeat (first | exact Drawn0.refl _ | apply Drawn0.step)⟩
        · rw [if_neg c7] at H
          have c7b0 : ((bt a0 (ji3)) == 35) = false := beq_eq_false_iff_ne.mpr c7
          have c7b1 : ((bt a0 (ji3)) != 35) = true := bne_iff_ne.mpr c7
          obtain rfl := Option.some.inj H
          have p6 : 0 ≤ ((ji3) : Int) := of_decide_eq_true (by first | (with_reducible assumption) | assumption)
          have q6 : (ji3) < (a0.size : Int) := of_decide_eq_true (by first | (with_reducible assumption) | assumption)
          have hx6 := bt_at a0 (ji3)
          replace p6 := eq_true p6
          replace q6 := eq_true q6
          go_enter Try.func23, Try.ntmps23
          go_wp2
          go_ret
          exact ⟨by first | rfl | (simp; done) | (simp only [← hji3] <;> (first | rfl | simp)) | (simp [*]; done), by repeat (first | exact Drawn0.refl _ | apply Drawn0.step)⟩
      · rw [if_neg c5] at H
        exact absurd H (by simp)
    · rw [if_neg c4] at H
      exact absurd H (by simp)
  · rw [if_neg c2] at H
    have c2b0 : decide (0 ≤ (wrap64 ((a0.size : Int) - 1))) = false := decide_eq_false c2
    clear c2
    obtain rfl := Option.some.inj H
    go_enter Try.func23, Try.ntmps23
    go_wp2
    go_ret
    exact ⟨by first | rfl | (simp; done) | (simp [*]; done), by repeat (first | exact Drawn0.refl _ | apply Drawn0.step)⟩

-- NOT PRINTED: function 48 (impl_guarded)

-- GIVEN: function 24 (impl_Pound)

-- GIVEN: function 25 (spec_Pound)

/-! ### laws_FnPound: function 6 -/
def laws_FnPound.f (a0 : ByteArray) : Option (Bool) := if (a0.size : Int) > 2147483647 then (some true) else ((spec_Marked.f a0).bind fun t101 => (if t101 = true then (if (a0.size : Int) > 1048576 then (some true) else ((impl_Pound.f a0).bind fun t102 => ((spec_Pound.f a0).bind fun t103 => (some (t102.toList == t103.toList))))) else (some true)))
set_option maxHeartbeats 8000000 in
set_option maxRecDepth 100000 in
theorem laws_FnPound.calls (a0 : ByteArray) (r : Bool) (w : World) (h : laws_FnPound.f a0 = some r) :
    Calls Try.prog 6 #[.string a0] w fun e w' => e = .returned (.bool r) ∧ Below w.heap.size w w' := by
  have HB := Aside0.mk (Below.refl w.heap.size w)
  have H : (if (a0.size : Int) > 2147483647 then (some true) else ((spec_Marked.f a0).bind fun t101 => (if t101 = true then (if (a0.size : Int) > 1048576 then (some true) else ((impl_Pound.f a0).bind fun t102 => ((spec_Pound.f a0).bind fun t103 => (some (t102.toList == t103.toList))))) else (some true)))) = some r := h
  clear h
  by_cases c2 : (a0.size : Int) > 2147483647
  · rw [if_pos c2] at H
    have c2b0 : decide (2147483647 < (a0.size : Int)) = true := decide_eq_true c2
    have c2b1 : decide (2147483647 < a0.size) = true := decide_eq_true (by omega)
    clear c2
    obtain rfl := Option.some.inj H
    go_enter Try.func6, Try.ntmps6
    go_wp2
    go_ret
    exact ⟨by first | rfl | (simp [errW_none, errW_some] <;> rfl) | (simp [*, errW_none, errW_some] <;> rfl), by repeat (first | (with_reducible first | exact HB.out | apply below_alloc | apply pw_below_drewN | apply below_drew1) | exact HB.out)⟩
  · rw [if_neg c2] at H
    have c2b0 : decide (2147483647 < (a0.size : Int)) = false := decide_eq_false c2
    have c2b1 : decide (2147483647 < a0.size) = false := decide_eq_false (by omega)
    clear c2
    replace H := Option.bind_eq_some_iff.mp H
    obtain ⟨t101, A30, H⟩ := H
    replace H : (if t101 = true then (if (a0.size : Int) > 1048576 then (some true) else ((impl_Pound.f a0).bind fun t102 => ((spec_Pound.f a0).bind fun t103 => (some (t102.toList == t103.toList))))) else (some true)) = some r := H
    have A3 := Aside0.mk A30
    clear A30
    by_cases c4 : t101 = true
    · subst c4
      have H1 : (if (a0.size : Int) > 1048576 then (some true) else ((impl_Pound.f a0).bind fun t102 => ((spec_Pound.f a0).bind fun t103 => (some (t102.toList == t103.toList))))) = some r := by rw [if_pos rfl] at H; exact H
      clear H
      have H := H1
      clear H1
      by_cases c5 : (a0.size : Int) > 1048576
      · rw [if_pos c5] at H
        have c5b0 : decide (1048576 < (a0.size : Int)) = true := decide_eq_true c5
        have c5b1 : decide (1048576 < a0.size) = true := decide_eq_true (by omega)
        clear c5
        obtain rfl := Option.some.inj H
        go_enter Try.func6, Try.ntmps6
        go_wp2_with (first | ((with_reducible refine gate_callee (f := 23) rfl ?_); refine goesL_ (some 7) rfl rfl Try.func23 (by kernel_rfl) rfl #[.string a0] rfl (by (try simp only [List.map_toArray, List.map_cons, List.map_nil]); first | done | rfl | (simp only [List.length_drop, List.length_take]; rfl)) ?_; (with_reducible refine (spec_Marked.calls a0 true _ A3.out).mono ?_); rintro e w' ⟨rfl, ⟨nd, rfl⟩⟩; refine ⟨_, rfl, ?_⟩))
        go_ret
        exact ⟨by first | rfl | (simp [errW_none, errW_some] <;> rfl) | (simp [*, errW_none, errW_some] <;> rfl), by repeat (first | (with_reducible first | exact HB.out | apply below_alloc | apply pw_below_drewN | apply below_drew1) | exact HB.out)⟩
      · rw [if_neg c5] at H
        have c5b0 : decide (1048576 < (a0.size : Int)) = false := decide_eq_false c5
        have c5b1 : decide (1048576 < a0.size) = false := decide_eq_false (by omega)
        clear c5
        replace H := Option.bind_eq_some_iff.mp H
        obtain ⟨t102, A60, H⟩ := H
        replace H : ((spec_Pound.f a0).bind fun t103 => (some (t102.toList == t103.toList))) = some r := H
        have A6 := Aside0.mk A60
        clear A60
        replace H := Option.bind_eq_some_iff.mp H
        obtain ⟨t103, A70, H⟩ := H
        replace H : (some (t102.toList == t103.toList)) = some r := H
        have A7 := Aside0.mk A70
        clear A70
        obtain rfl := Option.some.inj H
        go_enter Try.func6, Try.ntmps6
        go_wp2_with (first | ((with_reducible refine gate_callee (f := 23) rfl ?_); refine goesL_ (some 7) rfl rfl Try.func23 (by kernel_rfl) rfl #[.string a0] rfl (by (try simp only [List.map_toArray, List.map_cons, List.map_nil]); first | done | rfl | (simp only [List.length_drop, List.length_take]; rfl)) ?_; (with_reducible refine (spec_Marked.calls a0 true _ A3.out).mono ?_); rintro e w' ⟨rfl, ⟨nd, rfl⟩⟩; refine ⟨_, rfl, ?_⟩) | (go_at_call 24; (with_reducible refine (impl_Pound.calls a0 t102 _ A6.out).mono ?_); rintro e w8 ⟨rfl, hb⟩; have n0_ := Aside0.mk (below_step (by repeat (first | (with_reducible first | exact HB.out | apply below_alloc | apply pw_below_drewN | apply below_drew1) | exact HB.out)) hb); clear HB; have HB := n0_; clear n0_; (try clear hb); (try clear hb2); (try clear hk); (try clear hi)) | (go_at_call 25; (with_reducible refine (spec_Pound.calls a0 t103 _ A7.out).mono ?_); rintro e w9 ⟨rfl, hb⟩; have n0_ := Aside0.mk (below_step (by repeat (first | (with_reducible first | exact HB.out | apply below_alloc | apply pw_below_drewN | apply below_drew1) | exact HB.out)) hb); clear HB; have HB := n0_; clear n0_; (try clear hb); (try clear hb2); (try clear hk); (try clear hi)))
        go_ret
        exact ⟨by first | rfl | (simp [errW_none, errW_some] <;> rfl) | (simp [*, errW_none, errW_some] <;> rfl), by repeat (first | (with_reducible first | exact HB.out | apply below_alloc | apply pw_below_drewN | apply below_drew1) | exact HB.out)⟩
    · replace c4 := Bool.eq_false_iff.mpr c4
      subst c4
      have H1 : (some true) = some r := by rw [if_neg (show ¬ (false = true) by decide)] at H; exact H
      clear H
      have H := H1
      clear H1
      obtain rfl := Option.some.inj H
      go_enter Try.func6, Try.ntmps6
      go_wp2_with (first | ((with_reducible refine gate_callee (f := 23) rfl ?_); refine goesL_ (some 7) rfl rfl Try.func23 (by kernel_rfl) rfl #[.string a0] rfl (by (try simp only [List.map_toArray, List.map_cons, List.map_nil]); first | done | rfl | (simp only [List.length_drop, List.length_take]; rfl)) ?_; (with_reducible refine (spec_Marked.calls a0 false _ A3.out).mono ?_); rintro e w' ⟨rfl, ⟨nd, rfl⟩⟩; refine ⟨_, rfl, ?_⟩))
      go_ret
      exact ⟨by first | rfl | (simp [errW_none, errW_some] <;> rfl) | (simp [*, errW_none, errW_some] <;> rfl), by repeat (first | (with_reducible first | exact HB.out | apply below_alloc | apply pw_below_drewN | apply below_drew1) | exact HB.out)⟩

/-- THE ONE PURE STATEMENT of laws_FnPound: yours. -/
def laws_FnPound.Pure : Prop := ∀ (a0 : ByteArray), a0.size ≤ 140737488351232 → laws_FnPound.f a0 = some true
theorem laws_FnPound.walk (P : laws_FnPound.Pure) (a0 : ByteArray) (w : World) (w0 : a0.size ≤ 140737488351232) :
    Calls Try.prog 6 #[.string a0] w fun e w' => e = .returned (.bool true) ∧ Below w.heap.size w w' := by
  have h := P a0 w0
  refine (laws_FnPound.calls a0 true w h).mono ?_
  rintro e w' ⟨rfl, hd⟩
  exact ⟨rfl, hd⟩

end Go.Proofs.Yticofikbijldiaa.GFnPound
