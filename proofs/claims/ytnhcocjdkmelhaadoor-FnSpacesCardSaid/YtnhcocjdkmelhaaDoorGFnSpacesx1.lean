-- made by a program of this session, after the kit's print
import Derived.Test.YtnhcocjdkmelhaaDoorGFnSpacesx0
import Derived.Test.YtnhcocjdkmelhaaDoorGivFnSpaces
namespace Go.Proofs.YtnhcocjdkmelhaaDoor.GFnSpaces
open Go.RowKit Go.Proofs.YtnhcocjdkmelhaaDoorW.PrintWords Go.Proofs.YtnhcocjdkmelhaaDoorW.PrintLast Go.Proofs.YtnhcocjdkmelhaaDoorW.PrintMore
attribute [local go_sem] max2_int min2_int max_two min_two max_three min_three max_four min_four   -- for this text's walks alone
set_option linter.unusedVariables false
set_option linter.unusedSimpArgs false

-- GIVEN: function 11 (impl_Spaces)

-- GIVEN: function 12 (spec_Middle29)

-- GIVEN: function 13 (spec_Blank29)

/-! ### laws_FnSpaces: function 4 -/
def laws_FnSpaces.f (a0 : ByteArray) : Option (Bool) := if (a0.size : Int) > 2147483647 then (some true) else ((impl_Spaces.f a0).bind fun bt101 => ((spec_Middle29.f a0).bind fun bt104 => (if bt101.1.size + bt101.2.1.size ≤ 9223372036854775807 then (if (bt101.1 ++ bt101.2.1).size + bt101.2.2.size ≤ 9223372036854775807 then (if ((bt101.1 ++ bt101.2.1) ++ bt101.2.2).toList = a0.toList then (if bt101.2.1.toList = bt104.1.toList then (if bt101.2.1.toList = ([] : List UInt8) then ((spec_Blank29.f bt101.1).bind fun t106 => (if t106 = true then ((spec_Blank29.f bt101.2.2).bind fun t107 => (some t107)) else (some false))) else (if (bt101.1.size : Int) = bt104.2 then ((spec_Blank29.f bt101.1).bind fun t108 => (if t108 = true then ((spec_Blank29.f bt101.2.2).bind fun t109 => (some t109)) else (some false))) else (some false))) else (some false)) else (some false)) else (none)) else (none))))
set_option maxHeartbeats 8000000 in
set_option maxRecDepth 100000 in
theorem laws_FnSpaces.calls (a0 : ByteArray) (r : Bool) (w : World) (h : laws_FnSpaces.f a0 = some r) (hT0 : Hand.TabB w) :
    Calls Tryd.prog 4 #[.string a0] w fun e w' => e = .returned (.bool r) ∧ Below w.heap.size w w' := by
  have HT0 := Aside0.mk hT0
  clear hT0
  have HB := Aside0.mk (Below.refl w.heap.size w)
  have H : (if (a0.size : Int) > 2147483647 then (some true) else ((impl_Spaces.f a0).bind fun bt101 => ((spec_Middle29.f a0).bind fun bt104 => (if bt101.1.size + bt101.2.1.size ≤ 9223372036854775807 then (if (bt101.1 ++ bt101.2.1).size + bt101.2.2.size ≤ 9223372036854775807 then (if ((bt101.1 ++ bt101.2.1) ++ bt101.2.2).toList = a0.toList then (if bt101.2.1.toList = bt104.1.toList then (if bt101.2.1.toList = ([] : List UInt8) then ((spec_Blank29.f bt101.1).bind fun t106 => (if t106 = true then ((spec_Blank29.f bt101.2.2).bind fun t107 => (some t107)) else (some false))) else (if (bt101.1.size : Int) = bt104.2 then ((spec_Blank29.f bt101.1).bind fun t108 => (if t108 = true then ((spec_Blank29.f bt101.2.2).bind fun t109 => (some t109)) else (some false))) else (some false))) else (some false)) else (some false)) else (none)) else (none))))) = some r := h
  clear h
  by_cases c2 : (a0.size : Int) > 2147483647
  · rw [if_pos c2] at H
    have c2b0 : decide (2147483647 < (a0.size : Int)) = true := decide_eq_true c2
    have c2b1 : decide (2147483647 < a0.size) = true := decide_eq_true (by omega)
    clear c2
    obtain rfl := Option.some.inj H
    go_enter Tryd.func4, Tryd.ntmps4
    go_wp2
    go_ret
    exact ⟨by first | rfl | (simp [errW_none, errW_some] <;> rfl) | (simp [*, errW_none, errW_some] <;> rfl), by repeat (first | (with_reducible first | exact HB.out | apply below_alloc | apply pw_below_drewN | apply below_drew1) | exact HB.out)⟩
  · rw [if_neg c2] at H
    have c2b0 : decide (2147483647 < (a0.size : Int)) = false := decide_eq_false c2
    have c2b1 : decide (2147483647 < a0.size) = false := decide_eq_false (by omega)
    clear c2
    replace H := Option.bind_eq_some_iff.mp H
    obtain ⟨⟨t101, t102, t103⟩, A30, H⟩ := H
    replace H : ((spec_Middle29.f a0).bind fun bt104 => (if t101.size + t102.size ≤ 9223372036854775807 then (if (t101 ++ t102).size + t103.size ≤ 9223372036854775807 then (if ((t101 ++ t102) ++ t103).toList = a0.toList then (if t102.toList = bt104.1.toList then (if t102.toList = ([] : List UInt8) then ((spec_Blank29.f t101).bind fun t106 => (if t106 = true then ((spec_Blank29.f t103).bind fun t107 => (some t107)) else (some false))) else (if (t101.size : Int) = bt104.2 then ((spec_Blank29.f t101).bind fun t108 => (if t108 = true then ((spec_Blank29.f t103).bind fun t109 => (some t109)) else (some false))) else (some false))) else (some false)) else (some false)) else (none)) else (none))) = some r := H
    have A3 := Aside0.mk A30
    clear A30
    replace H := Option.bind_eq_some_iff.mp H
    obtain ⟨⟨t104, t105⟩, A40, H⟩ := H
    replace H : (if t101.size + t102.size ≤ 9223372036854775807 then (if (t101 ++ t102).size + t103.size ≤ 9223372036854775807 then (if ((t101 ++ t102) ++ t103).toList = a0.toList then (if t102.toList = t104.toList then (if t102.toList = ([] : List UInt8) then ((spec_Blank29.f t101).bind fun t106 => (if t106 = true then ((spec_Blank29.f t103).bind fun t107 => (some t107)) else (some false))) else (if (t101.size : Int) = t105 then ((spec_Blank29.f t101).bind fun t108 => (if t108 = true then ((spec_Blank29.f t103).bind fun t109 => (some t109)) else (some false))) else (some false))) else (some false)) else (some false)) else (none)) else (none)) = some r := H
    have A4 := Aside0.mk A40
    clear A40
    by_cases c5 : t101.size + t102.size ≤ 9223372036854775807
    · rw [if_pos c5] at H
      have c5b0 := eq_true c5
      have c5b1 : decide (t101.size + t102.size ≤ 9223372036854775807) = true := decide_eq_true c5
      try have c5b2 : (9223372036854775807 < t101.size + t102.size) = False := eq_false (Nat.not_lt.2 c5)
      by_cases c6 : (t101 ++ t102).size + t103.size ≤ 9223372036854775807
      · rw [if_pos c6] at H
        have c6b0 := eq_true c6
        have c6b1 : decide ((t101 ++ t102).size + t103.size ≤ 9223372036854775807) = true := decide_eq_true c6
        try have c6b2 : (9223372036854775807 < (t101 ++ t102).size + t103.size) = False := eq_false (Nat.not_lt.2 c6)
        by_cases c7 : ((t101 ++ t102) ++ t103).toList = a0.toList
        · rw [if_pos c7] at H
          have c7b0 : (((t101 ++ t102) ++ t103).toList == a0.toList) = true := beq_iff_eq.mpr c7
          have c7b1 : (((t101 ++ t102) ++ t103).toList != a0.toList) = false := bne_eq_false_iff_eq.mpr c7
          clear c7
          by_cases c8 : t102.toList = t104.toList
          · rw [if_pos c8] at H
            have c8b0 : (t102.toList == t104.toList) = true := beq_iff_eq.mpr c8
            have c8b1 : (t102.toList != t104.toList) = false := bne_eq_false_iff_eq.mpr c8
            clear c8
            by_cases c9 : t102.toList = ([] : List UInt8)
            · rw [if_pos c9] at H
              have c9b0 : (t102.toList == ([] : List UInt8)) = true := beq_iff_eq.mpr c9
              have c9b1 : (t102.toList != ([] : List UInt8)) = false := bne_eq_false_iff_eq.mpr c9
              clear c9
              replace H := Option.bind_eq_some_iff.mp H
              obtain ⟨t106, A100, H⟩ := H
              replace H : (if t106 = true then ((spec_Blank29.f t103).bind fun t107 => (some t107)) else (some false)) = some r := H
              have A10 := Aside0.mk A100
              clear A100
              by_cases c11 : t106 = true
              · subst c11
                have H1 : ((spec_Blank29.f t103).bind fun t107 => (some t107)) = some r := by rw [if_pos rfl] at H; exact H
                clear H
                have H := H1
                clear H1
                replace H := Option.bind_eq_some_iff.mp H
                obtain ⟨t107, A120, H⟩ := H
                replace H : (some t107) = some r := H
                have A12 := Aside0.mk A120
                clear A120
                obtain rfl := Option.some.inj H
                go_enter Tryd.func4, Tryd.ntmps4
                go_wp2_with (first | ((with_reducible refine gate_callee (f := 11) rfl ?_); refine goesL_ (some 13) rfl rfl Tryd.func11 (by kernel_rfl) rfl #[.string a0] rfl (by (try simp only [List.map_toArray, List.map_cons, List.map_nil]); first | done | rfl | (simp only [List.length_drop, List.length_take]; rfl)) ?_; (with_reducible refine (impl_Spaces.calls a0 t101 t102 t103 _ A3.out ?sideT).mono ?_); (case sideT => exact Hand.tabB_below HT0.out (by repeat (first | (with_reducible first | exact HB.out | apply below_alloc | apply pw_below_drewN | apply below_drew1) | exact HB.out))); rintro e w13 ⟨rfl, hb⟩; refine ⟨_, rfl, ?_⟩; have n0_ := Aside0.mk (below_step (by repeat (first | (with_reducible first | exact HB.out | apply below_alloc | apply pw_below_drewN | apply below_drew1) | exact HB.out)) hb); clear HB; have HB := n0_; clear n0_; (try clear hb); (try clear hb2); (try clear hk); (try clear hi)) | ((with_reducible refine gate_callee (f := 12) rfl ?_); refine goesL_ (some 19) rfl rfl Tryd.func12 (by kernel_rfl) rfl #[.string a0] rfl (by (try simp only [List.map_toArray, List.map_cons, List.map_nil]); first | done | rfl | (simp only [List.length_drop, List.length_take]; rfl)) ?_; (with_reducible refine (spec_Middle29.calls a0 t104 t105 _ A4.out ?sideT).mono ?_); (case sideT => exact Hand.tabB_below HT0.out (by repeat (first | (with_reducible first | exact HB.out | apply below_alloc | apply pw_below_drewN | apply below_drew1) | exact HB.out))); rintro e w14 ⟨rfl, hb⟩; refine ⟨_, rfl, ?_⟩; have n0_ := Aside0.mk (below_step (by repeat (first | (with_reducible first | exact HB.out | apply below_alloc | apply pw_below_drewN | apply below_drew1) | exact HB.out)) hb); clear HB; have HB := n0_; clear n0_; (try clear hb); (try clear hb2); (try clear hk); (try clear hi)) | (go_at_call 13; (with_reducible refine (spec_Blank29.calls t101 true _ A10.out ?sideT).mono ?_); (case sideT => exact Hand.tabB_below HT0.out (by repeat (first | (with_reducible first | exact HB.out | apply below_alloc | apply pw_below_drewN | apply below_drew1) | exact HB.out))); rintro e w15 ⟨rfl, hb⟩; have n0_ := Aside0.mk (below_step (by repeat (first | (with_reducible first | exact HB.out | apply below_alloc | apply pw_below_drewN | apply below_drew1) | exact HB.out)) hb); clear HB; have HB := n0_; clear n0_; (try clear hb); (try clear hb2); (try clear hk); (try clear hi)) | (go_at_call 13; (with_reducible refine (spec_Blank29.calls t103 t107 _ A12.out ?sideT).mono ?_); (case sideT => exact Hand.tabB_below HT0.out (by repeat (first | (with_reducible first | exact HB.out | apply below_alloc | apply pw_below_drewN | apply below_drew1) | exact HB.out))); rintro e w16 ⟨rfl, hb⟩; have n0_ := Aside0.mk (below_step (by repeat (first | (with_reducible first | exact HB.out | apply below_alloc | apply pw_below_drewN | apply below_drew1) | exact HB.out)) hb); clear HB; have HB := n0_; clear n0_; (try clear hb); (try clear hb2); (try clear hk); (try clear hi)))
                go_ret
                exact ⟨by first | rfl | (simp [errW_none, errW_some] <;> rfl) | (simp [*, errW_none, errW_some] <;> rfl), by repeat (first | (with_reducible first | exact HB.out | apply below_alloc | apply pw_below_drewN | apply below_drew1) | exact HB.out)⟩
              · replace c11 := Bool.eq_false_iff.mpr c11
                subst c11
                have H1 : (some false) = some r := by rw [if_neg (show ¬ (false = true) by decide)] at H; exact H
                clear H
                have H := H1
                clear H1
                obtain rfl := Option.some.inj H
                go_enter Tryd.func4, Tryd.ntmps4
                go_wp2_with (first | ((with_reducible refine gate_callee (f := 11) rfl ?_); refine goesL_ (some 13) rfl rfl Tryd.func11 (by kernel_rfl) rfl #[.string a0] rfl (by (try simp only [List.map_toArray, List.map_cons, List.map_nil]); first | done | rfl | (simp only [List.length_drop, List.length_take]; rfl)) ?_; (with_reducible refine (impl_Spaces.calls a0 t101 t102 t103 _ A3.out ?sideT).mono ?_); (case sideT => exact Hand.tabB_below HT0.out (by repeat (first | (with_reducible first | exact HB.out | apply below_alloc | apply pw_below_drewN | apply below_drew1) | exact HB.out))); rintro e w17 ⟨rfl, hb⟩; refine ⟨_, rfl, ?_⟩; have n0_ := Aside0.mk (below_step (by repeat (first | (with_reducible first | exact HB.out | apply below_alloc | apply pw_below_drewN | apply below_drew1) | exact HB.out)) hb); clear HB; have HB := n0_; clear n0_; (try clear hb); (try clear hb2); (try clear hk); (try clear hi)) | ((with_reducible refine gate_callee (f := 12) rfl ?_); refine goesL_ (some 19) rfl rfl Tryd.func12 (by kernel_rfl) rfl #[.string a0] rfl (by (try simp only [List.map_toArray, List.map_cons, List.map_nil]); first | done | rfl | (simp only [List.length_drop, List.length_take]; rfl)) ?_; (with_reducible refine (spec_Middle29.calls a0 t104 t105 _ A4.out ?sideT).mono ?_); (case sideT => exact Hand.tabB_below HT0.out (by repeat (first | (with_reducible first | exact HB.out | apply below_alloc | apply pw_below_drewN | apply below_drew1) | exact HB.out))); rintro e w18 ⟨rfl, hb⟩; refine ⟨_, rfl, ?_⟩; have n0_ := Aside0.mk (below_step (by repeat (first | (with_reducible first | exact HB.out | apply below_alloc | apply pw_below_drewN | apply below_drew1) | exact HB.out)) hb); clear HB; have HB := n0_; clear n0_; (try clear hb); (try clear hb2); (try clear hk); (try clear hi)) | (go_at_call 13; (with_reducible refine (spec_Blank29.calls t101 false _ A10.out ?sideT).mono ?_); (case sideT => exact Hand.tabB_below HT0.out (by repeat (first | (with_reducible first | exact HB.out | apply below_alloc | apply pw_below_drewN | apply below_drew1) | exact HB.out))); rintro e w19 ⟨rfl, hb⟩; have n0_ := Aside0.mk (below_step (by repeat (first | (with_reducible first | exact HB.out | apply below_alloc | apply pw_below_drewN | apply below_drew1) | exact HB.out)) hb); clear HB; have HB := n0_; clear n0_; (try clear hb); (try clear hb2); (try clear hk); (try clear hi)))
                go_ret
                exact ⟨by first | rfl | (simp [errW_none, errW_some] <;> rfl) | (simp [*, errW_none, errW_some] <;> rfl), by repeat (first | (with_reducible first | exact HB.out | apply below_alloc | apply pw_below_drewN | apply below_drew1) | exact HB.out)⟩
            · rw [if_neg c9] at H
              have c9b0 : (t102.toList == ([] : List UInt8)) = false := beq_eq_false_iff_ne.mpr c9
              have c9b1 : (t102.toList != ([] : List UInt8)) = true := bne_iff_ne.mpr c9
              by_cases c20 : (t101.size : Int) = t105
              · rw [if_pos c20] at H
                have c20b0 : ((t101.size : Int) == t105) = true := beq_iff_eq.mpr c20
                have c20b1 : ((t101.size : Int) != t105) = false := bne_eq_false_iff_eq.mpr c20
                clear c20
                replace H := Option.bind_eq_some_iff.mp H
                obtain ⟨t108, A210, H⟩ := H
                replace H : (if t108 = true then ((spec_Blank29.f t103).bind fun t109 => (some t109)) else (some false)) = some r := H
                have A21 := Aside0.mk A210
                clear A210
                by_cases c22 : t108 = true
                · subst c22
                  have H1 : ((spec_Blank29.f t103).bind fun t109 => (some t109)) = some r := by rw [if_pos rfl] at H; exact H
                  clear H
                  have H := H1
                  clear H1
                  replace H := Option.bind_eq_some_iff.mp H
                  obtain ⟨t109, A230, H⟩ := H
                  replace H : (some t109) = some r := H
                  have A23 := Aside0.mk A230
                  clear A230
                  obtain rfl := Option.some.inj H
                  go_enter Tryd.func4, Tryd.ntmps4
                  go_wp2_with (first | ((with_reducible refine gate_callee (f := 11) rfl ?_); refine goesL_ (some 13) rfl rfl Tryd.func11 (by kernel_rfl) rfl #[.string a0] rfl (by (try simp only [List.map_toArray, List.map_cons, List.map_nil]); first | done | rfl | (simp only [List.length_drop, List.length_take]; rfl)) ?_; (with_reducible refine (impl_Spaces.calls a0 t101 t102 t103 _ A3.out ?sideT).mono ?_); (case sideT => exact Hand.tabB_below HT0.out (by repeat (first | (with_reducible first | exact HB.out | apply below_alloc | apply pw_below_drewN | apply below_drew1) | exact HB.out))); rintro e w24 ⟨rfl, hb⟩; refine ⟨_, rfl, ?_⟩; have n0_ := Aside0.mk (below_step (by repeat (first | (with_reducible first | exact HB.out | apply below_alloc | apply pw_below_drewN | apply below_drew1) | exact HB.out)) hb); clear HB; have HB := n0_; clear n0_; (try clear hb); (try clear hb2); (try clear hk); (try clear hi)) | ((with_reducible refine gate_callee (f := 12) rfl ?_); refine goesL_ (some 19) rfl rfl Tryd.func12 (by kernel_rfl) rfl #[.string a0] rfl (by (try simp only [List.map_toArray, List.map_cons, List.map_nil]); first | done | rfl | (simp only [List.length_drop, List.length_take]; rfl)) ?_; (with_reducible refine (spec_Middle29.calls a0 t104 t105 _ A4.out ?sideT).mono ?_); (case sideT => exact Hand.tabB_below HT0.out (by repeat (first | (with_reducible first | exact HB.out | apply below_alloc | apply pw_below_drewN | apply below_drew1) | exact HB.out))); rintro e w25 ⟨rfl, hb⟩; refine ⟨_, rfl, ?_⟩; have n0_ := Aside0.mk (below_step (by repeat (first | (with_reducible first | exact HB.out | apply below_alloc | apply pw_below_drewN | apply below_drew1) | exact HB.out)) hb); clear HB; have HB := n0_; clear n0_; (try clear hb); (try clear hb2); (try clear hk); (try clear hi)) | (go_at_call 13; (with_reducible refine (spec_Blank29.calls t101 true _ A21.out ?sideT).mono ?_); (case sideT => exact Hand.tabB_below HT0.out (by repeat (first | (with_reducible first | exact HB.out | apply below_alloc | apply pw_below_drewN | apply below_drew1) | exact HB.out))); rintro e w26 ⟨rfl, hb⟩; have n0_ := Aside0.mk (below_step (by repeat (first | (with_reducible first | exact HB.out | apply below_alloc | apply pw_below_drewN | apply below_drew1) | exact HB.out)) hb); clear HB; have HB := n0_; clear n0_; (try clear hb); (try clear hb2); (try clear hk); (try clear hi)) | (go_at_call 13; (with_reducible refine (spec_Blank29.calls t103 t109 _ A23.out ?sideT).mono ?_); (case sideT => exact Hand.tabB_below HT0.out (by repeat (first | (with_reducible first | exact HB.out | apply below_alloc | apply pw_below_drewN | apply below_drew1) | exact HB.out))); rintro e w27 ⟨rfl, hb⟩; have n0_ := Aside0.mk (below_step (by repeat (first | (with_reducible first | exact HB.out | apply below_alloc | apply pw_below_drewN | apply below_drew1) | exact HB.out)) hb); clear HB; have HB := n0_; clear n0_; (try clear hb); (try clear hb2); (try clear hk); (try clear hi)))
                  go_ret
                  exact ⟨by first | rfl | (simp [errW_none, errW_some] <;> rfl) | (simp [*, errW_none, errW_some] <;> rfl), by repeat (first | (with_reducible first | exact HB.out | apply below_alloc | apply pw_below_drewN | apply below_drew1) | exact HB.out)⟩
                · replace c22 := Bool.eq_false_iff.mpr c22
                  subst c22
                  have H1 : (some false) = some r := by rw [if_neg (show ¬ (false = true) by decide)] at H; exact H
                  clear H
                  have H := H1
                  clear H1
                  obtain rfl := Option.some.inj H
                  go_enter Tryd.func4, Tryd.ntmps4
                  go_wp2_with (first | ((with_reducible refine gate_callee (f := 11) rfl ?_); refine goesL_ (some 13) rfl rfl Tryd.func11 (by kernel_rfl) rfl #[.string a0] rfl (by (try simp only [List.map_toArray, List.map_cons, List.map_nil]); first | done | rfl | (simp only [List.length_drop, List.length_take]; rfl)) ?_; (with_reducible refine (impl_Spaces.calls a0 t101 t102 t103 _ A3.out ?sideT).mono ?_); (case sideT => exact Hand.tabB_below HT0.out (by repeat (first | (with_reducible first | exact HB.out | apply below_alloc | apply pw_below_drewN | apply below_drew1) | exact HB.out))); rintro e w28 ⟨rfl, hb⟩; refine ⟨_, rfl, ?_⟩; have n0_ := Aside0.mk (below_step (by repeat (first | (with_reducible first | exact HB.out | apply below_alloc | apply pw_below_drewN | apply below_drew1) | exact HB.out)) hb); clear HB; have HB := n0_; clear n0_; (try clear hb); (try clear hb2); (try clear hk); (try clear hi)) | ((with_reducible refine gate_callee (f := 12) rfl ?_); refine goesL_ (some 19) rfl rfl Tryd.func12 (by kernel_rfl) rfl #[.string a0] rfl (by (try simp only [List.map_toArray, List.map_cons, List.map_nil]); first | done | rfl | (simp only [List.length_drop, List.length_take]; rfl)) ?_; (with_reducible refine (spec_Middle29.calls a0 t104 t105 _ A4.out ?sideT).mono ?_); (case sideT => exact Hand.tabB_below HT0.out (by repeat (first | (with_reducible first | exact HB.out | apply below_alloc | apply pw_below_drewN | apply below_drew1) | exact HB.out))); rintro e w29 ⟨rfl, hb⟩; refine ⟨_, rfl, ?_⟩; have n0_ := Aside0.mk (below_step (by repeat (first | (with_reducible first | exact HB.out | apply below_alloc | apply pw_below_drewN | apply below_drew1) | exact HB.out)) hb); clear HB; have HB := n0_; clear n0_; (try clear hb); (try clear hb2); (try clear hk); (try clear hi)) | (go_at_call 13; (with_reducible refine (spec_Blank29.calls t101 false _ A21.out ?sideT).mono ?_); (case sideT => exact Hand.tabB_below HT0.out (by repeat (first | (with_reducible first | exact HB.out | apply below_alloc | apply pw_below_drewN | apply below_drew1) | exact HB.out))); rintro e w30 ⟨rfl, hb⟩; have n0_ := Aside0.mk (below_step (by repeat (first | (with_reducible first | exact HB.out | apply below_alloc | apply pw_below_drewN | apply below_drew1) | exact HB.out)) hb); clear HB; have HB := n0_; clear n0_; (try clear hb); (try clear hb2); (try clear hk); (try clear hi)))
                  go_ret
                  exact ⟨by first | rfl | (simp [errW_none, errW_some] <;> rfl) | (simp [*, errW_none, errW_some] <;> rfl), by repeat (first | (with_reducible first | exact HB.out | apply below_alloc | apply pw_below_drewN | apply below_drew1) | exact HB.out)⟩
              · rw [if_neg c20] at H
                have c20b0 : ((t101.size : Int) == t105) = false := beq_eq_false_iff_ne.mpr c20
                have c20b1 : ((t101.size : Int) != t105) = true := bne_iff_ne.mpr c20
                obtain rfl := Option.some.inj H
                go_enter Tryd.func4, Tryd.ntmps4
                go_wp2_with (first | ((with_reducible refine gate_callee (f := 11) rfl ?_); refine goesL_ (some 13) rfl rfl Tryd.func11 (by kernel_rfl) rfl #[.string a0] rfl (by (try simp only [List.map_toArray, List.map_cons, List.map_nil]); first | done | rfl | (simp only [List.length_drop, List.length_take]; rfl)) ?_; (with_reducible refine (impl_Spaces.calls a0 t101 t102 t103 _ A3.out ?sideT).mono ?_); (case sideT => exact Hand.tabB_below HT0.out (by repeat (first | (with_reducible first | exact HB.out | apply below_alloc | apply pw_below_drewN | apply below_drew1) | exact HB.out))); rintro e w31 ⟨rfl, hb⟩; refine ⟨_, rfl, ?_⟩; have n0_ := Aside0.mk (below_step (by repeat (first | (with_reducible first | exact HB.out | apply below_alloc | apply pw_below_drewN | apply below_drew1) | exact HB.out)) hb); clear HB; have HB := n0_; clear n0_; (try clear hb); (try clear hb2); (try clear hk); (try clear hi)) | ((with_reducible refine gate_callee (f := 12) rfl ?_); refine goesL_ (some 19) rfl rfl Tryd.func12 (by kernel_rfl) rfl #[.string a0] rfl (by (try simp only [List.map_toArray, List.map_cons, List.map_nil]); first | done | rfl | (simp only [List.length_drop, List.length_take]; rfl)) ?_; (with_reducible refine (spec_Middle29.calls a0 t104 t105 _ A4.out ?sideT).mono ?_); (case sideT => exact Hand.tabB_below HT0.out (by repeat (first | (with_reducible first | exact HB.out | apply below_alloc | apply pw_below_drewN | apply below_drew1) | exact HB.out))); rintro e w32 ⟨rfl, hb⟩; refine ⟨_, rfl, ?_⟩; have n0_ := Aside0.mk (below_step (by repeat (first | (with_reducible first | exact HB.out | apply below_alloc | apply pw_below_drewN | apply below_drew1) | exact HB.out)) hb); clear HB; have HB := n0_; clear n0_; (try clear hb); (try clear hb2); (try clear hk); (try clear hi)))
                go_ret
                exact ⟨by first | rfl | (simp [errW_none, errW_some] <;> rfl) | (simp [*, errW_none, errW_some] <;> rfl), by repeat (first | (with_reducible first | exact HB.out | apply below_alloc | apply pw_below_drewN | apply below_drew1) | exact HB.out)⟩
          · rw [if_neg c8] at H
            have c8b0 : (t102.toList == t104.toList) = false := beq_eq_false_iff_ne.mpr c8
            have c8b1 : (t102.toList != t104.toList) = true := bne_iff_ne.mpr c8
            obtain rfl := Option.some.inj H
            go_enter Tryd.func4, Tryd.ntmps4
            go_wp2_with (first | ((with_reducible refine gate_callee (f := 11) rfl ?_); refine goesL_ (some 13) rfl rfl Tryd.func11 (by kernel_rfl) rfl #[.string a0] rfl (by (try simp only [List.map_toArray, List.map_cons, List.map_nil]); first | done | rfl | (simp only [List.length_drop, List.length_take]; rfl)) ?_; (with_reducible refine (impl_Spaces.calls a0 t101 t102 t103 _ A3.out ?sideT).mono ?_); (case sideT => exact Hand.tabB_below HT0.out (by repeat (first | (with_reducible first | exact HB.out | apply below_alloc | apply pw_below_drewN | apply below_drew1) | exact HB.out))); rintro e w33 ⟨rfl, hb⟩; refine ⟨_, rfl, ?_⟩; have n0_ := Aside0.mk (below_step (by repeat (first | (with_reducible first | exact HB.out | apply below_alloc | apply pw_below_drewN | apply below_drew1) | exact HB.out)) hb); clear HB; have HB := n0_; clear n0_; (try clear hb); (try clear hb2); (try clear hk); (try clear hi)) | ((with_reducible refine gate_callee (f := 12) rfl ?_); refine goesL_ (some 19) rfl rfl Tryd.func12 (by kernel_rfl) rfl #[.string a0] rfl (by (try simp only [List.map_toArray, List.map_cons, List.map_nil]); first | done | rfl | (simp only [List.length_drop, List.length_take]; rfl)) ?_; (with_reducible refine (spec_Middle29.calls a0 t104 t105 _ A4.out ?sideT).mono ?_); (case sideT => exact Hand.tabB_below HT0.out (by repeat (first | (with_reducible first | exact HB.out | apply below_alloc | apply pw_below_drewN | apply below_drew1) | exact HB.out))); rintro e w34 ⟨rfl, hb⟩; refine ⟨_, rfl, ?_⟩; have n0_ := Aside0.mk (below_step (by repeat (first | (with_reducible first | exact HB.out | apply below_alloc | apply pw_below_drewN | apply below_drew1) | exact HB.out)) hb); clear HB; have HB := n0_; clear n0_; (try clear hb); (try clear hb2); (try clear hk); (try clear hi)))
            go_ret
            exact ⟨by first | rfl | (simp [errW_none, errW_some] <;> rfl) | (simp [*, errW_none, errW_some] <;> rfl), by repeat (first | (with_reducible first | exact HB.out | apply below_alloc | apply pw_below_drewN | apply below_drew1) | exact HB.out)⟩
        · rw [if_neg c7] at H
          have c7b0 : (((t101 ++ t102) ++ t103).toList == a0.toList) = false := beq_eq_false_iff_ne.mpr c7
          have c7b1 : (((t101 ++ t102) ++ t103).toList != a0.toList) = true := bne_iff_ne.mpr c7
          obtain rfl := Option.some.inj H
          go_enter Tryd.func4, Tryd.ntmps4
          go_wp2_with (first | ((with_reducible refine gate_callee (f := 11) rfl ?_); refine goesL_ (some 13) rfl rfl Tryd.func11 (by kernel_rfl) rfl #[.string a0] rfl (by (try simp only [List.map_toArray, List.map_cons, List.map_nil]); first | done | rfl | (simp only [List.length_drop, List.length_take]; rfl)) ?_; (with_reducible refine (impl_Spaces.calls a0 t101 t102 t103 _ A3.out ?sideT).mono ?_); (case sideT => exact Hand.tabB_below HT0.out (by repeat (first | (with_reducible first | exact HB.out | apply below_alloc | apply pw_below_drewN | apply below_drew1) | exact HB.out))); rintro e w35 ⟨rfl, hb⟩; refine ⟨_, rfl, ?_⟩; have n0_ := Aside0.mk (below_step (by repeat (first | (with_reducible first | exact HB.out | apply below_alloc | apply pw_below_drewN | apply below_drew1) | exact HB.out)) hb); clear HB; have HB := n0_; clear n0_; (try clear hb); (try clear hb2); (try clear hk); (try clear hi)) | ((with_reducible refine gate_callee (f := 12) rfl ?_); refine goesL_ (some 19) rfl rfl Tryd.func12 (by kernel_rfl) rfl #[.string a0] rfl (by (try simp only [List.map_toArray, List.map_cons, List.map_nil]); first | done | rfl | (simp only [List.length_drop, List.length_take]; rfl)) ?_; (with_reducible refine (spec_Middle29.calls a0 t104 t105 _ A4.out ?sideT).mono ?_); (case sideT => exact Hand.tabB_below HT0.out (by repeat (first | (with_reducible first | exact HB.out | apply below_alloc | apply pw_below_drewN | apply below_drew1) | exact HB.out))); rintro e w36 ⟨rfl, hb⟩; refine ⟨_, rfl, ?_⟩; have n0_ := Aside0.mk (below_step (by repeat (first | (with_reducible first | exact HB.out | apply below_alloc | apply pw_below_drewN | apply below_drew1) | exact HB.out)) hb); clear HB; have HB := n0_; clear n0_; (try clear hb); (try clear hb2); (try clear hk); (try clear hi)))
          go_ret
          exact ⟨by first | rfl | (simp [errW_none, errW_some] <;> rfl) | (simp [*, errW_none, errW_some] <;> rfl), by repeat (first | (with_reducible first | exact HB.out | apply below_alloc | apply pw_below_drewN | apply below_drew1) | exact HB.out)⟩
      · rw [if_neg c6] at H
        exact absurd H (by simp)
    · rw [if_neg c5] at H
      exact absurd H (by simp)

/-- THE ONE PURE STATEMENT of laws_FnSpaces: yours. -/
def laws_FnSpaces.Pure : Prop := ∀ (a0 : ByteArray), a0.size ≤ 140737488351232 → laws_FnSpaces.f a0 = some true
end Go.Proofs.YtnhcocjdkmelhaaDoor.GFnSpaces
