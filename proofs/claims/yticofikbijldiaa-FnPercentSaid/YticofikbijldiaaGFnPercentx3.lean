-- made by a program of this session, after the kit's print
import Derived.Test.YticofikbijldiaaGFnPercentx0
import Derived.Test.YticofikbijldiaaGFnPercentx1
import Derived.Test.YticofikbijldiaaGFnPercentx2
import Derived.Test.YticofikbijldiaaGivFnPercent
namespace Go.Proofs.Yticofikbijldiaa.GFnPercent
open Go.RowKit Go.Proofs.YticofikbijldiaaW.PrintWords Go.Proofs.YticofikbijldiaaW.PrintLast Go.Proofs.YticofikbijldiaaW.PrintMore
attribute [local go_sem] max2_int min2_int max_two min_two max_three min_three max_four min_four   -- for this text's walks alone
set_option linter.unusedVariables false
set_option linter.unusedSimpArgs false

/-! ### laws_FnPercent: function 14 -/
mutual
def laws_FnPercent.l0 : Nat → ByteArray → ByteArray → Bool → Bool → Int → Int → Option (Bool)
  | 0, _, _, _, _, _, _ => none
  | k + 1, x0, x3, x4, x5, x16, x17 => if x17 < x16 then (if x4 = true then (if 0 ≤ x17 then (if x17 < (x0.size : Int) then ((laws_inlineOdd.f (bt x0 x17)).bind fun t163 => (if x5 = true then (laws_FnPercent.l0 k x0 x3 (!t163) true x16 (wrap64 (x17 + 1))) else (laws_FnPercent.l0 k x0 x3 (!t163) ((bt x0 x17) == 37) x16 (wrap64 (x17 + 1))))) else (none)) else (none)) else (if x5 = true then (laws_FnPercent.l0 k x0 x3 false true x16 (wrap64 (x17 + 1))) else (if 0 ≤ x17 then (if x17 < (x0.size : Int) then (laws_FnPercent.l0 k x0 x3 false ((bt x0 x17) == 37) x16 (wrap64 (x17 + 1))) else (none)) else (none)))) else (laws_FnPercent.l1 k x0 x3 x4 x5 (x3.size : Int) 0)
def laws_FnPercent.l1 : Nat → ByteArray → ByteArray → Bool → Bool → Int → Int → Option (Bool)
  | 0, _, _, _, _, _, _ => none
  | k + 1, x0, x3, x4, x5, x37, x38 => if x38 < x37 then (if 0 ≤ x38 then (if x38 < (x3.size : Int) then ((laws_inlineOdd.f (bt x3 x38)).bind fun t164 => (if t164 = true then (if (bt x3 x38) = 9 then (laws_FnPercent.l1 k x0 x3 x4 x5 x37 (wrap64 (x38 + 1))) else (if (bt x3 x38) = 10 then (laws_FnPercent.l1 k x0 x3 x4 x5 x37 (wrap64 (x38 + 1))) else (some false))) else (laws_FnPercent.l1 k x0 x3 x4 x5 x37 (wrap64 (x38 + 1))))) else (none)) else (none)) else (if x4 = true then (if x3.toList = x0.toList then (if x5 = true then ((laws_inlineLives.f).bind fun t165 => (some t165)) else ((laws_inlineRead.f k x3).bind fun t166 => (if t166.toList = x0.toList then ((laws_inlineLives.f).bind fun t167 => (some t167)) else (some false)))) else (some false)) else (if x5 = true then ((laws_inlineLives.f).bind fun t168 => (some t168)) else ((laws_inlineRead.f k x3).bind fun t169 => (if t169.toList = x0.toList then ((laws_inlineLives.f).bind fun t170 => (some t170)) else (some false)))))
end
def laws_FnPercent.f (k : Nat) (a0 : ByteArray) : Option (Bool) := if (a0.size : Int) > 2147483647 then (some true) else ((laws_inlineASCII.f k a0).bind fun t161 => ((impl_Percent.f k t161).bind fun t162 => (laws_FnPercent.l0 k t161 t162 true false (t161.size : Int) 0)))
theorem laws_FnPercent.mono_l : ∀ k, (∀ y0 y1 y2 y3 y4 y5, LeO (laws_FnPercent.l0 k y0 y1 y2 y3 y4 y5) (laws_FnPercent.l0 (k + 1) y0 y1 y2 y3 y4 y5)) ∧ (∀ y0 y1 y2 y3 y4 y5, LeO (laws_FnPercent.l1 k y0 y1 y2 y3 y4 y5) (laws_FnPercent.l1 (k + 1) y0 y1 y2 y3 y4 y5))
  | 0 => ⟨fun _ _ _ _ _ _ r h => by simp [laws_FnPercent.l0] at h, fun _ _ _ _ _ _ r h => by simp [laws_FnPercent.l1] at h⟩
  | k + 1 => by
    obtain ⟨ih0, ih1⟩ := laws_FnPercent.mono_l k
    refine ⟨?_, ?_⟩
    · intro y0 y1 y2 y3 y4 y5
      unfold laws_FnPercent.l0
      repeat' first
      | (with_reducible exact ih0 _ _ _ _ _ _)
      | (with_reducible exact ih1 _ _ _ _ _ _)
      | (with_reducible exact impl_Percent.mono _ _)
      | (with_reducible exact laws_inlineASCII.mono _ _)
      | (with_reducible exact laws_inlineRead.mono _ _)
      | (with_reducible exact LeO.refl _)
      | (with_reducible exact LeO.none _)
      | (with_reducible refine LeO.ite ?_ ?_)
      | (with_reducible refine LeO.bind ?_ (fun _ => ?_))
      | exact ih0 _ _ _ _ _ _
      | exact ih1 _ _ _ _ _ _
      | exact impl_Percent.mono _ _
      | exact laws_inlineASCII.mono _ _
      | exact laws_inlineRead.mono _ _
      | exact LeO.none _
      | refine LeO.ite ?_ ?_
      | refine LeO.bind ?_ (fun _ => ?_)
    · intro y0 y1 y2 y3 y4 y5
      unfold laws_FnPercent.l1
      repeat' first
      | (with_reducible exact ih0 _ _ _ _ _ _)
      | (with_reducible exact ih1 _ _ _ _ _ _)
      | (with_reducible exact impl_Percent.mono _ _)
      | (with_reducible exact laws_inlineASCII.mono _ _)
      | (with_reducible exact laws_inlineRead.mono _ _)
      | (with_reducible exact LeO.refl _)
      | (with_reducible exact LeO.none _)
      | (with_reducible refine LeO.ite ?_ ?_)
      | (with_reducible refine LeO.bind ?_ (fun _ => ?_))
      | exact ih0 _ _ _ _ _ _
      | exact ih1 _ _ _ _ _ _
      | exact impl_Percent.mono _ _
      | exact laws_inlineASCII.mono _ _
      | exact laws_inlineRead.mono _ _
      | exact LeO.none _
      | refine LeO.ite ?_ ?_
      | refine LeO.bind ?_ (fun _ => ?_)
theorem laws_FnPercent.mono : ∀ a0 k, LeO (laws_FnPercent.f k a0) (laws_FnPercent.f (k + 1) a0) := by
  intro a0 k
  obtain ⟨ih0, ih1⟩ := laws_FnPercent.mono_l k
  unfold laws_FnPercent.f
  repeat' first
      | (with_reducible exact ih0 _ _ _ _ _ _)
      | (with_reducible exact ih1 _ _ _ _ _ _)
      | (with_reducible exact impl_Percent.mono _ _)
      | (with_reducible exact laws_inlineASCII.mono _ _)
      | (with_reducible exact laws_inlineRead.mono _ _)
      | (with_reducible exact LeO.refl _)
      | (with_reducible exact LeO.none _)
      | (with_reducible refine LeO.ite ?_ ?_)
      | (with_reducible refine LeO.bind ?_ (fun _ => ?_))
      | exact ih0 _ _ _ _ _ _
      | exact ih1 _ _ _ _ _ _
      | exact impl_Percent.mono _ _
      | exact laws_inlineASCII.mono _ _
      | exact laws_inlineRead.mono _ _
      | exact LeO.none _
      | refine LeO.ite ?_ ?_
      | refine LeO.bind ?_ (fun _ => ?_)
set_option maxHeartbeats 8000000 in
set_option maxRecDepth 100000 in
theorem laws_FnPercent.calls (k : Nat) (a0 : ByteArray) (r : Bool) (w : World) (h : laws_FnPercent.f k a0 = some r) :
    Calls Try.prog 14 #[.string a0] w fun e w' => e = .returned (.bool r) ∧ Below w.heap.size w w' := by
  have HB := Aside0.mk (Below.refl w.heap.size w)
  have H : (if (a0.size : Int) > 2147483647 then (some true) else ((laws_inlineASCII.f k a0).bind fun t161 => ((impl_Percent.f k t161).bind fun t162 => (laws_FnPercent.l0 k t161 t162 true false (t161.size : Int) 0)))) = some r := h
  clear h
  by_cases c2 : (a0.size : Int) > 2147483647
  · rw [if_pos c2] at H
    have c2b0 : decide (2147483647 < (a0.size : Int)) = true := decide_eq_true c2
    have c2b1 : decide (2147483647 < a0.size) = true := decide_eq_true (by omega)
    clear c2
    obtain rfl := Option.some.inj H
    go_enter Try.func14, Try.ntmps14
    go_wp2
    repeat (go_quiet (fail); try go_wp2)
    go_ret
    exact ⟨by first | rfl | (simp [errW_none, errW_some] <;> rfl) | (simp [*, errW_none, errW_some] <;> rfl), by repeat (first | (with_reducible first | exact HB.out | apply below_alloc | apply pw_below_drewN | apply below_drew1) | exact HB.out)⟩
  · rw [if_neg c2] at H
    have c2b0 : decide (2147483647 < (a0.size : Int)) = false := decide_eq_false c2
    have c2b1 : decide (2147483647 < a0.size) = false := decide_eq_false (by omega)
    clear c2
    replace H := Option.bind_eq_some_iff.mp H
    obtain ⟨t161, A30, H⟩ := H
    replace H : ((impl_Percent.f k t161).bind fun t162 => (laws_FnPercent.l0 k t161 t162 true false (t161.size : Int) 0)) = some r := H
    have A3 := Aside0.mk A30
    clear A30
    replace H := Option.bind_eq_some_iff.mp H
    obtain ⟨t162, A40, H⟩ := H
    replace H : (laws_FnPercent.l0 k t161 t162 true false (t161.size : Int) 0) = some r := H
    have A4 := Aside0.mk A40
    clear A40
    have H' := Aside0.mk H
    clear H
    go_enter Try.func14, Try.ntmps14
    go_wp2_with (first | (go_at_call 32; (with_reducible refine (laws_inlineASCII.calls k a0 t161 _ A3.out).mono ?_); rintro e w5 ⟨rfl, hb⟩; have n0_ := Aside0.mk (below_step (by repeat (first | (with_reducible first | exact HB.out | apply below_alloc | apply pw_below_drewN | apply below_drew1) | exact HB.out)) hb); clear HB; have HB := n0_; clear n0_; (try clear hb); (try clear hb2); (try clear hk); (try clear hi)) | (go_at_call 41; (with_reducible refine (impl_Percent.calls k t161 t162 _ A4.out).mono ?_); rintro e w6 ⟨rfl, hb⟩; have n0_ := Aside0.mk (below_step (by repeat (first | (with_reducible first | exact HB.out | apply below_alloc | apply pw_below_drewN | apply below_drew1) | exact HB.out)) hb); clear HB; have HB := n0_; clear n0_; (try clear hb); (try clear hb2); (try clear hk); (try clear hi)))
    repeat (go_quiet (first | (go_at_call 32; (with_reducible refine (laws_inlineASCII.calls k a0 t161 _ A3.out).mono ?_); rintro e w5 ⟨rfl, hb⟩; have n0_ := Aside0.mk (below_step (by repeat (first | (with_reducible first | exact HB.out | apply below_alloc | apply pw_below_drewN | apply below_drew1) | exact HB.out)) hb); clear HB; have HB := n0_; clear n0_; (try clear hb); (try clear hb2); (try clear hk); (try clear hi)) | (go_at_call 41; (with_reducible refine (impl_Percent.calls k t161 t162 _ A4.out).mono ?_); rintro e w6 ⟨rfl, hb⟩; have n0_ := Aside0.mk (below_step (by repeat (first | (with_reducible first | exact HB.out | apply below_alloc | apply pw_below_drewN | apply below_drew1) | exact HB.out)) hb); clear HB; have HB := n0_; clear n0_; (try clear hb); (try clear hb2); (try clear hk); (try clear hi))); try go_wp2_with (first | (go_at_call 32; (with_reducible refine (laws_inlineASCII.calls k a0 t161 _ A3.out).mono ?_); rintro e w5 ⟨rfl, hb⟩; have n0_ := Aside0.mk (below_step (by repeat (first | (with_reducible first | exact HB.out | apply below_alloc | apply pw_below_drewN | apply below_drew1) | exact HB.out)) hb); clear HB; have HB := n0_; clear n0_; (try clear hb); (try clear hb2); (try clear hk); (try clear hi)) | (go_at_call 41; (with_reducible refine (impl_Percent.calls k t161 t162 _ A4.out).mono ?_); rintro e w6 ⟨rfl, hb⟩; have n0_ := Aside0.mk (below_step (by repeat (first | (with_reducible first | exact HB.out | apply below_alloc | apply pw_below_drewN | apply below_drew1) | exact HB.out)) hb); clear HB; have HB := n0_; clear n0_; (try clear hb); (try clear hb2); (try clear hk); (try clear hi))))
    go_loopg [4, 5, 17] k (fun kq v4 v5 v17 w' => ∃ (x4_1 : Bool) (x5_1 : Bool) (x17_1 : Int), v4 = .bool x4_1 ∧ v5 = .bool x5_1 ∧ v17 = .int .i64 x17_1 ∧ Aside0 (laws_FnPercent.l0 kq t161 t162 x4_1 x5_1 (t161.size : Int) x17_1 = some r) ∧ Aside0 (kq ≤ k) ∧ Aside0 (Below w.heap.size w w'))
    case atStart => exact ⟨(true), (false), (0), (by first | rfl | (simp; done) | (simp [*]; done)), (by first | rfl | (simp; done) | (simp [*]; done)), (by first | rfl | (simp; done) | (simp [*]; done)), H', ⟨Nat.le_refl _⟩, ⟨by repeat (first | (with_reducible first | exact HB.out | apply below_alloc | apply pw_below_drewN | apply below_drew1) | exact HB.out)⟩⟩
    case round =>
      clear H'
      try clear c1
      try clear c2
      try clear c2b0
      try clear c2b1
      try clear p2
      obtain ⟨x4_1, x5_1, x17_1, rfl, rfl, rfl, HA, HK1, HB⟩ := hrel
      cases gk with
      | zero => exact absurd HA.out (by simp [laws_FnPercent.l0])
      | succ k1 =>
        have H := HA.out
        clear HA
        simp only [laws_FnPercent.l0] at H
        by_cases c7 : x17_1 < (t161.size : Int)
        · rw [if_pos c7] at H
          have c7b0 : decide (x17_1 < (t161.size : Int)) = true := decide_eq_true c7
          clear c7
          by_cases c8 : x4_1 = true
          · subst c8
            have H1 : (if 0 ≤ x17_1 then (if x17_1 < (t161.size : Int) then ((laws_inlineOdd.f (bt t161 x17_1)).bind fun t163 => (if x5_1 = true then (laws_FnPercent.l0 k1 t161 t162 (!t163) true (t161.size : Int) (wrap64 (x17_1 + 1))) else (laws_FnPercent.l0 k1 t161 t162 (!t163) ((bt t161 x17_1) == 37) (t161.size : Int) (wrap64 (x17_1 + 1))))) else (none)) else (none)) = some r := by rw [if_pos rfl] at H; exact H
            clear H
            have H := H1
            clear H1
            by_cases c9 : 0 ≤ x17_1
            · rw [if_pos c9] at H
              have c9b0 : decide (0 ≤ x17_1) = true := decide_eq_true c9
              clear c9
              by_cases c10 : x17_1 < (t161.size : Int)
              · rw [if_pos c10] at H
                have c10b0 : decide (x17_1 < (t161.size : Int)) = true := decide_eq_true c10
                clear c10
                replace H := Option.bind_eq_some_iff.mp H
                obtain ⟨t163, A120, H⟩ := H
                replace H : (if x5_1 = true then (laws_FnPercent.l0 k1 t161 t162 (!t163) true (t161.size : Int) (wrap64 (x17_1 + 1))) else (laws_FnPercent.l0 k1 t161 t162 (!t163) ((bt t161 x17_1) == 37) (t161.size : Int) (wrap64 (x17_1 + 1)))) = some r := H
                have A12 := Aside0.mk A120
                clear A120
                by_cases c13 : x5_1 = true
                · subst c13
                  have H1 : (laws_FnPercent.l0 k1 t161 t162 (!t163) true (t161.size : Int) (wrap64 (x17_1 + 1))) = some r := by rw [if_pos rfl] at H; exact H
                  clear H
                  have H := H1
                  clear H1
                  have H' := Aside0.mk H
                  clear H
                  have p11 : 0 ≤ (x17_1 : Int) := of_decide_eq_true (by first | (with_reducible assumption) | assumption)
                  have q11 : x17_1 < (t161.size : Int) := of_decide_eq_true (by first | (with_reducible assumption) | assumption)
                  have hx11 := bt_at t161 x17_1
                  replace p11 := eq_true p11
                  replace q11 := eq_true q11
                  go_wp2_with (first | (go_at_call 42; (with_reducible refine (laws_inlineOdd.calls (bt t161 x17_1) t163 _ A12.out).mono ?_); rintro e w' ⟨rfl, ⟨nd, rfl⟩⟩; (try first | exact ⟨rfl, _, World.drewN_drewN _ _ _⟩ | exact ⟨rfl, _, Eq.trans (World.drewN_drewN _ _ _) (congrArg (World.drewN _) (Nat.add_assoc _ _ _))⟩)))
                  repeat (go_quiet (first | (go_at_call 42; (with_reducible refine (laws_inlineOdd.calls (bt t161 x17_1) t163 _ A12.out).mono ?_); rintro e w' ⟨rfl, ⟨nd, rfl⟩⟩; (try first | exact ⟨rfl, _, World.drewN_drewN _ _ _⟩ | exact ⟨rfl, _, Eq.trans (World.drewN_drewN _ _ _) (congrArg (World.drewN _) (Nat.add_assoc _ _ _))⟩))); try go_wp2_with (first | (go_at_call 42; (with_reducible refine (laws_inlineOdd.calls (bt t161 x17_1) t163 _ A12.out).mono ?_); rintro e w' ⟨rfl, ⟨nd, rfl⟩⟩; (try first | exact ⟨rfl, _, World.drewN_drewN _ _ _⟩ | exact ⟨rfl, _, Eq.trans (World.drewN_drewN _ _ _) (congrArg (World.drewN _) (Nat.add_assoc _ _ _))⟩))))
                  go_roundg k1
                  case measure => have := HK1.out; omega
                  case rel => exact ⟨(!t163), (true), (wrap64 (x17_1 + 1)), (by first | rfl | (simp; done) | (simp [*]; done)), (by first | rfl | (simp; done) | (simp [*]; done)), (by first | rfl | (simp; done) | (simp [*]; done)), H', ⟨by have := HK1.out; omega⟩, ⟨by repeat (first | (with_reducible first | exact HB.out | apply below_alloc | apply pw_below_drewN | apply below_drew1) | exact HB.out)⟩⟩
                · replace c13 := Bool.eq_false_iff.mpr c13
                  subst c13
                  have H1 : (laws_FnPercent.l0 k1 t161 t162 (!t163) ((bt t161 x17_1) == 37) (t161.size : Int) (wrap64 (x17_1 + 1))) = some r := by rw [if_neg (show ¬ (false = true) by decide)] at H; exact H
                  clear H
                  have H := H1
                  clear H1
                  have H' := Aside0.mk H
                  clear H
                  have p11 : 0 ≤ (x17_1 : Int) := of_decide_eq_true (by first | (with_reducible assumption) | assumption)
                  have q11 : x17_1 < (t161.size : Int) := of_decide_eq_true (by first | (with_reducible assumption) | assumption)
                  have hx11 := bt_at t161 x17_1
                  replace p11 := eq_true p11
                  replace q11 := eq_true q11
                  go_wp2_with (first | (go_at_call 42; (with_reducible refine (laws_inlineOdd.calls (bt t161 x17_1) t163 _ A12.out).mono ?_); rintro e w' ⟨rfl, ⟨nd, rfl⟩⟩; (try first | exact ⟨rfl, _, World.drewN_drewN _ _ _⟩ | exact ⟨rfl, _, Eq.trans (World.drewN_drewN _ _ _) (congrArg (World.drewN _) (Nat.add_assoc _ _ _))⟩); have p14 : 0 ≤ (x17_1 : Int) := of_decide_eq_true (by first | (with_reducible assumption) | assumption); have q14 : x17_1 < (t161.size : Int) := of_decide_eq_true (by first | (with_reducible assumption) | assumption); have hx14 := bt_at t161 x17_1; replace p14 := eq_true p14; replace q14 := eq_true q14))
                  repeat (go_quiet (first | (go_at_call 42; (with_reducible refine (laws_inlineOdd.calls (bt t161 x17_1) t163 _ A12.out).mono ?_); rintro e w' ⟨rfl, ⟨nd, rfl⟩⟩; (try first | exact ⟨rfl, _, World.drewN_drewN _ _ _⟩ | exact ⟨rfl, _, Eq.trans (World.drewN_drewN _ _ _) (congrArg (World.drewN _) (Nat.add_assoc _ _ _))⟩); have p14 : 0 ≤ (x17_1 : Int) := of_decide_eq_true (by first | (with_reducible assumption) | assumption); have q14 : x17_1 < (t161.size : Int) := of_decide_eq_true (by first | (with_reducible assumption) | assumption); have hx14 := bt_at t161 x17_1; replace p14 := eq_true p14; replace q14 := eq_true q14)); try go_wp2_with (first | (go_at_call 42; (with_reducible refine (laws_inlineOdd.calls (bt t161 x17_1) t163 _ A12.out).mono ?_); rintro e w' ⟨rfl, ⟨nd, rfl⟩⟩; (try first | exact ⟨rfl, _, World.drewN_drewN _ _ _⟩ | exact ⟨rfl, _, Eq.trans (World.drewN_drewN _ _ _) (congrArg (World.drewN _) (Nat.add_assoc _ _ _))⟩); have p14 : 0 ≤ (x17_1 : Int) := of_decide_eq_true (by first | (with_reducible assumption) | assumption); have q14 : x17_1 < (t161.size : Int) := of_decide_eq_true (by first | (with_reducible assumption) | assumption); have hx14 := bt_at t161 x17_1; replace p14 := eq_true p14; replace q14 := eq_true q14)))
                  go_roundg k1
                  case measure => have := HK1.out; omega
                  case rel => exact ⟨(!t163), (((bt t161 x17_1) == 37)), (wrap64 (x17_1 + 1)), (by first | rfl | (simp; done) | (simp [*]; done)), (by first | rfl | (simp; done) | (simp [*]; done)), (by first | rfl | (simp; done) | (simp [*]; done)), H', ⟨by have := HK1.out; omega⟩, ⟨by repeat (first | (with_reducible first | exact HB.out | apply below_alloc | apply pw_below_drewN | apply below_drew1) | exact HB.out)⟩⟩
              · rw [if_neg c10] at H
                exact absurd H (by simp)
            · rw [if_neg c9] at H
              exact absurd H (by simp)
          · replace c8 := Bool.eq_false_iff.mpr c8
            subst c8
            have H1 : (if x5_1 = true then (laws_FnPercent.l0 k1 t161 t162 false true (t161.size : Int) (wrap64 (x17_1 + 1))) else (if 0 ≤ x17_1 then (if x17_1 < (t161.size : Int) then (laws_FnPercent.l0 k1 t161 t162 false ((bt t161 x17_1) == 37) (t161.size : Int) (wrap64 (x17_1 + 1))) else (none)) else (none))) = some r := by rw [if_neg (show ¬ (false = true) by decide)] at H; exact H
            clear H
            have H := H1
            clear H1
            by_cases c15 : x5_1 = true
            · subst c15
              have H1 : (laws_FnPercent.l0 k1 t161 t162 false true (t161.size : Int) (wrap64 (x17_1 + 1))) = some r := by rw [if_pos rfl] at H; exact H
              clear H
              have H := H1
              clear H1
              have H' := Aside0.mk H
              clear H
              go_wp2
              repeat (go_quiet (fail); try go_wp2)
              go_roundg k1
              case measure => have := HK1.out; omega
              case rel => exact ⟨(false), (true), (wrap64 (x17_1 + 1)), (by first | rfl | (simp; done) | (simp [*]; done)), (by first | rfl | (simp; done) | (simp [*]; done)), (by first | rfl | (simp; done) | (simp [*]; done)), H', ⟨by have := HK1.out; omega⟩, ⟨by repeat (first | (with_reducible first | exact HB.out | apply below_alloc | apply pw_below_drewN | apply below_drew1) | exact HB.out)⟩⟩
            · replace c15 := Bool.eq_false_iff.mpr c15
              subst c15
              have H1 : (if 0 ≤ x17_1 then (if x17_1 < (t161.size : Int) then (laws_FnPercent.l0 k1 t161 t162 false ((bt t161 x17_1) == 37) (t161.size : Int) (wrap64 (x17_1 + 1))) else (none)) else (none)) = some r := by rw [if_neg (show ¬ (false = true) by decide)] at H; exact H
              clear H
              have H := H1
              clear H1
              by_cases c16 : 0 ≤ x17_1
              · rw [if_pos c16] at H
                have c16b0 : decide (0 ≤ x17_1) = true := decide_eq_true c16
                clear c16
                by_cases c17 : x17_1 < (t161.size : Int)
                · rw [if_pos c17] at H
                  have c17b0 : decide (x17_1 < (t161.size : Int)) = true := decide_eq_true c17
                  clear c17
                  have H' := Aside0.mk H
                  clear H
                  have p18 : 0 ≤ (x17_1 : Int) := of_decide_eq_true (by first | (with_reducible assumption) | assumption)
                  have q18 : x17_1 < (t161.size : Int) := of_decide_eq_true (by first | (with_reducible assumption) | assumption)
                  have hx18 := bt_at t161 x17_1
                  replace p18 := eq_true p18
                  replace q18 := eq_true q18
                  go_wp2
                  repeat (go_quiet (fail); try go_wp2)
                  go_roundg k1
                  case measure => have := HK1.out; omega
                  case rel => exact ⟨(false), (((bt t161 x17_1) == 37)), (wrap64 (x17_1 + 1)), (by first | rfl | (simp; done) | (simp [*]; done)), (by first | rfl | (simp; done) | (simp [*]; done)), (by first | rfl | (simp; done) | (simp [*]; done)), H', ⟨by have := HK1.out; omega⟩, ⟨by repeat (first | (with_reducible first | exact HB.out | apply below_alloc | apply pw_below_drewN | apply below_drew1) | exact HB.out)⟩⟩
                · rw [if_neg c17] at H
                  exact absurd H (by simp)
              · rw [if_neg c16] at H
                exact absurd H (by simp)
        · rw [if_neg c7] at H
          have c7b0 : decide (x17_1 < (t161.size : Int)) = false := decide_eq_false c7
          clear c7
          have H' := Aside0.mk H
          clear H
          go_wp2
          repeat (go_quiet (fail); try go_wp2)
          go_loopg [38] k1 (fun kq v38 w' => ∃ (x38_2 : Int), v38 = .int .i64 x38_2 ∧ Aside0 (laws_FnPercent.l1 kq t161 t162 x4_1 x5_1 (t162.size : Int) x38_2 = some r) ∧ Aside0 (kq ≤ k1) ∧ Aside0 (Below w.heap.size w w'))
          case atStart => exact ⟨(0), (by first | rfl | (simp; done) | (simp [*]; done)), H', ⟨Nat.le_refl _⟩, ⟨by repeat (first | (with_reducible first | exact HB.out | apply below_alloc | apply pw_below_drewN | apply below_drew1) | exact HB.out)⟩⟩
          case round =>
            clear H'
            try clear c1
            try clear p1
            try clear q1
            try clear hx1
            try clear c2
            try clear c2b0
            try clear c2b1
            try clear p2
            try clear p6
            try clear c7
            try clear c7b0
            try clear c8
            try clear c9
            try clear c9b0
            try clear c10
            try clear c10b0
            try clear p11
            try clear q11
            try clear hx11
            try clear c13
            try clear c14
            try clear p14
            try clear q14
            try clear hx14
            try clear c15
            try clear c16
            try clear c16b0
            try clear c17
            try clear c17b0
            try clear p18
            try clear q18
            try clear hx18
            try clear p11
            try clear p14
            try clear p18
            try clear p2
            try clear q11
            try clear q14
            try clear q18
            obtain ⟨x38_2, rfl, HA, HK2, HB⟩ := hrel
            cases gk with
            | zero => exact absurd HA.out (by simp [laws_FnPercent.l1])
            | succ k2 =>
              have H := HA.out
              clear HA
              simp only [laws_FnPercent.l1] at H
              by_cases c19 : x38_2 < (t162.size : Int)
              · rw [if_pos c19] at H
                have c19b0 : decide (x38_2 < (t162.size : Int)) = true := decide_eq_true c19
                clear c19
                by_cases c20 : 0 ≤ x38_2
                · rw [if_pos c20] at H
                  have c20b0 : decide (0 ≤ x38_2) = true := decide_eq_true c20
                  clear c20
                  by_cases c21 : x38_2 < (t162.size : Int)
                  · rw [if_pos c21] at H
                    have c21b0 : decide (x38_2 < (t162.size : Int)) = true := decide_eq_true c21
                    clear c21
                    replace H := Option.bind_eq_some_iff.mp H
                    obtain ⟨t164, A230, H⟩ := H
                    replace H : (if t164 = true then (if (bt t162 x38_2) = 9 then (laws_FnPercent.l1 k2 t161 t162 x4_1 x5_1 (t162.size : Int) (wrap64 (x38_2 + 1))) else (if (bt t162 x38_2) = 10 then (laws_FnPercent.l1 k2 t161 t162 x4_1 x5_1 (t162.size : Int) (wrap64 (x38_2 + 1))) else (some false))) else (laws_FnPercent.l1 k2 t161 t162 x4_1 x5_1 (t162.size : Int) (wrap64 (x38_2 + 1)))) = some r := H
                    have A23 := Aside0.mk A230
                    clear A230
                    by_cases c24 : t164 = true
                    · subst c24
                      have H1 : (if (bt t162 x38_2) = 9 then (laws_FnPercent.l1 k2 t161 t162 x4_1 x5_1 (t162.size : Int) (wrap64 (x38_2 + 1))) else (if (bt t162 x38_2) = 10 then (laws_FnPercent.l1 k2 t161 t162 x4_1 x5_1 (t162.size : Int) (wrap64 (x38_2 + 1))) else (some false))) = some r := by rw [if_pos rfl] at H; exact H
                      clear H
                      have H := H1
                      clear H1
                      by_cases c26 : (bt t162 x38_2) = 9
                      · rw [if_pos c26] at H
                        have c26b0 : ((bt t162 x38_2) == 9) = true := beq_iff_eq.mpr c26
                        have c26b1 : ((bt t162 x38_2) != 9) = false := bne_eq_false_iff_eq.mpr c26
                        clear c26
                        have H' := Aside0.mk H
                        clear H
                        have p22 : 0 ≤ (x38_2 : Int) := of_decide_eq_true (by first | (with_reducible assumption) | assumption)
                        have q22 : x38_2 < (t162.size : Int) := of_decide_eq_true (by first | (with_reducible assumption) | assumption)
                        have hx22 := bt_at t162 x38_2
                        replace p22 := eq_true p22
                        replace q22 := eq_true q22
                        go_wp2_with (first | (go_at_call 42; (with_reducible refine (laws_inlineOdd.calls (bt t162 x38_2) true _ A23.out).mono ?_); rintro e w' ⟨rfl, ⟨nd, rfl⟩⟩; (try first | exact ⟨rfl, _, World.drewN_drewN _ _ _⟩ | exact ⟨rfl, _, Eq.trans (World.drewN_drewN _ _ _) (congrArg (World.drewN _) (Nat.add_assoc _ _ _))⟩); have p25 : 0 ≤ (x38_2 : Int) := of_decide_eq_true (by first | (with_reducible assumption) | assumption); have q25 : x38_2 < (t162.size : Int) := of_decide_eq_true (by first | (with_reducible assumption) | assumption); have hx25 := bt_at t162 x38_2; replace p25 := eq_true p25; replace q25 := eq_true q25))
                        repeat (go_quiet (first | (go_at_call 42; (with_reducible refine (laws_inlineOdd.calls (bt t162 x38_2) true _ A23.out).mono ?_); rintro e w' ⟨rfl, ⟨nd, rfl⟩⟩; (try first | exact ⟨rfl, _, World.drewN_drewN _ _ _⟩ | exact ⟨rfl, _, Eq.trans (World.drewN_drewN _ _ _) (congrArg (World.drewN _) (Nat.add_assoc _ _ _))⟩); have p25 : 0 ≤ (x38_2 : Int) := of_decide_eq_true (by first | (with_reducible assumption) | assumption); have q25 : x38_2 < (t162.size : Int) := of_decide_eq_true (by first | (with_reducible assumption) | assumption); have hx25 := bt_at t162 x38_2; replace p25 := eq_true p25; replace q25 := eq_true q25)); try go_wp2_with (first | (go_at_call 42; (with_reducible refine (laws_inlineOdd.calls (bt t162 x38_2) true _ A23.out).mono ?_); rintro e w' ⟨rfl, ⟨nd, rfl⟩⟩; (try first | exact ⟨rfl, _, World.drewN_drewN _ _ _⟩ | exact ⟨rfl, _, Eq.trans (World.drewN_drewN _ _ _) (congrArg (World.drewN _) (Nat.add_assoc _ _ _))⟩); have p25 : 0 ≤ (x38_2 : Int) := of_decide_eq_true (by first | (with_reducible assumption) | assumption); have q25 : x38_2 < (t162.size : Int) := of_decide_eq_true (by first | (with_reducible assumption) | assumption); have hx25 := bt_at t162 x38_2; replace p25 := eq_true p25; replace q25 := eq_true q25)))
                        go_roundg k2
                        case measure => have := HK1.out; have := HK2.out; omega
                        case rel => exact ⟨(wrap64 (x38_2 + 1)), (by first | rfl | (simp; done) | (simp [*]; done)), H', ⟨by have := HK1.out; have := HK2.out; omega⟩, ⟨by repeat (first | (with_reducible first | exact HB.out | apply below_alloc | apply pw_below_drewN | apply below_drew1) | exact HB.out)⟩⟩
                      · rw [if_neg c26] at H
                        have c26b0 : ((bt t162 x38_2) == 9) = false := beq_eq_false_iff_ne.mpr c26
                        have c26b1 : ((bt t162 x38_2) != 9) = true := bne_iff_ne.mpr c26
                        by_cases c28 : (bt t162 x38_2) = 10
                        · rw [if_pos c28] at H
                          have c28b0 : ((bt t162 x38_2) == 10) = true := beq_iff_eq.mpr c28
                          have c28b1 : ((bt t162 x38_2) != 10) = false := bne_eq_false_iff_eq.mpr c28
                          clear c28
                          have H' := Aside0.mk H
                          clear H
                          have p22 : 0 ≤ (x38_2 : Int) := of_decide_eq_true (by first | (with_reducible assumption) | assumption)
                          have q22 : x38_2 < (t162.size : Int) := of_decide_eq_true (by first | (with_reducible assumption) | assumption)
                          have hx22 := bt_at t162 x38_2
                          replace p22 := eq_true p22
                          replace q22 := eq_true q22
                          go_wp2_with (first | (go_at_call 42; (with_reducible refine (laws_inlineOdd.calls (bt t162 x38_2) true _ A23.out).mono ?_); rintro e w' ⟨rfl, ⟨nd, rfl⟩⟩; (try first | exact ⟨rfl, _, World.drewN_drewN _ _ _⟩ | exact ⟨rfl, _, Eq.trans (World.drewN_drewN _ _ _) (congrArg (World.drewN _) (Nat.add_assoc _ _ _))⟩); have p25 : 0 ≤ (x38_2 : Int) := of_decide_eq_true (by first | (with_reducible assumption) | assumption); have q25 : x38_2 < (t162.size : Int) := of_decide_eq_true (by first | (with_reducible assumption) | assumption); have hx25 := bt_at t162 x38_2; replace p25 := eq_true p25; replace q25 := eq_true q25; have p27 : 0 ≤ (x38_2 : Int) := of_decide_eq_true (by first | (with_reducible assumption) | assumption); have q27 : x38_2 < (t162.size : Int) := of_decide_eq_true (by first | (with_reducible assumption) | assumption); have hx27 := bt_at t162 x38_2; replace p27 := eq_true p27; replace q27 := eq_true q27))
                          repeat (go_quiet (first | (go_at_call 42; (with_reducible refine (laws_inlineOdd.calls (bt t162 x38_2) true _ A23.out).mono ?_); rintro e w' ⟨rfl, ⟨nd, rfl⟩⟩; (try first | exact ⟨rfl, _, World.drewN_drewN _ _ _⟩ | exact ⟨rfl, _, Eq.trans (World.drewN_drewN _ _ _) (congrArg (World.drewN _) (Nat.add_assoc _ _ _))⟩); have p25 : 0 ≤ (x38_2 : Int) := of_decide_eq_true (by first | (with_reducible assumption) | assumption); have q25 : x38_2 < (t162.size : Int) := of_decide_eq_true (by first | (with_reducible assumption) | assumption); have hx25 := bt_at t162 x38_2; replace p25 := eq_true p25; replace q25 := eq_true q25; have p27 : 0 ≤ (x38_2 : Int) := of_decide_eq_true (by first | (with_reducible assumption) | assumption); have q27 : x38_2 < (t162.size : Int) := of_decide_eq_true (by first | (with_reducible assumption) | assumption); have hx27 := bt_at t162 x38_2; replace p27 := eq_true p27; replace q27 := eq_true q27)); try go_wp2_with (first | (go_at_call 42; (with_reducible refine (laws_inlineOdd.calls (bt t162 x38_2) true _ A23.out).mono ?_); rintro e w' ⟨rfl, ⟨nd, rfl⟩⟩; (try first | exact ⟨rfl, _, World.drewN_drewN _ _ _⟩ | exact ⟨rfl, _, Eq.trans (World.drewN_drewN _ _ _) (congrArg (World.drewN _) (Nat.add_assoc _ _ _))⟩); have p25 : 0 ≤ (x38_2 : Int) := of_decide_eq_true (by first | (with_reducible assumption) | assumption); have q25 : x38_2 < (t162.size : Int) := of_decide_eq_true (by first | (with_reducible assumption) | assumption); have hx25 := bt_at t162 x38_2; replace p25 := eq_true p25; replace q25 := eq_true q25; have p27 : 0 ≤ (x38_2 : Int) := of_decide_eq_true (by first | (with_reducible assumption) | assumption); have q27 : x38_2 < (t162.size : Int) := of_decide_eq_true (by first | (with_reducible assumption) | assumption); have hx27 := bt_at t162 x38_2; replace p27 := eq_true p27; replace q27 := eq_true q27)))
                          go_roundg k2
                          case measure => have := HK1.out; have := HK2.out; omega
                          case rel => exact ⟨(wrap64 (x38_2 + 1)), (by first | rfl | (simp; done) | (simp [*]; done)), H', ⟨by have := HK1.out; have := HK2.out; omega⟩, ⟨by repeat (first | (with_reducible first | exact HB.out | apply below_alloc | apply pw_below_drewN | apply below_drew1) | exact HB.out)⟩⟩
                        · rw [if_neg c28] at H
                          have c28b0 : ((bt t162 x38_2) == 10) = false := beq_eq_false_iff_ne.mpr c28
                          have c28b1 : ((bt t162 x38_2) != 10) = true := bne_iff_ne.mpr c28
                          obtain rfl := Option.some.inj H
                          have p22 : 0 ≤ (x38_2 : Int) := of_decide_eq_true (by first | (with_reducible assumption) | assumption)
                          have q22 : x38_2 < (t162.size : Int) := of_decide_eq_true (by first | (with_reducible assumption) | assumption)
                          have hx22 := bt_at t162 x38_2
                          replace p22 := eq_true p22
                          replace q22 := eq_true q22
                          go_wp2_with (first | (go_at_call 42; (with_reducible refine (laws_inlineOdd.calls (bt t162 x38_2) true _ A23.out).mono ?_); rintro e w' ⟨rfl, ⟨nd, rfl⟩⟩; (try first | exact ⟨rfl, _, World.drewN_drewN _ _ _⟩ | exact ⟨rfl, _, Eq.trans (World.drewN_drewN _ _ _) (congrArg (World.drewN _) (Nat.add_assoc _ _ _))⟩); have p25 : 0 ≤ (x38_2 : Int) := of_decide_eq_true (by first | (with_reducible assumption) | assumption); have q25 : x38_2 < (t162.size : Int) := of_decide_eq_true (by first | (with_reducible assumption) | assumption); have hx25 := bt_at t162 x38_2; replace p25 := eq_true p25; replace q25 := eq_true q25; have p27 : 0 ≤ (x38_2 : Int) := of_decide_eq_true (by first | (with_reducible assumption) | assumption); have q27 : x38_2 < (t162.size : Int) := of_decide_eq_true (by first | (with_reducible assumption) | assumption); have hx27 := bt_at t162 x38_2; replace p27 := eq_true p27; replace q27 := eq_true q27))
                          repeat (go_quiet (first | (go_at_call 42; (with_reducible refine (laws_inlineOdd.calls (bt t162 x38_2) true _ A23.out).mono ?_); rintro e w' ⟨rfl, ⟨nd, rfl⟩⟩; (try first | exact ⟨rfl, _, World.drewN_drewN _ _ _⟩ | exact ⟨rfl, _, Eq.trans (World.drewN_drewN _ _ _) (congrArg (World.drewN _) (Nat.add_assoc _ _ _))⟩); have p25 : 0 ≤ (x38_2 : Int) := of_decide_eq_true (by first | (with_reducible assumption) | assumption); have q25 : x38_2 < (t162.size : Int) := of_decide_eq_true (by first | (with_reducible assumption) | assumption); have hx25 := bt_at t162 x38_2; replace p25 := eq_true p25; replace q25 := eq_true q25; have p27 : 0 ≤ (x38_2 : Int) := of_decide_eq_true (by first | (with_reducible assumption) | assumption); have q27 : x38_2 < (t162.size : Int) := of_decide_eq_true (by first | (with_reducible assumption) | assumption); have hx27 := bt_at t162 x38_2; replace p27 := eq_true p27; replace q27 := eq_true q27)); try go_wp2_with (first | (go_at_call 42; (with_reducible refine (laws_inlineOdd.calls (bt t162 x38_2) true _ A23.out).mono ?_); rintro e w' ⟨rfl, ⟨nd, rfl⟩⟩; (try first | exact ⟨rfl, _, World.drewN_drewN _ _ _⟩ | exact ⟨rfl, _, Eq.trans (World.drewN_drewN _ _ _) (congrArg (World.drewN _) (Nat.add_assoc _ _ _))⟩); have p25 : 0 ≤ (x38_2 : Int) := of_decide_eq_true (by first | (with_reducible assumption) | assumption); have q25 : x38_2 < (t162.size : Int) := of_decide_eq_true (by first | (with_reducible assumption) | assumption); have hx25 := bt_at t162 x38_2; replace p25 := eq_true p25; replace q25 := eq_true q25; have p27 : 0 ≤ (x38_2 : Int) := of_decide_eq_true (by first | (with_reducible assumption) | assumption); have q27 : x38_2 < (t162.size : Int) := of_decide_eq_true (by first | (with_reducible assumption) | assumption); have hx27 := bt_at t162 x38_2; replace p27 := eq_true p27; replace q27 := eq_true q27)))
                          go_ret
                          exact ⟨by first | rfl | (simp [errW_none, errW_some] <;> rfl) | (simp [*, errW_none, errW_some] <;> rfl), by repeat (first | (with_reducible first | exact HB.out | apply below_alloc | apply pw_below_drewN | apply below_drew1) | exact HB.out)⟩
                    · replace c24 := Bool.eq_false_iff.mpr c24
                      subst c24
                      have H1 : (laws_FnPercent.l1 k2 t161 t162 x4_1 x5_1 (t162.size : Int) (wrap64 (x38_2 + 1))) = some r := by rw [if_neg (show ¬ (false = true) by decide)] at H; exact H
                      clear H
                      have H := H1
                      clear H1
                      have H' := Aside0.mk H
                      clear H
                      have p22 : 0 ≤ (x38_2 : Int) := of_decide_eq_true (by first | (with_reducible assumption) | assumption)
                      have q22 : x38_2 < (t162.size : Int) := of_decide_eq_true (by first | (with_reducible assumption) | assumption)
                      have hx22 := bt_at t162 x38_2
                      replace p22 := eq_true p22
                      replace q22 := eq_true q22
                      go_wp2_with (first | (go_at_call 42; (with_reducible refine (laws_inlineOdd.calls (bt t162 x38_2) false _ A23.out).mono ?_); rintro e w' ⟨rfl, ⟨nd, rfl⟩⟩; (try first | exact ⟨rfl, _, World.drewN_drewN _ _ _⟩ | exact ⟨rfl, _, Eq.trans (World.drewN_drewN _ _ _) (congrArg (World.drewN _) (Nat.add_assoc _ _ _))⟩)))
                      repeat (go_quiet (first | (go_at_call 42; (with_reducible refine (laws_inlineOdd.calls (bt t162 x38_2) false _ A23.out).mono ?_); rintro e w' ⟨rfl, ⟨nd, rfl⟩⟩; (try first | exact ⟨rfl, _, World.drewN_drewN _ _ _⟩ | exact ⟨rfl, _, Eq.trans (World.drewN_drewN _ _ _) (congrArg (World.drewN _) (Nat.add_assoc _ _ _))⟩))); try go_wp2_with (first | (go_at_call 42; (with_reducible refine (laws_inlineOdd.calls (bt t162 x38_2) false _ A23.out).mono ?_); rintro e w' ⟨rfl, ⟨nd, rfl⟩⟩; (try first | exact ⟨rfl, _, World.drewN_drewN _ _ _⟩ | exact ⟨rfl, _, Eq.trans (World.drewN_drewN _ _ _) (congrArg (World.drewN _) (Nat.add_assoc _ _ _))⟩))))
                      go_roundg k2
                      case measure => have := HK1.out; have := HK2.out; omega
                      case rel => exact ⟨(wrap64 (x38_2 + 1)), (by first | rfl | (simp; done) | (simp [*]; done)), H', ⟨by have := HK1.out; have := HK2.out; omega⟩, ⟨by repeat (first | (with_reducible first | exact HB.out | apply below_alloc | apply pw_below_drewN | apply below_drew1) | exact HB.out)⟩⟩
                  · rw [if_neg c21] at H
                    exact absurd H (by simp)
                · rw [if_neg c20] at H
                  exact absurd H (by simp)
              · rw [if_neg c19] at H
                have c19b0 : decide (x38_2 < (t162.size : Int)) = false := decide_eq_false c19
                clear c19
                by_cases c29 : x4_1 = true
                · subst c29
                  have H1 : (if t162.toList = t161.toList then (if x5_1 = true then ((laws_inlineLives.f).bind fun t165 => (some t165)) else ((laws_inlineRead.f k2 t162).bind fun t166 => (if t166.toList = t161.toList then ((laws_inlineLives.f).bind fun t167 => (some t167)) else (some false)))) else (some false)) = some r := by rw [if_pos rfl] at H; exact H
                  clear H
                  have H := H1
                  clear H1
                  by_cases c30 : t162.toList = t161.toList
                  · rw [if_pos c30] at H
                    have c30b0 : (t162.toList == t161.toList) = true := beq_iff_eq.mpr c30
                    have c30b1 : (t162.toList != t161.toList) = false := bne_eq_false_iff_eq.mpr c30
                    clear c30
                    by_cases c31 : x5_1 = true
                    · subst c31
                      have H1 : ((laws_inlineLives.f).bind fun t165 => (some t165)) = some r := by rw [if_pos rfl] at H; exact H
                      clear H
                      have H := H1
                      clear H1
                      replace H := Option.bind_eq_some_iff.mp H
                      obtain ⟨t165, A320, H⟩ := H
                      replace H : (some t165) = some r := H
                      have A32 := Aside0.mk A320
                      clear A320
                      obtain rfl := Option.some.inj H
                      go_wp2_with (first | (go_at_call 38; (with_reducible refine (laws_inlineLives.calls  t165 _ A32.out).mono ?_); rintro e w33 ⟨rfl, hb⟩; have n0_ := Aside0.mk (below_step (by repeat (first | (with_reducible first | exact HB.out | apply below_alloc | apply pw_below_drewN | apply below_drew1) | exact HB.out)) hb); clear HB; have HB := n0_; clear n0_; (try clear hb); (try clear hb2); (try clear hk); (try clear hi)))
                      repeat (go_quiet (first | (go_at_call 38; (with_reducible refine (laws_inlineLives.calls  t165 _ A32.out).mono ?_); rintro e w33 ⟨rfl, hb⟩; have n0_ := Aside0.mk (below_step (by repeat (first | (with_reducible first | exact HB.out | apply below_alloc | apply pw_below_drewN | apply below_drew1) | exact HB.out)) hb); clear HB; have HB := n0_; clear n0_; (try clear hb); (try clear hb2); (try clear hk); (try clear hi))); try go_wp2_with (first | (go_at_call 38; (with_reducible refine (laws_inlineLives.calls  t165 _ A32.out).mono ?_); rintro e w33 ⟨rfl, hb⟩; have n0_ := Aside0.mk (below_step (by repeat (first | (with_reducible first | exact HB.out | apply below_alloc | apply pw_below_drewN | apply below_drew1) | exact HB.out)) hb); clear HB; have HB := n0_; clear n0_; (try clear hb); (try clear hb2); (try clear hk); (try clear hi))))
                      go_ret
                      exact ⟨by first | rfl | (simp [errW_none, errW_some] <;> rfl) | (simp [*, errW_none, errW_some] <;> rfl), by repeat (first | (with_reducible first | exact HB.out | apply below_alloc | apply pw_below_drewN | apply below_drew1) | exact HB.out)⟩
                    · replace c31 := Bool.eq_false_iff.mpr c31
                      subst c31
                      have H1 : ((laws_inlineRead.f k2 t162).bind fun t166 => (if t166.toList = t161.toList then ((laws_inlineLives.f).bind fun t167 => (some t167)) else (some false))) = some r := by rw [if_neg (show ¬ (false = true) by decide)] at H; exact H
                      clear H
                      have H := H1
                      clear H1
                      replace H := Option.bind_eq_some_iff.mp H
                      obtain ⟨t166, A340, H⟩ := H
                      replace H : (if t166.toList = t161.toList then ((laws_inlineLives.f).bind fun t167 => (some t167)) else (some false)) = some r := H
                      have A34 := Aside0.mk A340
                      clear A340
                      by_cases c35 : t166.toList = t161.toList
                      · rw [if_pos c35] at H
                        have c35b0 : (t166.toList == t161.toList) = true := beq_iff_eq.mpr c35
                        have c35b1 : (t166.toList != t161.toList) = false := bne_eq_false_iff_eq.mpr c35
                        clear c35
                        replace H := Option.bind_eq_some_iff.mp H
                        obtain ⟨t167, A360, H⟩ := H
                        replace H : (some t167) = some r := H
                        have A36 := Aside0.mk A360
                        clear A360
                        obtain rfl := Option.some.inj H
                        go_wp2_with (first | (go_at_call 43; (with_reducible refine (laws_inlineRead.calls k2 t162 t166 _ A34.out).mono ?_); rintro e w37 ⟨rfl, hb⟩; have n0_ := Aside0.mk (below_step (by repeat (first | (with_reducible first | exact HB.out | apply below_alloc | apply pw_below_drewN | apply below_drew1) | exact HB.out)) hb); clear HB; have HB := n0_; clear n0_; (try clear hb); (try clear hb2); (try clear hk); (try clear hi)) | (go_at_call 38; (with_reducible refine (laws_inlineLives.calls  t167 _ A36.out).mono ?_); rintro e w38 ⟨rfl, hb⟩; have n0_ := Aside0.mk (below_step (by repeat (first | (with_reducible first | exact HB.out | apply below_alloc | apply pw_below_drewN | apply below_drew1) | exact HB.out)) hb); clear HB; have HB := n0_; clear n0_; (try clear hb); (try clear hb2); (try clear hk); (try clear hi)))
                        repeat (go_quiet (first | (go_at_call 43; (with_reducible refine (laws_inlineRead.calls k2 t162 t166 _ A34.out).mono ?_); rintro e w37 ⟨rfl, hb⟩; have n0_ := Aside0.mk (below_step (by repeat (first | (with_reducible first | exact HB.out | apply below_alloc | apply pw_below_drewN | apply below_drew1) | exact HB.out)) hb); clear HB; have HB := n0_; clear n0_; (try clear hb); (try clear hb2); (try clear hk); (try clear hi)) | (go_at_call 38; (with_reducible refine (laws_inlineLives.calls  t167 _ A36.out).mono ?_); rintro e w38 ⟨rfl, hb⟩; have n0_ := Aside0.mk (below_step (by repeat (first | (with_reducible first | exact HB.out | apply below_alloc | apply pw_below_drewN | apply below_drew1) | exact HB.out)) hb); clear HB; have HB := n0_; clear n0_; (try clear hb); (try clear hb2); (try clear hk); (try clear hi))); try go_wp2_with (first | (go_at_call 43; (with_reducible refine (laws_inlineRead.calls k2 t162 t166 _ A34.out).mono ?_); rintro e w37 ⟨rfl, hb⟩; have n0_ := Aside0.mk (below_step (by repeat (first | (with_reducible first | exact HB.out | apply below_alloc | apply pw_below_drewN | apply below_drew1) | exact HB.out)) hb); clear HB; have HB := n0_; clear n0_; (try clear hb); (try clear hb2); (try clear hk); (try clear hi)) | (go_at_call 38; (with_reducible refine (laws_inlineLives.calls  t167 _ A36.out).mono ?_); rintro e w38 ⟨rfl, hb⟩; have n0_ := Aside0.mk (below_step (by repeat (first | (with_reducible first | exact HB.out | apply below_alloc | apply pw_below_drewN | apply below_drew1) | exact HB.out)) hb); clear HB; have HB := n0_; clear n0_; (try clear hb); (try clear hb2); (try clear hk); (try clear hi))))
                        go_ret
                        exact ⟨by first | rfl | (simp [errW_none, errW_some] <;> rfl) | (simp [*, errW_none, errW_some] <;> rfl), by repeat (first | (with_reducible first | exact HB.out | apply below_alloc | apply pw_below_drewN | apply below_drew1) | exact HB.out)⟩
                      · rw [if_neg c35] at H
                        have c35b0 : (t166.toList == t161.toList) = false := beq_eq_false_iff_ne.mpr c35
                        have c35b1 : (t166.toList != t161.toList) = true := bne_iff_ne.mpr c35
                        obtain rfl := Option.some.inj H
                        go_wp2_with (first | (go_at_call 43; (with_reducible refine (laws_inlineRead.calls k2 t162 t166 _ A34.out).mono ?_); rintro e w39 ⟨rfl, hb⟩; have n0_ := Aside0.mk (below_step (by repeat (first | (with_reducible first | exact HB.out | apply below_alloc | apply pw_below_drewN | apply below_drew1) | exact HB.out)) hb); clear HB; have HB := n0_; clear n0_; (try clear hb); (try clear hb2); (try clear hk); (try clear hi)))
                        repeat (go_quiet (first | (go_at_call 43; (with_reducible refine (laws_inlineRead.calls k2 t162 t166 _ A34.out).mono ?_); rintro e w39 ⟨rfl, hb⟩; have n0_ := Aside0.mk (below_step (by repeat (first | (with_reducible first | exact HB.out | apply below_alloc | apply pw_below_drewN | apply below_drew1) | exact HB.out)) hb); clear HB; have HB := n0_; clear n0_; (try clear hb); (try clear hb2); (try clear hk); (try clear hi))); try go_wp2_with (first | (go_at_call 43; (with_reducible refine (laws_inlineRead.calls k2 t162 t166 _ A34.out).mono ?_); rintro e w39 ⟨rfl, hb⟩; have n0_ := Aside0.mk (below_step (by repeat (first | (with_reducible first | exact HB.out | apply below_alloc | apply pw_below_drewN | apply below_drew1) | exact HB.out)) hb); clear HB; have HB := n0_; clear n0_; (try clear hb); (try clear hb2); (try clear hk); (try clear hi))))
                        go_ret
                        exact ⟨by first | rfl | (simp [errW_none, errW_some] <;> rfl) | (simp [*, errW_none, errW_some] <;> rfl), by repeat (first | (with_reducible first | exact HB.out | apply below_alloc | apply pw_below_drewN | apply below_drew1) | exact HB.out)⟩
                  · rw [if_neg c30] at H
                    have c30b0 : (t162.toList == t161.toList) = false := beq_eq_false_iff_ne.mpr c30
                    have c30b1 : (t162.toList != t161.toList) = true := bne_iff_ne.mpr c30
                    obtain rfl := Option.some.inj H
                    go_wp2
                    repeat (go_quiet (fail); try go_wp2)
                    go_ret
                    exact ⟨by first | rfl | (simp [errW_none, errW_some] <;> rfl) | (simp [*, errW_none, errW_some] <;> rfl), by repeat (first | (with_reducible first | exact HB.out | apply below_alloc | apply pw_below_drewN | apply below_drew1) | exact HB.out)⟩
                · replace c29 := Bool.eq_false_iff.mpr c29
                  subst c29
                  have H1 : (if x5_1 = true then ((laws_inlineLives.f).bind fun t168 => (some t168)) else ((laws_inlineRead.f k2 t162).bind fun t169 => (if t169.toList = t161.toList then ((laws_inlineLives.f).bind fun t170 => (some t170)) else (some false)))) = some r := by rw [if_neg (show ¬ (false = true) by decide)] at H; exact H
                  clear H
                  have H := H1
                  clear H1
                  by_cases c40 : x5_1 = true
                  · subst c40
                    have H1 : ((laws_inlineLives.f).bind fun t168 => (some t168)) = some r := by rw [if_pos rfl] at H; exact H
                    clear H
                    have H := H1
                    clear H1
                    replace H := Option.bind_eq_some_iff.mp H
                    obtain ⟨t168, A410, H⟩ := H
                    replace H : (some t168) = some r := H
                    have A41 := Aside0.mk A410
                    clear A410
                    obtain rfl := Option.some.inj H
                    go_wp2_with (first | (go_at_call 38; (with_reducible refine (laws_inlineLives.calls  t168 _ A41.out).mono ?_); rintro e w42 ⟨rfl, hb⟩; have n0_ := Aside0.mk (below_step (by repeat (first | (with_reducible first | exact HB.out | apply below_alloc | apply pw_below_drewN | apply below_drew1) | exact HB.out)) hb); clear HB; have HB := n0_; clear n0_; (try clear hb); (try clear hb2); (try clear hk); (try clear hi)))
                    repeat (go_quiet (first | (go_at_call 38; (with_reducible refine (laws_inlineLives.calls  t168 _ A41.out).mono ?_); rintro e w42 ⟨rfl, hb⟩; have n0_ := Aside0.mk (below_step (by repeat (first | (with_reducible first | exact HB.out | apply below_alloc | apply pw_below_drewN | apply below_drew1) | exact HB.out)) hb); clear HB; have HB := n0_; clear n0_; (try clear hb); (try clear hb2); (try clear hk); (try clear hi))); try go_wp2_with (first | (go_at_call 38; (with_reducible refine (laws_inlineLives.calls  t168 _ A41.out).mono ?_); rintro e w42 ⟨rfl, hb⟩; have n0_ := Aside0.mk (below_step (by repeat (first | (with_reducible first | exact HB.out | apply below_alloc | apply pw_below_drewN | apply below_drew1) | exact HB.out)) hb); clear HB; have HB := n0_; clear n0_; (try clear hb); (try clear hb2); (try clear hk); (try clear hi))))
                    go_ret
                    exact ⟨by first | rfl | (simp [errW_none, errW_some] <;> rfl) | (simp [*, errW_none, errW_some] <;> rfl), by repeat (first | (with_reducible first | exact HB.out | apply below_alloc | apply pw_below_drewN | apply below_drew1) | exact HB.out)⟩
                  · replace c40 := Bool.eq_false_iff.mpr c40
                    subst c40
                    have H1 : ((laws_inlineRead.f k2 t162).bind fun t169 => (if t169.toList = t161.toList then ((laws_inlineLives.f).bind fun t170 => (some t170)) else (some false))) = some r := by rw [if_neg (show ¬ (false = true) by decide)] at H; exact H
                    clear H
                    have H := H1
                    clear H1
                    replace H := Option.bind_eq_some_iff.mp H
                    obtain ⟨t169, A430, H⟩ := H
                    replace H : (if t169.toList = t161.toList then ((laws_inlineLives.f).bind fun t170 => (some t170)) else (some false)) = some r := H
                    have A43 := Aside0.mk A430
                    clear A430
                    by_cases c44 : t169.toList = t161.toList
                    · rw [if_pos c44] at H
                      have c44b0 : (t169.toList == t161.toList) = true := beq_iff_eq.mpr c44
                      have c44b1 : (t169.toList != t161.toList) = false := bne_eq_false_iff_eq.mpr c44
                      clear c44
                      replace H := Option.bind_eq_some_iff.mp H
                      obtain ⟨t170, A450, H⟩ := H
                      replace H : (some t170) = some r := H
                      have A45 := Aside0.mk A450
                      clear A450
                      obtain rfl := Option.some.inj H
                      go_wp2_with (first | (go_at_call 43; (with_reducible refine (laws_inlineRead.calls k2 t162 t169 _ A43.out).mono ?_); rintro e w46 ⟨rfl, hb⟩; have n0_ := Aside0.mk (below_step (by repeat (first | (with_reducible first | exact HB.out | apply below_alloc | apply pw_below_drewN | apply below_drew1) | exact HB.out)) hb); clear HB; have HB := n0_; clear n0_; (try clear hb); (try clear hb2); (try clear hk); (try clear hi)) | (go_at_call 38; (with_reducible refine (laws_inlineLives.calls  t170 _ A45.out).mono ?_); rintro e w47 ⟨rfl, hb⟩; have n0_ := Aside0.mk (below_step (by repeat (first | (with_reducible first | exact HB.out | apply below_alloc | apply pw_below_drewN | apply below_drew1) | exact HB.out)) hb); clear HB; have HB := n0_; clear n0_; (try clear hb); (try clear hb2); (try clear hk); (try clear hi)))
                      repeat (go_quiet (first | (go_at_call 43; (with_reducible refine (laws_inlineRead.calls k2 t162 t169 _ A43.out).mono ?_); rintro e w46 ⟨rfl, hb⟩; have n0_ := Aside0.mk (below_step (by repeat (first | (with_reducible first | exact HB.out | apply below_alloc | apply pw_below_drewN | apply below_drew1) | exact HB.out)) hb); clear HB; have HB := n0_; clear n0_; (try clear hb); (try clear hb2); (try clear hk); (try clear hi)) | (go_at_call 38; (with_reducible refine (laws_inlineLives.calls  t170 _ A45.out).mono ?_); rintro e w47 ⟨rfl, hb⟩; have n0_ := Aside0.mk (below_step (by repeat (first | (with_reducible first | exact HB.out | apply below_alloc | apply pw_below_drewN | apply below_drew1) | exact HB.out)) hb); clear HB; have HB := n0_; clear n0_; (try clear hb); (try clear hb2); (try clear hk); (try clear hi))); try go_wp2_with (first | (go_at_call 43; (with_reducible refine (laws_inlineRead.calls k2 t162 t169 _ A43.out).mono ?_); rintro e w46 ⟨rfl, hb⟩; have n0_ := Aside0.mk (below_step (by repeat (first | (with_reducible first | exact HB.out | apply below_alloc | apply pw_below_drewN | apply below_drew1) | exact HB.out)) hb); clear HB; have HB := n0_; clear n0_; (try clear hb); (try clear hb2); (try clear hk); (try clear hi)) | (go_at_call 38; (with_reducible refine (laws_inlineLives.calls  t170 _ A45.out).mono ?_); rintro e w47 ⟨rfl, hb⟩; have n0_ := Aside0.mk (below_step (by repeat (first | (with_reducible first | exact HB.out | apply below_alloc | apply pw_below_drewN | apply below_drew1) | exact HB.out)) hb); clear HB; have HB := n0_; clear n0_; (try clear hb); (try clear hb2); (try clear hk); (try clear hi))))
                      go_ret
                      exact ⟨by first | rfl | (simp [errW_none, errW_some] <;> rfl) | (simp [*, errW_none, errW_some] <;> rfl), by repeat (first | (with_reducible first | exact HB.out | apply below_alloc | apply pw_below_drewN | apply below_drew1) | exact HB.out)⟩
                    · rw [if_neg c44] at H
                      have c44b0 : (t169.toList == t161.toList) = false := beq_eq_false_iff_ne.mpr c44
                      have c44b1 : (t169.toList != t161.toList) = true := bne_iff_ne.mpr c44
                      obtain rfl := Option.some.inj H
                      go_wp2_with (first | (go_at_call 43; (with_reducible refine (laws_inlineRead.calls k2 t162 t169 _ A43.out).mono ?_); rintro e w48 ⟨rfl, hb⟩; have n0_ := Aside0.mk (below_step (by repeat (first | (with_reducible first | exact HB.out | apply below_alloc | apply pw_below_drewN | apply below_drew1) | exact HB.out)) hb); clear HB; have HB := n0_; clear n0_; (try clear hb); (try clear hb2); (try clear hk); (try clear hi)))
                      repeat (go_quiet (first | (go_at_call 43; (with_reducible refine (laws_inlineRead.calls k2 t162 t169 _ A43.out).mono ?_); rintro e w48 ⟨rfl, hb⟩; have n0_ := Aside0.mk (below_step (by repeat (first | (with_reducible first | exact HB.out | apply below_alloc | apply pw_below_drewN | apply below_drew1) | exact HB.out)) hb); clear HB; have HB := n0_; clear n0_; (try clear hb); (try clear hb2); (try clear hk); (try clear hi))); try go_wp2_with (first | (go_at_call 43; (with_reducible refine (laws_inlineRead.calls k2 t162 t169 _ A43.out).mono ?_); rintro e w48 ⟨rfl, hb⟩; have n0_ := Aside0.mk (below_step (by repeat (first | (with_reducible first | exact HB.out | apply below_alloc | apply pw_below_drewN | apply below_drew1) | exact HB.out)) hb); clear HB; have HB := n0_; clear n0_; (try clear hb); (try clear hb2); (try clear hk); (try clear hi))))
                      go_ret
                      exact ⟨by first | rfl | (simp [errW_none, errW_some] <;> rfl) | (simp [*, errW_none, errW_some] <;> rfl), by repeat (first | (with_reducible first | exact HB.out | apply below_alloc | apply pw_below_drewN | apply below_drew1) | exact HB.out)⟩

/-- THE ONE PURE STATEMENT of laws_FnPercent: yours. -/
def laws_FnPercent.Pure : Prop := ∀ (a0 : ByteArray), a0.size ≤ 140737488351232 → ∃ k, laws_FnPercent.f k a0 = some true
theorem laws_FnPercent.walk (P : laws_FnPercent.Pure) (a0 : ByteArray) (w : World) (w0 : a0.size ≤ 140737488351232) :
    Calls Try.prog 14 #[.string a0] w fun e w' => e = .returned (.bool true) ∧ Below w.heap.size w w' := by
  obtain ⟨k, h⟩ := P a0 w0
  refine (laws_FnPercent.calls k a0 true w h).mono ?_
  rintro e w' ⟨rfl, hd⟩
  exact ⟨rfl, hd⟩

end Go.Proofs.Yticofikbijldiaa.GFnPercent
