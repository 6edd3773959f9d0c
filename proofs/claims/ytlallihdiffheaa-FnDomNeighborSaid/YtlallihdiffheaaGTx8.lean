-- made by a program of this session, after the kit's print
import Derived.Test.YtlallihdiffheaaGTx0
import Derived.Test.YtlallihdiffheaaGTx6
import Derived.Test.YtlallihdiffheaaGTx7
namespace Go.Proofs.Ytlallihdiffheaa.GT
open Go.RowKit Go.Proofs.YtlallihdiffheaaW.PrintWords Go.Proofs.YtlallihdiffheaaW.PrintLast Go.Proofs.YtlallihdiffheaaW.PrintMore
attribute [local go_sem] max2_int min2_int max_two min_two max_three min_three max_four min_four   -- for this text's walks alone
set_option linter.unusedVariables false
set_option linter.unusedSimpArgs false

/-! ### laws_tree29: function 15 -/
def laws_tree29.f (k : Nat) (a0_0 : Int) (a0_1 : ByteArray) (a0_2 : ByteArray) (l0_3 : List (S34)) (l0_4 : List (S25)) : Option (Bool) := if a0_0 = 0 then ((laws_size29.f k a0_0 a0_1 a0_2 l0_3 l0_4 0).bind fun t191 => (if t191 ≤ 300 then ((laws_right29.f k a0_0 a0_1 a0_2 l0_3 l0_4 true).bind fun t192 => (some t192)) else (some false))) else (if a0_0 = 3 then ((laws_size29.f k a0_0 a0_1 a0_2 l0_3 l0_4 0).bind fun t193 => (if t193 ≤ 300 then ((laws_right29.f k a0_0 a0_1 a0_2 l0_3 l0_4 true).bind fun t194 => (some t194)) else (some false))) else (some false))
theorem laws_tree29.mono : ∀ a0 a1 a2 a3 a4 k, LeO (laws_tree29.f k a0 a1 a2 a3 a4) (laws_tree29.f (k + 1) a0 a1 a2 a3 a4) := by
  intro a0 a1 a2 a3 a4 k
  unfold laws_tree29.f
  repeat' first
      | (with_reducible exact laws_right29.mono _ _ _ _ _ _ _)
      | (with_reducible exact laws_size29.mono _ _ _ _ _ _ _)
      | (with_reducible exact LeO.refl _)
      | (with_reducible exact LeO.none _)
      | (with_reducible refine LeO.ite ?_ ?_)
      | (with_reducible refine LeO.bind ?_ (fun _ => ?_))
      | exact laws_right29.mono _ _ _ _ _ _ _
      | exact laws_size29.mono _ _ _ _ _ _ _
      | exact LeO.none _
      | refine LeO.ite ?_ ?_
      | refine LeO.bind ?_ (fun _ => ?_)
set_option maxHeartbeats 8000000 in
set_option maxRecDepth 100000 in
theorem laws_tree29.calls (k : Nat) (a0_0 : Int) (a0_1 : ByteArray) (a0_2 : ByteArray) (A0_3 : Option Addr) (c0_3 : Nat) (l0_3 : List (S34)) (A0_4 : Option Addr) (c0_4 : Nat) (l0_4 : List (S25)) (r : Bool) (w : World) (hr0_3 : Kd.C k34 w A0_3 l0_3.length l0_3) (hc0_3 : l0_3.length ≤ c0_3) (hr0_4 : Kd.C k25 w A0_4 l0_4.length l0_4) (hc0_4 : l0_4.length ≤ c0_4) (h : laws_tree29.f k a0_0 a0_1 a0_2 l0_3 l0_4 = some r) :
    Calls Try.prog 15 #[.agg #[.int .i64 a0_0, .string a0_1, .string a0_2, .slice A0_3 l0_3.length c0_3, .slice A0_4 l0_4.length c0_4]] w fun e w' => e = .returned (.bool r) ∧ Below w.heap.size w w' := by
  have hu25 := Try.underlying25
  have HR0_3 := Aside0.mk hr0_3
  have HC0_3 := Aside0.mk hc0_3
  clear hr0_3 hc0_3
  have HR0_4 := Aside0.mk hr0_4
  have HC0_4 := Aside0.mk hc0_4
  clear hr0_4 hc0_4
  have HB := Aside0.mk (Below.refl w.heap.size w)
  have H : (if a0_0 = 0 then ((laws_size29.f k a0_0 a0_1 a0_2 l0_3 l0_4 0).bind fun t191 => (if t191 ≤ 300 then ((laws_right29.f k a0_0 a0_1 a0_2 l0_3 l0_4 true).bind fun t192 => (some t192)) else (some false))) else (if a0_0 = 3 then ((laws_size29.f k a0_0 a0_1 a0_2 l0_3 l0_4 0).bind fun t193 => (if t193 ≤ 300 then ((laws_right29.f k a0_0 a0_1 a0_2 l0_3 l0_4 true).bind fun t194 => (some t194)) else (some false))) else (some false))) = some r := h
  clear h
  by_cases c2 : a0_0 = 0
  · rw [if_pos c2] at H
    have c2b0 : (a0_0 == 0) = true := beq_iff_eq.mpr c2
    have c2b1 : (a0_0 != 0) = false := bne_eq_false_iff_eq.mpr c2
    clear c2
    replace H := Option.bind_eq_some_iff.mp H
    obtain ⟨t191, A30, H⟩ := H
    replace H : (if t191 ≤ 300 then ((laws_right29.f k a0_0 a0_1 a0_2 l0_3 l0_4 true).bind fun t192 => (some t192)) else (some false)) = some r := H
    have A3 := Aside0.mk A30
    clear A30
    by_cases c4 : t191 ≤ 300
    · rw [if_pos c4] at H
      have c4b0 : decide (t191 ≤ 300) = true := decide_eq_true c4
      clear c4
      replace H := Option.bind_eq_some_iff.mp H
      obtain ⟨t192, A50, H⟩ := H
      replace H : (some t192) = some r := H
      have A5 := Aside0.mk A50
      clear A50
      obtain rfl := Option.some.inj H
      go_enter Try.func15, Try.ntmps15
      go_wp2_with (first | ((with_reducible refine gate_dst (N := 1) rfl ?_); refine box_event ?hg (N := 1) ?hd (cs := #[.int .i64 a0_0, .string a0_1, .string a0_2, .slice A0_3 l0_3.length c0_3, .slice A0_4 l0_4.length c0_4]) (t := 25) ?hr ?_; (case hd => rfl); (case hg => rfl); (case hr => first | (go_simp; done) | (go_simp; rfl)); intro gb190 hg w6 hbox hb; have n0_ := Aside0.mk (below_step (by repeat (first | (with_reducible first | exact HB.out | apply below_alloc | apply pw_below_drewN | apply below_drew1) | exact HB.out)) hb); have n1_ := Aside0.mk (hbox); have n2_ := Aside0.mk ((by rw [hg]; exact (below_size (by repeat (first | (with_reducible first | exact HB.out | apply below_alloc | apply pw_below_drewN | apply below_drew1) | exact HB.out))) : w.heap.size ≤ gb190)); have n3_ := Aside0.mk ((by rw [hg]; exact (below_size (by repeat (first | (with_reducible first | exact HB.out | apply below_alloc | apply pw_below_drewN | apply below_drew1) | exact HB.out))) : w.heap.size ≤ gb190)); clear HB; have HB := n0_; have BK190 := n1_; have GW190 := n2_; have GE190 := n3_; clear n0_ n1_ n2_ n3_; clear hb hbox hg; have hcz7_0 : w6.cell? ⟨gb190, 0, none⟩ = some (.int .i64 a0_0) := (blk_cell BK190.out 0).trans rfl; have hcz7_1 : w6.cell? ⟨gb190, 1, none⟩ = some (.string a0_1) := (blk_cell BK190.out 1).trans rfl; have hcz7_2 : w6.cell? ⟨gb190, 2, none⟩ = some (.string a0_2) := (blk_cell BK190.out 2).trans rfl; have hcz7_3 : w6.cell? ⟨gb190, 3, none⟩ = some (.slice A0_3 l0_3.length c0_3) := (blk_cell BK190.out 3).trans rfl; have hcz7_4 : w6.cell? ⟨gb190, 4, none⟩ = some (.slice A0_4 l0_4.length c0_4) := (blk_cell BK190.out 4).trans rfl; have hfz7_0 := blk_frozen BK190.out 0; have hfz7_1 := blk_frozen BK190.out 1; have hfz7_2 := blk_frozen BK190.out 2; have hfz7_3 := blk_frozen BK190.out 3; have hfz7_4 := blk_frozen BK190.out 4) | (go_at_call 53; (with_reducible refine (laws_size29.calls k a0_0 a0_1 a0_2 _ _ l0_3 _ _ l0_4 0 t191 _ ?side1 ?side2 ?side3 ?side4 A3.out).mono ?_); (case side1 => repeat (first | exact (Kd.C_below HR0_3.out HB.out) | (with_reducible refine Kd.C_alloc ?_ _) | (with_reducible refine Kd.C_drewN ?_ _) | (with_reducible refine Kd.C_drew ?_))); (case side2 => exact HC0_3.out); (case side3 => repeat (first | exact (Kd.C_below HR0_4.out HB.out) | (with_reducible refine Kd.C_alloc ?_ _) | (with_reducible refine Kd.C_drewN ?_ _) | (with_reducible refine Kd.C_drew ?_))); (case side4 => exact HC0_4.out); rintro e w8 ⟨rfl, hb⟩; have n0_ := Aside0.mk (blk_below (g := gb190) (o := .cells #[.int .i64 a0_0, .string a0_1, .string a0_2, .slice A0_3 l0_3.length c0_3, .slice A0_4 l0_4.length c0_4] 25 (0, 0)) (by (with_reducible repeat (first | refine blk_drewN ?_ _ | refine blk_drew ?_ | refine blk_alloc ?_ _)); exact BK190.out) hb); have n1_ := Aside0.mk (below_step (by repeat (first | (with_reducible first | exact HB.out | apply below_alloc | apply pw_below_drewN | apply below_drew1 | refine below_set ?_ GE190.out) | exact HB.out)) hb); clear BK190; clear HB; have BK190 := n0_; have HB := n1_; clear n0_ n1_; (try clear hb); (try clear hb2); (try clear hk); (try clear hi); have hcz9_0 : w8.cell? ⟨gb190, 0, none⟩ = some (.int .i64 a0_0) := (blk_cell BK190.out 0).trans rfl; have hcz9_1 : w8.cell? ⟨gb190, 1, none⟩ = some (.string a0_1) := (blk_cell BK190.out 1).trans rfl; have hcz9_2 : w8.cell? ⟨gb190, 2, none⟩ = some (.string a0_2) := (blk_cell BK190.out 2).trans rfl; have hcz9_3 : w8.cell? ⟨gb190, 3, none⟩ = some (.slice A0_3 l0_3.length c0_3) := (blk_cell BK190.out 3).trans rfl; have hcz9_4 : w8.cell? ⟨gb190, 4, none⟩ = some (.slice A0_4 l0_4.length c0_4) := (blk_cell BK190.out 4).trans rfl; have hfz9_0 := blk_frozen BK190.out 0; have hfz9_1 := blk_frozen BK190.out 1; have hfz9_2 := blk_frozen BK190.out 2; have hfz9_3 := blk_frozen BK190.out 3; have hfz9_4 := blk_frozen BK190.out 4) | (go_at_call 54; (with_reducible refine (laws_right29.calls k a0_0 a0_1 a0_2 _ _ l0_3 _ _ l0_4 true t192 _ ?side1 ?side2 ?side3 ?side4 A5.out).mono ?_); (case side1 => repeat (first | exact (Kd.C_below HR0_3.out HB.out) | (with_reducible refine Kd.C_alloc ?_ _) | (with_reducible refine Kd.C_drewN ?_ _) | (with_reducible refine Kd.C_drew ?_))); (case side2 => exact HC0_3.out); (case side3 => repeat (first | exact (Kd.C_below HR0_4.out HB.out) | (with_reducible refine Kd.C_alloc ?_ _) | (with_reducible refine Kd.C_drewN ?_ _) | (with_reducible refine Kd.C_drew ?_))); (case side4 => exact HC0_4.out); rintro e w10 ⟨rfl, hb⟩; have n0_ := Aside0.mk (blk_below (g := gb190) (o := .cells #[.int .i64 a0_0, .string a0_1, .string a0_2, .slice A0_3 l0_3.length c0_3, .slice A0_4 l0_4.length c0_4] 25 (0, 0)) (by (with_reducible repeat (first | refine blk_drewN ?_ _ | refine blk_drew ?_ | refine blk_alloc ?_ _)); exact BK190.out) hb); have n1_ := Aside0.mk (below_step (by repeat (first | (with_reducible first | exact HB.out | apply below_alloc | apply pw_below_drewN | apply below_drew1 | refine below_set ?_ GE190.out) | exact HB.out)) hb); clear BK190; clear HB; have BK190 := n0_; have HB := n1_; clear n0_ n1_; (try clear hb); (try clear hb2); (try clear hk); (try clear hi)))
      go_ret
      exact ⟨by first | rfl | (simp [errW_none, errW_some] <;> rfl) | (simp [*, errW_none, errW_some] <;> rfl), by repeat (first | (with_reducible first | exact HB.out | apply below_alloc | apply pw_below_drewN | apply below_drew1 | refine below_set ?_ GE190.out) | exact HB.out)⟩
    · rw [if_neg c4] at H
      have c4b0 : decide (t191 ≤ 300) = false := decide_eq_false c4
      clear c4
      obtain rfl := Option.some.inj H
      go_enter Try.func15, Try.ntmps15
      go_wp2_with (first | ((with_reducible refine gate_dst (N := 1) rfl ?_); refine box_event ?hg (N := 1) ?hd (cs := #[.int .i64 a0_0, .string a0_1, .string a0_2, .slice A0_3 l0_3.length c0_3, .slice A0_4 l0_4.length c0_4]) (t := 25) ?hr ?_; (case hd => rfl); (case hg => rfl); (case hr => first | (go_simp; done) | (go_simp; rfl)); intro gb190 hg w11 hbox hb; have n0_ := Aside0.mk (below_step (by repeat (first | (with_reducible first | exact HB.out | apply below_alloc | apply pw_below_drewN | apply below_drew1) | exact HB.out)) hb); have n1_ := Aside0.mk (hbox); have n2_ := Aside0.mk ((by rw [hg]; exact (below_size (by repeat (first | (with_reducible first | exact HB.out | apply below_alloc | apply pw_below_drewN | apply below_drew1) | exact HB.out))) : w.heap.size ≤ gb190)); have n3_ := Aside0.mk ((by rw [hg]; exact (below_size (by repeat (first | (with_reducible first | exact HB.out | apply below_alloc | apply pw_below_drewN | apply below_drew1) | exact HB.out))) : w.heap.size ≤ gb190)); clear HB; have HB := n0_; have BK190 := n1_; have GW190 := n2_; have GE190 := n3_; clear n0_ n1_ n2_ n3_; clear hb hbox hg; have hcz12_0 : w11.cell? ⟨gb190, 0, none⟩ = some (.int .i64 a0_0) := (blk_cell BK190.out 0).trans rfl; have hcz12_1 : w11.cell? ⟨gb190, 1, none⟩ = some (.string a0_1) := (blk_cell BK190.out 1).trans rfl; have hcz12_2 : w11.cell? ⟨gb190, 2, none⟩ = some (.string a0_2) := (blk_cell BK190.out 2).trans rfl; have hcz12_3 : w11.cell? ⟨gb190, 3, none⟩ = some (.slice A0_3 l0_3.length c0_3) := (blk_cell BK190.out 3).trans rfl; have hcz12_4 : w11.cell? ⟨gb190, 4, none⟩ = some (.slice A0_4 l0_4.length c0_4) := (blk_cell BK190.out 4).trans rfl; have hfz12_0 := blk_frozen BK190.out 0; have hfz12_1 := blk_frozen BK190.out 1; have hfz12_2 := blk_frozen BK190.out 2; have hfz12_3 := blk_frozen BK190.out 3; have hfz12_4 := blk_frozen BK190.out 4) | (go_at_call 53; (with_reducible refine (laws_size29.calls k a0_0 a0_1 a0_2 _ _ l0_3 _ _ l0_4 0 t191 _ ?side1 ?side2 ?side3 ?side4 A3.out).mono ?_); (case side1 => repeat (first | exact (Kd.C_below HR0_3.out HB.out) | (with_reducible refine Kd.C_alloc ?_ _) | (with_reducible refine Kd.C_drewN ?_ _) | (with_reducible refine Kd.C_drew ?_))); (case side2 => exact HC0_3.out); (case side3 => repeat (first | exact (Kd.C_below HR0_4.out HB.out) | (with_reducible refine Kd.C_alloc ?_ _) | (with_reducible refine Kd.C_drewN ?_ _) | (with_reducible refine Kd.C_drew ?_))); (case side4 => exact HC0_4.out); rintro e w13 ⟨rfl, hb⟩; have n0_ := Aside0.mk (blk_below (g := gb190) (o := .cells #[.int .i64 a0_0, .string a0_1, .string a0_2, .slice A0_3 l0_3.length c0_3, .slice A0_4 l0_4.length c0_4] 25 (0, 0)) (by (with_reducible repeat (first | refine blk_drewN ?_ _ | refine blk_drew ?_ | refine blk_alloc ?_ _)); exact BK190.out) hb); have n1_ := Aside0.mk (below_step (by repeat (first | (with_reducible first | exact HB.out | apply below_alloc | apply pw_below_drewN | apply below_drew1 | refine below_set ?_ GE190.out) | exact HB.out)) hb); clear BK190; clear HB; have BK190 := n0_; have HB := n1_; clear n0_ n1_; (try clear hb); (try clear hb2); (try clear hk); (try clear hi)))
      go_ret
      exact ⟨by first | rfl | (simp [errW_none, errW_some] <;> rfl) | (simp [*, errW_none, errW_some] <;> rfl), by repeat (first | (with_reducible first | exact HB.out | apply below_alloc | apply pw_below_drewN | apply below_drew1 | refine below_set ?_ GE190.out) | exact HB.out)⟩
  · rw [if_neg c2] at H
    have c2b0 : (a0_0 == 0) = false := beq_eq_false_iff_ne.mpr c2
    have c2b1 : (a0_0 != 0) = true := bne_iff_ne.mpr c2
    by_cases c14 : a0_0 = 3
    · rw [if_pos c14] at H
      have c14b0 : (a0_0 == 3) = true := beq_iff_eq.mpr c14
      have c14b1 : (a0_0 != 3) = false := bne_eq_false_iff_eq.mpr c14
      clear c14
      replace H := Option.bind_eq_some_iff.mp H
      obtain ⟨t193, A150, H⟩ := H
      replace H : (if t193 ≤ 300 then ((laws_right29.f k a0_0 a0_1 a0_2 l0_3 l0_4 true).bind fun t194 => (some t194)) else (some false)) = some r := H
      have A15 := Aside0.mk A150
      clear A150
      by_cases c16 : t193 ≤ 300
      · rw [if_pos c16] at H
        have c16b0 : decide (t193 ≤ 300) = true := decide_eq_true c16
        clear c16
        replace H := Option.bind_eq_some_iff.mp H
        obtain ⟨t194, A170, H⟩ := H
        replace H : (some t194) = some r := H
        have A17 := Aside0.mk A170
        clear A170
        obtain rfl := Option.some.inj H
        go_enter Try.func15, Try.ntmps15
        go_wp2_with (first | ((with_reducible refine gate_dst (N := 1) rfl ?_); refine box_event ?hg (N := 1) ?hd (cs := #[.int .i64 a0_0, .string a0_1, .string a0_2, .slice A0_3 l0_3.length c0_3, .slice A0_4 l0_4.length c0_4]) (t := 25) ?hr ?_; (case hd => rfl); (case hg => rfl); (case hr => first | (go_simp; done) | (go_simp; rfl)); intro gb190 hg w18 hbox hb; have n0_ := Aside0.mk (below_step (by repeat (first | (with_reducible first | exact HB.out | apply below_alloc | apply pw_below_drewN | apply below_drew1) | exact HB.out)) hb); have n1_ := Aside0.mk (hbox); have n2_ := Aside0.mk ((by rw [hg]; exact (below_size (by repeat (first | (with_reducible first | exact HB.out | apply below_alloc | apply pw_below_drewN | apply below_drew1) | exact HB.out))) : w.heap.size ≤ gb190)); have n3_ := Aside0.mk ((by rw [hg]; exact (below_size (by repeat (first | (with_reducible first | exact HB.out | apply below_alloc | apply pw_below_drewN | apply below_drew1) | exact HB.out))) : w.heap.size ≤ gb190)); clear HB; have HB := n0_; have BK190 := n1_; have GW190 := n2_; have GE190 := n3_; clear n0_ n1_ n2_ n3_; clear hb hbox hg; have hcz19_0 : w18.cell? ⟨gb190, 0, none⟩ = some (.int .i64 a0_0) := (blk_cell BK190.out 0).trans rfl; have hcz19_1 : w18.cell? ⟨gb190, 1, none⟩ = some (.string a0_1) := (blk_cell BK190.out 1).trans rfl; have hcz19_2 : w18.cell? ⟨gb190, 2, none⟩ = some (.string a0_2) := (blk_cell BK190.out 2).trans rfl; have hcz19_3 : w18.cell? ⟨gb190, 3, none⟩ = some (.slice A0_3 l0_3.length c0_3) := (blk_cell BK190.out 3).trans rfl; have hcz19_4 : w18.cell? ⟨gb190, 4, none⟩ = some (.slice A0_4 l0_4.length c0_4) := (blk_cell BK190.out 4).trans rfl; have hfz19_0 := blk_frozen BK190.out 0; have hfz19_1 := blk_frozen BK190.out 1; have hfz19_2 := blk_frozen BK190.out 2; have hfz19_3 := blk_frozen BK190.out 3; have hfz19_4 := blk_frozen BK190.out 4) | (go_at_call 53; (with_reducible refine (laws_size29.calls k a0_0 a0_1 a0_2 _ _ l0_3 _ _ l0_4 0 t193 _ ?side1 ?side2 ?side3 ?side4 A15.out).mono ?_); (case side1 => repeat (first | exact (Kd.C_below HR0_3.out HB.out) | (with_reducible refine Kd.C_alloc ?_ _) | (with_reducible refine Kd.C_drewN ?_ _) | (with_reducible refine Kd.C_drew ?_))); (case side2 => exact HC0_3.out); (case side3 => repeat (first | exact (Kd.C_below HR0_4.out HB.out) | (with_reducible refine Kd.C_alloc ?_ _) | (with_reducible refine Kd.C_drewN ?_ _) | (with_reducible refine Kd.C_drew ?_))); (case side4 => exact HC0_4.out); rintro e w20 ⟨rfl, hb⟩; have n0_ := Aside0.mk (blk_below (g := gb190) (o := .cells #[.int .i64 a0_0, .string a0_1, .string a0_2, .slice A0_3 l0_3.length c0_3, .slice A0_4 l0_4.length c0_4] 25 (0, 0)) (by (with_reducible repeat (first | refine blk_drewN ?_ _ | refine blk_drew ?_ | refine blk_alloc ?_ _)); exact BK190.out) hb); have n1_ := Aside0.mk (below_step (by repeat (first | (with_reducible first | exact HB.out | apply below_alloc | apply pw_below_drewN | apply below_drew1 | refine below_set ?_ GE190.out) | exact HB.out)) hb); clear BK190; clear HB; have BK190 := n0_; have HB := n1_; clear n0_ n1_; (try clear hb); (try clear hb2); (try clear hk); (try clear hi); have hcz21_0 : w20.cell? ⟨gb190, 0, none⟩ = some (.int .i64 a0_0) := (blk_cell BK190.out 0).trans rfl; have hcz21_1 : w20.cell? ⟨gb190, 1, none⟩ = some (.string a0_1) := (blk_cell BK190.out 1).trans rfl; have hcz21_2 : w20.cell? ⟨gb190, 2, none⟩ = some (.string a0_2) := (blk_cell BK190.out 2).trans rfl; have hcz21_3 : w20.cell? ⟨gb190, 3, none⟩ = some (.slice A0_3 l0_3.length c0_3) := (blk_cell BK190.out 3).trans rfl; have hcz21_4 : w20.cell? ⟨gb190, 4, none⟩ = some (.slice A0_4 l0_4.length c0_4) := (blk_cell BK190.out 4).trans rfl; have hfz21_0 := blk_frozen BK190.out 0; have hfz21_1 := blk_frozen BK190.out 1; have hfz21_2 := blk_frozen BK190.out 2; have hfz21_3 := blk_frozen BK190.out 3; have hfz21_4 := blk_frozen BK190.out 4) | (go_at_call 54; (with_reducible refine (laws_right29.calls k a0_0 a0_1 a0_2 _ _ l0_3 _ _ l0_4 true t194 _ ?side1 ?side2 ?side3 ?side4 A17.out).mono ?_); (case side1 => repeat (first | exact (Kd.C_below HR0_3.out HB.out) | (with_reducible refine Kd.C_alloc ?_ _) | (with_reducible refine Kd.C_drewN ?_ _) | (with_reducible refine Kd.C_drew ?_))); (case side2 => exact HC0_3.out); (case side3 => repeat (first | exact (Kd.C_below HR0_4.out HB.out) | (with_reducible refine Kd.C_alloc ?_ _) | (with_reducible refine Kd.C_drewN ?_ _) | (with_reducible refine Kd.C_drew ?_))); (case side4 => exact HC0_4.out); rintro e w22 ⟨rfl, hb⟩; have n0_ := Aside0.mk (blk_below (g := gb190) (o := .cells #[.int .i64 a0_0, .string a0_1, .string a0_2, .slice A0_3 l0_3.length c0_3, .slice A0_4 l0_4.length c0_4] 25 (0, 0)) (by (with_reducible repeat (first | refine blk_drewN ?_ _ | refine blk_drew ?_ | refine blk_alloc ?_ _)); exact BK190.out) hb); have n1_ := Aside0.mk (below_step (by repeat (first | (with_reducible first | exact HB.out | apply below_alloc | apply pw_below_drewN | apply below_drew1 | refine below_set ?_ GE190.out) | exact HB.out)) hb); clear BK190; clear HB; have BK190 := n0_; have HB := n1_; clear n0_ n1_; (try clear hb); (try clear hb2); (try clear hk); (try clear hi)))
        go_ret
        exact ⟨by first | rfl | (simp [errW_none, errW_some] <;> rfl) | (simp [*, errW_none, errW_some] <;> rfl), by repeat (first | (with_reducible first | exact HB.out | apply below_alloc | apply pw_below_drewN | apply below_drew1 | refine below_set ?_ GE190.out) | exact HB.out)⟩
      · rw [if_neg c16] at H
        have c16b0 : decide (t193 ≤ 300) = false := decide_eq_false c16
        clear c16
        obtain rfl := Option.some.inj H
        go_enter Try.func15, Try.ntmps15
        go_wp2_with (first | ((with_reducible refine gate_dst (N := 1) rfl ?_); refine box_event ?hg (N := 1) ?hd (cs := #[.int .i64 a0_0, .string a0_1, .string a0_2, .slice A0_3 l0_3.length c0_3, .slice A0_4 l0_4.length c0_4]) (t := 25) ?hr ?_; (case hd => rfl); (case hg => rfl); (case hr => first | (go_simp; done) | (go_simp; rfl)); intro gb190 hg w23 hbox hb; have n0_ := Aside0.mk (below_step (by repeat (first | (with_reducible first | exact HB.out | apply below_alloc | apply pw_below_drewN | apply below_drew1) | exact HB.out)) hb); have n1_ := Aside0.mk (hbox); have n2_ := Aside0.mk ((by rw [hg]; exact (below_size (by repeat (first | (with_reducible first | exact HB.out | apply below_alloc | apply pw_below_drewN | apply below_drew1) | exact HB.out))) : w.heap.size ≤ gb190)); have n3_ := Aside0.mk ((by rw [hg]; exact (below_size (by repeat (first | (with_reducible first | exact HB.out | apply below_alloc | apply pw_below_drewN | apply below_drew1) | exact HB.out))) : w.heap.size ≤ gb190)); clear HB; have HB := n0_; have BK190 := n1_; have GW190 := n2_; have GE190 := n3_; clear n0_ n1_ n2_ n3_; clear hb hbox hg; have hcz24_0 : w23.cell? ⟨gb190, 0, none⟩ = some (.int .i64 a0_0) := (blk_cell BK190.out 0).trans rfl; have hcz24_1 : w23.cell? ⟨gb190, 1, none⟩ = some (.string a0_1) := (blk_cell BK190.out 1).trans rfl; have hcz24_2 : w23.cell? ⟨gb190, 2, none⟩ = some (.string a0_2) := (blk_cell BK190.out 2).trans rfl; have hcz24_3 : w23.cell? ⟨gb190, 3, none⟩ = some (.slice A0_3 l0_3.length c0_3) := (blk_cell BK190.out 3).trans rfl; have hcz24_4 : w23.cell? ⟨gb190, 4, none⟩ = some (.slice A0_4 l0_4.length c0_4) := (blk_cell BK190.out 4).trans rfl; have hfz24_0 := blk_frozen BK190.out 0; have hfz24_1 := blk_frozen BK190.out 1; have hfz24_2 := blk_frozen BK190.out 2; have hfz24_3 := blk_frozen BK190.out 3; have hfz24_4 := blk_frozen BK190.out 4) | (go_at_call 53; (with_reducible refine (laws_size29.calls k a0_0 a0_1 a0_2 _ _ l0_3 _ _ l0_4 0 t193 _ ?side1 ?side2 ?side3 ?side4 A15.out).mono ?_); (case side1 => repeat (first | exact (Kd.C_below HR0_3.out HB.out) | (with_reducible refine Kd.C_alloc ?_ _) | (with_reducible refine Kd.C_drewN ?_ _) | (with_reducible refine Kd.C_drew ?_))); (case side2 => exact HC0_3.out); (case side3 => repeat (first | exact (Kd.C_below HR0_4.out HB.out) | (with_reducible refine Kd.C_alloc ?_ _) | (with_reducible refine Kd.C_drewN ?_ _) | (with_reducible refine Kd.C_drew ?_))); (case side4 => exact HC0_4.out); rintro e w25 ⟨rfl, hb⟩; have n0_ := Aside0.mk (blk_below (g := gb190) (o := .cells #[.int .i64 a0_0, .string a0_1, .string a0_2, .slice A0_3 l0_3.length c0_3, .slice A0_4 l0_4.length c0_4] 25 (0, 0)) (by (with_reducible repeat (first | refine blk_drewN ?_ _ | refine blk_drew ?_ | refine blk_alloc ?_ _)); exact BK190.out) hb); have n1_ := Aside0.mk (below_step (by repeat (first | (with_reducible first | exact HB.out | apply below_alloc | apply pw_below_drewN | apply below_drew1 | refine below_set ?_ GE190.out) | exact HB.out)) hb); clear BK190; clear HB; have BK190 := n0_; have HB := n1_; clear n0_ n1_; (try clear hb); (try clear hb2); (try clear hk); (try clear hi)))
        go_ret
        exact ⟨by first | rfl | (simp [errW_none, errW_some] <;> rfl) | (simp [*, errW_none, errW_some] <;> rfl), by repeat (first | (with_reducible first | exact HB.out | apply below_alloc | apply pw_below_drewN | apply below_drew1 | refine below_set ?_ GE190.out) | exact HB.out)⟩
    · rw [if_neg c14] at H
      have c14b0 : (a0_0 == 3) = false := beq_eq_false_iff_ne.mpr c14
      have c14b1 : (a0_0 != 3) = true := bne_iff_ne.mpr c14
      obtain rfl := Option.some.inj H
      go_enter Try.func15, Try.ntmps15
      go_wp2_with (first | ((with_reducible refine gate_dst (N := 1) rfl ?_); refine box_event ?hg (N := 1) ?hd (cs := #[.int .i64 a0_0, .string a0_1, .string a0_2, .slice A0_3 l0_3.length c0_3, .slice A0_4 l0_4.length c0_4]) (t := 25) ?hr ?_; (case hd => rfl); (case hg => rfl); (case hr => first | (go_simp; done) | (go_simp; rfl)); intro gb190 hg w26 hbox hb; have n0_ := Aside0.mk (below_step (by repeat (first | (with_reducible first | exact HB.out | apply below_alloc | apply pw_below_drewN | apply below_drew1) | exact HB.out)) hb); have n1_ := Aside0.mk (hbox); have n2_ := Aside0.mk ((by rw [hg]; exact (below_size (by repeat (first | (with_reducible first | exact HB.out | apply below_alloc | apply pw_below_drewN | apply below_drew1) | exact HB.out))) : w.heap.size ≤ gb190)); have n3_ := Aside0.mk ((by rw [hg]; exact (below_size (by repeat (first | (with_reducible first | exact HB.out | apply below_alloc | apply pw_below_drewN | apply below_drew1) | exact HB.out))) : w.heap.size ≤ gb190)); clear HB; have HB := n0_; have BK190 := n1_; have GW190 := n2_; have GE190 := n3_; clear n0_ n1_ n2_ n3_; clear hb hbox hg; have hcz27_0 : w26.cell? ⟨gb190, 0, none⟩ = some (.int .i64 a0_0) := (blk_cell BK190.out 0).trans rfl; have hcz27_1 : w26.cell? ⟨gb190, 1, none⟩ = some (.string a0_1) := (blk_cell BK190.out 1).trans rfl; have hcz27_2 : w26.cell? ⟨gb190, 2, none⟩ = some (.string a0_2) := (blk_cell BK190.out 2).trans rfl; have hcz27_3 : w26.cell? ⟨gb190, 3, none⟩ = some (.slice A0_3 l0_3.length c0_3) := (blk_cell BK190.out 3).trans rfl; have hcz27_4 : w26.cell? ⟨gb190, 4, none⟩ = some (.slice A0_4 l0_4.length c0_4) := (blk_cell BK190.out 4).trans rfl; have hfz27_0 := blk_frozen BK190.out 0; have hfz27_1 := blk_frozen BK190.out 1; have hfz27_2 := blk_frozen BK190.out 2; have hfz27_3 := blk_frozen BK190.out 3; have hfz27_4 := blk_frozen BK190.out 4))
      go_ret
      exact ⟨by first | rfl | (simp [errW_none, errW_some] <;> rfl) | (simp [*, errW_none, errW_some] <;> rfl), by repeat (first | (with_reducible first | exact HB.out | apply below_alloc | apply pw_below_drewN | apply below_drew1 | refine below_set ?_ GE190.out) | exact HB.out)⟩

/-! ### spec_At29: function 23 -/
def spec_At29.l0 : Nat → List Int → Int → Int → Int → ByteArray → ByteArray → List (S34) → List (S25) → Option (Int × ByteArray × ByteArray × (List (S34)) × (List (S25)) × Bool)
  | 0, _, _, _, _, _, _, _, _ => none
  | k + 1, x8, x9, x10, x196000, x196001, x196002, x196003, x196004 => if x10 < x9 then (if 0 ≤ x10 then (if x10 < (x8.length : Int) then (if (rd x8 x10) < 0 then (some (0, (⟨#[]⟩ : ByteArray), (⟨#[]⟩ : ByteArray), ([] : List (S34)), ([] : List (S25)), false)) else (if (rd x8 x10) ≥ (x196004.length : Int) then (some (0, (⟨#[]⟩ : ByteArray), (⟨#[]⟩ : ByteArray), ([] : List (S34)), ([] : List (S25)), false)) else (if 0 ≤ (rd x8 x10) then (if (rd x8 x10) < (x196004.length : Int) then (spec_At29.l0 k x8 x9 (wrap64 (x10 + 1)) ((rd_T25 x196004 (rd x8 x10)).f0) ((rd_T25 x196004 (rd x8 x10)).f1) ((rd_T25 x196004 (rd x8 x10)).f2) ((rd_T25 x196004 (rd x8 x10)).f3) ((rd_T25 x196004 (rd x8 x10)).f4)) else (none)) else (none)))) else (none)) else (none)) else (some (x196000, x196001, x196002, x196003, x196004, true))
def spec_At29.f (k : Nat) (a0_0 : Int) (a0_1 : ByteArray) (a0_2 : ByteArray) (l0_3 : List (S34)) (l0_4 : List (S25)) (l1 : List Int) : Option (Int × ByteArray × ByteArray × (List (S34)) × (List (S25)) × Bool) := spec_At29.l0 k l1 (l1.length : Int) 0 a0_0 a0_1 a0_2 l0_3 l0_4
theorem spec_At29.mono_l : ∀ k, (∀ y0 y1 y2 y3 y4 y5 y6 y7, LeO (spec_At29.l0 k y0 y1 y2 y3 y4 y5 y6 y7) (spec_At29.l0 (k + 1) y0 y1 y2 y3 y4 y5 y6 y7))
  | 0 => fun _ _ _ _ _ _ _ _ r h => by simp [spec_At29.l0] at h
  | k + 1 => by
    have ih0 := spec_At29.mono_l k
    · intro y0 y1 y2 y3 y4 y5 y6 y7
      unfold spec_At29.l0
      repeat' first
      | (with_reducible exact ih0 _ _ _ _ _ _ _ _)
      | (with_reducible exact LeO.refl _)
      | (with_reducible exact LeO.none _)
      | (with_reducible refine LeO.ite ?_ ?_)
      | (with_reducible refine LeO.bind ?_ (fun _ => ?_))
      | exact ih0 _ _ _ _ _ _ _ _
      | exact LeO.none _
      | refine LeO.ite ?_ ?_
      | refine LeO.bind ?_ (fun _ => ?_)
theorem spec_At29.mono : ∀ a0 a1 a2 a3 a4 a5 k, LeO (spec_At29.f k a0 a1 a2 a3 a4 a5) (spec_At29.f (k + 1) a0 a1 a2 a3 a4 a5) := by
  intro a0 a1 a2 a3 a4 a5 k
  have ih0 := spec_At29.mono_l k
  unfold spec_At29.f
  repeat' first
      | (with_reducible exact ih0 _ _ _ _ _ _ _ _)
      | (with_reducible exact LeO.refl _)
      | (with_reducible exact LeO.none _)
      | (with_reducible refine LeO.ite ?_ ?_)
      | (with_reducible refine LeO.bind ?_ (fun _ => ?_))
      | exact ih0 _ _ _ _ _ _ _ _
      | exact LeO.none _
      | refine LeO.ite ?_ ?_
      | refine LeO.bind ?_ (fun _ => ?_)
set_option maxHeartbeats 8000000 in
set_option maxRecDepth 100000 in
theorem spec_At29.calls (k : Nat) (a0_0 : Int) (a0_1 : ByteArray) (a0_2 : ByteArray) (P0_3_ : Nat → Prop) (A0_3 : Option Addr) (c0_3 : Nat) (l0_3 : List (S34)) (P0_4_ : Nat → Prop) (A0_4 : Option Addr) (c0_4 : Nat) (l0_4 : List (S25)) (A1 : Option Addr) (c1 : Nat) (l1 : List Int) (r1 : Int) (r2 : ByteArray) (r3 : ByteArray) (r4 : List (S34)) (r5 : List (S25)) (r6 : Bool) (w : World) (hs0_3 : Kd.V k34 34 w w.heap.size (fun k_ => P0_3_ k_) (.slice A0_3 l0_3.length c0_3) l0_3) (hs0_4 : Kd.V k25 25 w w.heap.size (fun k_ => P0_4_ k_) (.slice A0_4 l0_4.length c0_4) l0_4) (hr1 : Kd.C (Kd.int .i64) w A1 l1.length l1) (hc1 : l1.length ≤ c1) (h : spec_At29.f k a0_0 a0_1 a0_2 l0_3 l0_4 l1 = some (r1, r2, r3, r4, r5, r6)) :
    Calls Try.prog 23 #[.agg #[.int .i64 a0_0, .string a0_1, .string a0_2, .slice A0_3 l0_3.length c0_3, .slice A0_4 l0_4.length c0_4], .slice A1 l1.length c1] w fun e w' => ∃ v3_ v4_ : Value, e = .returned (.tuple #[.agg #[.int .i64 r1, .string r2, .string r3, v3_, v4_], .bool r6]) ∧ Kd.V k34 34 w' w.heap.size (fun k_ => ((P0_3_ k_ ∨ P0_4_ k_) ∨ w.heap.size ≤ k_)) v3_ r4 ∧ Kd.V k25 25 w' w.heap.size (fun k_ => ((P0_3_ k_ ∨ P0_4_ k_) ∨ w.heap.size ≤ k_)) v4_ r5 ∧ Below w.heap.size w w' := by
  have hu25 := Try.underlying25
  have HO0_3 := Aside0.mk (show Kd.V k34 34 w w.heap.size (fun k_ => ((P0_3_ k_ ∨ P0_4_ k_) ∨ w.heap.size ≤ k_)) (.slice A0_3 l0_3.length c0_3) l0_3 from Kd.V_mono hs0_3 (fun k_ hk => .inl (.inl hk)))
  have HO0_4 := Aside0.mk (show Kd.V k25 25 w w.heap.size (fun k_ => ((P0_3_ k_ ∨ P0_4_ k_) ∨ w.heap.size ≤ k_)) (.slice A0_4 l0_4.length c0_4) l0_4 from Kd.V_mono hs0_4 (fun k_ hk => .inl (.inr hk)))
  have HR1 := Aside0.mk hr1
  have HC1 := Aside0.mk hc1
  clear hr1 hc1
  have HB := Aside0.mk (Below.refl w.heap.size w)
  have H : (spec_At29.l0 k l1 (l1.length : Int) 0 a0_0 a0_1 a0_2 l0_3 l0_4) = some (r1, r2, r3, r4, r5, r6) := h
  clear h
  have H' := Aside0.mk H
  clear H
  go_enter Try.func23, Try.ntmps23
  go_wp2_with (first | ((with_reducible refine gate_dst (N := 2) rfl ?_); (try (refine gate_guard (by rfl) ?_; dsimp only)); refine box_event ?hg (N := 2) ?hd (cs := #[.int .i64 a0_0, .string a0_1, .string a0_2, .slice A0_3 l0_3.length c0_3, .slice A0_4 l0_4.length c0_4]) (t := 25) ?hr ?_; (case hd => rfl); (case hg => rfl); (case hr => first | (go_simp; done) | (go_simp; rfl)); intro gb195 hg w3 hbox hb; have n0_ := Aside0.mk (Kd.V_below (Kd.V_elderB (by (with_reducible repeat (first | apply Kd.V_alloc | apply Kd.V_drewN | apply Kd.V_drew)); exact HO0_3.out) gb195 (Nat.le_of_eq hg.symm)) hb); have n1_ := Aside0.mk (Kd.V_below (Kd.V_elderB (by (with_reducible repeat (first | apply Kd.V_alloc | apply Kd.V_drewN | apply Kd.V_drew)); exact HO0_4.out) gb195 (Nat.le_of_eq hg.symm)) hb); have n2_ := Aside0.mk (below_step (by repeat (first | (with_reducible first | exact HB.out | apply below_alloc | apply pw_below_drewN | apply below_drew1) | exact HB.out)) hb); have n3_ := Aside0.mk (hbox); have n4_ := Aside0.mk ((by rw [hg]; exact (below_size (by repeat (first | (with_reducible first | exact HB.out | apply below_alloc | apply pw_below_drewN | apply below_drew1) | exact HB.out))) : w.heap.size ≤ gb195)); have n5_ := Aside0.mk ((by rw [hg]; exact (below_size (by repeat (first | (with_reducible first | exact HB.out | apply below_alloc | apply pw_below_drewN | apply below_drew1) | exact HB.out))) : w.heap.size ≤ gb195)); clear HO0_3; clear HO0_4; clear HB; have HO0_3 := n0_; have HO0_4 := n1_; have HB := n2_; have BK195 := n3_; have GW195 := n4_; have GE195 := n5_; clear n0_ n1_ n2_ n3_ n4_ n5_; clear hb hbox hg) | ((with_reducible refine gate_dst (N := 4) rfl ?_); (try (refine gate_guard (by rfl) ?_; dsimp only)); refine box_event ?hg (N := 4) ?hd (cs := #[.int .i64 0, .string (⟨#[]⟩ : ByteArray), .string (⟨#[]⟩ : ByteArray), .slice none 0 0, .slice none 0 0]) (t := 25) ?hr ?_; (case hd => rfl); (case hg => rfl); (case hr => first | (go_simp; done) | (go_simp; rfl)); intro gb196 hg w4 hbox hb; have n0_ := Aside0.mk (Kd.V_below (Kd.V_elderB (by (with_reducible repeat (first | apply Kd.V_alloc | apply Kd.V_drewN | apply Kd.V_drew)); exact HO0_3.out) gb196 (Nat.le_of_eq hg.symm)) hb); have n1_ := Aside0.mk (Kd.V_below (Kd.V_elderB (by (with_reducible repeat (first | apply Kd.V_alloc | apply Kd.V_drewN | apply Kd.V_drew)); exact HO0_4.out) gb196 (Nat.le_of_eq hg.symm)) hb); have n2_ := Aside0.mk (blk_below (g := gb195) (o := .cells #[.int .i64 a0_0, .string a0_1, .string a0_2, .slice A0_3 l0_3.length c0_3, .slice A0_4 l0_4.length c0_4] 25 (0, 0)) (by (with_reducible repeat (first | refine blk_drewN ?_ _ | refine blk_drew ?_ | refine blk_alloc ?_ _)); exact BK195.out) hb); have n3_ := Aside0.mk (below_step (by repeat (first | (with_reducible first | exact HB.out | apply below_alloc | apply pw_below_drewN | apply below_drew1 | refine below_set ?_ GE195.out) | exact HB.out)) hb); have n4_ := Aside0.mk (hbox); have n5_ := Aside0.mk ((by rw [hg]; exact (below_size (by repeat (first | (with_reducible first | exact HB.out | apply below_alloc | apply pw_below_drewN | apply below_drew1 | refine below_set ?_ GE195.out) | exact HB.out))) : w.heap.size ≤ gb196)); have n6_ := Aside0.mk ((by rw [hg]; exact (below_size (by repeat (first | (with_reducible first | exact HB.out | apply below_alloc | apply pw_below_drewN | apply below_drew1 | refine below_set ?_ GE195.out) | exact HB.out))) : w.heap.size ≤ gb196)); have n7_ := Aside0.mk ((by rw [hg]; exact Nat.ne_of_lt (blk_lt (g := gb195) (o := .cells #[.int .i64 a0_0, .string a0_1, .string a0_2, .slice A0_3 l0_3.length c0_3, .slice A0_4 l0_4.length c0_4] 25 (0, 0)) (by (with_reducible repeat (first | refine blk_drewN ?_ _ | refine blk_drew ?_ | refine blk_alloc ?_ _)); exact BK195.out)) : gb195 ≠ gb196)); have n8_ := Aside0.mk ((by rw [hg]; exact Nat.ne_of_gt (blk_lt (g := gb195) (o := .cells #[.int .i64 a0_0, .string a0_1, .string a0_2, .slice A0_3 l0_3.length c0_3, .slice A0_4 l0_4.length c0_4] 25 (0, 0)) (by (with_reducible repeat (first | refine blk_drewN ?_ _ | refine blk_drew ?_ | refine blk_alloc ?_ _)); exact BK195.out)) : gb196 ≠ gb195)); clear HO0_3; clear HO0_4; clear BK195; clear HB; have HO0_3 := n0_; have HO0_4 := n1_; have BK195 := n2_; have HB := n3_; have BK196 := n4_; have GW196 := n5_; have GE196 := n6_; have NB195_196 := n7_; have NB196_195 := n8_; clear n0_ n1_ n2_ n3_ n4_ n5_ n6_ n7_ n8_; clear hb hbox hg))
  go_loopg [10] k (fun kq v10 w' => ∃ (x10_1 : Int) (x196000_1 : Int) (x196001_1 : ByteArray) (x196002_1 : ByteArray) (x196003_1 : List (S34)) (x196004_1 : List (S25)) (x197000_1 : Int) (x197001_1 : ByteArray) (x197002_1 : ByteArray) (u196003 : Value) (u196004 : Value), v10 = .int .i64 x10_1 ∧ Aside0 (spec_At29.l0 kq l1 (l1.length : Int) x10_1 x196000_1 x196001_1 x196002_1 x196003_1 x196004_1 = some (r1, r2, r3, r4, r5, r6)) ∧ Aside0 (kq ≤ k) ∧ Aside0 (Kd.V k34 34 w' w.heap.size (fun k_ => ((P0_3_ k_ ∨ P0_4_ k_) ∨ w.heap.size ≤ k_) ∧ k_ ≠ gb195 ∧ k_ ≠ gb196) u196003 x196003_1) ∧ Aside0 (Kd.V k25 25 w' w.heap.size (fun k_ => ((P0_3_ k_ ∨ P0_4_ k_) ∨ w.heap.size ≤ k_) ∧ k_ ≠ gb195 ∧ k_ ≠ gb196) u196004 x196004_1) ∧ Aside0 (w'.heap[gb195]? = some (.cells #[.int .i64 x196000_1, .string x196001_1, .string x196002_1, u196003, u196004] 25 (0, 0))) ∧ Aside0 (w'.heap[gb196]? = some (.cells #[.int .i64 x197000_1, .string x197001_1, .string x197002_1, (.slice none 0 0), (.slice none 0 0)] 25 (0, 0))) ∧ Aside0 (Below w.heap.size w w'))
  case atStart => exact ⟨(0), (a0_0), (a0_1), (a0_2), (l0_3), (l0_4), (0), ((⟨#[]⟩ : ByteArray)), ((⟨#[]⟩ : ByteArray)), (.slice A0_3 l0_3.length c0_3), (.slice A0_4 l0_4.length c0_4), (by first | rfl | (simp; done) | (simp [*]; done)), H', ⟨Nat.le_refl _⟩, ⟨by (with_reducible repeat (first | apply Kd.V_alloc | apply Kd.V_drewN | apply Kd.V_drew)); exact Kd.V_mono HO0_3.out (fun _ hk => ⟨hk.1.1, ⟨hk.1.2, hk.2⟩⟩)⟩, ⟨by (with_reducible repeat (first | apply Kd.V_alloc | apply Kd.V_drewN | apply Kd.V_drew)); exact Kd.V_mono HO0_4.out (fun _ hk => ⟨hk.1.1, ⟨hk.1.2, hk.2⟩⟩)⟩, ⟨by (with_reducible repeat (first | refine blk_drewN ?_ _ | refine blk_drew ?_ | refine blk_alloc ?_ _)); exact BK195.out⟩, ⟨by (with_reducible repeat (first | refine blk_drewN ?_ _ | refine blk_drew ?_ | refine blk_alloc ?_ _)); exact BK196.out⟩, ⟨by repeat (first | (with_reducible first | exact HB.out | apply below_alloc | apply pw_below_drewN | apply below_drew1 | refine below_set ?_ GE195.out | refine below_set ?_ GE196.out) | exact HB.out)⟩⟩
  case round =>
    clear H'
    try clear c1
    try clear c2
    try clear p2
    obtain ⟨x10_1, x196000_1, x196001_1, x196002_1, x196003_1, x196004_1, x197000_1, x197001_1, x197002_1, u196003, u196004, rfl, HA, HK1, HO_196003, HO_196004, BK195, BK196, HB⟩ := hrel
    cases gk with
    | zero => exact absurd HA.out (by simp [spec_At29.l0])
    | succ k1 =>
      have H := HA.out
      clear HA
      simp only [spec_At29.l0] at H
      by_cases c5 : x10_1 < (l1.length : Int)
      · rw [if_pos c5] at H
        have c5b0 : decide (x10_1 < (l1.length : Int)) = true := decide_eq_true c5
        clear c5
        by_cases c6 : 0 ≤ x10_1
        · rw [if_pos c6] at H
          have c6b0 : decide (0 ≤ x10_1) = true := decide_eq_true c6
          clear c6
          by_cases c7 : x10_1 < (l1.length : Int)
          · rw [if_pos c7] at H
            have c7b0 : decide (x10_1 < (l1.length : Int)) = true := decide_eq_true c7
            clear c7
            by_cases c8 : (rd l1 x10_1) < 0
            · rw [if_pos c8] at H
              have c8b0 : decide ((rd l1 x10_1) < 0) = true := decide_eq_true c8
              clear c8
              simp only [Option.some.injEq, Prod.mk.injEq] at H
              obtain ⟨rfl, rfl, rfl, rfl, rfl, rfl⟩ := H
              have p197 : 0 ≤ (x10_1 : Int) := of_decide_eq_true (by first | (with_reducible assumption) | assumption)
              have q197 : x10_1 < (l1.length : Int) := of_decide_eq_true (by first | (with_reducible assumption) | assumption)
              obtain ⟨ad197, e197, hx197_0⟩ := Kd.at_int HR1.out x10_1 p197 q197
              cases e197
              replace hx197_0 := (HB.out.cell (World.block_lt_of_cell? w _ hx197_0)).trans hx197_0
              replace p197 := eq_true p197
              replace q197 := eq_true q197
              have hnb9 := NB196_195.out
              have hnc9 := NB195_196.out
              have hcz10_0 : wr.cell? ⟨gb196, 0, none⟩ = some (.int .i64 x197000_1) := (blk_cell BK196.out 0).trans rfl
              have hcz10_1 : wr.cell? ⟨gb196, 1, none⟩ = some (.string x197001_1) := (blk_cell BK196.out 1).trans rfl
              have hcz10_2 : wr.cell? ⟨gb196, 2, none⟩ = some (.string x197002_1) := (blk_cell BK196.out 2).trans rfl
              have hcz10_3 : wr.cell? ⟨gb196, 3, none⟩ = some (.slice none 0 0) := (blk_cell BK196.out 3).trans rfl
              have hcz10_4 : wr.cell? ⟨gb196, 4, none⟩ = some (.slice none 0 0) := (blk_cell BK196.out 4).trans rfl
              have hfz10_0 := blk_frozen BK196.out 0
              have hfz10_1 := blk_frozen BK196.out 1
              have hfz10_2 := blk_frozen BK196.out 2
              have hfz10_3 := blk_frozen BK196.out 3
              have hfz10_4 := blk_frozen BK196.out 4
              go_wp2
              refine bodyPost_ret (results_ct rfl _ _ gb196 25 #[.int .i64 0, .string (⟨#[]⟩ : ByteArray), .string (⟨#[]⟩ : ByteArray), .slice none 0 0, .slice none 0 0] (0, 0) _ rfl (by (with_reducible repeat (first | refine blk_drewN ?_ _ | refine blk_drew ?_ | refine blk_alloc ?_ _)); refine blk_put (cs := #[.int .i64 0, .string (⟨#[]⟩ : ByteArray), .string (⟨#[]⟩ : ByteArray), .slice none 0 0, .slice none 0 0]) ?_ 4 _ rfl; (with_reducible repeat (first | refine blk_drewN ?_ _ | refine blk_drew ?_ | refine blk_alloc ?_ _)); refine blk_put (cs := #[.int .i64 0, .string (⟨#[]⟩ : ByteArray), .string (⟨#[]⟩ : ByteArray), .slice none 0 0, .slice none 0 0]) ?_ 3 _ rfl; (with_reducible repeat (first | refine blk_drewN ?_ _ | refine blk_drew ?_ | refine blk_alloc ?_ _)); refine blk_put (cs := #[.int .i64 0, .string (⟨#[]⟩ : ByteArray), .string x197002_1, .slice none 0 0, .slice none 0 0]) ?_ 2 _ rfl; (with_reducible repeat (first | refine blk_drewN ?_ _ | refine blk_drew ?_ | refine blk_alloc ?_ _)); refine blk_put (cs := #[.int .i64 0, .string x197001_1, .string x197002_1, .slice none 0 0, .slice none 0 0]) ?_ 1 _ rfl; (with_reducible repeat (first | refine blk_drewN ?_ _ | refine blk_drew ?_ | refine blk_alloc ?_ _)); refine blk_put (cs := #[.int .i64 x197000_1, .string x197001_1, .string x197002_1, .slice none 0 0, .slice none 0 0]) ?_ 0 _ rfl; (with_reducible repeat (first | refine blk_drewN ?_ _ | refine blk_drew ?_ | refine blk_alloc ?_ _)); exact BK196.out) Try.underlying25 rfl (by kernel_rfl)) rfl ?_
              exact ⟨_, _, by first | rfl | (simp [errW_none, errW_some] <;> rfl) | (simp [*, errW_none, errW_some] <;> rfl), Kd.V_mono (Kd.V_nil _ _ _ _ _) (fun k_ hk => by first | exact ⟨(.inr (hk.1)), hk.2⟩ | exact (.inr (hk))), Kd.V_mono (Kd.V_nil _ _ _ _ _) (fun k_ hk => by first | exact ⟨(.inr (hk.1)), hk.2⟩ | exact (.inr (hk))), by repeat (first | (with_reducible first | exact HB.out | apply below_alloc | apply pw_below_drewN | apply below_drew1 | refine below_set ?_ GE195.out | refine below_set ?_ GE196.out) | exact HB.out)⟩
            · rw [if_neg c8] at H
              have c8b0 : decide ((rd l1 x10_1) < 0) = false := decide_eq_false c8
              clear c8
              by_cases c11 : (rd l1 x10_1) ≥ (x196004_1.length : Int)
              · rw [if_pos c11] at H
                have c11b0 : decide ((x196004_1.length : Int) ≤ (rd l1 x10_1)) = true := decide_eq_true c11
                clear c11
                simp only [Option.some.injEq, Prod.mk.injEq] at H
                obtain ⟨rfl, rfl, rfl, rfl, rfl, rfl⟩ := H
                have p197 : 0 ≤ (x10_1 : Int) := of_decide_eq_true (by first | (with_reducible assumption) | assumption)
                have q197 : x10_1 < (l1.length : Int) := of_decide_eq_true (by first | (with_reducible assumption) | assumption)
                obtain ⟨ad197, e197, hx197_0⟩ := Kd.at_int HR1.out x10_1 p197 q197
                cases e197
                replace hx197_0 := (HB.out.cell (World.block_lt_of_cell? w _ hx197_0)).trans hx197_0
                replace p197 := eq_true p197
                replace q197 := eq_true q197
                have hnb12 := NB195_196.out
                have hnc12 := NB196_195.out
                have hcz13_0 : wr.cell? ⟨gb195, 0, none⟩ = some (.int .i64 x196000_1) := (blk_cell BK195.out 0).trans rfl
                have hcz13_1 : wr.cell? ⟨gb195, 1, none⟩ = some (.string x196001_1) := (blk_cell BK195.out 1).trans rfl
                have hcz13_2 : wr.cell? ⟨gb195, 2, none⟩ = some (.string x196002_1) := (blk_cell BK195.out 2).trans rfl
                have hcz13_3 : wr.cell? ⟨gb195, 3, none⟩ = some (u196003) := (blk_cell BK195.out 3).trans rfl
                have hcz13_4 : wr.cell? ⟨gb195, 4, none⟩ = some (u196004) := (blk_cell BK195.out 4).trans rfl
                have hfz13_0 := blk_frozen BK195.out 0
                have hfz13_1 := blk_frozen BK195.out 1
                have hfz13_2 := blk_frozen BK195.out 2
                have hfz13_3 := blk_frozen BK195.out 3
                have hfz13_4 := blk_frozen BK195.out 4
                obtain ⟨Ao14, co14, eo14⟩ := Kd.V_slice HO_196004.out
                subst eo14
                have hcz15_0 : wr.cell? ⟨gb196, 0, none⟩ = some (.int .i64 x197000_1) := (blk_cell BK196.out 0).trans rfl
                have hcz15_1 : wr.cell? ⟨gb196, 1, none⟩ = some (.string x197001_1) := (blk_cell BK196.out 1).trans rfl
                have hcz15_2 : wr.cell? ⟨gb196, 2, none⟩ = some (.string x197002_1) := (blk_cell BK196.out 2).trans rfl
                have hcz15_3 : wr.cell? ⟨gb196, 3, none⟩ = some (.slice none 0 0) := (blk_cell BK196.out 3).trans rfl
                have hcz15_4 : wr.cell? ⟨gb196, 4, none⟩ = some (.slice none 0 0) := (blk_cell BK196.out 4).trans rfl
                have hfz15_0 := blk_frozen BK196.out 0
                have hfz15_1 := blk_frozen BK196.out 1
                have hfz15_2 := blk_frozen BK196.out 2
                have hfz15_3 := blk_frozen BK196.out 3
                have hfz15_4 := blk_frozen BK196.out 4
                go_wp2
                refine bodyPost_ret (results_ct rfl _ _ gb196 25 #[.int .i64 0, .string (⟨#[]⟩ : ByteArray), .string (⟨#[]⟩ : ByteArray), .slice none 0 0, .slice none 0 0] (0, 0) _ rfl (by (with_reducible repeat (first | refine blk_drewN ?_ _ | refine blk_drew ?_ | refine blk_alloc ?_ _)); refine blk_put (cs := #[.int .i64 0, .string (⟨#[]⟩ : ByteArray), .string (⟨#[]⟩ : ByteArray), .slice none 0 0, .slice none 0 0]) ?_ 4 _ rfl; (with_reducible repeat (first | refine blk_drewN ?_ _ | refine blk_drew ?_ | refine blk_alloc ?_ _)); refine blk_put (cs := #[.int .i64 0, .string (⟨#[]⟩ : ByteArray), .string (⟨#[]⟩ : ByteArray), .slice none 0 0, .slice none 0 0]) ?_ 3 _ rfl; (with_reducible repeat (first | refine blk_drewN ?_ _ | refine blk_drew ?_ | refine blk_alloc ?_ _)); refine blk_put (cs := #[.int .i64 0, .string (⟨#[]⟩ : ByteArray), .string x197002_1, .slice none 0 0, .slice none 0 0]) ?_ 2 _ rfl; (with_reducible repeat (first | refine blk_drewN ?_ _ | refine blk_drew ?_ | refine blk_alloc ?_ _)); refine blk_put (cs := #[.int .i64 0, .string x197001_1, .string x197002_1, .slice none 0 0, .slice none 0 0]) ?_ 1 _ rfl; (with_reducible repeat (first | refine blk_drewN ?_ _ | refine blk_drew ?_ | refine blk_alloc ?_ _)); refine blk_put (cs := #[.int .i64 x197000_1, .string x197001_1, .string x197002_1, .slice none 0 0, .slice none 0 0]) ?_ 0 _ rfl; (with_reducible repeat (first | refine blk_drewN ?_ _ | refine blk_drew ?_ | refine blk_alloc ?_ _)); exact BK196.out) Try.underlying25 rfl (by kernel_rfl)) rfl ?_
                exact ⟨_, _, by first | rfl | (simp [errW_none, errW_some] <;> rfl) | (simp [*, errW_none, errW_some] <;> rfl), Kd.V_mono (Kd.V_nil _ _ _ _ _) (fun k_ hk => by first | exact ⟨(.inr (hk.1)), hk.2⟩ | exact (.inr (hk))), Kd.V_mono (Kd.V_nil _ _ _ _ _) (fun k_ hk => by first | exact ⟨(.inr (hk.1)), hk.2⟩ | exact (.inr (hk))), by repeat (first | (with_reducible first | exact HB.out | apply below_alloc | apply pw_below_drewN | apply below_drew1 | refine below_set ?_ GE195.out | refine below_set ?_ GE196.out) | exact HB.out)⟩
              · rw [if_neg c11] at H
                have c11b0 : decide ((x196004_1.length : Int) ≤ (rd l1 x10_1)) = false := decide_eq_false c11
                clear c11
                by_cases c16 : 0 ≤ (rd l1 x10_1)
                · rw [if_pos c16] at H
                  have c16b0 : decide (0 ≤ (rd l1 x10_1)) = true := decide_eq_true c16
                  clear c16
                  by_cases c17 : (rd l1 x10_1) < (x196004_1.length : Int)
                  · rw [if_pos c17] at H
                    have c17b0 : decide ((rd l1 x10_1) < (x196004_1.length : Int)) = true := decide_eq_true c17
                    clear c17
                    have H' := Aside0.mk H
                    clear H
                    have p197 : 0 ≤ (x10_1 : Int) := of_decide_eq_true (by first | (with_reducible assumption) | assumption)
                    have q197 : x10_1 < (l1.length : Int) := of_decide_eq_true (by first | (with_reducible assumption) | assumption)
                    obtain ⟨ad197, e197, hx197_0⟩ := Kd.at_int HR1.out x10_1 p197 q197
                    cases e197
                    replace hx197_0 := (HB.out.cell (World.block_lt_of_cell? w _ hx197_0)).trans hx197_0
                    replace p197 := eq_true p197
                    replace q197 := eq_true q197
                    have hnb18 := NB195_196.out
                    have hnc18 := NB196_195.out
                    have hcz19_0 : wr.cell? ⟨gb195, 0, none⟩ = some (.int .i64 x196000_1) := (blk_cell BK195.out 0).trans rfl
                    have hcz19_1 : wr.cell? ⟨gb195, 1, none⟩ = some (.string x196001_1) := (blk_cell BK195.out 1).trans rfl
                    have hcz19_2 : wr.cell? ⟨gb195, 2, none⟩ = some (.string x196002_1) := (blk_cell BK195.out 2).trans rfl
                    have hcz19_3 : wr.cell? ⟨gb195, 3, none⟩ = some (u196003) := (blk_cell BK195.out 3).trans rfl
                    have hcz19_4 : wr.cell? ⟨gb195, 4, none⟩ = some (u196004) := (blk_cell BK195.out 4).trans rfl
                    have hfz19_0 := blk_frozen BK195.out 0
                    have hfz19_1 := blk_frozen BK195.out 1
                    have hfz19_2 := blk_frozen BK195.out 2
                    have hfz19_3 := blk_frozen BK195.out 3
                    have hfz19_4 := blk_frozen BK195.out 4
                    obtain ⟨Ao20, co20, eo20⟩ := Kd.V_slice HO_196004.out
                    subst eo20
                    have p198 : 0 ≤ ((rd l1 x10_1) : Int) := of_decide_eq_true (by first | (with_reducible assumption) | assumption)
                    have q198 : (rd l1 x10_1) < (x196004_1.length : Int) := of_decide_eq_true (by first | (with_reducible assumption) | assumption)
                    obtain ⟨ad198, A198_3, c198_3, A198_4, c198_4, e198, hx198_0, hx198_1, hx198_2, hx198_3, hx198_4, hl198_3, hi198_3, hl198_4, hi198_4⟩ := at_T25 (Kd.V_reads' HO_196004.out).2.2 (rd l1 x10_1) p198 q198
                    cases e198
                    obtain ⟨ce198, hce198, hMe198, hcc198⟩ := Kd.V_get HO_196004.out z25 (rd l1 x10_1) p198 (by first | exact q198 | exact of_decide_eq_true (by first | (with_reducible assumption) | assumption) | (have e_ := (Kd.V_reads' HO_196004.out).1; omega))
                    obtain ⟨ua198_3, uc198_3, ua198_4, uc198_4, rfl, ul198_3, ge198_3, ul198_4, ge198_4⟩ := k25_openF hMe198
                    have hv198_3 := hcc198 3 _ rfl
                    rw [add_field _ _ 3 (by omega)] at hv198_3
                    replace hv198_3 := Option.some.inj (hv198_3.symm.trans hx198_3)
                    injection hv198_3 with hva_ hvn_ hvc_
                    rw [hva_] at ge198_3
                    rw [hvc_] at ul198_3
                    have HL198_3 := Aside0.mk (show Kd.V k34 34 _ w.heap.size _ _ ((rd_T25 x196004_1 (rd l1 x10_1)).f3) from Kd.V_mk ul198_3 ge198_3)
                    clear hva_ hvn_ hvc_ ge198_3 ul198_3
                    have hv198_4 := hcc198 4 _ rfl
                    rw [add_field _ _ 4 (by omega)] at hv198_4
                    replace hv198_4 := Option.some.inj (hv198_4.symm.trans hx198_4)
                    injection hv198_4 with hva_ hvn_ hvc_
                    rw [hva_] at ge198_4
                    rw [hvc_] at ul198_4
                    have HL198_4 := Aside0.mk (show Kd.V k25 25 _ w.heap.size _ _ ((rd_T25 x196004_1 (rd l1 x10_1)).f4) from Kd.V_mk ul198_4 ge198_4)
                    clear hva_ hvn_ hvc_ ge198_4 ul198_4
                    clear hcc198 hce198
                    have HR198_3 := Aside0.mk hi198_3
                    have HC198_3 := Aside0.mk hl198_3
                    clear hi198_3 hl198_3
                    have HR198_4 := Aside0.mk hi198_4
                    have HC198_4 := Aside0.mk hl198_4
                    clear hi198_4 hl198_4
                    replace p198 := eq_true p198
                    replace q198 := eq_true q198
                    go_wp2
                    go_roundg k1
                    case measure => have := HK1.out; omega
                    case rel => exact ⟨(wrap64 (x10_1 + 1)), ((rd_T25 x196004_1 (rd l1 x10_1)).f0), ((rd_T25 x196004_1 (rd l1 x10_1)).f1), ((rd_T25 x196004_1 (rd l1 x10_1)).f2), ((rd_T25 x196004_1 (rd l1 x10_1)).f3), ((rd_T25 x196004_1 (rd l1 x10_1)).f4), (x197000_1), (x197001_1), (x197002_1), (.slice A198_3 ((rd_T25 x196004_1 (rd l1 x10_1)).f3).length c198_3), (.slice A198_4 ((rd_T25 x196004_1 (rd l1 x10_1)).f4).length c198_4), (by first | rfl | (simp; done) | (simp [*]; done)), H', ⟨by have := HK1.out; omega⟩, ⟨by (with_reducible repeat (first | apply Kd.V_alloc | apply Kd.V_drewN | apply Kd.V_drew)); exact Kd.V_mono (Kd.V_far (p := ⟨gb195, 4, none⟩) (Kd.V_far (p := ⟨gb195, 3, none⟩) (Kd.V_far (p := ⟨gb195, 2, none⟩) (Kd.V_far (p := ⟨gb195, 1, none⟩) (Kd.V_far (p := ⟨gb195, 0, none⟩) (Kd.V_mono HL198_3.out (fun k_ hk => (⟨hk, hk.2.1⟩ : _ ∧ k_ ≠ gb195))) (fun _ hk => hk.2) (.int .i64 ((rd_T25 x196004_1 (rd l1 x10_1)).f0))) (fun _ hk => hk.2) (.string ((rd_T25 x196004_1 (rd l1 x10_1)).f1))) (fun _ hk => hk.2) (.string ((rd_T25 x196004_1 (rd l1 x10_1)).f2))) (fun _ hk => hk.2) (.slice A198_3 ((rd_T25 x196004_1 (rd l1 x10_1)).f3).length c198_3)) (fun _ hk => hk.2) (.slice A198_4 ((rd_T25 x196004_1 (rd l1 x10_1)).f4).length c198_4)) (fun _ hk => ⟨hk.1.1, ⟨hk.1.2.1, hk.1.2.2⟩⟩)⟩, ⟨by (with_reducible repeat (first | apply Kd.V_alloc | apply Kd.V_drewN | apply Kd.V_drew)); exact Kd.V_mono (Kd.V_far (p := ⟨gb195, 4, none⟩) (Kd.V_far (p := ⟨gb195, 3, none⟩) (Kd.V_far (p := ⟨gb195, 2, none⟩) (Kd.V_far (p := ⟨gb195, 1, none⟩) (Kd.V_far (p := ⟨gb195, 0, none⟩) (Kd.V_mono HL198_4.out (fun k_ hk => (⟨hk, hk.2.1⟩ : _ ∧ k_ ≠ gb195))) (fun _ hk => hk.2) (.int .i64 ((rd_T25 x196004_1 (rd l1 x10_1)).f0))) (fun _ hk => hk.2) (.string ((rd_T25 x196004_1 (rd l1 x10_1)).f1))) (fun _ hk => hk.2) (.string ((rd_T25 x196004_1 (rd l1 x10_1)).f2))) (fun _ hk => hk.2) (.slice A198_3 ((rd_T25 x196004_1 (rd l1 x10_1)).f3).length c198_3)) (fun _ hk => hk.2) (.slice A198_4 ((rd_T25 x196004_1 (rd l1 x10_1)).f4).length c198_4)) (fun _ hk => ⟨hk.1.1, ⟨hk.1.2.1, hk.1.2.2⟩⟩)⟩, ⟨by (with_reducible repeat (first | refine blk_drewN ?_ _ | refine blk_drew ?_ | refine blk_alloc ?_ _)); refine blk_put (cs := #[.int .i64 ((rd_T25 x196004_1 (rd l1 x10_1)).f0), .string ((rd_T25 x196004_1 (rd l1 x10_1)).f1), .string ((rd_T25 x196004_1 (rd l1 x10_1)).f2), .slice A198_3 ((rd_T25 x196004_1 (rd l1 x10_1)).f3).length c198_3, .slice (some ad198) x196004_1.length co20]) ?_ 4 _ rfl; (with_reducible repeat (first | refine blk_drewN ?_ _ | refine blk_drew ?_ | refine blk_alloc ?_ _)); refine blk_put (cs := #[.int .i64 ((rd_T25 x196004_1 (rd l1 x10_1)).f0), .string ((rd_T25 x196004_1 (rd l1 x10_1)).f1), .string ((rd_T25 x196004_1 (rd l1 x10_1)).f2), u196003, .slice (some ad198) x196004_1.length co20]) ?_ 3 _ rfl; (with_reducible repeat (first | refine blk_drewN ?_ _ | refine blk_drew ?_ | refine blk_alloc ?_ _)); refine blk_put (cs := #[.int .i64 ((rd_T25 x196004_1 (rd l1 x10_1)).f0), .string ((rd_T25 x196004_1 (rd l1 x10_1)).f1), .string x196002_1, u196003, .slice (some ad198) x196004_1.length co20]) ?_ 2 _ rfl; (with_reducible repeat (first | refine blk_drewN ?_ _ | refine blk_drew ?_ | refine blk_alloc ?_ _)); refine blk_put (cs := #[.int .i64 ((rd_T25 x196004_1 (rd l1 x10_1)).f0), .string x196001_1, .string x196002_1, u196003, .slice (some ad198) x196004_1.length co20]) ?_ 1 _ rfl; (with_reducible repeat (first | refine blk_drewN ?_ _ | refine blk_drew ?_ | refine blk_alloc ?_ _)); refine blk_put (cs := #[.int .i64 x196000_1, .string x196001_1, .string x196002_1, u196003, .slice (some ad198) x196004_1.length co20]) ?_ 0 _ rfl; (with_reducible repeat (first | refine blk_drewN ?_ _ | refine blk_drew ?_ | refine blk_alloc ?_ _)); exact BK195.out⟩, ⟨by (with_reducible repeat (first | refine blk_drewN ?_ _ | refine blk_drew ?_ | refine blk_alloc ?_ _)); refine blk_far ?_ NB196_195.out _; (with_reducible repeat (first | refine blk_drewN ?_ _ | refine blk_drew ?_ | refine blk_alloc ?_ _)); refine blk_far ?_ NB196_195.out _; (with_reducible repeat (first | refine blk_drewN ?_ _ | refine blk_drew ?_ | refine blk_alloc ?_ _)); refine blk_far ?_ NB196_195.out _; (with_reducible repeat (first | refine blk_drewN ?_ _ | refine blk_drew ?_ | refine blk_alloc ?_ _)); refine blk_far ?_ NB196_195.out _; (with_reducible repeat (first | refine blk_drewN ?_ _ | refine blk_drew ?_ | refine blk_alloc ?_ _)); refine blk_far ?_ NB196_195.out _; (with_reducible repeat (first | refine blk_drewN ?_ _ | refine blk_drew ?_ | refine blk_alloc ?_ _)); exact BK196.out⟩, ⟨by repeat (first | (with_reducible first | exact HB.out | apply below_alloc | apply pw_below_drewN | apply below_drew1 | refine below_set ?_ GE195.out | refine below_set ?_ GE196.out) | exact HB.out)⟩⟩
                  · rw [if_neg c17] at H
                    exact absurd H (by simp)
                · rw [if_neg c16] at H
                  exact absurd H (by simp)
          · rw [if_neg c7] at H
            exact absurd H (by simp)
        · rw [if_neg c6] at H
          exact absurd H (by simp)
      · rw [if_neg c5] at H
        have c5b0 : decide (x10_1 < (l1.length : Int)) = false := decide_eq_false c5
        clear c5
        simp only [Option.some.injEq, Prod.mk.injEq] at H
        obtain ⟨rfl, rfl, rfl, rfl, rfl, rfl⟩ := H
        have hnb21 := NB195_196.out
        have hnc21 := NB196_195.out
        have hcz22_0 : wr.cell? ⟨gb195, 0, none⟩ = some (.int .i64 x196000_1) := (blk_cell BK195.out 0).trans rfl
        have hcz22_1 : wr.cell? ⟨gb195, 1, none⟩ = some (.string x196001_1) := (blk_cell BK195.out 1).trans rfl
        have hcz22_2 : wr.cell? ⟨gb195, 2, none⟩ = some (.string x196002_1) := (blk_cell BK195.out 2).trans rfl
        have hcz22_3 : wr.cell? ⟨gb195, 3, none⟩ = some (u196003) := (blk_cell BK195.out 3).trans rfl
        have hcz22_4 : wr.cell? ⟨gb195, 4, none⟩ = some (u196004) := (blk_cell BK195.out 4).trans rfl
        have hfz22_0 := blk_frozen BK195.out 0
        have hfz22_1 := blk_frozen BK195.out 1
        have hfz22_2 := blk_frozen BK195.out 2
        have hfz22_3 := blk_frozen BK195.out 3
        have hfz22_4 := blk_frozen BK195.out 4
        have hcz23_0 : wr.cell? ⟨gb196, 0, none⟩ = some (.int .i64 x197000_1) := (blk_cell BK196.out 0).trans rfl
        have hcz23_1 : wr.cell? ⟨gb196, 1, none⟩ = some (.string x197001_1) := (blk_cell BK196.out 1).trans rfl
        have hcz23_2 : wr.cell? ⟨gb196, 2, none⟩ = some (.string x197002_1) := (blk_cell BK196.out 2).trans rfl
        have hcz23_3 : wr.cell? ⟨gb196, 3, none⟩ = some (.slice none 0 0) := (blk_cell BK196.out 3).trans rfl
        have hcz23_4 : wr.cell? ⟨gb196, 4, none⟩ = some (.slice none 0 0) := (blk_cell BK196.out 4).trans rfl
        have hfz23_0 := blk_frozen BK196.out 0
        have hfz23_1 := blk_frozen BK196.out 1
        have hfz23_2 := blk_frozen BK196.out 2
        have hfz23_3 := blk_frozen BK196.out 3
        have hfz23_4 := blk_frozen BK196.out 4
        obtain ⟨Ao24, co24, eo24⟩ := Kd.V_slice HO_196003.out
        subst eo24
        obtain ⟨Ao25, co25, eo25⟩ := Kd.V_slice HO_196004.out
        subst eo25
        go_wp2
        refine bodyPost_ret (results_ct rfl _ _ gb196 25 #[.int .i64 x196000_1, .string x196001_1, .string x196002_1, .slice Ao24 x196003_1.length co24, .slice Ao25 x196004_1.length co25] (0, 0) _ rfl (by (with_reducible repeat (first | refine blk_drewN ?_ _ | refine blk_drew ?_ | refine blk_alloc ?_ _)); refine blk_put (cs := #[.int .i64 x196000_1, .string x196001_1, .string x196002_1, .slice Ao24 x196003_1.length co24, .slice none 0 0]) ?_ 4 _ rfl; (with_reducible repeat (first | refine blk_drewN ?_ _ | refine blk_drew ?_ | refine blk_alloc ?_ _)); refine blk_put (cs := #[.int .i64 x196000_1, .string x196001_1, .string x196002_1, .slice none 0 0, .slice none 0 0]) ?_ 3 _ rfl; (with_reducible repeat (first | refine blk_drewN ?_ _ | refine blk_drew ?_ | refine blk_alloc ?_ _)); refine blk_put (cs := #[.int .i64 x196000_1, .string x196001_1, .string x197002_1, .slice none 0 0, .slice none 0 0]) ?_ 2 _ rfl; (with_reducible repeat (first | refine blk_drewN ?_ _ | refine blk_drew ?_ | refine blk_alloc ?_ _)); refine blk_put (cs := #[.int .i64 x196000_1, .string x197001_1, .string x197002_1, .slice none 0 0, .slice none 0 0]) ?_ 1 _ rfl; (with_reducible repeat (first | refine blk_drewN ?_ _ | refine blk_drew ?_ | refine blk_alloc ?_ _)); refine blk_put (cs := #[.int .i64 x197000_1, .string x197001_1, .string x197002_1, .slice none 0 0, .slice none 0 0]) ?_ 0 _ rfl; (with_reducible repeat (first | refine blk_drewN ?_ _ | refine blk_drew ?_ | refine blk_alloc ?_ _)); exact BK196.out) Try.underlying25 rfl (by kernel_rfl)) rfl ?_
        exact ⟨_, _, by first | rfl | (simp [errW_none, errW_some] <;> rfl) | (simp [*, errW_none, errW_some] <;> rfl), by (with_reducible repeat (first | apply Kd.V_alloc | apply Kd.V_drewN | apply Kd.V_drew)); exact Kd.V_mono (Kd.V_far (p := ⟨gb196, 4, none⟩) (Kd.V_far (p := ⟨gb196, 3, none⟩) (Kd.V_far (p := ⟨gb196, 2, none⟩) (Kd.V_far (p := ⟨gb196, 1, none⟩) (Kd.V_far (p := ⟨gb196, 0, none⟩) (Kd.V_mono HO_196003.out (fun k_ hk => (⟨hk, hk.2.2⟩ : _ ∧ k_ ≠ gb196))) (fun _ hk => hk.2) (.int .i64 x196000_1)) (fun _ hk => hk.2) (.string x196001_1)) (fun _ hk => hk.2) (.string x196002_1)) (fun _ hk => hk.2) (.slice Ao24 x196003_1.length co24)) (fun _ hk => hk.2) (.slice Ao25 x196004_1.length co25)) (fun _ hk => hk.1.1), by (with_reducible repeat (first | apply Kd.V_alloc | apply Kd.V_drewN | apply Kd.V_drew)); exact Kd.V_mono (Kd.V_far (p := ⟨gb196, 4, none⟩) (Kd.V_far (p := ⟨gb196, 3, none⟩) (Kd.V_far (p := ⟨gb196, 2, none⟩) (Kd.V_far (p := ⟨gb196, 1, none⟩) (Kd.V_far (p := ⟨gb196, 0, none⟩) (Kd.V_mono HO_196004.out (fun k_ hk => (⟨hk, hk.2.2⟩ : _ ∧ k_ ≠ gb196))) (fun _ hk => hk.2) (.int .i64 x196000_1)) (fun _ hk => hk.2) (.string x196001_1)) (fun _ hk => hk.2) (.string x196002_1)) (fun _ hk => hk.2) (.slice Ao24 x196003_1.length co24)) (fun _ hk => hk.2) (.slice Ao25 x196004_1.length co25)) (fun _ hk => hk.1.1), by repeat (first | (with_reducible first | exact HB.out | apply below_alloc | apply pw_below_drewN | apply below_drew1 | refine below_set ?_ GE195.out | refine below_set ?_ GE196.out) | exact HB.out)⟩


end Go.Proofs.Ytlallihdiffheaa.GT
