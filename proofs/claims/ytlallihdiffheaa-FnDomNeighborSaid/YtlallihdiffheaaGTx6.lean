-- made by a program of this session, after the kit's print
import Derived.Test.YtlallihdiffheaaGTx0
namespace Go.Proofs.Ytlallihdiffheaa.GT
open Go.RowKit Go.Proofs.YtlallihdiffheaaW.PrintWords Go.Proofs.YtlallihdiffheaaW.PrintLast Go.Proofs.YtlallihdiffheaaW.PrintMore
attribute [local go_sem] max2_int min2_int max_two min_two max_three min_three max_four min_four   -- for this text's walks alone
set_option linter.unusedVariables false
set_option linter.unusedSimpArgs false

/-! ### laws_size29: function 53 -/
mutual
def laws_size29.l0 : Nat → Int → Int → List (S25) → Int → Int → Option (Int)
  | 0, _, _, _, _, _ => none
  | k + 1, x1, x5, x11, x12, x13 => if x13 < x12 then (if 0 ≤ x13 then (if x13 < (x11.length : Int) then ((laws_size29.f k ((rd_T25 x11 x13).f0) ((rd_T25 x11 x13).f1) ((rd_T25 x11 x13).f2) ((rd_T25 x11 x13).f3) ((rd_T25 x11 x13).f4) (wrap64 (x1 + 1))).bind fun t176 => (if (wrap64 (x5 + t176)) > 300 then (some (wrap64 (x5 + t176))) else (laws_size29.l0 k x1 (wrap64 (x5 + t176)) x11 x12 (wrap64 (x13 + 1))))) else (none)) else (none)) else (some x5)
def laws_size29.f : Nat → Int → ByteArray → ByteArray → List (S34) → List (S25) → Int → Option (Int)
  | 0, _, _, _, _, _, _ => none
  | k + 1, a0_0, a0_1, a0_2, l0_3, l0_4, a1 => if a1 > 60 then (some 301) else (laws_size29.l0 k a1 1 l0_4 (l0_4.length : Int) 0)
end
theorem laws_size29.mono_l : ∀ k, (∀ y0 y1 y2 y3 y4 y5, LeO (laws_size29.f k y0 y1 y2 y3 y4 y5) (laws_size29.f (k + 1) y0 y1 y2 y3 y4 y5)) ∧ (∀ y0 y1 y2 y3 y4, LeO (laws_size29.l0 k y0 y1 y2 y3 y4) (laws_size29.l0 (k + 1) y0 y1 y2 y3 y4))
  | 0 => ⟨fun _ _ _ _ _ _ r h => by simp [laws_size29.f] at h, fun _ _ _ _ _ r h => by simp [laws_size29.l0] at h⟩
  | k + 1 => by
    obtain ⟨ih0, ih1⟩ := laws_size29.mono_l k
    refine ⟨?_, ?_⟩
    · intro y0 y1 y2 y3 y4 y5
      unfold laws_size29.f
      repeat' first
      | (with_reducible exact ih0 _ _ _ _ _ _)
      | (with_reducible exact ih1 _ _ _ _ _)
      | (with_reducible exact LeO.refl _)
      | (with_reducible exact LeO.none _)
      | (with_reducible refine LeO.ite ?_ ?_)
      | (with_reducible refine LeO.bind ?_ (fun _ => ?_))
      | exact ih0 _ _ _ _ _ _
      | exact ih1 _ _ _ _ _
      | exact LeO.none _
      | refine LeO.ite ?_ ?_
      | refine LeO.bind ?_ (fun _ => ?_)
    · intro y0 y1 y2 y3 y4
      unfold laws_size29.l0
      repeat' first
      | (with_reducible exact ih0 _ _ _ _ _ _)
      | (with_reducible exact ih1 _ _ _ _ _)
      | (with_reducible exact LeO.refl _)
      | (with_reducible exact LeO.none _)
      | (with_reducible refine LeO.ite ?_ ?_)
      | (with_reducible refine LeO.bind ?_ (fun _ => ?_))
      | exact ih0 _ _ _ _ _ _
      | exact ih1 _ _ _ _ _
      | exact LeO.none _
      | refine LeO.ite ?_ ?_
      | refine LeO.bind ?_ (fun _ => ?_)
theorem laws_size29.mono : ∀ a0 a1 a2 a3 a4 a5 k, LeO (laws_size29.f k a0 a1 a2 a3 a4 a5) (laws_size29.f (k + 1) a0 a1 a2 a3 a4 a5) := by
  intro a0 a1 a2 a3 a4 a5 k
  obtain ⟨ih0, ih1⟩ := laws_size29.mono_l k
  exact ih0 a0 a1 a2 a3 a4 a5
set_option maxHeartbeats 8000000 in
set_option maxRecDepth 100000 in
theorem laws_size29.calls (k : Nat) : ∀ (a0_0 : Int) (a0_1 : ByteArray) (a0_2 : ByteArray) (A0_3 : Option Addr) (c0_3 : Nat) (l0_3 : List (S34)) (A0_4 : Option Addr) (c0_4 : Nat) (l0_4 : List (S25)) (a1 : Int) (r : Int) (w : World) (hr0_3 : Kd.C k34 w A0_3 l0_3.length l0_3) (hc0_3 : l0_3.length ≤ c0_3) (hr0_4 : Kd.C k25 w A0_4 l0_4.length l0_4) (hc0_4 : l0_4.length ≤ c0_4) (h : laws_size29.f k a0_0 a0_1 a0_2 l0_3 l0_4 a1 = some r),
    Calls Try.prog 53 #[.agg #[.int .i64 a0_0, .string a0_1, .string a0_2, .slice A0_3 l0_3.length c0_3, .slice A0_4 l0_4.length c0_4], .int .i64 a1] w fun e w' => e = .returned (.int .i64 r) ∧ Below w.heap.size w w' := by
  induction k using Nat.strongRecOn with
  | _ k ih =>
  intro a0_0 a0_1 a0_2 A0_3 c0_3 l0_3 A0_4 c0_4 l0_4 a1 r w hr0_3 hc0_3 hr0_4 hc0_4 h
  cases k with
  | zero => exact absurd h (by simp [laws_size29.f])
  | succ k =>
  simp only [laws_size29.f] at h
  have hu25 := Try.underlying25
  have HR0_3 := Aside0.mk hr0_3
  have HC0_3 := Aside0.mk hc0_3
  clear hr0_3 hc0_3
  have HR0_4 := Aside0.mk hr0_4
  have HC0_4 := Aside0.mk hc0_4
  clear hr0_4 hc0_4
  have HB := Aside0.mk (Below.refl w.heap.size w)
  have H : (if a1 > 60 then (some 301) else (laws_size29.l0 k a1 1 l0_4 (l0_4.length : Int) 0)) = some r := h
  clear h
  by_cases c3 : a1 > 60
  · rw [if_pos c3] at H
    have c3b0 : decide (60 < a1) = true := decide_eq_true c3
    clear c3
    obtain rfl := Option.some.inj H
    go_enter Try.func53, Try.ntmps53
    go_wp2_with (first | ((with_reducible refine gate_dst (N := 2) rfl ?_); refine box_event ?hg (N := 2) ?hd (cs := #[.int .i64 a0_0, .string a0_1, .string a0_2, .slice A0_3 l0_3.length c0_3, .slice A0_4 l0_4.length c0_4]) (t := 25) ?hr ?_; (case hd => rfl); (case hg => rfl); (case hr => first | (go_simp; done) | (go_simp; rfl)); intro gb173 hg w4 hbox hb; have n0_ := Aside0.mk (below_step (by repeat (first | (with_reducible first | exact HB.out | apply below_alloc | apply pw_below_drewN | apply below_drew1) | exact HB.out)) hb); have n1_ := Aside0.mk (hbox); have n2_ := Aside0.mk ((by rw [hg]; exact (below_size (by repeat (first | (with_reducible first | exact HB.out | apply below_alloc | apply pw_below_drewN | apply below_drew1) | exact HB.out))) : w.heap.size ≤ gb173)); have n3_ := Aside0.mk ((by rw [hg]; exact (below_size (by repeat (first | (with_reducible first | exact HB.out | apply below_alloc | apply pw_below_drewN | apply below_drew1) | exact HB.out))) : w.heap.size ≤ gb173)); clear HB; have HB := n0_; have BK173 := n1_; have GW173 := n2_; have GE173 := n3_; clear n0_ n1_ n2_ n3_; clear hb hbox hg))
    go_ret
    exact ⟨by first | rfl | (simp [errW_none, errW_some] <;> rfl) | (simp [*, errW_none, errW_some] <;> rfl), by repeat (first | (with_reducible first | exact HB.out | apply below_alloc | apply pw_below_drewN | apply below_drew1 | refine below_set ?_ GE173.out) | exact HB.out)⟩
  · rw [if_neg c3] at H
    have c3b0 : decide (60 < a1) = false := decide_eq_false c3
    clear c3
    have H' := Aside0.mk H
    clear H
    go_enter Try.func53, Try.ntmps53
    go_wp2_with (first | ((with_reducible refine gate_dst (N := 2) rfl ?_); refine box_event ?hg (N := 2) ?hd (cs := #[.int .i64 a0_0, .string a0_1, .string a0_2, .slice A0_3 l0_3.length c0_3, .slice A0_4 l0_4.length c0_4]) (t := 25) ?hr ?_; (case hd => rfl); (case hg => rfl); (case hr => first | (go_simp; done) | (go_simp; rfl)); intro gb173 hg w5 hbox hb; have n0_ := Aside0.mk (below_step (by repeat (first | (with_reducible first | exact HB.out | apply below_alloc | apply pw_below_drewN | apply below_drew1) | exact HB.out)) hb); have n1_ := Aside0.mk (hbox); have n2_ := Aside0.mk ((by rw [hg]; exact (below_size (by repeat (first | (with_reducible first | exact HB.out | apply below_alloc | apply pw_below_drewN | apply below_drew1) | exact HB.out))) : w.heap.size ≤ gb173)); have n3_ := Aside0.mk ((by rw [hg]; exact (below_size (by repeat (first | (with_reducible first | exact HB.out | apply below_alloc | apply pw_below_drewN | apply below_drew1) | exact HB.out))) : w.heap.size ≤ gb173)); clear HB; have HB := n0_; have BK173 := n1_; have GW173 := n2_; have GE173 := n3_; clear n0_ n1_ n2_ n3_; clear hb hbox hg; have hcz6_0 : w5.cell? ⟨gb173, 0, none⟩ = some (.int .i64 a0_0) := (blk_cell BK173.out 0).trans rfl; have hcz6_1 : w5.cell? ⟨gb173, 1, none⟩ = some (.string a0_1) := (blk_cell BK173.out 1).trans rfl; have hcz6_2 : w5.cell? ⟨gb173, 2, none⟩ = some (.string a0_2) := (blk_cell BK173.out 2).trans rfl; have hcz6_3 : w5.cell? ⟨gb173, 3, none⟩ = some (.slice A0_3 l0_3.length c0_3) := (blk_cell BK173.out 3).trans rfl; have hcz6_4 : w5.cell? ⟨gb173, 4, none⟩ = some (.slice A0_4 l0_4.length c0_4) := (blk_cell BK173.out 4).trans rfl; have hfz6_0 := blk_frozen BK173.out 0; have hfz6_1 := blk_frozen BK173.out 1; have hfz6_2 := blk_frozen BK173.out 2; have hfz6_3 := blk_frozen BK173.out 3; have hfz6_4 := blk_frozen BK173.out 4))
    go_loopg [5, 13] k (fun kq v5 v13 w' => ∃ (x5_1 : Int) (x13_1 : Int), v5 = .int .i64 x5_1 ∧ v13 = .int .i64 x13_1 ∧ Aside0 (laws_size29.l0 kq a1 x5_1 l0_4 (l0_4.length : Int) x13_1 = some r) ∧ Aside0 (kq ≤ k) ∧ Aside0 (w'.heap[gb173]? = some (.cells #[.int .i64 a0_0, .string a0_1, .string a0_2, (.slice A0_3 l0_3.length c0_3), (.slice A0_4 l0_4.length c0_4)] 25 (0, 0))) ∧ Aside0 (Below w.heap.size w w'))
    case atStart => exact ⟨(1), (0), (by first | rfl | (simp; done) | (simp [*]; done)), (by first | rfl | (simp; done) | (simp [*]; done)), H', ⟨Nat.le_refl _⟩, ⟨by (with_reducible repeat (first | refine blk_drewN ?_ _ | refine blk_drew ?_ | refine blk_alloc ?_ _)); exact BK173.out⟩, ⟨by repeat (first | (with_reducible first | exact HB.out | apply below_alloc | apply pw_below_drewN | apply below_drew1 | refine below_set ?_ GE173.out) | exact HB.out)⟩⟩
    case round =>
      clear H'
      try clear p2
      try clear c3
      try clear c3b0
      try clear c5
      try clear hcz6_0
      try clear hcz6_1
      try clear hcz6_2
      try clear hcz6_3
      try clear hcz6_4
      try clear hfz6_0
      try clear hfz6_1
      try clear hfz6_2
      try clear hfz6_3
      try clear hfz6_4
      obtain ⟨x5_1, x13_1, rfl, rfl, HA, HK1, BK173, HB⟩ := hrel
      cases gk with
      | zero => exact absurd HA.out (by simp [laws_size29.l0])
      | succ k1 =>
        have H := HA.out
        clear HA
        simp only [laws_size29.l0] at H
        by_cases c7 : x13_1 < (l0_4.length : Int)
        · rw [if_pos c7] at H
          have c7b0 : decide (x13_1 < (l0_4.length : Int)) = true := decide_eq_true c7
          clear c7
          by_cases c8 : 0 ≤ x13_1
          · rw [if_pos c8] at H
            have c8b0 : decide (0 ≤ x13_1) = true := decide_eq_true c8
            clear c8
            by_cases c9 : x13_1 < (l0_4.length : Int)
            · rw [if_pos c9] at H
              have c9b0 : decide (x13_1 < (l0_4.length : Int)) = true := decide_eq_true c9
              clear c9
              replace H := Option.bind_eq_some_iff.mp H
              obtain ⟨t176, A100, H⟩ := H
              replace H : (if (wrap64 (x5_1 + t176)) > 300 then (some (wrap64 (x5_1 + t176))) else (laws_size29.l0 k1 a1 (wrap64 (x5_1 + t176)) l0_4 (l0_4.length : Int) (wrap64 (x13_1 + 1)))) = some r := H
              have A10 := Aside0.mk A100
              clear A100
              by_cases c11 : (wrap64 (x5_1 + t176)) > 300
              · rw [if_pos c11] at H
                have c11b0 : decide (300 < (wrap64 (x5_1 + t176))) = true := decide_eq_true c11
                clear c11
                obtain rfl := Option.some.inj H
                have p174 : 0 ≤ (x13_1 : Int) := of_decide_eq_true (by first | (with_reducible assumption) | assumption)
                have q174 : x13_1 < (l0_4.length : Int) := of_decide_eq_true (by first | (with_reducible assumption) | assumption)
                obtain ⟨ad174, A174_3, c174_3, A174_4, c174_4, e174, hx174_0, hx174_1, hx174_2, hx174_3, hx174_4, hl174_3, hi174_3, hl174_4, hi174_4⟩ := at_T25 HR0_4.out x13_1 p174 q174
                cases e174
                replace hx174_0 := (HB.out.cell (World.block_lt_of_cell? w _ hx174_0)).trans hx174_0
                replace hx174_1 := (HB.out.cell (World.block_lt_of_cell? w _ hx174_1)).trans hx174_1
                replace hx174_2 := (HB.out.cell (World.block_lt_of_cell? w _ hx174_2)).trans hx174_2
                replace hx174_3 := (HB.out.cell (World.block_lt_of_cell? w _ hx174_3)).trans hx174_3
                replace hx174_4 := (HB.out.cell (World.block_lt_of_cell? w _ hx174_4)).trans hx174_4
                have HR174_3 := Aside0.mk hi174_3
                have HC174_3 := Aside0.mk hl174_3
                clear hi174_3 hl174_3
                have HR174_4 := Aside0.mk hi174_4
                have HC174_4 := Aside0.mk hl174_4
                clear hi174_4 hl174_4
                replace p174 := eq_true p174
                replace q174 := eq_true q174
                go_wp2_with (first | ((with_reducible refine gate_dst (N := 7) rfl ?_); refine box_event ?hg (N := 7) ?hd (cs := #[.int .i64 0, .string (⟨#[]⟩ : ByteArray), .string (⟨#[]⟩ : ByteArray), .slice none 0 0, .slice none 0 0]) (t := 25) ?hr ?_; (case hd => rfl); (case hg => rfl); (case hr => first | (go_simp; done) | (go_simp; rfl)); intro gb175 hg w12 hbox hb; have n0_ := Aside0.mk (blk_below (g := gb173) (o := .cells #[.int .i64 a0_0, .string a0_1, .string a0_2, .slice A0_3 l0_3.length c0_3, .slice (some ad174) l0_4.length c0_4] 25 (0, 0)) (by (with_reducible repeat (first | refine blk_drewN ?_ _ | refine blk_drew ?_ | refine blk_alloc ?_ _)); exact BK173.out) hb); have n1_ := Aside0.mk (below_step (by repeat (first | (with_reducible first | exact HB.out | apply below_alloc | apply pw_below_drewN | apply below_drew1 | refine below_set ?_ GE173.out) | exact HB.out)) hb); have n2_ := Aside0.mk (hbox); have n3_ := Aside0.mk ((by rw [hg]; exact (below_size (by repeat (first | (with_reducible first | exact HB.out | apply below_alloc | apply pw_below_drewN | apply below_drew1 | refine below_set ?_ GE173.out) | exact HB.out))) : w.heap.size ≤ gb175)); have n4_ := Aside0.mk ((by rw [hg]; exact (below_size (by repeat (first | (with_reducible first | exact HB.out | apply below_alloc | apply pw_below_drewN | apply below_drew1 | refine below_set ?_ GE173.out) | exact HB.out))) : w.heap.size ≤ gb175)); have n5_ := Aside0.mk ((by rw [hg]; exact Nat.ne_of_lt (blk_lt (g := gb173) (o := .cells #[.int .i64 a0_0, .string a0_1, .string a0_2, .slice A0_3 l0_3.length c0_3, .slice (some ad174) l0_4.length c0_4] 25 (0, 0)) (by (with_reducible repeat (first | refine blk_drewN ?_ _ | refine blk_drew ?_ | refine blk_alloc ?_ _)); exact BK173.out)) : gb173 ≠ gb175)); have n6_ := Aside0.mk ((by rw [hg]; exact Nat.ne_of_gt (blk_lt (g := gb173) (o := .cells #[.int .i64 a0_0, .string a0_1, .string a0_2, .slice A0_3 l0_3.length c0_3, .slice (some ad174) l0_4.length c0_4] 25 (0, 0)) (by (with_reducible repeat (first | refine blk_drewN ?_ _ | refine blk_drew ?_ | refine blk_alloc ?_ _)); exact BK173.out)) : gb175 ≠ gb173)); clear BK173; clear HB; have BK173 := n0_; have HB := n1_; have BK175 := n2_; have GW175 := n3_; have GE175 := n4_; have NB173_175 := n5_; have NB175_173 := n6_; clear n0_ n1_ n2_ n3_ n4_ n5_ n6_; clear hb hbox hg; have hnb13 := NB175_173.out; have hnc13 := NB173_175.out; have hcz14_0 : w12.cell? ⟨gb175, 0, none⟩ = some (.int .i64 0) := (blk_cell BK175.out 0).trans rfl; have hcz14_1 : w12.cell? ⟨gb175, 1, none⟩ = some (.string (⟨#[]⟩ : ByteArray)) := (blk_cell BK175.out 1).trans rfl; have hcz14_2 : w12.cell? ⟨gb175, 2, none⟩ = some (.string (⟨#[]⟩ : ByteArray)) := (blk_cell BK175.out 2).trans rfl; have hcz14_3 : w12.cell? ⟨gb175, 3, none⟩ = some (.slice none 0 0) := (blk_cell BK175.out 3).trans rfl; have hcz14_4 : w12.cell? ⟨gb175, 4, none⟩ = some (.slice none 0 0) := (blk_cell BK175.out 4).trans rfl; have hfz14_0 := blk_frozen BK175.out 0; have hfz14_1 := blk_frozen BK175.out 1; have hfz14_2 := blk_frozen BK175.out 2; have hfz14_3 := blk_frozen BK175.out 3; have hfz14_4 := blk_frozen BK175.out 4) | ((with_reducible refine gate_callee (f := 53) rfl ?_); refine goesL_ (some 21) rfl rfl Try.func53 (by kernel_rfl) rfl #[.agg #[.int .i64 ((rd_T25 l0_4 x13_1).f0), .string ((rd_T25 l0_4 x13_1).f1), .string ((rd_T25 l0_4 x13_1).f2), .slice A174_3 ((rd_T25 l0_4 x13_1).f3).length c174_3, .slice A174_4 ((rd_T25 l0_4 x13_1).f4).length c174_4], .int .i64 (wrap64 (a1 + 1))] rfl (by (try simp only [List.map_toArray, List.map_cons, List.map_nil]); first | done | rfl | (simp only [List.length_drop, List.length_take]; rfl)) ?_; (with_reducible refine (ih k1 (by have := HK1.out; omega) ((rd_T25 l0_4 x13_1).f0) ((rd_T25 l0_4 x13_1).f1) ((rd_T25 l0_4 x13_1).f2) _ _ ((rd_T25 l0_4 x13_1).f3) _ _ ((rd_T25 l0_4 x13_1).f4) (wrap64 (a1 + 1)) t176 _ ?side1 ?side2 ?side3 ?side4 A10.out).mono ?_); (case side1 => exact Kd.C_below HR174_3.out (by repeat (first | (with_reducible first | exact HB.out | apply below_alloc | apply pw_below_drewN | apply below_drew1 | refine below_set ?_ GE173.out | refine below_set ?_ GE175.out) | exact HB.out))); (case side2 => exact HC174_3.out); (case side3 => exact Kd.C_below HR174_4.out (by repeat (first | (with_reducible first | exact HB.out | apply below_alloc | apply pw_below_drewN | apply below_drew1 | refine below_set ?_ GE173.out | refine below_set ?_ GE175.out) | exact HB.out))); (case side4 => exact HC174_4.out); rintro e w15 ⟨rfl, hb⟩; refine ⟨_, rfl, ?_⟩; have n0_ := Aside0.mk (blk_below (g := gb173) (o := .cells #[.int .i64 a0_0, .string a0_1, .string a0_2, .slice A0_3 l0_3.length c0_3, .slice (some ad174) l0_4.length c0_4] 25 (0, 0)) (by (with_reducible repeat (first | refine blk_drewN ?_ _ | refine blk_drew ?_ | refine blk_alloc ?_ _)); refine blk_far ?_ NB173_175.out _; (with_reducible repeat (first | refine blk_drewN ?_ _ | refine blk_drew ?_ | refine blk_alloc ?_ _)); refine blk_far ?_ NB173_175.out _; (with_reducible repeat (first | refine blk_drewN ?_ _ | refine blk_drew ?_ | refine blk_alloc ?_ _)); refine blk_far ?_ NB173_175.out _; (with_reducible repeat (first | refine blk_drewN ?_ _ | refine blk_drew ?_ | refine blk_alloc ?_ _)); refine blk_far ?_ NB173_175.out _; (with_reducible repeat (first | refine blk_drewN ?_ _ | refine blk_drew ?_ | refine blk_alloc ?_ _)); refine blk_far ?_ NB173_175.out _; (with_reducible repeat (first | refine blk_drewN ?_ _ | refine blk_drew ?_ | refine blk_alloc ?_ _)); exact BK173.out) hb); have n1_ := Aside0.mk (blk_below (g := gb175) (o := .cells #[.int .i64 ((rd_T25 l0_4 x13_1).f0), .string ((rd_T25 l0_4 x13_1).f1), .string ((rd_T25 l0_4 x13_1).f2), .slice A174_3 ((rd_T25 l0_4 x13_1).f3).length c174_3, .slice A174_4 ((rd_T25 l0_4 x13_1).f4).length c174_4] 25 (0, 0)) (by (with_reducible repeat (first | refine blk_drewN ?_ _ | refine blk_drew ?_ | refine blk_alloc ?_ _)); refine blk_put (cs := #[.int .i64 ((rd_T25 l0_4 x13_1).f0), .string ((rd_T25 l0_4 x13_1).f1), .string ((rd_T25 l0_4 x13_1).f2), .slice A174_3 ((rd_T25 l0_4 x13_1).f3).length c174_3, .slice none 0 0]) ?_ 4 _ rfl; (with_reducible repeat (first | refine blk_drewN ?_ _ | refine blk_drew ?_ | refine blk_alloc ?_ _)); refine blk_put (cs := #[.int .i64 ((rd_T25 l0_4 x13_1).f0), .string ((rd_T25 l0_4 x13_1).f1), .string ((rd_T25 l0_4 x13_1).f2), .slice none 0 0, .slice none 0 0]) ?_ 3 _ rfl; (with_reducible repeat (first | refine blk_drewN ?_ _ | refine blk_drew ?_ | refine blk_alloc ?_ _)); refine blk_put (cs := #[.int .i64 ((rd_T25 l0_4 x13_1).f0), .string ((rd_T25 l0_4 x13_1).f1), .string (⟨#[]⟩ : ByteArray), .slice none 0 0, .slice none 0 0]) ?_ 2 _ rfl; (with_reducible repeat (first | refine blk_drewN ?_ _ | refine blk_drew ?_ | refine blk_alloc ?_ _)); refine blk_put (cs := #[.int .i64 ((rd_T25 l0_4 x13_1).f0), .string (⟨#[]⟩ : ByteArray), .string (⟨#[]⟩ : ByteArray), .slice none 0 0, .slice none 0 0]) ?_ 1 _ rfl; (with_reducible repeat (first | refine blk_drewN ?_ _ | refine blk_drew ?_ | refine blk_alloc ?_ _)); refine blk_put (cs := #[.int .i64 0, .string (⟨#[]⟩ : ByteArray), .string (⟨#[]⟩ : ByteArray), .slice none 0 0, .slice none 0 0]) ?_ 0 _ rfl; (with_reducible repeat (first | refine blk_drewN ?_ _ | refine blk_drew ?_ | refine blk_alloc ?_ _)); exact BK175.out) hb); have n2_ := Aside0.mk (below_step (by repeat (first | (with_reducible first | exact HB.out | apply below_alloc | apply pw_below_drewN | apply below_drew1 | refine below_set ?_ GE173.out | refine below_set ?_ GE175.out) | exact HB.out)) hb); clear BK173; clear BK175; clear HB; have BK173 := n0_; have BK175 := n1_; have HB := n2_; clear n0_ n1_ n2_; (try clear hb); (try clear hb2); (try clear hk); (try clear hi)))
                go_ret
                exact ⟨by first | rfl | (simp [errW_none, errW_some] <;> rfl) | (simp [*, errW_none, errW_some] <;> rfl), by repeat (first | (with_reducible first | exact HB.out | apply below_alloc | apply pw_below_drewN | apply below_drew1 | refine below_set ?_ GE173.out | refine below_set ?_ GE175.out) | exact HB.out)⟩
              · rw [if_neg c11] at H
                have c11b0 : decide (300 < (wrap64 (x5_1 + t176))) = false := decide_eq_false c11
                clear c11
                have H' := Aside0.mk H
                clear H
                have p174 : 0 ≤ (x13_1 : Int) := of_decide_eq_true (by first | (with_reducible assumption) | assumption)
                have q174 : x13_1 < (l0_4.length : Int) := of_decide_eq_true (by first | (with_reducible assumption) | assumption)
                obtain ⟨ad174, A174_3, c174_3, A174_4, c174_4, e174, hx174_0, hx174_1, hx174_2, hx174_3, hx174_4, hl174_3, hi174_3, hl174_4, hi174_4⟩ := at_T25 HR0_4.out x13_1 p174 q174
                cases e174
                replace hx174_0 := (HB.out.cell (World.block_lt_of_cell? w _ hx174_0)).trans hx174_0
                replace hx174_1 := (HB.out.cell (World.block_lt_of_cell? w _ hx174_1)).trans hx174_1
                replace hx174_2 := (HB.out.cell (World.block_lt_of_cell? w _ hx174_2)).trans hx174_2
                replace hx174_3 := (HB.out.cell (World.block_lt_of_cell? w _ hx174_3)).trans hx174_3
                replace hx174_4 := (HB.out.cell (World.block_lt_of_cell? w _ hx174_4)).trans hx174_4
                have HR174_3 := Aside0.mk hi174_3
                have HC174_3 := Aside0.mk hl174_3
                clear hi174_3 hl174_3
                have HR174_4 := Aside0.mk hi174_4
                have HC174_4 := Aside0.mk hl174_4
                clear hi174_4 hl174_4
                replace p174 := eq_true p174
                replace q174 := eq_true q174
                go_wp2_with (first | ((with_reducible refine gate_dst (N := 7) rfl ?_); refine box_event ?hg (N := 7) ?hd (cs := #[.int .i64 0, .string (⟨#[]⟩ : ByteArray), .string (⟨#[]⟩ : ByteArray), .slice none 0 0, .slice none 0 0]) (t := 25) ?hr ?_; (case hd => rfl); (case hg => rfl); (case hr => first | (go_simp; done) | (go_simp; rfl)); intro gb175 hg w16 hbox hb; have n0_ := Aside0.mk (blk_below (g := gb173) (o := .cells #[.int .i64 a0_0, .string a0_1, .string a0_2, .slice A0_3 l0_3.length c0_3, .slice (some ad174) l0_4.length c0_4] 25 (0, 0)) (by (with_reducible repeat (first | refine blk_drewN ?_ _ | refine blk_drew ?_ | refine blk_alloc ?_ _)); exact BK173.out) hb); have n1_ := Aside0.mk (below_step (by repeat (first | (with_reducible first | exact HB.out | apply below_alloc | apply pw_below_drewN | apply below_drew1 | refine below_set ?_ GE173.out) | exact HB.out)) hb); have n2_ := Aside0.mk (hbox); have n3_ := Aside0.mk ((by rw [hg]; exact (below_size (by repeat (first | (with_reducible first | exact HB.out | apply below_alloc | apply pw_below_drewN | apply below_drew1 | refine below_set ?_ GE173.out) | exact HB.out))) : w.heap.size ≤ gb175)); have n4_ := Aside0.mk ((by rw [hg]; exact (below_size (by repeat (first | (with_reducible first | exact HB.out | apply below_alloc | apply pw_below_drewN | apply below_drew1 | refine below_set ?_ GE173.out) | exact HB.out))) : w.heap.size ≤ gb175)); have n5_ := Aside0.mk ((by rw [hg]; exact Nat.ne_of_lt (blk_lt (g := gb173) (o := .cells #[.int .i64 a0_0, .string a0_1, .string a0_2, .slice A0_3 l0_3.length c0_3, .slice (some ad174) l0_4.length c0_4] 25 (0, 0)) (by (with_reducible repeat (first | refine blk_drewN ?_ _ | refine blk_drew ?_ | refine blk_alloc ?_ _)); exact BK173.out)) : gb173 ≠ gb175)); have n6_ := Aside0.mk ((by rw [hg]; exact Nat.ne_of_gt (blk_lt (g := gb173) (o := .cells #[.int .i64 a0_0, .string a0_1, .string a0_2, .slice A0_3 l0_3.length c0_3, .slice (some ad174) l0_4.length c0_4] 25 (0, 0)) (by (with_reducible repeat (first | refine blk_drewN ?_ _ | refine blk_drew ?_ | refine blk_alloc ?_ _)); exact BK173.out)) : gb175 ≠ gb173)); clear BK173; clear HB; have BK173 := n0_; have HB := n1_; have BK175 := n2_; have GW175 := n3_; have GE175 := n4_; have NB173_175 := n5_; have NB175_173 := n6_; clear n0_ n1_ n2_ n3_ n4_ n5_ n6_; clear hb hbox hg; have hnb17 := NB175_173.out; have hnc17 := NB173_175.out; have hcz18_0 : w16.cell? ⟨gb175, 0, none⟩ = some (.int .i64 0) := (blk_cell BK175.out 0).trans rfl; have hcz18_1 : w16.cell? ⟨gb175, 1, none⟩ = some (.string (⟨#[]⟩ : ByteArray)) := (blk_cell BK175.out 1).trans rfl; have hcz18_2 : w16.cell? ⟨gb175, 2, none⟩ = some (.string (⟨#[]⟩ : ByteArray)) := (blk_cell BK175.out 2).trans rfl; have hcz18_3 : w16.cell? ⟨gb175, 3, none⟩ = some (.slice none 0 0) := (blk_cell BK175.out 3).trans rfl; have hcz18_4 : w16.cell? ⟨gb175, 4, none⟩ = some (.slice none 0 0) := (blk_cell BK175.out 4).trans rfl; have hfz18_0 := blk_frozen BK175.out 0; have hfz18_1 := blk_frozen BK175.out 1; have hfz18_2 := blk_frozen BK175.out 2; have hfz18_3 := blk_frozen BK175.out 3; have hfz18_4 := blk_frozen BK175.out 4) | ((with_reducible refine gate_callee (f := 53) rfl ?_); refine goesL_ (some 21) rfl rfl Try.func53 (by kernel_rfl) rfl #[.agg #[.int .i64 ((rd_T25 l0_4 x13_1).f0), .string ((rd_T25 l0_4 x13_1).f1), .string ((rd_T25 l0_4 x13_1).f2), .slice A174_3 ((rd_T25 l0_4 x13_1).f3).length c174_3, .slice A174_4 ((rd_T25 l0_4 x13_1).f4).length c174_4], .int .i64 (wrap64 (a1 + 1))] rfl (by (try simp only [List.map_toArray, List.map_cons, List.map_nil]); first | done | rfl | (simp only [List.length_drop, List.length_take]; rfl)) ?_; (with_reducible refine (ih k1 (by have := HK1.out; omega) ((rd_T25 l0_4 x13_1).f0) ((rd_T25 l0_4 x13_1).f1) ((rd_T25 l0_4 x13_1).f2) _ _ ((rd_T25 l0_4 x13_1).f3) _ _ ((rd_T25 l0_4 x13_1).f4) (wrap64 (a1 + 1)) t176 _ ?side1 ?side2 ?side3 ?side4 A10.out).mono ?_); (case side1 => exact Kd.C_below HR174_3.out (by repeat (first | (with_reducible first | exact HB.out | apply below_alloc | apply pw_below_drewN | apply below_drew1 | refine below_set ?_ GE173.out | refine below_set ?_ GE175.out) | exact HB.out))); (case side2 => exact HC174_3.out); (case side3 => exact Kd.C_below HR174_4.out (by repeat (first | (with_reducible first | exact HB.out | apply below_alloc | apply pw_below_drewN | apply below_drew1 | refine below_set ?_ GE173.out | refine below_set ?_ GE175.out) | exact HB.out))); (case side4 => exact HC174_4.out); rintro e w19 ⟨rfl, hb⟩; refine ⟨_, rfl, ?_⟩; have n0_ := Aside0.mk (blk_below (g := gb173) (o := .cells #[.int .i64 a0_0, .string a0_1, .string a0_2, .slice A0_3 l0_3.length c0_3, .slice (some ad174) l0_4.length c0_4] 25 (0, 0)) (by (with_reducible repeat (first | refine blk_drewN ?_ _ | refine blk_drew ?_ | refine blk_alloc ?_ _)); refine blk_far ?_ NB173_175.out _; (with_reducible repeat (first | refine blk_drewN ?_ _ | refine blk_drew ?_ | refine blk_alloc ?_ _)); refine blk_far ?_ NB173_175.out _; (with_reducible repeat (first | refine blk_drewN ?_ _ | refine blk_drew ?_ | refine blk_alloc ?_ _)); refine blk_far ?_ NB173_175.out _; (with_reducible repeat (first | refine blk_drewN ?_ _ | refine blk_drew ?_ | refine blk_alloc ?_ _)); refine blk_far ?_ NB173_175.out _; (with_reducible repeat (first | refine blk_drewN ?_ _ | refine blk_drew ?_ | refine blk_alloc ?_ _)); refine blk_far ?_ NB173_175.out _; (with_reducible repeat (first | refine blk_drewN ?_ _ | refine blk_drew ?_ | refine blk_alloc ?_ _)); exact BK173.out) hb); have n1_ := Aside0.mk (blk_below (g := gb175) (o := .cells #[.int .i64 ((rd_T25 l0_4 x13_1).f0), .string ((rd_T25 l0_4 x13_1).f1), .string ((rd_T25 l0_4 x13_1).f2), .slice A174_3 ((rd_T25 l0_4 x13_1).f3).length c174_3, .slice A174_4 ((rd_T25 l0_4 x13_1).f4).length c174_4] 25 (0, 0)) (by (with_reducible repeat (first | refine blk_drewN ?_ _ | refine blk_drew ?_ | refine blk_alloc ?_ _)); refine blk_put (cs := #[.int .i64 ((rd_T25 l0_4 x13_1).f0), .string ((rd_T25 l0_4 x13_1).f1), .string ((rd_T25 l0_4 x13_1).f2), .slice A174_3 ((rd_T25 l0_4 x13_1).f3).length c174_3, .slice none 0 0]) ?_ 4 _ rfl; (with_reducible repeat (first | refine blk_drewN ?_ _ | refine blk_drew ?_ | refine blk_alloc ?_ _)); refine blk_put (cs := #[.int .i64 ((rd_T25 l0_4 x13_1).f0), .string ((rd_T25 l0_4 x13_1).f1), .string ((rd_T25 l0_4 x13_1).f2), .slice none 0 0, .slice none 0 0]) ?_ 3 _ rfl; (with_reducible repeat (first | refine blk_drewN ?_ _ | refine blk_drew ?_ | refine blk_alloc ?_ _)); refine blk_put (cs := #[.int .i64 ((rd_T25 l0_4 x13_1).f0), .string ((rd_T25 l0_4 x13_1).f1), .string (⟨#[]⟩ : ByteArray), .slice none 0 0, .slice none 0 0]) ?_ 2 _ rfl; (with_reducible repeat (first | refine blk_drewN ?_ _ | refine blk_drew ?_ | refine blk_alloc ?_ _)); refine blk_put (cs := #[.int .i64 ((rd_T25 l0_4 x13_1).f0), .string (⟨#[]⟩ : ByteArray), .string (⟨#[]⟩ : ByteArray), .slice none 0 0, .slice none 0 0]) ?_ 1 _ rfl; (with_reducible repeat (first | refine blk_drewN ?_ _ | refine blk_drew ?_ | refine blk_alloc ?_ _)); refine blk_put (cs := #[.int .i64 0, .string (⟨#[]⟩ : ByteArray), .string (⟨#[]⟩ : ByteArray), .slice none 0 0, .slice none 0 0]) ?_ 0 _ rfl; (with_reducible repeat (first | refine blk_drewN ?_ _ | refine blk_drew ?_ | refine blk_alloc ?_ _)); exact BK175.out) hb); have n2_ := Aside0.mk (below_step (by repeat (first | (with_reducible first | exact HB.out | apply below_alloc | apply pw_below_drewN | apply below_drew1 | refine below_set ?_ GE173.out | refine below_set ?_ GE175.out) | exact HB.out)) hb); clear BK173; clear BK175; clear HB; have BK173 := n0_; have BK175 := n1_; have HB := n2_; clear n0_ n1_ n2_; (try clear hb); (try clear hb2); (try clear hk); (try clear hi)))
                go_roundg k1
                case measure => have := HK1.out; omega
                case rel => exact ⟨(wrap64 (x5_1 + t176)), (wrap64 (x13_1 + 1)), (by first | rfl | (simp; done) | (simp [*]; done)), (by first | rfl | (simp; done) | (simp [*]; done)), H', ⟨by have := HK1.out; omega⟩, ⟨by (with_reducible repeat (first | refine blk_drewN ?_ _ | refine blk_drew ?_ | refine blk_alloc ?_ _)); exact BK173.out⟩, ⟨by repeat (first | (with_reducible first | exact HB.out | apply below_alloc | apply pw_below_drewN | apply below_drew1 | refine below_set ?_ GE173.out | refine below_set ?_ GE175.out) | exact HB.out)⟩⟩
            · rw [if_neg c9] at H
              exact absurd H (by simp)
          · rw [if_neg c8] at H
            exact absurd H (by simp)
        · rw [if_neg c7] at H
          have c7b0 : decide (x13_1 < (l0_4.length : Int)) = false := decide_eq_false c7
          clear c7
          obtain rfl := Option.some.inj H
          go_wp2
          go_ret
          exact ⟨by first | rfl | (simp [errW_none, errW_some] <;> rfl) | (simp [*, errW_none, errW_some] <;> rfl), by repeat (first | (with_reducible first | exact HB.out | apply below_alloc | apply pw_below_drewN | apply below_drew1 | refine below_set ?_ GE173.out) | exact HB.out)⟩

/-! ### laws_name29: function 98 -/
def laws_name29.l0 : Nat → ByteArray → Int → Int → Option (Bool)
  | 0, _, _, _ => none
  | k + 1, x0, x5, x6 => if x6 < x5 then (if 0 ≤ x6 then (if x6 < (x0.size : Int) then (if (bt x0 x6) < 97 then (if x6 = 0 then (some false) else (if (bt x0 x6) < 48 then (some false) else (if (bt x0 x6) > 57 then (some false) else (laws_name29.l0 k x0 x5 (wrap64 (x6 + 1)))))) else (if (bt x0 x6) > 122 then (if x6 = 0 then (some false) else (if (bt x0 x6) < 48 then (some false) else (if (bt x0 x6) > 57 then (some false) else (laws_name29.l0 k x0 x5 (wrap64 (x6 + 1)))))) else (laws_name29.l0 k x0 x5 (wrap64 (x6 + 1))))) else (none)) else (none)) else (some (x0.toList != ([] : List UInt8)))
def laws_name29.f (k : Nat) (a0 : ByteArray) : Option (Bool) := laws_name29.l0 k a0 (a0.size : Int) 0
theorem laws_name29.mono_l : ∀ k, (∀ y0 y1 y2, LeO (laws_name29.l0 k y0 y1 y2) (laws_name29.l0 (k + 1) y0 y1 y2))
  | 0 => fun _ _ _ r h => by simp [laws_name29.l0] at h
  | k + 1 => by
    have ih0 := laws_name29.mono_l k
    · intro y0 y1 y2
      unfold laws_name29.l0
      repeat' first
      | (with_reducible exact ih0 _ _ _)
      | (with_reducible exact LeO.refl _)
      | (with_reducible exact LeO.none _)
      | (with_reducible refine LeO.ite ?_ ?_)
      | (with_reducible refine LeO.bind ?_ (fun _ => ?_))
      | exact ih0 _ _ _
      | exact LeO.none _
      | refine LeO.ite ?_ ?_
      | refine LeO.bind ?_ (fun _ => ?_)
theorem laws_name29.mono : ∀ a0 k, LeO (laws_name29.f k a0) (laws_name29.f (k + 1) a0) := by
  intro a0 k
  have ih0 := laws_name29.mono_l k
  unfold laws_name29.f
  repeat' first
      | (with_reducible exact ih0 _ _ _)
      | (with_reducible exact LeO.refl _)
      | (with_reducible exact LeO.none _)
      | (with_reducible refine LeO.ite ?_ ?_)
      | (with_reducible refine LeO.bind ?_ (fun _ => ?_))
      | exact ih0 _ _ _
      | exact LeO.none _
      | refine LeO.ite ?_ ?_
      | refine LeO.bind ?_ (fun _ => ?_)
set_option maxHeartbeats 8000000 in
set_option maxRecDepth 100000 in
theorem laws_name29.calls (k : Nat) (a0 : ByteArray) (r : Bool) (w : World) (h : laws_name29.f k a0 = some r) :
    Calls Try.prog 98 #[.string a0] w fun e w' => e = .returned (.bool r) ∧ Drawn0 w w' := by
  have H : (laws_name29.l0 k a0 (a0.size : Int) 0) = some r := h
  clear h
  have H' := Aside0.mk H
  clear H
  go_enter Try.func98, Try.ntmps98
  go_wp2
  go_loopg [6] k (fun kq v6 w' => ∃ (x6_1 : Int), v6 = .int .i64 x6_1 ∧ Aside0 (laws_name29.l0 kq a0 (a0.size : Int) x6_1 = some r) ∧ Aside0 (kq ≤ k) ∧ Drawn0 w w')
  case atStart => exact ⟨(0), (by first | rfl | (simp; done) | (simp [*]; done)), H', ⟨Nat.le_refl _⟩, by repeat (first | exact Drawn0.refl _ | apply Drawn0.step)⟩
  case round =>
    clear H'
    obtain ⟨x6_1, rfl, HA, HK1, ⟨m1, rfl⟩⟩ := hrel
    cases gk with
    | zero => exact absurd HA.out (by simp [laws_name29.l0])
    | succ k1 =>
      have H := HA.out
      clear HA
      simp only [laws_name29.l0] at H
      by_cases c2 : x6_1 < (a0.size : Int)
      · rw [if_pos c2] at H
        have c2b0 : decide (x6_1 < (a0.size : Int)) = true := decide_eq_true c2
        clear c2
        by_cases c3 : 0 ≤ x6_1
        · rw [if_pos c3] at H
          have c3b0 : decide (0 ≤ x6_1) = true := decide_eq_true c3
          clear c3
          by_cases c4 : x6_1 < (a0.size : Int)
          · rw [if_pos c4] at H
            have c4b0 : decide (x6_1 < (a0.size : Int)) = true := decide_eq_true c4
            clear c4
            by_cases c6 : (bt a0 x6_1) < 97
            · rw [if_pos c6] at H
              have c6b0 : decide ((bt a0 x6_1) < 97) = true := decide_eq_true c6
              clear c6
              by_cases c7 : x6_1 = 0
              · rw [if_pos c7] at H
                have c7b0 : (x6_1 == 0) = true := beq_iff_eq.mpr c7
                have c7b1 : (x6_1 != 0) = false := bne_eq_false_iff_eq.mpr c7
                clear c7
                obtain rfl := Option.some.inj H
                have p5 : 0 ≤ (x6_1 : Int) := of_decide_eq_true (by first | (with_reducible assumption) | assumption)
                have q5 : x6_1 < (a0.size : Int) := of_decide_eq_true (by first | (with_reducible assumption) | assumption)
                have hx5 := bt_at a0 x6_1
                replace p5 := eq_true p5
                replace q5 := eq_true q5
                go_wp2
                go_ret
                exact ⟨by first | rfl | (simp; done) | (simp [*]; done) | (simp; cases a0.toList <;> rfl), by repeat (first | exact Drawn0.refl _ | apply Drawn0.step)⟩
              · rw [if_neg c7] at H
                have c7b0 : (x6_1 == 0) = false := beq_eq_false_iff_ne.mpr c7
                have c7b1 : (x6_1 != 0) = true := bne_iff_ne.mpr c7
                by_cases c9 : (bt a0 x6_1) < 48
                · rw [if_pos c9] at H
                  have c9b0 : decide ((bt a0 x6_1) < 48) = true := decide_eq_true c9
                  clear c9
                  obtain rfl := Option.some.inj H
                  have p5 : 0 ≤ (x6_1 : Int) := of_decide_eq_true (by first | (with_reducible assumption) | assumption)
                  have q5 : x6_1 < (a0.size : Int) := of_decide_eq_true (by first | (with_reducible assumption) | assumption)
                  have hx5 := bt_at a0 x6_1
                  replace p5 := eq_true p5
                  replace q5 := eq_true q5
                  have p8 : 0 ≤ (x6_1 : Int) := of_decide_eq_true (by first | (with_reducible assumption) | assumption)
                  have q8 : x6_1 < (a0.size : Int) := of_decide_eq_true (by first | (with_reducible assumption) | assumption)
                  have hx8 := bt_at a0 x6_1
                  replace p8 := eq_true p8
                  replace q8 := eq_true q8
                  go_wp2
                  go_ret
                  exact ⟨by first | rfl | (simp; done) | (simp [*]; done) | (simp; cases a0.toList <;> rfl), by repeat (first | exact Drawn0.refl _ | apply Drawn0.step)⟩
                · rw [if_neg c9] at H
                  have c9b0 : decide ((bt a0 x6_1) < 48) = false := decide_eq_false c9
                  clear c9
                  by_cases c11 : (bt a0 x6_1) > 57
                  · rw [if_pos c11] at H
                    have c11b0 : decide (57 < (bt a0 x6_1)) = true := decide_eq_true c11
                    clear c11
                    obtain rfl := Option.some.inj H
                    have p5 : 0 ≤ (x6_1 : Int) := of_decide_eq_true (by first | (with_reducible assumption) | assumption)
                    have q5 : x6_1 < (a0.size : Int) := of_decide_eq_true (by first | (with_reducible assumption) | assumption)
                    have hx5 := bt_at a0 x6_1
                    replace p5 := eq_true p5
                    replace q5 := eq_true q5
                    have p8 : 0 ≤ (x6_1 : Int) := of_decide_eq_true (by first | (with_reducible assumption) | assumption)
                    have q8 : x6_1 < (a0.size : Int) := of_decide_eq_true (by first | (with_reducible assumption) | assumption)
                    have hx8 := bt_at a0 x6_1
                    replace p8 := eq_true p8
                    replace q8 := eq_true q8
                    have p10 : 0 ≤ (x6_1 : Int) := of_decide_eq_true (by first | (with_reducible assumption) | assumption)
                    have q10 : x6_1 < (a0.size : Int) := of_decide_eq_true (by first | (with_reducible assumption) | assumption)
                    have hx10 := bt_at a0 x6_1
                    replace p10 := eq_true p10
                    replace q10 := eq_true q10
                    go_wp2
                    go_ret
                    exact ⟨by first | rfl | (simp; done) | (simp [*]; done) | (simp; cases a0.toList <;> rfl), by repeat (first | exact Drawn0.refl _ | apply Drawn0.step)⟩
                  · rw [if_neg c11] at H
                    have c11b0 : decide (57 < (bt a0 x6_1)) = false := decide_eq_false c11
                    clear c11
                    have H' := Aside0.mk H
                    clear H
                    have p5 : 0 ≤ (x6_1 : Int) := of_decide_eq_true (by first | (with_reducible assumption) | assumption)
                    have q5 : x6_1 < (a0.size : Int) := of_decide_eq_true (by first | (with_reducible assumption) | assumption)
                    have hx5 := bt_at a0 x6_1
                    replace p5 := eq_true p5
                    replace q5 := eq_true q5
                    have p8 : 0 ≤ (x6_1 : Int) := of_decide_eq_true (by first | (with_reducible assumption) | assumption)
                    have q8 : x6_1 < (a0.size : Int) := of_decide_eq_true (by first | (with_reducible assumption) | assumption)
                    have hx8 := bt_at a0 x6_1
                    replace p8 := eq_true p8
                    replace q8 := eq_true q8
                    have p10 : 0 ≤ (x6_1 : Int) := of_decide_eq_true (by first | (with_reducible assumption) | assumption)
                    have q10 : x6_1 < (a0.size : Int) := of_decide_eq_true (by first | (with_reducible assumption) | assumption)
                    have hx10 := bt_at a0 x6_1
                    replace p10 := eq_true p10
                    replace q10 := eq_true q10
                    go_wp2
                    go_roundg k1
                    case measure => have := HK1.out; omega
                    case rel => exact ⟨(wrap64 (x6_1 + 1)), (by first | rfl | (simp; done) | (simp [*]; done)), H', ⟨by have := HK1.out; omega⟩, by repeat (first | exact Drawn0.refl _ | apply Drawn0.step)⟩
            · rw [if_neg c6] at H
              have c6b0 : decide ((bt a0 x6_1) < 97) = false := decide_eq_false c6
              clear c6
              by_cases c13 : (bt a0 x6_1) > 122
              · rw [if_pos c13] at H
                have c13b0 : decide (122 < (bt a0 x6_1)) = true := decide_eq_true c13
                clear c13
                by_cases c14 : x6_1 = 0
                · rw [if_pos c14] at H
                  have c14b0 : (x6_1 == 0) = true := beq_iff_eq.mpr c14
                  have c14b1 : (x6_1 != 0) = false := bne_eq_false_iff_eq.mpr c14
                  clear c14
                  obtain rfl := Option.some.inj H
                  have p5 : 0 ≤ (x6_1 : Int) := of_decide_eq_true (by first | (with_reducible assumption) | assumption)
                  have q5 : x6_1 < (a0.size : Int) := of_decide_eq_true (by first | (with_reducible assumption) | assumption)
                  have hx5 := bt_at a0 x6_1
                  replace p5 := eq_true p5
                  replace q5 := eq_true q5
                  have p12 : 0 ≤ (x6_1 : Int) := of_decide_eq_true (by first | (with_reducible assumption) | assumption)
                  have q12 : x6_1 < (a0.size : Int) := of_decide_eq_true (by first | (with_reducible assumption) | assumption)
                  have hx12 := bt_at a0 x6_1
                  replace p12 := eq_true p12
                  replace q12 := eq_true q12
                  go_wp2
                  go_ret
                  exact ⟨by first | rfl | (simp; done) | (simp [*]; done) | (simp; cases a0.toList <;> rfl), by repeat (first | exact Drawn0.refl _ | apply Drawn0.step)⟩
                · rw [if_neg c14] at H
                  have c14b0 : (x6_1 == 0) = false := beq_eq_false_iff_ne.mpr c14
                  have c14b1 : (x6_1 != 0) = true := bne_iff_ne.mpr c14
                  by_cases c16 : (bt a0 x6_1) < 48
                  · rw [if_pos c16] at H
                    have c16b0 : decide ((bt a0 x6_1) < 48) = true := decide_eq_true c16
                    clear c16
                    obtain rfl := Option.some.inj H
                    have p5 : 0 ≤ (x6_1 : Int) := of_decide_eq_true (by first | (with_reducible assumption) | assumption)
                    have q5 : x6_1 < (a0.size : Int) := of_decide_eq_true (by first | (with_reducible assumption) | assumption)
                    have hx5 := bt_at a0 x6_1
                    replace p5 := eq_true p5
                    replace q5 := eq_true q5
                    have p12 : 0 ≤ (x6_1 : Int) := of_decide_eq_true (by first | (with_reducible assumption) | assumption)
                    have q12 : x6_1 < (a0.size : Int) := of_decide_eq_true (by first | (with_reducible assumption) | assumption)
                    have hx12 := bt_at a0 x6_1
                    replace p12 := eq_true p12
                    replace q12 := eq_true q12
                    have p15 : 0 ≤ (x6_1 : Int) := of_decide_eq_true (by first | (with_reducible assumption) | assumption)
                    have q15 : x6_1 < (a0.size : Int) := of_decide_eq_true (by first | (with_reducible assumption) | assumption)
                    have hx15 := bt_at a0 x6_1
                    replace p15 := eq_true p15
                    replace q15 := eq_true q15
                    go_wp2
                    go_ret
                    exact ⟨by first | rfl | (simp; done) | (simp [*]; done) | (simp; cases a0.toList <;> rfl), by repeat (first | exact Drawn0.refl _ | apply Drawn0.step)⟩
                  · rw [if_neg c16] at H
                    have c16b0 : decide ((bt a0 x6_1) < 48) = false := decide_eq_false c16
                    clear c16
                    by_cases c18 : (bt a0 x6_1) > 57
                    · rw [if_pos c18] at H
                      have c18b0 : decide (57 < (bt a0 x6_1)) = true := decide_eq_true c18
                      clear c18
                      obtain rfl := Option.some.inj H
                      have p5 : 0 ≤ (x6_1 : Int) := of_decide_eq_true (by first | (with_reducible assumption) | assumption)
                      have q5 : x6_1 < (a0.size : Int) := of_decide_eq_true (by first | (with_reducible assumption) | assumption)
                      have hx5 := bt_at a0 x6_1
                      replace p5 := eq_true p5
                      replace q5 := eq_true q5
                      have p12 : 0 ≤ (x6_1 : Int) := of_decide_eq_true (by first | (with_reducible assumption) | assumption)
                      have q12 : x6_1 < (a0.size : Int) := of_decide_eq_true (by first | (with_reducible assumption) | assumption)
                      have hx12 := bt_at a0 x6_1
                      replace p12 := eq_true p12
                      replace q12 := eq_true q12
                      have p15 : 0 ≤ (x6_1 : Int) := of_decide_eq_true (by first | (with_reducible assumption) | assumption)
                      have q15 : x6_1 < (a0.size : Int) := of_decide_eq_true (by first | (with_reducible assumption) | assumption)
                      have hx15 := bt_at a0 x6_1
                      replace p15 := eq_true p15
                      replace q15 := eq_true q15
                      have p17 : 0 ≤ (x6_1 : Int) := of_decide_eq_true (by first | (with_reducible assumption) | assumption)
                      have q17 : x6_1 < (a0.size : Int) := of_decide_eq_true (by first | (with_reducible assumption) | assumption)
                      have hx17 := bt_at a0 x6_1
                      replace p17 := eq_true p17
                      replace q17 := eq_true q17
                      go_wp2
                      go_ret
                      exact ⟨by first | rfl | (simp; done) | (simp [*]; done) | (simp; cases a0.toList <;> rfl), by repeat (first | exact Drawn0.refl _ | apply Drawn0.step)⟩
                    · rw [if_neg c18] at H
                      have c18b0 : decide (57 < (bt a0 x6_1)) = false := decide_eq_false c18
                      clear c18
                      have H' := Aside0.mk H
                      clear H
                      have p5 : 0 ≤ (x6_1 : Int) := of_decide_eq_true (by first | (with_reducible assumption) | assumption)
                      have q5 : x6_1 < (a0.size : Int) := of_decide_eq_true (by first | (with_reducible assumption) | assumption)
                      have hx5 := bt_at a0 x6_1
                      replace p5 := eq_true p5
                      replace q5 := eq_true q5
                      have p12 : 0 ≤ (x6_1 : Int) := of_decide_eq_true (by first | (with_reducible assumption) | assumption)
                      have q12 : x6_1 < (a0.size : Int) := of_decide_eq_true (by first | (with_reducible assumption) | assumption)
                      have hx12 := bt_at a0 x6_1
                      replace p12 := eq_true p12
                      replace q12 := eq_true q12
                      have p15 : 0 ≤ (x6_1 : Int) := of_decide_eq_true (by first | (with_reducible assumption) | assumption)
                      have q15 : x6_1 < (a0.size : Int) := of_decide_eq_true (by first | (with_reducible assumption) | assumption)
                      have hx15 := bt_at a0 x6_1
                      replace p15 := eq_true p15
                      replace q15 := eq_true q15
                      have p17 : 0 ≤ (x6_1 : Int) := of_decide_eq_true (by first | (with_reducible assumption) | assumption)
                      have q17 : x6_1 < (a0.size : Int) := of_decide_eq_true (by first | (with_reducible assumption) | assumption)
                      have hx17 := bt_at a0 x6_1
                      replace p17 := eq_true p17
                      replace q17 := eq_true q17
                      go_wp2
                      go_roundg k1
                      case measure => have := HK1.out; omega
                      case rel => exact ⟨(wrap64 (x6_1 + 1)), (by first | rfl | (simp; done) | (simp [*]; done)), H', ⟨by have := HK1.out; omega⟩, by repeat (first | exact Drawn0.refl _ | apply Drawn0.step)⟩
              · rw [if_neg c13] at H
                have c13b0 : decide (122 < (bt a0 x6_1)) = false := decide_eq_false c13
                clear c13
                have H' := Aside0.mk H
                clear H
                have p5 : 0 ≤ (x6_1 : Int) := of_decide_eq_true (by first | (with_reducible assumption) | assumption)
                have q5 : x6_1 < (a0.size : Int) := of_decide_eq_true (by first | (with_reducible assumption) | assumption)
                have hx5 := bt_at a0 x6_1
                replace p5 := eq_true p5
                replace q5 := eq_true q5
                have p12 : 0 ≤ (x6_1 : Int) := of_decide_eq_true (by first | (with_reducible assumption) | assumption)
                have q12 : x6_1 < (a0.size : Int) := of_decide_eq_true (by first | (with_reducible assumption) | assumption)
                have hx12 := bt_at a0 x6_1
                replace p12 := eq_true p12
                replace q12 := eq_true q12
                go_wp2
                go_roundg k1
                case measure => have := HK1.out; omega
                case rel => exact ⟨(wrap64 (x6_1 + 1)), (by first | rfl | (simp; done) | (simp [*]; done)), H', ⟨by have := HK1.out; omega⟩, by repeat (first | exact Drawn0.refl _ | apply Drawn0.step)⟩
          · rw [if_neg c4] at H
            exact absurd H (by simp)
        · rw [if_neg c3] at H
          exact absurd H (by simp)
      · rw [if_neg c2] at H
        have c2b0 : decide (x6_1 < (a0.size : Int)) = false := decide_eq_false c2
        clear c2
        obtain rfl := Option.some.inj H
        go_wp2
        go_ret
        exact ⟨by first | rfl | (simp; done) | (simp [*]; done) | (simp; cases a0.toList <;> rfl), by repeat (first | exact Drawn0.refl _ | apply Drawn0.step)⟩

end Go.Proofs.Ytlallihdiffheaa.GT
