-- made by a program of this session, after the kit's print
import Derived.Test.YtlallihdiffheaaDoorGTx0
namespace Go.Proofs.YtlallihdiffheaaDoor.GT
open Go.RowKit Go.Proofs.YtlallihdiffheaaDoorW.PrintWords Go.Proofs.YtlallihdiffheaaDoorW.PrintLast Go.Proofs.YtlallihdiffheaaDoorW.PrintMore
attribute [local go_sem] max2_int min2_int max_two min_two max_three min_three max_four min_four   -- for this text's walks alone
set_option linter.unusedVariables false
set_option linter.unusedSimpArgs false

/-! ### spec_TextOf: function 23 -/
mutual
def spec_TextOf.l0 : Nat → ByteArray → List (S25) → Int → Int → Option (ByteArray)
  | 0, _, _, _, _ => none
  | k + 1, x3, x12, x13, x14 => if x14 < x13 then (if 0 ≤ x14 then (if x14 < (x12.length : Int) then ((spec_TextOf.f k ((rd_T25 x12 x14).f0) ((rd_T25 x12 x14).f1) ((rd_T25 x12 x14).f2) ((rd_T25 x12 x14).f3) ((rd_T25 x12 x14).f4)).bind fun t149 => (if x3.size + t149.size ≤ 9223372036854775807 then (spec_TextOf.l0 k (x3 ++ t149) x12 x13 (wrap64 (x14 + 1))) else (none))) else (none)) else (none)) else (some x3)
def spec_TextOf.f : Nat → Int → ByteArray → ByteArray → List (S29) → List (S25) → Option (ByteArray)
  | 0, _, _, _, _, _ => none
  | k + 1, a0_0, a0_1, a0_2, l0_3, l0_4 => if a0_0 = 1 then (some a0_2) else (spec_TextOf.l0 k (⟨#[]⟩ : ByteArray) l0_4 (l0_4.length : Int) 0)
end
theorem spec_TextOf.mono_l : ∀ k, (∀ y0 y1 y2 y3 y4, LeO (spec_TextOf.f k y0 y1 y2 y3 y4) (spec_TextOf.f (k + 1) y0 y1 y2 y3 y4)) ∧ (∀ y0 y1 y2 y3, LeO (spec_TextOf.l0 k y0 y1 y2 y3) (spec_TextOf.l0 (k + 1) y0 y1 y2 y3))
  | 0 => ⟨fun _ _ _ _ _ r h => by simp [spec_TextOf.f] at h, fun _ _ _ _ r h => by simp [spec_TextOf.l0] at h⟩
  | k + 1 => by
    obtain ⟨ih0, ih1⟩ := spec_TextOf.mono_l k
    refine ⟨?_, ?_⟩
    · intro y0 y1 y2 y3 y4
      unfold spec_TextOf.f
      repeat' first
      | (with_reducible exact ih0 _ _ _ _ _)
      | (with_reducible exact ih1 _ _ _ _)
      | (with_reducible exact LeO.refl _)
      | (with_reducible exact LeO.none _)
      | (with_reducible refine LeO.ite ?_ ?_)
      | (with_reducible refine LeO.bind ?_ (fun _ => ?_))
      | exact ih0 _ _ _ _ _
      | exact ih1 _ _ _ _
      | exact LeO.none _
      | refine LeO.ite ?_ ?_
      | refine LeO.bind ?_ (fun _ => ?_)
    · intro y0 y1 y2 y3
      unfold spec_TextOf.l0
      repeat' first
      | (with_reducible exact ih0 _ _ _ _ _)
      | (with_reducible exact ih1 _ _ _ _)
      | (with_reducible exact LeO.refl _)
      | (with_reducible exact LeO.none _)
      | (with_reducible refine LeO.ite ?_ ?_)
      | (with_reducible refine LeO.bind ?_ (fun _ => ?_))
      | exact ih0 _ _ _ _ _
      | exact ih1 _ _ _ _
      | exact LeO.none _
      | refine LeO.ite ?_ ?_
      | refine LeO.bind ?_ (fun _ => ?_)
theorem spec_TextOf.mono : ∀ a0 a1 a2 a3 a4 k, LeO (spec_TextOf.f k a0 a1 a2 a3 a4) (spec_TextOf.f (k + 1) a0 a1 a2 a3 a4) := by
  intro a0 a1 a2 a3 a4 k
  obtain ⟨ih0, ih1⟩ := spec_TextOf.mono_l k
  exact ih0 a0 a1 a2 a3 a4
set_option maxHeartbeats 8000000 in
set_option maxRecDepth 100000 in
theorem spec_TextOf.calls (k : Nat) : ∀ (a0_0 : Int) (a0_1 : ByteArray) (a0_2 : ByteArray) (A0_3 : Option Addr) (c0_3 : Nat) (l0_3 : List (S29)) (A0_4 : Option Addr) (c0_4 : Nat) (l0_4 : List (S25)) (r : ByteArray) (w : World) (hr0_3 : Kd.C k29 w A0_3 l0_3.length l0_3) (hc0_3 : l0_3.length ≤ c0_3) (hr0_4 : Kd.C k25 w A0_4 l0_4.length l0_4) (hc0_4 : l0_4.length ≤ c0_4) (h : spec_TextOf.f k a0_0 a0_1 a0_2 l0_3 l0_4 = some r),
    Calls Tryd.prog 23 #[.agg #[.int .i64 a0_0, .string a0_1, .string a0_2, .slice A0_3 l0_3.length c0_3, .slice A0_4 l0_4.length c0_4]] w fun e w' => e = .returned (.string r) ∧ Below w.heap.size w w' := by
  induction k using Nat.strongRecOn with
  | _ k ih =>
  intro a0_0 a0_1 a0_2 A0_3 c0_3 l0_3 A0_4 c0_4 l0_4 r w hr0_3 hc0_3 hr0_4 hc0_4 h
  cases k with
  | zero => exact absurd h (by simp [spec_TextOf.f])
  | succ k =>
  simp only [spec_TextOf.f] at h
  have hu25 := Tryd.underlying25
  have HR0_3 := Aside0.mk hr0_3
  have HC0_3 := Aside0.mk hc0_3
  clear hr0_3 hc0_3
  have HR0_4 := Aside0.mk hr0_4
  have HC0_4 := Aside0.mk hc0_4
  clear hr0_4 hc0_4
  have HB := Aside0.mk (Below.refl w.heap.size w)
  have H : (if a0_0 = 1 then (some a0_2) else (spec_TextOf.l0 k (⟨#[]⟩ : ByteArray) l0_4 (l0_4.length : Int) 0)) = some r := h
  clear h
  by_cases c2 : a0_0 = 1
  · rw [if_pos c2] at H
    have c2b0 : (a0_0 == 1) = true := beq_iff_eq.mpr c2
    have c2b1 : (a0_0 != 1) = false := bne_eq_false_iff_eq.mpr c2
    clear c2
    obtain rfl := Option.some.inj H
    go_enter Tryd.func23, Tryd.ntmps23
    go_wp2_with (first | ((with_reducible refine gate_dst (N := 1) rfl ?_); refine box_event ?hg (N := 1) ?hd (cs := #[.int .i64 a0_0, .string a0_1, .string a0_2, .slice A0_3 l0_3.length c0_3, .slice A0_4 l0_4.length c0_4]) (t := 25) ?hr ?_; (case hd => rfl); (case hg => rfl); (case hr => first | (go_simp; done) | (go_simp; rfl)); intro gb146 hg w3 hbox hb; have n0_ := Aside0.mk (below_step (by repeat (first | (with_reducible first | exact HB.out | apply below_alloc | apply pw_below_drewN | apply below_drew1) | exact HB.out)) hb); have n1_ := Aside0.mk (hbox); have n2_ := Aside0.mk ((by rw [hg]; exact (below_size (by repeat (first | (with_reducible first | exact HB.out | apply below_alloc | apply pw_below_drewN | apply below_drew1) | exact HB.out))) : w.heap.size ≤ gb146)); have n3_ := Aside0.mk ((by rw [hg]; exact (below_size (by repeat (first | (with_reducible first | exact HB.out | apply below_alloc | apply pw_below_drewN | apply below_drew1) | exact HB.out))) : w.heap.size ≤ gb146)); clear HB; have HB := n0_; have BK146 := n1_; have GW146 := n2_; have GE146 := n3_; clear n0_ n1_ n2_ n3_; clear hb hbox hg; have hcz4_0 : w3.cell? ⟨gb146, 0, none⟩ = some (.int .i64 a0_0) := (blk_cell BK146.out 0).trans rfl; have hcz4_1 : w3.cell? ⟨gb146, 1, none⟩ = some (.string a0_1) := (blk_cell BK146.out 1).trans rfl; have hcz4_2 : w3.cell? ⟨gb146, 2, none⟩ = some (.string a0_2) := (blk_cell BK146.out 2).trans rfl; have hcz4_3 : w3.cell? ⟨gb146, 3, none⟩ = some (.slice A0_3 l0_3.length c0_3) := (blk_cell BK146.out 3).trans rfl; have hcz4_4 : w3.cell? ⟨gb146, 4, none⟩ = some (.slice A0_4 l0_4.length c0_4) := (blk_cell BK146.out 4).trans rfl; have hfz4_0 := blk_frozen BK146.out 0; have hfz4_1 := blk_frozen BK146.out 1; have hfz4_2 := blk_frozen BK146.out 2; have hfz4_3 := blk_frozen BK146.out 3; have hfz4_4 := blk_frozen BK146.out 4))
    go_ret
    exact ⟨by first | rfl | (simp [errW_none, errW_some] <;> rfl) | (simp [*, errW_none, errW_some] <;> rfl), by repeat (first | (with_reducible first | exact HB.out | apply below_alloc | apply pw_below_drewN | apply below_drew1 | refine below_set ?_ GE146.out) | exact HB.out)⟩
  · rw [if_neg c2] at H
    have c2b0 : (a0_0 == 1) = false := beq_eq_false_iff_ne.mpr c2
    have c2b1 : (a0_0 != 1) = true := bne_iff_ne.mpr c2
    have H' := Aside0.mk H
    clear H
    go_enter Tryd.func23, Tryd.ntmps23
    go_wp2_with (first | ((with_reducible refine gate_dst (N := 1) rfl ?_); refine box_event ?hg (N := 1) ?hd (cs := #[.int .i64 a0_0, .string a0_1, .string a0_2, .slice A0_3 l0_3.length c0_3, .slice A0_4 l0_4.length c0_4]) (t := 25) ?hr ?_; (case hd => rfl); (case hg => rfl); (case hr => first | (go_simp; done) | (go_simp; rfl)); intro gb146 hg w5 hbox hb; have n0_ := Aside0.mk (below_step (by repeat (first | (with_reducible first | exact HB.out | apply below_alloc | apply pw_below_drewN | apply below_drew1) | exact HB.out)) hb); have n1_ := Aside0.mk (hbox); have n2_ := Aside0.mk ((by rw [hg]; exact (below_size (by repeat (first | (with_reducible first | exact HB.out | apply below_alloc | apply pw_below_drewN | apply below_drew1) | exact HB.out))) : w.heap.size ≤ gb146)); have n3_ := Aside0.mk ((by rw [hg]; exact (below_size (by repeat (first | (with_reducible first | exact HB.out | apply below_alloc | apply pw_below_drewN | apply below_drew1) | exact HB.out))) : w.heap.size ≤ gb146)); clear HB; have HB := n0_; have BK146 := n1_; have GW146 := n2_; have GE146 := n3_; clear n0_ n1_ n2_ n3_; clear hb hbox hg; have hcz6_0 : w5.cell? ⟨gb146, 0, none⟩ = some (.int .i64 a0_0) := (blk_cell BK146.out 0).trans rfl; have hcz6_1 : w5.cell? ⟨gb146, 1, none⟩ = some (.string a0_1) := (blk_cell BK146.out 1).trans rfl; have hcz6_2 : w5.cell? ⟨gb146, 2, none⟩ = some (.string a0_2) := (blk_cell BK146.out 2).trans rfl; have hcz6_3 : w5.cell? ⟨gb146, 3, none⟩ = some (.slice A0_3 l0_3.length c0_3) := (blk_cell BK146.out 3).trans rfl; have hcz6_4 : w5.cell? ⟨gb146, 4, none⟩ = some (.slice A0_4 l0_4.length c0_4) := (blk_cell BK146.out 4).trans rfl; have hfz6_0 := blk_frozen BK146.out 0; have hfz6_1 := blk_frozen BK146.out 1; have hfz6_2 := blk_frozen BK146.out 2; have hfz6_3 := blk_frozen BK146.out 3; have hfz6_4 := blk_frozen BK146.out 4))
    go_loopg [3, 14] k (fun kq v3 v14 w' => ∃ (x3_1 : ByteArray) (x14_1 : Int), v3 = .string x3_1 ∧ v14 = .int .i64 x14_1 ∧ Aside0 (spec_TextOf.l0 kq x3_1 l0_4 (l0_4.length : Int) x14_1 = some r) ∧ Aside0 (kq ≤ k) ∧ Aside0 (w'.heap[gb146]? = some (.cells #[.int .i64 a0_0, .string a0_1, .string a0_2, (.slice A0_3 l0_3.length c0_3), (.slice A0_4 l0_4.length c0_4)] 25 (0, 0))) ∧ Aside0 (Below w.heap.size w w'))
    case atStart => exact ⟨((⟨#[]⟩ : ByteArray)), (0), (by first | rfl | (simp; done) | (simp [*]; done)), (by first | rfl | (simp; done) | (simp [*]; done)), H', ⟨Nat.le_refl _⟩, ⟨by (with_reducible repeat (first | refine blk_drewN ?_ _ | refine blk_drew ?_ | refine blk_alloc ?_ _)); exact BK146.out⟩, ⟨by repeat (first | (with_reducible first | exact HB.out | apply below_alloc | apply pw_below_drewN | apply below_drew1 | refine below_set ?_ GE146.out) | exact HB.out)⟩⟩
    case round =>
      clear H'
      try clear c2
      try clear c2b0
      try clear c2b1
      try clear p2
      try clear hcz4_0
      try clear hcz4_1
      try clear hcz4_2
      try clear hcz4_3
      try clear hcz4_4
      try clear hcz6_0
      try clear hcz6_1
      try clear hcz6_2
      try clear hcz6_3
      try clear hcz6_4
      try clear hfz4_0
      try clear hfz4_1
      try clear hfz4_2
      try clear hfz4_3
      try clear hfz4_4
      try clear hfz6_0
      try clear hfz6_1
      try clear hfz6_2
      try clear hfz6_3
      try clear hfz6_4
      obtain ⟨x3_1, x14_1, rfl, rfl, HA, HK1, BK146, HB⟩ := hrel
      cases gk with
      | zero => exact absurd HA.out (by simp [spec_TextOf.l0])
      | succ k1 =>
        have H := HA.out
        clear HA
        simp only [spec_TextOf.l0] at H
        by_cases c7 : x14_1 < (l0_4.length : Int)
        · rw [if_pos c7] at H
          have c7b0 : decide (x14_1 < (l0_4.length : Int)) = true := decide_eq_true c7
          clear c7
          by_cases c8 : 0 ≤ x14_1
          · rw [if_pos c8] at H
            have c8b0 : decide (0 ≤ x14_1) = true := decide_eq_true c8
            clear c8
            by_cases c9 : x14_1 < (l0_4.length : Int)
            · rw [if_pos c9] at H
              have c9b0 : decide (x14_1 < (l0_4.length : Int)) = true := decide_eq_true c9
              clear c9
              replace H := Option.bind_eq_some_iff.mp H
              obtain ⟨t149, A100, H⟩ := H
              replace H : (if x3_1.size + t149.size ≤ 9223372036854775807 then (spec_TextOf.l0 k1 (x3_1 ++ t149) l0_4 (l0_4.length : Int) (wrap64 (x14_1 + 1))) else (none)) = some r := H
              have A10 := Aside0.mk A100
              clear A100
              by_cases c11 : x3_1.size + t149.size ≤ 9223372036854775807
              · rw [if_pos c11] at H
                have c11b0 := eq_true c11
                have c11b1 : decide (x3_1.size + t149.size ≤ 9223372036854775807) = true := decide_eq_true c11
                try have c11b2 : (9223372036854775807 < x3_1.size + t149.size) = False := eq_false (Nat.not_lt.2 c11)
                have H' := Aside0.mk H
                clear H
                have p147 : 0 ≤ (x14_1 : Int) := of_decide_eq_true (by first | (with_reducible assumption) | assumption)
                have q147 : x14_1 < (l0_4.length : Int) := of_decide_eq_true (by first | (with_reducible assumption) | assumption)
                obtain ⟨ad147, A147_3, c147_3, A147_4, c147_4, e147, hx147_0, hx147_1, hx147_2, hx147_3, hx147_4, hl147_3, hi147_3, hl147_4, hi147_4⟩ := at_T25 HR0_4.out x14_1 p147 q147
                cases e147
                replace hx147_0 := (HB.out.cell (World.block_lt_of_cell? w _ hx147_0)).trans hx147_0
                replace hx147_1 := (HB.out.cell (World.block_lt_of_cell? w _ hx147_1)).trans hx147_1
                replace hx147_2 := (HB.out.cell (World.block_lt_of_cell? w _ hx147_2)).trans hx147_2
                replace hx147_3 := (HB.out.cell (World.block_lt_of_cell? w _ hx147_3)).trans hx147_3
                replace hx147_4 := (HB.out.cell (World.block_lt_of_cell? w _ hx147_4)).trans hx147_4
                have HR147_3 := Aside0.mk hi147_3
                have HC147_3 := Aside0.mk hl147_3
                clear hi147_3 hl147_3
                have HR147_4 := Aside0.mk hi147_4
                have HC147_4 := Aside0.mk hl147_4
                clear hi147_4 hl147_4
                replace p147 := eq_true p147
                replace q147 := eq_true q147
                go_wp2_with (first | ((with_reducible refine gate_dst (N := 5) rfl ?_); refine box_event ?hg (N := 5) ?hd (cs := #[.int .i64 0, .string (⟨#[]⟩ : ByteArray), .string (⟨#[]⟩ : ByteArray), .slice none 0 0, .slice none 0 0]) (t := 25) ?hr ?_; (case hd => rfl); (case hg => rfl); (case hr => first | (go_simp; done) | (go_simp; rfl)); intro gb148 hg w12 hbox hb; have n0_ := Aside0.mk (blk_below (g := gb146) (o := .cells #[.int .i64 a0_0, .string a0_1, .string a0_2, .slice A0_3 l0_3.length c0_3, .slice (some ad147) l0_4.length c0_4] 25 (0, 0)) (by (with_reducible repeat (first | refine blk_drewN ?_ _ | refine blk_drew ?_ | refine blk_alloc ?_ _)); exact BK146.out) hb); have n1_ := Aside0.mk (below_step (by repeat (first | (with_reducible first | exact HB.out | apply below_alloc | apply pw_below_drewN | apply below_drew1 | refine below_set ?_ GE146.out) | exact HB.out)) hb); have n2_ := Aside0.mk (hbox); have n3_ := Aside0.mk ((by rw [hg]; exact (below_size (by repeat (first | (with_reducible first | exact HB.out | apply below_alloc | apply pw_below_drewN | apply below_drew1 | refine below_set ?_ GE146.out) | exact HB.out))) : w.heap.size ≤ gb148)); have n4_ := Aside0.mk ((by rw [hg]; exact (below_size (by repeat (first | (with_reducible first | exact HB.out | apply below_alloc | apply pw_below_drewN | apply below_drew1 | refine below_set ?_ GE146.out) | exact HB.out))) : w.heap.size ≤ gb148)); have n5_ := Aside0.mk ((by rw [hg]; exact Nat.ne_of_lt (blk_lt (g := gb146) (o := .cells #[.int .i64 a0_0, .string a0_1, .string a0_2, .slice A0_3 l0_3.length c0_3, .slice (some ad147) l0_4.length c0_4] 25 (0, 0)) (by (with_reducible repeat (first | refine blk_drewN ?_ _ | refine blk_drew ?_ | refine blk_alloc ?_ _)); exact BK146.out)) : gb146 ≠ gb148)); have n6_ := Aside0.mk ((by rw [hg]; exact Nat.ne_of_gt (blk_lt (g := gb146) (o := .cells #[.int .i64 a0_0, .string a0_1, .string a0_2, .slice A0_3 l0_3.length c0_3, .slice (some ad147) l0_4.length c0_4] 25 (0, 0)) (by (with_reducible repeat (first | refine blk_drewN ?_ _ | refine blk_drew ?_ | refine blk_alloc ?_ _)); exact BK146.out)) : gb148 ≠ gb146)); clear BK146; clear HB; have BK146 := n0_; have HB := n1_; have BK148 := n2_; have GW148 := n3_; have GE148 := n4_; have NB146_148 := n5_; have NB148_146 := n6_; clear n0_ n1_ n2_ n3_ n4_ n5_ n6_; clear hb hbox hg; have hnb13 := NB148_146.out; have hnc13 := NB146_148.out; have hcz14_0 : w12.cell? ⟨gb148, 0, none⟩ = some (.int .i64 0) := (blk_cell BK148.out 0).trans rfl; have hcz14_1 : w12.cell? ⟨gb148, 1, none⟩ = some (.string (⟨#[]⟩ : ByteArray)) := (blk_cell BK148.out 1).trans rfl; have hcz14_2 : w12.cell? ⟨gb148, 2, none⟩ = some (.string (⟨#[]⟩ : ByteArray)) := (blk_cell BK148.out 2).trans rfl; have hcz14_3 : w12.cell? ⟨gb148, 3, none⟩ = some (.slice none 0 0) := (blk_cell BK148.out 3).trans rfl; have hcz14_4 : w12.cell? ⟨gb148, 4, none⟩ = some (.slice none 0 0) := (blk_cell BK148.out 4).trans rfl; have hfz14_0 := blk_frozen BK148.out 0; have hfz14_1 := blk_frozen BK148.out 1; have hfz14_2 := blk_frozen BK148.out 2; have hfz14_3 := blk_frozen BK148.out 3; have hfz14_4 := blk_frozen BK148.out 4) | ((with_reducible refine gate_callee (f := 23) rfl ?_); refine goesL_ (some 20) rfl rfl Tryd.func23 (by kernel_rfl) rfl #[.agg #[.int .i64 ((rd_T25 l0_4 x14_1).f0), .string ((rd_T25 l0_4 x14_1).f1), .string ((rd_T25 l0_4 x14_1).f2), .slice A147_3 ((rd_T25 l0_4 x14_1).f3).length c147_3, .slice A147_4 ((rd_T25 l0_4 x14_1).f4).length c147_4]] rfl (by (try simp only [List.map_toArray, List.map_cons, List.map_nil]); first | done | rfl | (simp only [List.length_drop, List.length_take]; rfl)) ?_; (with_reducible refine (ih k1 (by have := HK1.out; omega) ((rd_T25 l0_4 x14_1).f0) ((rd_T25 l0_4 x14_1).f1) ((rd_T25 l0_4 x14_1).f2) _ _ ((rd_T25 l0_4 x14_1).f3) _ _ ((rd_T25 l0_4 x14_1).f4) t149 _ ?side1 ?side2 ?side3 ?side4 A10.out).mono ?_); (case side1 => exact Kd.C_below HR147_3.out (by repeat (first | (with_reducible first | exact HB.out | apply below_alloc | apply pw_below_drewN | apply below_drew1 | refine below_set ?_ GE146.out | refine below_set ?_ GE148.out) | exact HB.out))); (case side2 => exact HC147_3.out); (case side3 => exact Kd.C_below HR147_4.out (by repeat (first | (with_reducible first | exact HB.out | apply below_alloc | apply pw_below_drewN | apply below_drew1 | refine below_set ?_ GE146.out | refine below_set ?_ GE148.out) | exact HB.out))); (case side4 => exact HC147_4.out); rintro e w15 ⟨rfl, hb⟩; refine ⟨_, rfl, ?_⟩; have n0_ := Aside0.mk (blk_below (g := gb146) (o := .cells #[.int .i64 a0_0, .string a0_1, .string a0_2, .slice A0_3 l0_3.length c0_3, .slice (some ad147) l0_4.length c0_4] 25 (0, 0)) (by (with_reducible repeat (first | refine blk_drewN ?_ _ | refine blk_drew ?_ | refine blk_alloc ?_ _)); refine blk_far ?_ NB146_148.out _; (with_reducible repeat (first | refine blk_drewN ?_ _ | refine blk_drew ?_ | refine blk_alloc ?_ _)); refine blk_far ?_ NB146_148.out _; (with_reducible repeat (first | refine blk_drewN ?_ _ | refine blk_drew ?_ | refine blk_alloc ?_ _)); refine blk_far ?_ NB146_148.out _; (with_reducible repeat (first | refine blk_drewN ?_ _ | refine blk_drew ?_ | refine blk_alloc ?_ _)); refine blk_far ?_ NB146_148.out _; (with_reducible repeat (first | refine blk_drewN ?_ _ | refine blk_drew ?_ | refine blk_alloc ?_ _)); refine blk_far ?_ NB146_148.out _; (with_reducible repeat (first | refine blk_drewN ?_ _ | refine blk_drew ?_ | refine blk_alloc ?_ _)); exact BK146.out) hb); have n1_ := Aside0.mk (blk_below (g := gb148) (o := .cells #[.int .i64 ((rd_T25 l0_4 x14_1).f0), .string ((rd_T25 l0_4 x14_1).f1), .string ((rd_T25 l0_4 x14_1).f2), .slice A147_3 ((rd_T25 l0_4 x14_1).f3).length c147_3, .slice A147_4 ((rd_T25 l0_4 x14_1).f4).length c147_4] 25 (0, 0)) (by (with_reducible repeat (first | refine blk_drewN ?_ _ | refine blk_drew ?_ | refine blk_alloc ?_ _)); refine blk_put (cs := #[.int .i64 ((rd_T25 l0_4 x14_1).f0), .string ((rd_T25 l0_4 x14_1).f1), .string ((rd_T25 l0_4 x14_1).f2), .slice A147_3 ((rd_T25 l0_4 x14_1).f3).length c147_3, .slice none 0 0]) ?_ 4 _ rfl; (with_reducible repeat (first | refine blk_drewN ?_ _ | refine blk_drew ?_ | refine blk_alloc ?_ _)); refine blk_put (cs := #[.int .i64 ((rd_T25 l0_4 x14_1).f0), .string ((rd_T25 l0_4 x14_1).f1), .string ((rd_T25 l0_4 x14_1).f2), .slice none 0 0, .slice none 0 0]) ?_ 3 _ rfl; (with_reducible repeat (first | refine blk_drewN ?_ _ | refine blk_drew ?_ | refine blk_alloc ?_ _)); refine blk_put (cs := #[.int .i64 ((rd_T25 l0_4 x14_1).f0), .string ((rd_T25 l0_4 x14_1).f1), .string (⟨#[]⟩ : ByteArray), .slice none 0 0, .slice none 0 0]) ?_ 2 _ rfl; (with_reducible repeat (first | refine blk_drewN ?_ _ | refine blk_drew ?_ | refine blk_alloc ?_ _)); refine blk_put (cs := #[.int .i64 ((rd_T25 l0_4 x14_1).f0), .string (⟨#[]⟩ : ByteArray), .string (⟨#[]⟩ : ByteArray), .slice none 0 0, .slice none 0 0]) ?_ 1 _ rfl; (with_reducible repeat (first | refine blk_drewN ?_ _ | refine blk_drew ?_ | refine blk_alloc ?_ _)); refine blk_put (cs := #[.int .i64 0, .string (⟨#[]⟩ : ByteArray), .string (⟨#[]⟩ : ByteArray), .slice none 0 0, .slice none 0 0]) ?_ 0 _ rfl; (with_reducible repeat (first | refine blk_drewN ?_ _ | refine blk_drew ?_ | refine blk_alloc ?_ _)); exact BK148.out) hb); have n2_ := Aside0.mk (below_step (by repeat (first | (with_reducible first | exact HB.out | apply below_alloc | apply pw_below_drewN | apply below_drew1 | refine below_set ?_ GE146.out | refine below_set ?_ GE148.out) | exact HB.out)) hb); clear BK146; clear BK148; clear HB; have BK146 := n0_; have BK148 := n1_; have HB := n2_; clear n0_ n1_ n2_; (try clear hb); (try clear hb2); (try clear hk); (try clear hi)))
                go_roundg k1
                case measure => have := HK1.out; omega
                case rel => exact ⟨(x3_1 ++ t149), (wrap64 (x14_1 + 1)), (by first | rfl | (simp; done) | (simp [*]; done)), (by first | rfl | (simp; done) | (simp [*]; done)), H', ⟨by have := HK1.out; omega⟩, ⟨by (with_reducible repeat (first | refine blk_drewN ?_ _ | refine blk_drew ?_ | refine blk_alloc ?_ _)); exact BK146.out⟩, ⟨by repeat (first | (with_reducible first | exact HB.out | apply below_alloc | apply pw_below_drewN | apply below_drew1 | refine below_set ?_ GE146.out | refine below_set ?_ GE148.out) | exact HB.out)⟩⟩
              · rw [if_neg c11] at H
                exact absurd H (by simp)
            · rw [if_neg c9] at H
              exact absurd H (by simp)
          · rw [if_neg c8] at H
            exact absurd H (by simp)
        · rw [if_neg c7] at H
          have c7b0 : decide (x14_1 < (l0_4.length : Int)) = false := decide_eq_false c7
          clear c7
          obtain rfl := Option.some.inj H
          go_wp2
          go_ret
          exact ⟨by first | rfl | (simp [errW_none, errW_some] <;> rfl) | (simp [*, errW_none, errW_some] <;> rfl), by repeat (first | (with_reducible first | exact HB.out | apply below_alloc | apply pw_below_drewN | apply below_drew1 | refine below_set ?_ GE146.out) | exact HB.out)⟩

end Go.Proofs.YtlallihdiffheaaDoor.GT
