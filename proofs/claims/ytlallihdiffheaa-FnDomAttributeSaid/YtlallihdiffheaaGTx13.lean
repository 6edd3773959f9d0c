-- made by a program of this session, after the kit's print
import Derived.Test.YtlallihdiffheaaGTx0
import Derived.Test.YtlallihdiffheaaGTx2
import Derived.Test.YtlallihdiffheaaGTx8
import Derived.Test.YtlallihdiffheaaGivDomAttribute
namespace Go.Proofs.Ytlallihdiffheaa.GT
open Go.RowKit Go.Proofs.YtlallihdiffheaaW.PrintWords Go.Proofs.YtlallihdiffheaaW.PrintLast Go.Proofs.YtlallihdiffheaaW.PrintMore
attribute [local go_sem] max2_int min2_int max_two min_two max_three min_three max_four min_four   -- for this text's walks alone
set_option linter.unusedVariables false
set_option linter.unusedSimpArgs false

/-! ### laws_FnDomAttribute: function 4 -/
mutual
def laws_FnDomAttribute.j0 : Nat → ByteArray → ByteArray → Bool → Int → ByteArray → ByteArray → List (S34) → List (S25) → Option (Bool)
  | 0, _, _, _, _, _, _, _, _ => none
  | k + 1, x1, x2, x26, x282000, x282001, x282002, x282003, x282004 => if x26 = true then (some true) else ((laws_tree29.f k x282000 x282001 x282002 x282003 x282004).bind fun t283 => (if t283 = true then (laws_FnDomAttribute.l0 k x1 x2 (⟨#[]⟩ : ByteArray) false x282003 (x282003.length : Int) 0 x282000 x282001 x282002 x282003 x282004) else (some true)))
def laws_FnDomAttribute.l0 : Nat → ByteArray → ByteArray → ByteArray → Bool → List (S34) → Int → Int → Int → ByteArray → ByteArray → List (S34) → List (S25) → Option (Bool)
  | 0, _, _, _, _, _, _, _, _, _, _, _, _ => none
  | k + 1, x1, x2, x7, x8, x31, x32, x33, x282000, x282001, x282002, x282003, x282004 => if x33 < x32 then (if 0 ≤ x33 then (if x33 < (x31.length : Int) then (if ((rd_T34 x31 x33).f0).toList = x1.toList then (laws_FnDomAttribute.l0 k x1 x2 ((rd_T34 x31 x33).f1) true x31 x32 (wrap64 (x33 + 1)) x282000 x282001 x282002 x282003 x282004) else (laws_FnDomAttribute.l0 k x1 x2 x7 x8 x31 x32 (wrap64 (x33 + 1)) x282000 x282001 x282002 x282003 x282004)) else (none)) else (none)) else ((impl_AttributeOf.f x282000 x282001 x282002 x282003 x282004 x1).bind fun bt286 => (if x8 = true then (if (bt286.2 == x8) = true then (if bt286.1.toList = x7.toList then ((impl_AttributeOr.f x282000 x282001 x282002 x282003 x282004 x1 x2).bind fun t288 => (if t288.toList = x7.toList then ((laws_living29.f).bind fun t289 => (some t289)) else (some false))) else (some false)) else (some false)) else (if (bt286.2 == x8) = true then (if bt286.1.toList = x7.toList then ((impl_AttributeOr.f x282000 x282001 x282002 x282003 x282004 x1 x2).bind fun t290 => (if t290.toList = x2.toList then ((laws_living29.f).bind fun t291 => (some t291)) else (some false))) else (some false)) else (some false))))
end
def laws_FnDomAttribute.f (k : Nat) (a0_0 : Int) (a0_1 : ByteArray) (a0_2 : ByteArray) (l0_3 : List (S34)) (l0_4 : List (S25)) (a1 : ByteArray) (a2 : ByteArray) : Option (Bool) := (laws_zzFits2.f k a0_0 a0_1 a0_2 l0_3 l0_4).bind fun t282 => (if t282 = true then (if (a1.size : Int) > 2147483647 then (laws_FnDomAttribute.j0 k a1 a2 true a0_0 a0_1 a0_2 l0_3 l0_4) else (laws_FnDomAttribute.j0 k a1 a2 (decide ((a2.size : Int) > 2147483647)) a0_0 a0_1 a0_2 l0_3 l0_4)) else (laws_FnDomAttribute.j0 k a1 a2 true a0_0 a0_1 a0_2 l0_3 l0_4))
theorem laws_FnDomAttribute.mono_l : ∀ k, (∀ y0 y1 y2 y3 y4 y5 y6 y7, LeO (laws_FnDomAttribute.j0 k y0 y1 y2 y3 y4 y5 y6 y7) (laws_FnDomAttribute.j0 (k + 1) y0 y1 y2 y3 y4 y5 y6 y7)) ∧ (∀ y0 y1 y2 y3 y4 y5 y6 y7 y8 y9 y10 y11, LeO (laws_FnDomAttribute.l0 k y0 y1 y2 y3 y4 y5 y6 y7 y8 y9 y10 y11) (laws_FnDomAttribute.l0 (k + 1) y0 y1 y2 y3 y4 y5 y6 y7 y8 y9 y10 y11))
  | 0 => ⟨fun _ _ _ _ _ _ _ _ r h => by simp [laws_FnDomAttribute.j0] at h, fun _ _ _ _ _ _ _ _ _ _ _ _ r h => by simp [laws_FnDomAttribute.l0] at h⟩
  | k + 1 => by
    obtain ⟨ih0, ih1⟩ := laws_FnDomAttribute.mono_l k
    refine ⟨?_, ?_⟩
    · intro y0 y1 y2 y3 y4 y5 y6 y7
      unfold laws_FnDomAttribute.j0
      repeat' first
      | (with_reducible exact ih0 _ _ _ _ _ _ _ _)
      | (with_reducible exact ih1 _ _ _ _ _ _ _ _ _ _ _ _)
      | (with_reducible exact laws_tree29.mono _ _ _ _ _ _)
      | (with_reducible exact laws_zzFits2.mono _ _ _ _ _ _)
      | (with_reducible exact LeO.refl _)
      | (with_reducible exact LeO.none _)
      | (with_reducible refine LeO.ite ?_ ?_)
      | (with_reducible refine LeO.bind ?_ (fun _ => ?_))
      | exact ih0 _ _ _ _ _ _ _ _
      | exact ih1 _ _ _ _ _ _ _ _ _ _ _ _
      | exact laws_tree29.mono _ _ _ _ _ _
      | exact laws_zzFits2.mono _ _ _ _ _ _
      | exact LeO.none _
      | refine LeO.ite ?_ ?_
      | refine LeO.bind ?_ (fun _ => ?_)
    · intro y0 y1 y2 y3 y4 y5 y6 y7 y8 y9 y10 y11
      unfold laws_FnDomAttribute.l0
      repeat' first
      | (with_reducible exact ih0 _ _ _ _ _ _ _ _)
      | (with_reducible exact ih1 _ _ _ _ _ _ _ _ _ _ _ _)
      | (with_reducible exact laws_tree29.mono _ _ _ _ _ _)
      | (with_reducible exact laws_zzFits2.mono _ _ _ _ _ _)
      | (with_reducible exact LeO.refl _)
      | (with_reducible exact LeO.none _)
      | (with_reducible refine LeO.ite ?_ ?_)
      | (with_reducible refine LeO.bind ?_ (fun _ => ?_))
      | exact ih0 _ _ _ _ _ _ _ _
      | exact ih1 _ _ _ _ _ _ _ _ _ _ _ _
      | exact laws_tree29.mono _ _ _ _ _ _
      | exact laws_zzFits2.mono _ _ _ _ _ _
      | exact LeO.none _
      | refine LeO.ite ?_ ?_
      | refine LeO.bind ?_ (fun _ => ?_)
theorem laws_FnDomAttribute.mono : ∀ a0 a1 a2 a3 a4 a5 a6 k, LeO (laws_FnDomAttribute.f k a0 a1 a2 a3 a4 a5 a6) (laws_FnDomAttribute.f (k + 1) a0 a1 a2 a3 a4 a5 a6) := by
  intro a0 a1 a2 a3 a4 a5 a6 k
  obtain ⟨ih0, ih1⟩ := laws_FnDomAttribute.mono_l k
  unfold laws_FnDomAttribute.f
  repeat' first
      | (with_reducible exact ih0 _ _ _ _ _ _ _ _)
      | (with_reducible exact ih1 _ _ _ _ _ _ _ _ _ _ _ _)
      | (with_reducible exact laws_tree29.mono _ _ _ _ _ _)
      | (with_reducible exact laws_zzFits2.mono _ _ _ _ _ _)
      | (with_reducible exact LeO.refl _)
      | (with_reducible exact LeO.none _)
      | (with_reducible refine LeO.ite ?_ ?_)
      | (with_reducible refine LeO.bind ?_ (fun _ => ?_))
      | exact ih0 _ _ _ _ _ _ _ _
      | exact ih1 _ _ _ _ _ _ _ _ _ _ _ _
      | exact laws_tree29.mono _ _ _ _ _ _
      | exact laws_zzFits2.mono _ _ _ _ _ _
      | exact LeO.none _
      | refine LeO.ite ?_ ?_
      | refine LeO.bind ?_ (fun _ => ?_)
set_option maxHeartbeats 8000000 in
set_option maxRecDepth 100000 in
theorem laws_FnDomAttribute.calls (k : Nat) (a0_0 : Int) (a0_1 : ByteArray) (a0_2 : ByteArray) (A0_3 : Option Addr) (c0_3 : Nat) (l0_3 : List (S34)) (A0_4 : Option Addr) (c0_4 : Nat) (l0_4 : List (S25)) (a1 : ByteArray) (a2 : ByteArray) (r : Bool) (w : World) (hr0_3 : Kd.C k34 w A0_3 l0_3.length l0_3) (hc0_3 : l0_3.length ≤ c0_3) (hr0_4 : Kd.C k25 w A0_4 l0_4.length l0_4) (hc0_4 : l0_4.length ≤ c0_4) (h : laws_FnDomAttribute.f k a0_0 a0_1 a0_2 l0_3 l0_4 a1 a2 = some r) :
    Calls Try.prog 4 #[.agg #[.int .i64 a0_0, .string a0_1, .string a0_2, .slice A0_3 l0_3.length c0_3, .slice A0_4 l0_4.length c0_4], .string a1, .string a2] w fun e w' => e = .returned (.bool r) ∧ Below w.heap.size w w' := by
  have hu25 := Try.underlying25
  have hu34 := Try.underlying34
  have HR0_3 := Aside0.mk hr0_3
  have HC0_3 := Aside0.mk hc0_3
  clear hr0_3 hc0_3
  have HR0_4 := Aside0.mk hr0_4
  have HC0_4 := Aside0.mk hc0_4
  clear hr0_4 hc0_4
  have HB := Aside0.mk (Below.refl w.heap.size w)
  have H : ((laws_zzFits2.f k a0_0 a0_1 a0_2 l0_3 l0_4).bind fun t282 => (if t282 = true then (if (a1.size : Int) > 2147483647 then (laws_FnDomAttribute.j0 k a1 a2 true a0_0 a0_1 a0_2 l0_3 l0_4) else (laws_FnDomAttribute.j0 k a1 a2 (decide ((a2.size : Int) > 2147483647)) a0_0 a0_1 a0_2 l0_3 l0_4)) else (laws_FnDomAttribute.j0 k a1 a2 true a0_0 a0_1 a0_2 l0_3 l0_4))) = some r := h
  clear h
  have HC4 := Aside0.mk H
  clear H
  go_enter Try.func4, Try.ntmps4
  go_upto_region 1 with (first | ((with_reducible refine gate_dst (N := 3) rfl ?_); (try (refine gate_guard (by rfl) ?_; dsimp only)); refine box_event ?hg (N := 3) ?hd (cs := #[.int .i64 a0_0, .string a0_1, .string a0_2, .slice A0_3 l0_3.length c0_3, .slice A0_4 l0_4.length c0_4]) (t := 25) ?hr ?_; (case hd => rfl); (case hg => rfl); (case hr => first | (go_simp; done) | (go_simp; rfl)); intro gb281 hg w5 hbox hb; have n0_ := Aside0.mk (below_step (by repeat (first | (with_reducible first | exact HB.out | apply below_alloc | apply pw_below_drewN | apply below_drew1) | exact HB.out)) hb); have n1_ := Aside0.mk (hbox); have n2_ := Aside0.mk ((by rw [hg]; exact (below_size (by repeat (first | (with_reducible first | exact HB.out | apply below_alloc | apply pw_below_drewN | apply below_drew1) | exact HB.out))) : w.heap.size ≤ gb281)); have n3_ := Aside0.mk ((by rw [hg]; exact (below_size (by repeat (first | (with_reducible first | exact HB.out | apply below_alloc | apply pw_below_drewN | apply below_drew1) | exact HB.out))) : w.heap.size ≤ gb281)); clear HB; have HB := n0_; have BK281 := n1_; have GW281 := n2_; have GE281 := n3_; clear n0_ n1_ n2_ n3_; clear hb hbox hg))
  (try simp only [Act.put, List.setIfInBounds_toArray, List.set_cons_zero, List.set_cons_succ])
  go_cut [26] (fun v26 wc => ∃ (kq : Nat) (x26_3 : Bool), v26 = .bool x26_3 ∧ Aside0 (laws_FnDomAttribute.j0 kq a1 a2 x26_3 a0_0 a0_1 a0_2 l0_3 l0_4 = some r) ∧ Aside0 (kq ≤ k) ∧ Aside0 (wc.heap[gb281]? = some (.cells #[.int .i64 a0_0, .string a0_1, .string a0_2, (.slice A0_3 l0_3.length c0_3), (.slice A0_4 l0_4.length c0_4)] 25 (0, 0))) ∧ Aside0 (Below w.heap.size w wc))
  case first =>
    have H := HC4.out
    clear HC4
    replace H := Option.bind_eq_some_iff.mp H
    obtain ⟨t282, A60, H⟩ := H
    replace H : (if t282 = true then (if (a1.size : Int) > 2147483647 then (laws_FnDomAttribute.j0 k a1 a2 true a0_0 a0_1 a0_2 l0_3 l0_4) else (laws_FnDomAttribute.j0 k a1 a2 (decide ((a2.size : Int) > 2147483647)) a0_0 a0_1 a0_2 l0_3 l0_4)) else (laws_FnDomAttribute.j0 k a1 a2 true a0_0 a0_1 a0_2 l0_3 l0_4)) = some r := H
    have A6 := Aside0.mk A60
    clear A60
    by_cases c7 : t282 = true
    · subst c7
      have H1 : (if (a1.size : Int) > 2147483647 then (laws_FnDomAttribute.j0 k a1 a2 true a0_0 a0_1 a0_2 l0_3 l0_4) else (laws_FnDomAttribute.j0 k a1 a2 (decide ((a2.size : Int) > 2147483647)) a0_0 a0_1 a0_2 l0_3 l0_4)) = some r := by rw [if_pos rfl] at H; exact H
      clear H
      have H := H1
      clear H1
      by_cases c8 : (a1.size : Int) > 2147483647
      · rw [if_pos c8] at H
        have c8b0 : decide (2147483647 < (a1.size : Int)) = true := decide_eq_true c8
        have c8b1 : decide (2147483647 < a1.size) = true := decide_eq_true (by omega)
        clear c8
        (first | rw [c8b0] | (simp only [i64_w, i32_w]; rw [c8b0]) | skip)
        have H' := Aside0.mk H
        clear H
        have hcz9_0 : w5.cell? ⟨gb281, 0, none⟩ = some (.int .i64 a0_0) := (blk_cell BK281.out 0).trans rfl
        have hcz9_1 : w5.cell? ⟨gb281, 1, none⟩ = some (.string a0_1) := (blk_cell BK281.out 1).trans rfl
        have hcz9_2 : w5.cell? ⟨gb281, 2, none⟩ = some (.string a0_2) := (blk_cell BK281.out 2).trans rfl
        have hcz9_3 : w5.cell? ⟨gb281, 3, none⟩ = some (.slice A0_3 l0_3.length c0_3) := (blk_cell BK281.out 3).trans rfl
        have hcz9_4 : w5.cell? ⟨gb281, 4, none⟩ = some (.slice A0_4 l0_4.length c0_4) := (blk_cell BK281.out 4).trans rfl
        have hfz9_0 := blk_frozen BK281.out 0
        have hfz9_1 := blk_frozen BK281.out 1
        have hfz9_2 := blk_frozen BK281.out 2
        have hfz9_3 := blk_frozen BK281.out 3
        have hfz9_4 := blk_frozen BK281.out 4
        go_wp2_with (first | ((with_reducible refine gate_callee (f := 14) rfl ?_); refine goesL_ (some 15) rfl rfl Try.func14 (by kernel_rfl) rfl #[.agg #[.int .i64 a0_0, .string a0_1, .string a0_2, .slice A0_3 l0_3.length c0_3, .slice A0_4 l0_4.length c0_4]] rfl (by (try simp only [List.map_toArray, List.map_cons, List.map_nil]); first | done | rfl | (simp only [List.length_drop, List.length_take]; rfl)) ?_; (with_reducible refine (laws_zzFits2.calls k a0_0 a0_1 a0_2 _ _ l0_3 _ _ l0_4 true _ ?side1 ?side2 ?side3 ?side4 A6.out).mono ?_); (case side1 => repeat (first | exact (Kd.C_below HR0_3.out HB.out) | (with_reducible refine Kd.C_alloc ?_ _) | (with_reducible refine Kd.C_drewN ?_ _) | (with_reducible refine Kd.C_drew ?_))); (case side2 => exact HC0_3.out); (case side3 => repeat (first | exact (Kd.C_below HR0_4.out HB.out) | (with_reducible refine Kd.C_alloc ?_ _) | (with_reducible refine Kd.C_drewN ?_ _) | (with_reducible refine Kd.C_drew ?_))); (case side4 => exact HC0_4.out); rintro e w10 ⟨rfl, hb⟩; refine ⟨_, rfl, ?_⟩; have n0_ := Aside0.mk (blk_below (g := gb281) (o := .cells #[.int .i64 a0_0, .string a0_1, .string a0_2, .slice A0_3 l0_3.length c0_3, .slice A0_4 l0_4.length c0_4] 25 (0, 0)) (by (with_reducible repeat (first | refine blk_drewN ?_ _ | refine blk_drew ?_ | refine blk_alloc ?_ _)); exact BK281.out) hb); have n1_ := Aside0.mk (below_step (by repeat (first | (with_reducible first | exact HB.out | apply below_alloc | apply pw_below_drewN | apply below_drew1 | refine below_set ?_ GE281.out) | exact HB.out)) hb); clear BK281; clear HB; have BK281 := n0_; have HB := n1_; clear n0_ n1_; (try clear hb); (try clear hb2); (try clear hk); (try clear hi)))
        go_meet
        case rel => exact ⟨_, (true), (by first | rfl | (simp; done) | (simp [*]; done)), H', ⟨by first | omega | exact Nat.le_refl _⟩, ⟨by (with_reducible repeat (first | refine blk_drewN ?_ _ | refine blk_drew ?_ | refine blk_alloc ?_ _)); exact BK281.out⟩, ⟨by repeat (first | (with_reducible first | exact HB.out | apply below_alloc | apply pw_below_drewN | apply below_drew1 | refine below_set ?_ GE281.out) | exact HB.out)⟩⟩
      · rw [if_neg c8] at H
        have c8b0 : decide (2147483647 < (a1.size : Int)) = false := decide_eq_false c8
        have c8b1 : decide (2147483647 < a1.size) = false := decide_eq_false (by omega)
        clear c8
        (first | rw [c8b0] | (simp only [i64_w, i32_w]; rw [c8b0]) | skip)
        have H' := Aside0.mk H
        clear H
        have hcz11_0 : w5.cell? ⟨gb281, 0, none⟩ = some (.int .i64 a0_0) := (blk_cell BK281.out 0).trans rfl
        have hcz11_1 : w5.cell? ⟨gb281, 1, none⟩ = some (.string a0_1) := (blk_cell BK281.out 1).trans rfl
        have hcz11_2 : w5.cell? ⟨gb281, 2, none⟩ = some (.string a0_2) := (blk_cell BK281.out 2).trans rfl
        have hcz11_3 : w5.cell? ⟨gb281, 3, none⟩ = some (.slice A0_3 l0_3.length c0_3) := (blk_cell BK281.out 3).trans rfl
        have hcz11_4 : w5.cell? ⟨gb281, 4, none⟩ = some (.slice A0_4 l0_4.length c0_4) := (blk_cell BK281.out 4).trans rfl
        have hfz11_0 := blk_frozen BK281.out 0
        have hfz11_1 := blk_frozen BK281.out 1
        have hfz11_2 := blk_frozen BK281.out 2
        have hfz11_3 := blk_frozen BK281.out 3
        have hfz11_4 := blk_frozen BK281.out 4
        go_wp2_with (first | ((with_reducible refine gate_callee (f := 14) rfl ?_); refine goesL_ (some 15) rfl rfl Try.func14 (by kernel_rfl) rfl #[.agg #[.int .i64 a0_0, .string a0_1, .string a0_2, .slice A0_3 l0_3.length c0_3, .slice A0_4 l0_4.length c0_4]] rfl (by (try simp only [List.map_toArray, List.map_cons, List.map_nil]); first | done | rfl | (simp only [List.length_drop, List.length_take]; rfl)) ?_; (with_reducible refine (laws_zzFits2.calls k a0_0 a0_1 a0_2 _ _ l0_3 _ _ l0_4 true _ ?side1 ?side2 ?side3 ?side4 A6.out).mono ?_); (case side1 => repeat (first | exact (Kd.C_below HR0_3.out HB.out) | (with_reducible refine Kd.C_alloc ?_ _) | (with_reducible refine Kd.C_drewN ?_ _) | (with_reducible refine Kd.C_drew ?_))); (case side2 => exact HC0_3.out); (case side3 => repeat (first | exact (Kd.C_below HR0_4.out HB.out) | (with_reducible refine Kd.C_alloc ?_ _) | (with_reducible refine Kd.C_drewN ?_ _) | (with_reducible refine Kd.C_drew ?_))); (case side4 => exact HC0_4.out); rintro e w12 ⟨rfl, hb⟩; refine ⟨_, rfl, ?_⟩; have n0_ := Aside0.mk (blk_below (g := gb281) (o := .cells #[.int .i64 a0_0, .string a0_1, .string a0_2, .slice A0_3 l0_3.length c0_3, .slice A0_4 l0_4.length c0_4] 25 (0, 0)) (by (with_reducible repeat (first | refine blk_drewN ?_ _ | refine blk_drew ?_ | refine blk_alloc ?_ _)); exact BK281.out) hb); have n1_ := Aside0.mk (below_step (by repeat (first | (with_reducible first | exact HB.out | apply below_alloc | apply pw_below_drewN | apply below_drew1 | refine below_set ?_ GE281.out) | exact HB.out)) hb); clear BK281; clear HB; have BK281 := n0_; have HB := n1_; clear n0_ n1_; (try clear hb); (try clear hb2); (try clear hk); (try clear hi)))
        go_meet
        case rel => exact ⟨_, (decide ((a2.size : Int) > 2147483647)), (by first | rfl | (simp; done) | (simp [*]; done)), H', ⟨by first | omega | exact Nat.le_refl _⟩, ⟨by (with_reducible repeat (first | refine blk_drewN ?_ _ | refine blk_drew ?_ | refine blk_alloc ?_ _)); exact BK281.out⟩, ⟨by repeat (first | (with_reducible first | exact HB.out | apply below_alloc | apply pw_below_drewN | apply below_drew1 | refine below_set ?_ GE281.out) | exact HB.out)⟩⟩
    · replace c7 := Bool.eq_false_iff.mpr c7
      subst c7
      have H1 : (laws_FnDomAttribute.j0 k a1 a2 true a0_0 a0_1 a0_2 l0_3 l0_4) = some r := by rw [if_neg (show ¬ (false = true) by decide)] at H; exact H
      clear H
      have H := H1
      clear H1
      have H' := Aside0.mk H
      clear H
      have hcz13_0 : w5.cell? ⟨gb281, 0, none⟩ = some (.int .i64 a0_0) := (blk_cell BK281.out 0).trans rfl
      have hcz13_1 : w5.cell? ⟨gb281, 1, none⟩ = some (.string a0_1) := (blk_cell BK281.out 1).trans rfl
      have hcz13_2 : w5.cell? ⟨gb281, 2, none⟩ = some (.string a0_2) := (blk_cell BK281.out 2).trans rfl
      have hcz13_3 : w5.cell? ⟨gb281, 3, none⟩ = some (.slice A0_3 l0_3.length c0_3) := (blk_cell BK281.out 3).trans rfl
      have hcz13_4 : w5.cell? ⟨gb281, 4, none⟩ = some (.slice A0_4 l0_4.length c0_4) := (blk_cell BK281.out 4).trans rfl
      have hfz13_0 := blk_frozen BK281.out 0
      have hfz13_1 := blk_frozen BK281.out 1
      have hfz13_2 := blk_frozen BK281.out 2
      have hfz13_3 := blk_frozen BK281.out 3
      have hfz13_4 := blk_frozen BK281.out 4
      go_wp2_with (first | ((with_reducible refine gate_callee (f := 14) rfl ?_); refine goesL_ (some 15) rfl rfl Try.func14 (by kernel_rfl) rfl #[.agg #[.int .i64 a0_0, .string a0_1, .string a0_2, .slice A0_3 l0_3.length c0_3, .slice A0_4 l0_4.length c0_4]] rfl (by (try simp only [List.map_toArray, List.map_cons, List.map_nil]); first | done | rfl | (simp only [List.length_drop, List.length_take]; rfl)) ?_; (with_reducible refine (laws_zzFits2.calls k a0_0 a0_1 a0_2 _ _ l0_3 _ _ l0_4 false _ ?side1 ?side2 ?side3 ?side4 A6.out).mono ?_); (case side1 => repeat (first | exact (Kd.C_below HR0_3.out HB.out) | (with_reducible refine Kd.C_alloc ?_ _) | (with_reducible refine Kd.C_drewN ?_ _) | (with_reducible refine Kd.C_drew ?_))); (case side2 => exact HC0_3.out); (case side3 => repeat (first | exact (Kd.C_below HR0_4.out HB.out) | (with_reducible refine Kd.C_alloc ?_ _) | (with_reducible refine Kd.C_drewN ?_ _) | (with_reducible refine Kd.C_drew ?_))); (case side4 => exact HC0_4.out); rintro e w14 ⟨rfl, hb⟩; refine ⟨_, rfl, ?_⟩; have n0_ := Aside0.mk (blk_below (g := gb281) (o := .cells #[.int .i64 a0_0, .string a0_1, .string a0_2, .slice A0_3 l0_3.length c0_3, .slice A0_4 l0_4.length c0_4] 25 (0, 0)) (by (with_reducible repeat (first | refine blk_drewN ?_ _ | refine blk_drew ?_ | refine blk_alloc ?_ _)); exact BK281.out) hb); have n1_ := Aside0.mk (below_step (by repeat (first | (with_reducible first | exact HB.out | apply below_alloc | apply pw_below_drewN | apply below_drew1 | refine below_set ?_ GE281.out) | exact HB.out)) hb); clear BK281; clear HB; have BK281 := n0_; have HB := n1_; clear n0_ n1_; (try clear hb); (try clear hb2); (try clear hk); (try clear hi)))
      go_meet
      case rel => exact ⟨_, (true), (by first | rfl | (simp; done) | (simp [*]; done)), H', ⟨by first | omega | exact Nat.le_refl _⟩, ⟨by (with_reducible repeat (first | refine blk_drewN ?_ _ | refine blk_drew ?_ | refine blk_alloc ?_ _)); exact BK281.out⟩, ⟨by repeat (first | (with_reducible first | exact HB.out | apply below_alloc | apply pw_below_drewN | apply below_drew1 | refine below_set ?_ GE281.out) | exact HB.out)⟩⟩
  case rest =>
    clear HC4
    try clear c1
    try clear p2
    try clear c4
    try clear c7
    try clear c8
    try clear c8b0
    try clear c8b1
    try clear c14
    try clear hcz11_0
    try clear hcz11_1
    try clear hcz11_2
    try clear hcz11_3
    try clear hcz11_4
    try clear hcz13_0
    try clear hcz13_1
    try clear hcz13_2
    try clear hcz13_3
    try clear hcz13_4
    try clear hcz9_0
    try clear hcz9_1
    try clear hcz9_2
    try clear hcz9_3
    try clear hcz9_4
    try clear hfz11_0
    try clear hfz11_1
    try clear hfz11_2
    try clear hfz11_3
    try clear hfz11_4
    try clear hfz13_0
    try clear hfz13_1
    try clear hfz13_2
    try clear hfz13_3
    try clear hfz13_4
    try clear hfz9_0
    try clear hfz9_1
    try clear hfz9_2
    try clear hfz9_3
    try clear hfz9_4
    obtain ⟨kq, x26_3, rfl, HA, HJ3, BK281, HB⟩ := hcut
    cases kq with
    | zero => exact absurd HA.out (by simp [laws_FnDomAttribute.j0])
    | succ kj3 =>
      have H := HA.out
      clear HA
      simp only [laws_FnDomAttribute.j0] at H
      by_cases c15 : x26_3 = true
      · subst c15
        have H1 : (some true) = some r := by rw [if_pos rfl] at H; exact H
        clear H
        have H := H1
        clear H1
        obtain rfl := Option.some.inj H
        go_wp2
        go_ret
        exact ⟨by first | rfl | (simp [errW_none, errW_some] <;> rfl) | (simp [*, errW_none, errW_some] <;> rfl), by repeat (first | (with_reducible first | exact HB.out | apply below_alloc | apply pw_below_drewN | apply below_drew1 | refine below_set ?_ GE281.out) | exact HB.out)⟩
      · replace c15 := Bool.eq_false_iff.mpr c15
        subst c15
        have H1 : ((laws_tree29.f kj3 a0_0 a0_1 a0_2 l0_3 l0_4).bind fun t283 => (if t283 = true then (laws_FnDomAttribute.l0 kj3 a1 a2 (⟨#[]⟩ : ByteArray) false l0_3 (l0_3.length : Int) 0 a0_0 a0_1 a0_2 l0_3 l0_4) else (some true))) = some r := by rw [if_neg (show ¬ (false = true) by decide)] at H; exact H
        clear H
        have H := H1
        clear H1
        replace H := Option.bind_eq_some_iff.mp H
        obtain ⟨t283, A160, H⟩ := H
        replace H : (if t283 = true then (laws_FnDomAttribute.l0 kj3 a1 a2 (⟨#[]⟩ : ByteArray) false l0_3 (l0_3.length : Int) 0 a0_0 a0_1 a0_2 l0_3 l0_4) else (some true)) = some r := H
        have A16 := Aside0.mk A160
        clear A160
        by_cases c17 : t283 = true
        · subst c17
          have H1 : (laws_FnDomAttribute.l0 kj3 a1 a2 (⟨#[]⟩ : ByteArray) false l0_3 (l0_3.length : Int) 0 a0_0 a0_1 a0_2 l0_3 l0_4) = some r := by rw [if_pos rfl] at H; exact H
          clear H
          have H := H1
          clear H1
          have H' := Aside0.mk H
          clear H
          have hcz18_0 : wc.cell? ⟨gb281, 0, none⟩ = some (.int .i64 a0_0) := (blk_cell BK281.out 0).trans rfl
          have hcz18_1 : wc.cell? ⟨gb281, 1, none⟩ = some (.string a0_1) := (blk_cell BK281.out 1).trans rfl
          have hcz18_2 : wc.cell? ⟨gb281, 2, none⟩ = some (.string a0_2) := (blk_cell BK281.out 2).trans rfl
          have hcz18_3 : wc.cell? ⟨gb281, 3, none⟩ = some (.slice A0_3 l0_3.length c0_3) := (blk_cell BK281.out 3).trans rfl
          have hcz18_4 : wc.cell? ⟨gb281, 4, none⟩ = some (.slice A0_4 l0_4.length c0_4) := (blk_cell BK281.out 4).trans rfl
          have hfz18_0 := blk_frozen BK281.out 0
          have hfz18_1 := blk_frozen BK281.out 1
          have hfz18_2 := blk_frozen BK281.out 2
          have hfz18_3 := blk_frozen BK281.out 3
          have hfz18_4 := blk_frozen BK281.out 4
          go_wp2_with (first | ((with_reducible refine gate_callee (f := 15) rfl ?_); refine goesL_ (some 28) rfl rfl Try.func15 (by kernel_rfl) rfl #[.agg #[.int .i64 a0_0, .string a0_1, .string a0_2, .slice A0_3 l0_3.length c0_3, .slice A0_4 l0_4.length c0_4]] rfl (by (try simp only [List.map_toArray, List.map_cons, List.map_nil]); first | done | rfl | (simp only [List.length_drop, List.length_take]; rfl)) ?_; (with_reducible refine (laws_tree29.calls kj3 a0_0 a0_1 a0_2 _ _ l0_3 _ _ l0_4 true _ ?side1 ?side2 ?side3 ?side4 A16.out).mono ?_); (case side1 => repeat (first | exact (Kd.C_below HR0_3.out HB.out) | (with_reducible refine Kd.C_alloc ?_ _) | (with_reducible refine Kd.C_drewN ?_ _) | (with_reducible refine Kd.C_drew ?_))); (case side2 => exact HC0_3.out); (case side3 => repeat (first | exact (Kd.C_below HR0_4.out HB.out) | (with_reducible refine Kd.C_alloc ?_ _) | (with_reducible refine Kd.C_drewN ?_ _) | (with_reducible refine Kd.C_drew ?_))); (case side4 => exact HC0_4.out); rintro e w19 ⟨rfl, hb⟩; refine ⟨_, rfl, ?_⟩; have n0_ := Aside0.mk (blk_below (g := gb281) (o := .cells #[.int .i64 a0_0, .string a0_1, .string a0_2, .slice A0_3 l0_3.length c0_3, .slice A0_4 l0_4.length c0_4] 25 (0, 0)) (by (with_reducible repeat (first | refine blk_drewN ?_ _ | refine blk_drew ?_ | refine blk_alloc ?_ _)); exact BK281.out) hb); have n1_ := Aside0.mk (below_step (by repeat (first | (with_reducible first | exact HB.out | apply below_alloc | apply pw_below_drewN | apply below_drew1 | refine below_set ?_ GE281.out) | exact HB.out)) hb); clear BK281; clear HB; have BK281 := n0_; have HB := n1_; clear n0_ n1_; (try clear hb); (try clear hb2); (try clear hk); (try clear hi); have hcz20_0 : w19.cell? ⟨gb281, 0, none⟩ = some (.int .i64 a0_0) := (blk_cell BK281.out 0).trans rfl; have hcz20_1 : w19.cell? ⟨gb281, 1, none⟩ = some (.string a0_1) := (blk_cell BK281.out 1).trans rfl; have hcz20_2 : w19.cell? ⟨gb281, 2, none⟩ = some (.string a0_2) := (blk_cell BK281.out 2).trans rfl; have hcz20_3 : w19.cell? ⟨gb281, 3, none⟩ = some (.slice A0_3 l0_3.length c0_3) := (blk_cell BK281.out 3).trans rfl; have hcz20_4 : w19.cell? ⟨gb281, 4, none⟩ = some (.slice A0_4 l0_4.length c0_4) := (blk_cell BK281.out 4).trans rfl; have hfz20_0 := blk_frozen BK281.out 0; have hfz20_1 := blk_frozen BK281.out 1; have hfz20_2 := blk_frozen BK281.out 2; have hfz20_3 := blk_frozen BK281.out 3; have hfz20_4 := blk_frozen BK281.out 4))
          go_loopg [7, 8, 33] kj3 (fun kq v7 v8 v33 w' => ∃ (x7_2 : ByteArray) (x8_2 : Bool) (x33_2 : Int), v7 = .string x7_2 ∧ v8 = .bool x8_2 ∧ v33 = .int .i64 x33_2 ∧ Aside0 (laws_FnDomAttribute.l0 kq a1 a2 x7_2 x8_2 l0_3 (l0_3.length : Int) x33_2 a0_0 a0_1 a0_2 l0_3 l0_4 = some r) ∧ Aside0 (kq ≤ kj3) ∧ Aside0 (w'.heap[gb281]? = some (.cells #[.int .i64 a0_0, .string a0_1, .string a0_2, (.slice A0_3 l0_3.length c0_3), (.slice A0_4 l0_4.length c0_4)] 25 (0, 0))) ∧ Aside0 (Below w.heap.size w w'))
          case atStart => exact ⟨((⟨#[]⟩ : ByteArray)), (false), (0), (by first | rfl | (simp; done) | (simp [*]; done)), (by first | rfl | (simp; done) | (simp [*]; done)), (by first | rfl | (simp; done) | (simp [*]; done)), H', ⟨Nat.le_refl _⟩, ⟨by (with_reducible repeat (first | refine blk_drewN ?_ _ | refine blk_drew ?_ | refine blk_alloc ?_ _)); exact BK281.out⟩, ⟨by repeat (first | (with_reducible first | exact HB.out | apply below_alloc | apply pw_below_drewN | apply below_drew1 | refine below_set ?_ GE281.out) | exact HB.out)⟩⟩
          case round =>
            clear H'
            try clear c1
            try clear p2
            try clear c4
            try clear c7
            try clear c8
            try clear c8b0
            try clear c8b1
            try clear c14
            try clear c15
            try clear c17
            try clear hcz11_0
            try clear hcz11_1
            try clear hcz11_2
            try clear hcz11_3
            try clear hcz11_4
            try clear hcz13_0
            try clear hcz13_1
            try clear hcz13_2
            try clear hcz13_3
            try clear hcz13_4
            try clear hcz18_0
            try clear hcz18_1
            try clear hcz18_2
            try clear hcz18_3
            try clear hcz18_4
            try clear hcz20_0
            try clear hcz20_1
            try clear hcz20_2
            try clear hcz20_3
            try clear hcz20_4
            try clear hcz9_0
            try clear hcz9_1
            try clear hcz9_2
            try clear hcz9_3
            try clear hcz9_4
            try clear hfz11_0
            try clear hfz11_1
            try clear hfz11_2
            try clear hfz11_3
            try clear hfz11_4
            try clear hfz13_0
            try clear hfz13_1
            try clear hfz13_2
            try clear hfz13_3
            try clear hfz13_4
            try clear hfz18_0
            try clear hfz18_1
            try clear hfz18_2
            try clear hfz18_3
            try clear hfz18_4
            try clear hfz20_0
            try clear hfz20_1
            try clear hfz20_2
            try clear hfz20_3
            try clear hfz20_4
            try clear hfz9_0
            try clear hfz9_1
            try clear hfz9_2
            try clear hfz9_3
            try clear hfz9_4
            try clear p2
            obtain ⟨x7_2, x8_2, x33_2, rfl, rfl, rfl, HA, HK2, BK281, HB⟩ := hrel
            cases gk with
            | zero => exact absurd HA.out (by simp [laws_FnDomAttribute.l0])
            | succ k2 =>
              have H := HA.out
              clear HA
              simp only [laws_FnDomAttribute.l0] at H
              by_cases c21 : x33_2 < (l0_3.length : Int)
              · rw [if_pos c21] at H
                have c21b0 : decide (x33_2 < (l0_3.length : Int)) = true := decide_eq_true c21
                clear c21
                by_cases c22 : 0 ≤ x33_2
                · rw [if_pos c22] at H
                  have c22b0 : decide (0 ≤ x33_2) = true := decide_eq_true c22
                  clear c22
                  by_cases c23 : x33_2 < (l0_3.length : Int)
                  · rw [if_pos c23] at H
                    have c23b0 : decide (x33_2 < (l0_3.length : Int)) = true := decide_eq_true c23
                    clear c23
                    by_cases c24 : ((rd_T34 l0_3 x33_2).f0).toList = a1.toList
                    · rw [if_pos c24] at H
                      have c24b0 : (((rd_T34 l0_3 x33_2).f0).toList == a1.toList) = true := beq_iff_eq.mpr c24
                      have c24b1 : (((rd_T34 l0_3 x33_2).f0).toList != a1.toList) = false := bne_eq_false_iff_eq.mpr c24
                      clear c24
                      have H' := Aside0.mk H
                      clear H
                      have p284 : 0 ≤ (x33_2 : Int) := of_decide_eq_true (by first | (with_reducible assumption) | assumption)
                      have q284 : x33_2 < (l0_3.length : Int) := of_decide_eq_true (by first | (with_reducible assumption) | assumption)
                      obtain ⟨ad284, e284, hx284_0, hx284_1⟩ := at_T34 HR0_3.out x33_2 p284 q284
                      cases e284
                      replace hx284_0 := (HB.out.cell (World.block_lt_of_cell? w _ hx284_0)).trans hx284_0
                      replace hx284_1 := (HB.out.cell (World.block_lt_of_cell? w _ hx284_1)).trans hx284_1
                      replace p284 := eq_true p284
                      replace q284 := eq_true q284
                      go_wp2_with (first | ((with_reducible refine gate_dst (N := 10) rfl ?_); (try (refine gate_guard (by rfl) ?_; dsimp only)); refine box_event ?hg (N := 10) ?hd (cs := #[.string (⟨#[]⟩ : ByteArray), .string (⟨#[]⟩ : ByteArray)]) (t := 34) ?hr ?_; (case hd => rfl); (case hg => rfl); (case hr => first | (go_simp; done) | (go_simp; rfl)); intro gb285 hg w25 hbox hb; have n0_ := Aside0.mk (blk_below (g := gb281) (o := .cells #[.int .i64 a0_0, .string a0_1, .string a0_2, .slice (some ad284) l0_3.length c0_3, .slice A0_4 l0_4.length c0_4] 25 (0, 0)) (by (with_reducible repeat (first | refine blk_drewN ?_ _ | refine blk_drew ?_ | refine blk_alloc ?_ _)); exact BK281.out) hb); have n1_ := Aside0.mk (below_step (by repeat (first | (with_reducible first | exact HB.out | apply below_alloc | apply pw_below_drewN | apply below_drew1 | refine below_set ?_ GE281.out) | exact HB.out)) hb); have n2_ := Aside0.mk (hbox); have n3_ := Aside0.mk ((by rw [hg]; exact (below_size (by repeat (first | (with_reducible first | exact HB.out | apply below_alloc | apply pw_below_drewN | apply below_drew1 | refine below_set ?_ GE281.out) | exact HB.out))) : w.heap.size ≤ gb285)); have n4_ := Aside0.mk ((by rw [hg]; exact (below_size (by repeat (first | (with_reducible first | exact HB.out | apply below_alloc | apply pw_below_drewN | apply below_drew1 | refine below_set ?_ GE281.out) | exact HB.out))) : w.heap.size ≤ gb285)); have n5_ := Aside0.mk ((by rw [hg]; exact Nat.ne_of_lt (blk_lt (g := gb281) (o := .cells #[.int .i64 a0_0, .string a0_1, .string a0_2, .slice (some ad284) l0_3.length c0_3, .slice A0_4 l0_4.length c0_4] 25 (0, 0)) (by (with_reducible repeat (first | refine blk_drewN ?_ _ | refine blk_drew ?_ | refine blk_alloc ?_ _)); exact BK281.out)) : gb281 ≠ gb285)); have n6_ := Aside0.mk ((by rw [hg]; exact Nat.ne_of_gt (blk_lt (g := gb281) (o := .cells #[.int .i64 a0_0, .string a0_1, .string a0_2, .slice (some ad284) l0_3.length c0_3, .slice A0_4 l0_4.length c0_4] 25 (0, 0)) (by (with_reducible repeat (first | refine blk_drewN ?_ _ | refine blk_drew ?_ | refine blk_alloc ?_ _)); exact BK281.out)) : gb285 ≠ gb281)); clear BK281; clear HB; have BK281 := n0_; have HB := n1_; have BK285 := n2_; have GW285 := n3_; have GE285 := n4_; have NB281_285 := n5_; have NB285_281 := n6_; clear n0_ n1_ n2_ n3_ n4_ n5_ n6_; clear hb hbox hg; have hnb26 := NB285_281.out; have hnc26 := NB281_285.out; have hcz27_0 : w25.cell? ⟨gb285, 0, none⟩ = some (.string (⟨#[]⟩ : ByteArray)) := (blk_cell BK285.out 0).trans rfl; have hcz27_1 : w25.cell? ⟨gb285, 1, none⟩ = some (.string (⟨#[]⟩ : ByteArray)) := (blk_cell BK285.out 1).trans rfl; have hfz27_0 := blk_frozen BK285.out 0; have hfz27_1 := blk_frozen BK285.out 1))
                      go_roundg k2
                      case measure => have := HJ3.out; have := HK2.out; omega
                      case rel => exact ⟨((rd_T34 l0_3 x33_2).f1), (true), (wrap64 (x33_2 + 1)), (by first | rfl | (simp; done) | (simp [*]; done)), (by first | rfl | (simp; done) | (simp [*]; done)), (by first | rfl | (simp; done) | (simp [*]; done)), H', ⟨by have := HJ3.out; have := HK2.out; omega⟩, ⟨by (with_reducible repeat (first | refine blk_drewN ?_ _ | refine blk_drew ?_ | refine blk_alloc ?_ _)); refine blk_far ?_ NB281_285.out _; (with_reducible repeat (first | refine blk_drewN ?_ _ | refine blk_drew ?_ | refine blk_alloc ?_ _)); refine blk_far ?_ NB281_285.out _; (with_reducible repeat (first | refine blk_drewN ?_ _ | refine blk_drew ?_ | refine blk_alloc ?_ _)); exact BK281.out⟩, ⟨by repeat (first | (with_reducible first | exact HB.out | apply below_alloc | apply pw_below_drewN | apply below_drew1 | refine below_set ?_ GE281.out | refine below_set ?_ GE285.out) | exact HB.out)⟩⟩
                    · rw [if_neg c24] at H
                      have c24b0 : (((rd_T34 l0_3 x33_2).f0).toList == a1.toList) = false := beq_eq_false_iff_ne.mpr c24
                      have c24b1 : (((rd_T34 l0_3 x33_2).f0).toList != a1.toList) = true := bne_iff_ne.mpr c24
                      have H' := Aside0.mk H
                      clear H
                      have p284 : 0 ≤ (x33_2 : Int) := of_decide_eq_true (by first | (with_reducible assumption) | assumption)
                      have q284 : x33_2 < (l0_3.length : Int) := of_decide_eq_true (by first | (with_reducible assumption) | assumption)
                      obtain ⟨ad284, e284, hx284_0, hx284_1⟩ := at_T34 HR0_3.out x33_2 p284 q284
                      cases e284
                      replace hx284_0 := (HB.out.cell (World.block_lt_of_cell? w _ hx284_0)).trans hx284_0
                      replace hx284_1 := (HB.out.cell (World.block_lt_of_cell? w _ hx284_1)).trans hx284_1
                      replace p284 := eq_true p284
                      replace q284 := eq_true q284
                      go_wp2_with (first | ((with_reducible refine gate_dst (N := 10) rfl ?_); (try (refine gate_guard (by rfl) ?_; dsimp only)); refine box_event ?hg (N := 10) ?hd (cs := #[.string (⟨#[]⟩ : ByteArray), .string (⟨#[]⟩ : ByteArray)]) (t := 34) ?hr ?_; (case hd => rfl); (case hg => rfl); (case hr => first | (go_simp; done) | (go_simp; rfl)); intro gb285 hg w28 hbox hb; have n0_ := Aside0.mk (blk_below (g := gb281) (o := .cells #[.int .i64 a0_0, .string a0_1, .string a0_2, .slice (some ad284) l0_3.length c0_3, .slice A0_4 l0_4.length c0_4] 25 (0, 0)) (by (with_reducible repeat (first | refine blk_drewN ?_ _ | refine blk_drew ?_ | refine blk_alloc ?_ _)); exact BK281.out) hb); have n1_ := Aside0.mk (below_step (by repeat (first | (with_reducible first | exact HB.out | apply below_alloc | apply pw_below_drewN | apply below_drew1 | refine below_set ?_ GE281.out) | exact HB.out)) hb); have n2_ := Aside0.mk (hbox); have n3_ := Aside0.mk ((by rw [hg]; exact (below_size (by repeat (first | (with_reducible first | exact HB.out | apply below_alloc | apply pw_below_drewN | apply below_drew1 | refine below_set ?_ GE281.out) | exact HB.out))) : w.heap.size ≤ gb285)); have n4_ := Aside0.mk ((by rw [hg]; exact (below_size (by repeat (first | (with_reducible first | exact HB.out | apply below_alloc | apply pw_below_drewN | apply below_drew1 | refine below_set ?_ GE281.out) | exact HB.out))) : w.heap.size ≤ gb285)); have n5_ := Aside0.mk ((by rw [hg]; exact Nat.ne_of_lt (blk_lt (g := gb281) (o := .cells #[.int .i64 a0_0, .string a0_1, .string a0_2, .slice (some ad284) l0_3.length c0_3, .slice A0_4 l0_4.length c0_4] 25 (0, 0)) (by (with_reducible repeat (first | refine blk_drewN ?_ _ | refine blk_drew ?_ | refine blk_alloc ?_ _)); exact BK281.out)) : gb281 ≠ gb285)); have n6_ := Aside0.mk ((by rw [hg]; exact Nat.ne_of_gt (blk_lt (g := gb281) (o := .cells #[.int .i64 a0_0, .string a0_1, .string a0_2, .slice (some ad284) l0_3.length c0_3, .slice A0_4 l0_4.length c0_4] 25 (0, 0)) (by (with_reducible repeat (first | refine blk_drewN ?_ _ | refine blk_drew ?_ | refine blk_alloc ?_ _)); exact BK281.out)) : gb285 ≠ gb281)); clear BK281; clear HB; have BK281 := n0_; have HB := n1_; have BK285 := n2_; have GW285 := n3_; have GE285 := n4_; have NB281_285 := n5_; have NB285_281 := n6_; clear n0_ n1_ n2_ n3_ n4_ n5_ n6_; clear hb hbox hg; have hnb29 := NB285_281.out; have hnc29 := NB281_285.out; have hcz30_0 : w28.cell? ⟨gb285, 0, none⟩ = some (.string (⟨#[]⟩ : ByteArray)) := (blk_cell BK285.out 0).trans rfl; have hcz30_1 : w28.cell? ⟨gb285, 1, none⟩ = some (.string (⟨#[]⟩ : ByteArray)) := (blk_cell BK285.out 1).trans rfl; have hfz30_0 := blk_frozen BK285.out 0; have hfz30_1 := blk_frozen BK285.out 1))
                      go_roundg k2
                      case measure => have := HJ3.out; have := HK2.out; omega
                      case rel => exact ⟨(x7_2), (x8_2), (wrap64 (x33_2 + 1)), (by first | rfl | (simp; done) | (simp [*]; done)), (by first | rfl | (simp; done) | (simp [*]; done)), (by first | rfl | (simp; done) | (simp [*]; done)), H', ⟨by have := HJ3.out; have := HK2.out; omega⟩, ⟨by (with_reducible repeat (first | refine blk_drewN ?_ _ | refine blk_drew ?_ | refine blk_alloc ?_ _)); refine blk_far ?_ NB281_285.out _; (with_reducible repeat (first | refine blk_drewN ?_ _ | refine blk_drew ?_ | refine blk_alloc ?_ _)); refine blk_far ?_ NB281_285.out _; (with_reducible repeat (first | refine blk_drewN ?_ _ | refine blk_drew ?_ | refine blk_alloc ?_ _)); exact BK281.out⟩, ⟨by repeat (first | (with_reducible first | exact HB.out | apply below_alloc | apply pw_below_drewN | apply below_drew1 | refine below_set ?_ GE281.out | refine below_set ?_ GE285.out) | exact HB.out)⟩⟩
                  · rw [if_neg c23] at H
                    exact absurd H (by simp)
                · rw [if_neg c22] at H
                  exact absurd H (by simp)
              · rw [if_neg c21] at H
                have c21b0 : decide (x33_2 < (l0_3.length : Int)) = false := decide_eq_false c21
                clear c21
                replace H := Option.bind_eq_some_iff.mp H
                obtain ⟨⟨t286, t287⟩, A310, H⟩ := H
                replace H : (if x8_2 = true then (if (t287 == x8_2) = true then (if t286.toList = x7_2.toList then ((impl_AttributeOr.f a0_0 a0_1 a0_2 l0_3 l0_4 a1 a2).bind fun t288 => (if t288.toList = x7_2.toList then ((laws_living29.f).bind fun t289 => (some t289)) else (some false))) else (some false)) else (some false)) else (if (t287 == x8_2) = true then (if t286.toList = x7_2.toList then ((impl_AttributeOr.f a0_0 a0_1 a0_2 l0_3 l0_4 a1 a2).bind fun t290 => (if t290.toList = a2.toList then ((laws_living29.f).bind fun t291 => (some t291)) else (some false))) else (some false)) else (some false))) = some r := H
                have A31 := Aside0.mk A310
                clear A310
                by_cases c32 : x8_2 = true
                · subst c32
                  have H1 : (if (t287 == true) = true then (if t286.toList = x7_2.toList then ((impl_AttributeOr.f a0_0 a0_1 a0_2 l0_3 l0_4 a1 a2).bind fun t288 => (if t288.toList = x7_2.toList then ((laws_living29.f).bind fun t289 => (some t289)) else (some false))) else (some false)) else (some false)) = some r := by rw [if_pos rfl] at H; exact H
                  clear H
                  have H := H1
                  clear H1
                  by_cases c33 : (t287 == true) = true
                  · rw [if_pos c33] at H
                    have c33b0 : (t287 == true) = true := c33
                    (try (have c33b1 : decide (t287 = true) = true := by simpa using c33))
                    (try (have c33b2 : (t287 == true) = true := by simpa using c33))
                    clear c33
                    by_cases c34 : t286.toList = x7_2.toList
                    · rw [if_pos c34] at H
                      have c34b0 : (t286.toList == x7_2.toList) = true := beq_iff_eq.mpr c34
                      have c34b1 : (t286.toList != x7_2.toList) = false := bne_eq_false_iff_eq.mpr c34
                      clear c34
                      replace H := Option.bind_eq_some_iff.mp H
                      obtain ⟨t288, A350, H⟩ := H
                      replace H : (if t288.toList = x7_2.toList then ((laws_living29.f).bind fun t289 => (some t289)) else (some false)) = some r := H
                      have A35 := Aside0.mk A350
                      clear A350
                      by_cases c36 : t288.toList = x7_2.toList
                      · rw [if_pos c36] at H
                        have c36b0 : (t288.toList == x7_2.toList) = true := beq_iff_eq.mpr c36
                        have c36b1 : (t288.toList != x7_2.toList) = false := bne_eq_false_iff_eq.mpr c36
                        clear c36
                        replace H := Option.bind_eq_some_iff.mp H
                        obtain ⟨t289, A370, H⟩ := H
                        replace H : (some t289) = some r := H
                        have A37 := Aside0.mk A370
                        clear A370
                        obtain rfl := Option.some.inj H
                        have hcz38_0 : wr.cell? ⟨gb281, 0, none⟩ = some (.int .i64 a0_0) := (blk_cell BK281.out 0).trans rfl
                        have hcz38_1 : wr.cell? ⟨gb281, 1, none⟩ = some (.string a0_1) := (blk_cell BK281.out 1).trans rfl
                        have hcz38_2 : wr.cell? ⟨gb281, 2, none⟩ = some (.string a0_2) := (blk_cell BK281.out 2).trans rfl
                        have hcz38_3 : wr.cell? ⟨gb281, 3, none⟩ = some (.slice A0_3 l0_3.length c0_3) := (blk_cell BK281.out 3).trans rfl
                        have hcz38_4 : wr.cell? ⟨gb281, 4, none⟩ = some (.slice A0_4 l0_4.length c0_4) := (blk_cell BK281.out 4).trans rfl
                        have hfz38_0 := blk_frozen BK281.out 0
                        have hfz38_1 := blk_frozen BK281.out 1
                        have hfz38_2 := blk_frozen BK281.out 2
                        have hfz38_3 := blk_frozen BK281.out 3
                        have hfz38_4 := blk_frozen BK281.out 4
                        go_wp2_with (first | ((with_reducible refine gate_callee (f := 20) rfl ?_); refine goesL_ (some 47) rfl rfl Try.func20 (by kernel_rfl) rfl #[.agg #[.int .i64 a0_0, .string a0_1, .string a0_2, .slice A0_3 l0_3.length c0_3, .slice A0_4 l0_4.length c0_4], .string a1] rfl (by (try simp only [List.map_toArray, List.map_cons, List.map_nil]); first | done | rfl | (simp only [List.length_drop, List.length_take]; rfl)) ?_; (with_reducible refine (impl_AttributeOf.calls a0_0 a0_1 a0_2 _ _ l0_3 _ _ l0_4 a1 t286 t287 _ ?side1 ?side2 ?side3 ?side4 A31.out).mono ?_); (case side1 => repeat (first | exact (Kd.C_below HR0_3.out HB.out) | (with_reducible refine Kd.C_alloc ?_ _) | (with_reducible refine Kd.C_drewN ?_ _) | (with_reducible refine Kd.C_drew ?_))); (case side2 => exact HC0_3.out); (case side3 => repeat (first | exact (Kd.C_below HR0_4.out HB.out) | (with_reducible refine Kd.C_alloc ?_ _) | (with_reducible refine Kd.C_drewN ?_ _) | (with_reducible refine Kd.C_drew ?_))); (case side4 => exact HC0_4.out); rintro e w39 ⟨rfl, hb⟩; refine ⟨_, rfl, ?_⟩; have n0_ := Aside0.mk (blk_below (g := gb281) (o := .cells #[.int .i64 a0_0, .string a0_1, .string a0_2, .slice A0_3 l0_3.length c0_3, .slice A0_4 l0_4.length c0_4] 25 (0, 0)) (by (with_reducible repeat (first | refine blk_drewN ?_ _ | refine blk_drew ?_ | refine blk_alloc ?_ _)); exact BK281.out) hb); have n1_ := Aside0.mk (below_step (by repeat (first | (with_reducible first | exact HB.out | apply below_alloc | apply pw_below_drewN | apply below_drew1 | refine below_set ?_ GE281.out) | exact HB.out)) hb); clear BK281; clear HB; have BK281 := n0_; have HB := n1_; clear n0_ n1_; (try clear hb); (try clear hb2); (try clear hk); (try clear hi); have hcz40_0 : w39.cell? ⟨gb281, 0, none⟩ = some (.int .i64 a0_0) := (blk_cell BK281.out 0).trans rfl; have hcz40_1 : w39.cell? ⟨gb281, 1, none⟩ = some (.string a0_1) := (blk_cell BK281.out 1).trans rfl; have hcz40_2 : w39.cell? ⟨gb281, 2, none⟩ = some (.string a0_2) := (blk_cell BK281.out 2).trans rfl; have hcz40_3 : w39.cell? ⟨gb281, 3, none⟩ = some (.slice A0_3 l0_3.length c0_3) := (blk_cell BK281.out 3).trans rfl; have hcz40_4 : w39.cell? ⟨gb281, 4, none⟩ = some (.slice A0_4 l0_4.length c0_4) := (blk_cell BK281.out 4).trans rfl; have hfz40_0 := blk_frozen BK281.out 0; have hfz40_1 := blk_frozen BK281.out 1; have hfz40_2 := blk_frozen BK281.out 2; have hfz40_3 := blk_frozen BK281.out 3; have hfz40_4 := blk_frozen BK281.out 4) | (go_at_call 21; (with_reducible refine (impl_AttributeOr.calls a0_0 a0_1 a0_2 _ _ l0_3 _ _ l0_4 a1 a2 t288 _ ?side1 ?side2 ?side3 ?side4 A35.out).mono ?_); (case side1 => repeat (first | exact (Kd.C_below HR0_3.out HB.out) | (with_reducible refine Kd.C_alloc ?_ _) | (with_reducible refine Kd.C_drewN ?_ _) | (with_reducible refine Kd.C_drew ?_))); (case side2 => exact HC0_3.out); (case side3 => repeat (first | exact (Kd.C_below HR0_4.out HB.out) | (with_reducible refine Kd.C_alloc ?_ _) | (with_reducible refine Kd.C_drewN ?_ _) | (with_reducible refine Kd.C_drew ?_))); (case side4 => exact HC0_4.out); rintro e w41 ⟨rfl, hb⟩; have n0_ := Aside0.mk (blk_below (g := gb281) (o := .cells #[.int .i64 a0_0, .string a0_1, .string a0_2, .slice A0_3 l0_3.length c0_3, .slice A0_4 l0_4.length c0_4] 25 (0, 0)) (by (with_reducible repeat (first | refine blk_drewN ?_ _ | refine blk_drew ?_ | refine blk_alloc ?_ _)); exact BK281.out) hb); have n1_ := Aside0.mk (below_step (by repeat (first | (with_reducible first | exact HB.out | apply below_alloc | apply pw_below_drewN | apply below_drew1 | refine below_set ?_ GE281.out) | exact HB.out)) hb); clear BK281; clear HB; have BK281 := n0_; have HB := n1_; clear n0_ n1_; (try clear hb); (try clear hb2); (try clear hk); (try clear hi)) | (go_at_call 22; (with_reducible refine (laws_living29.calls  t289 _ A37.out).mono ?_); rintro e w42 ⟨rfl, hb⟩; have n0_ := Aside0.mk (blk_below (g := gb281) (o := .cells #[.int .i64 a0_0, .string a0_1, .string a0_2, .slice A0_3 l0_3.length c0_3, .slice A0_4 l0_4.length c0_4] 25 (0, 0)) (by (with_reducible repeat (first | refine blk_drewN ?_ _ | refine blk_drew ?_ | refine blk_alloc ?_ _)); exact BK281.out) hb); have n1_ := Aside0.mk (below_step (by repeat (first | (with_reducible first | exact HB.out | apply below_alloc | apply pw_below_drewN | apply below_drew1 | refine below_set ?_ GE281.out) | exact HB.out)) hb); clear BK281; clear HB; have BK281 := n0_; have HB := n1_; clear n0_ n1_; (try clear hb); (try clear hb2); (try clear hk); (try clear hi)))
                        go_ret
                        exact ⟨by first | rfl | (simp [errW_none, errW_some] <;> rfl) | (simp [*, errW_none, errW_some] <;> rfl), by repeat (first | (with_reducible first | exact HB.out | apply below_alloc | apply pw_below_drewN | apply below_drew1 | refine below_set ?_ GE281.out) | exact HB.out)⟩
                      · rw [if_neg c36] at H
                        have c36b0 : (t288.toList == x7_2.toList) = false := beq_eq_false_iff_ne.mpr c36
                        have c36b1 : (t288.toList != x7_2.toList) = true := bne_iff_ne.mpr c36
                        obtain rfl := Option.some.inj H
                        have hcz43_0 : wr.cell? ⟨gb281, 0, none⟩ = some (.int .i64 a0_0) := (blk_cell BK281.out 0).trans rfl
                        have hcz43_1 : wr.cell? ⟨gb281, 1, none⟩ = some (.string a0_1) := (blk_cell BK281.out 1).trans rfl
                        have hcz43_2 : wr.cell? ⟨gb281, 2, none⟩ = some (.string a0_2) := (blk_cell BK281.out 2).trans rfl
                        have hcz43_3 : wr.cell? ⟨gb281, 3, none⟩ = some (.slice A0_3 l0_3.length c0_3) := (blk_cell BK281.out 3).trans rfl
                        have hcz43_4 : wr.cell? ⟨gb281, 4, none⟩ = some (.slice A0_4 l0_4.length c0_4) := (blk_cell BK281.out 4).trans rfl
                        have hfz43_0 := blk_frozen BK281.out 0
                        have hfz43_1 := blk_frozen BK281.out 1
                        have hfz43_2 := blk_frozen BK281.out 2
                        have hfz43_3 := blk_frozen BK281.out 3
                        have hfz43_4 := blk_frozen BK281.out 4
                        go_wp2_with (first | ((with_reducible refine gate_callee (f := 20) rfl ?_); refine goesL_ (some 47) rfl rfl Try.func20 (by kernel_rfl) rfl #[.agg #[.int .i64 a0_0, .string a0_1, .string a0_2, .slice A0_3 l0_3.length c0_3, .slice A0_4 l0_4.length c0_4], .string a1] rfl (by (try simp only [List.map_toArray, List.map_cons, List.map_nil]); first | done | rfl | (simp only [List.length_drop, List.length_take]; rfl)) ?_; (with_reducible refine (impl_AttributeOf.calls a0_0 a0_1 a0_2 _ _ l0_3 _ _ l0_4 a1 t286 t287 _ ?side1 ?side2 ?side3 ?side4 A31.out).mono ?_); (case side1 => repeat (first | exact (Kd.C_below HR0_3.out HB.out) | (with_reducible refine Kd.C_alloc ?_ _) | (with_reducible refine Kd.C_drewN ?_ _) | (with_reducible refine Kd.C_drew ?_))); (case side2 => exact HC0_3.out); (case side3 => repeat (first | exact (Kd.C_below HR0_4.out HB.out) | (with_reducible refine Kd.C_alloc ?_ _) | (with_reducible refine Kd.C_drewN ?_ _) | (with_reducible refine Kd.C_drew ?_))); (case side4 => exact HC0_4.out); rintro e w44 ⟨rfl, hb⟩; refine ⟨_, rfl, ?_⟩; have n0_ := Aside0.mk (blk_below (g := gb281) (o := .cells #[.int .i64 a0_0, .string a0_1, .string a0_2, .slice A0_3 l0_3.length c0_3, .slice A0_4 l0_4.length c0_4] 25 (0, 0)) (by (with_reducible repeat (first | refine blk_drewN ?_ _ | refine blk_drew ?_ | refine blk_alloc ?_ _)); exact BK281.out) hb); have n1_ := Aside0.mk (below_step (by repeat (first | (with_reducible first | exact HB.out | apply below_alloc | apply pw_below_drewN | apply below_drew1 | refine below_set ?_ GE281.out) | exact HB.out)) hb); clear BK281; clear HB; have BK281 := n0_; have HB := n1_; clear n0_ n1_; (try clear hb); (try clear hb2); (try clear hk); (try clear hi); have hcz45_0 : w44.cell? ⟨gb281, 0, none⟩ = some (.int .i64 a0_0) := (blk_cell BK281.out 0).trans rfl; have hcz45_1 : w44.cell? ⟨gb281, 1, none⟩ = some (.string a0_1) := (blk_cell BK281.out 1).trans rfl; have hcz45_2 : w44.cell? ⟨gb281, 2, none⟩ = some (.string a0_2) := (blk_cell BK281.out 2).trans rfl; have hcz45_3 : w44.cell? ⟨gb281, 3, none⟩ = some (.slice A0_3 l0_3.length c0_3) := (blk_cell BK281.out 3).trans rfl; have hcz45_4 : w44.cell? ⟨gb281, 4, none⟩ = some (.slice A0_4 l0_4.length c0_4) := (blk_cell BK281.out 4).trans rfl; have hfz45_0 := blk_frozen BK281.out 0; have hfz45_1 := blk_frozen BK281.out 1; have hfz45_2 := blk_frozen BK281.out 2; have hfz45_3 := blk_frozen BK281.out 3; have hfz45_4 := blk_frozen BK281.out 4) | (go_at_call 21; (with_reducible refine (impl_AttributeOr.calls a0_0 a0_1 a0_2 _ _ l0_3 _ _ l0_4 a1 a2 t288 _ ?side1 ?side2 ?side3 ?side4 A35.out).mono ?_); (case side1 => repeat (first | exact (Kd.C_below HR0_3.out HB.out) | (with_reducible refine Kd.C_alloc ?_ _) | (with_reducible refine Kd.C_drewN ?_ _) | (with_reducible refine Kd.C_drew ?_))); (case side2 => exact HC0_3.out); (case side3 => repeat (first | exact (Kd.C_below HR0_4.out HB.out) | (with_reducible refine Kd.C_alloc ?_ _) | (with_reducible refine Kd.C_drewN ?_ _) | (with_reducible refine Kd.C_drew ?_))); (case side4 => exact HC0_4.out); rintro e w46 ⟨rfl, hb⟩; have n0_ := Aside0.mk (blk_below (g := gb281) (o := .cells #[.int .i64 a0_0, .string a0_1, .string a0_2, .slice A0_3 l0_3.length c0_3, .slice A0_4 l0_4.length c0_4] 25 (0, 0)) (by (with_reducible repeat (first | refine blk_drewN ?_ _ | refine blk_drew ?_ | refine blk_alloc ?_ _)); exact BK281.out) hb); have n1_ := Aside0.mk (below_step (by repeat (first | (with_reducible first | exact HB.out | apply below_alloc | apply pw_below_drewN | apply below_drew1 | refine below_set ?_ GE281.out) | exact HB.out)) hb); clear BK281; clear HB; have BK281 := n0_; have HB := n1_; clear n0_ n1_; (try clear hb); (try clear hb2); (try clear hk); (try clear hi)))
                        go_ret
                        exact ⟨by first | rfl | (simp [errW_none, errW_some] <;> rfl) | (simp [*, errW_none, errW_some] <;> rfl), by repeat (first | (with_reducible first | exact HB.out | apply below_alloc | apply pw_below_drewN | apply below_drew1 | refine below_set ?_ GE281.out) | exact HB.out)⟩
                    · rw [if_neg c34] at H
                      have c34b0 : (t286.toList == x7_2.toList) = false := beq_eq_false_iff_ne.mpr c34
                      have c34b1 : (t286.toList != x7_2.toList) = true := bne_iff_ne.mpr c34
                      obtain rfl := Option.some.inj H
                      have hcz47_0 : wr.cell? ⟨gb281, 0, none⟩ = some (.int .i64 a0_0) := (blk_cell BK281.out 0).trans rfl
                      have hcz47_1 : wr.cell? ⟨gb281, 1, none⟩ = some (.string a0_1) := (blk_cell BK281.out 1).trans rfl
                      have hcz47_2 : wr.cell? ⟨gb281, 2, none⟩ = some (.string a0_2) := (blk_cell BK281.out 2).trans rfl
                      have hcz47_3 : wr.cell? ⟨gb281, 3, none⟩ = some (.slice A0_3 l0_3.length c0_3) := (blk_cell BK281.out 3).trans rfl
                      have hcz47_4 : wr.cell? ⟨gb281, 4, none⟩ = some (.slice A0_4 l0_4.length c0_4) := (blk_cell BK281.out 4).trans rfl
                      have hfz47_0 := blk_frozen BK281.out 0
                      have hfz47_1 := blk_frozen BK281.out 1
                      have hfz47_2 := blk_frozen BK281.out 2
                      have hfz47_3 := blk_frozen BK281.out 3
                      have hfz47_4 := blk_frozen BK281.out 4
                      go_wp2_with (first | ((with_reducible refine gate_callee (f := 20) rfl ?_); refine goesL_ (some 47) rfl rfl Try.func20 (by kernel_rfl) rfl #[.agg #[.int .i64 a0_0, .string a0_1, .string a0_2, .slice A0_3 l0_3.length c0_3, .slice A0_4 l0_4.length c0_4], .string a1] rfl (by (try simp only [List.map_toArray, List.map_cons, List.map_nil]); first | done | rfl | (simp only [List.length_drop, List.length_take]; rfl)) ?_; (with_reducible refine (impl_AttributeOf.calls a0_0 a0_1 a0_2 _ _ l0_3 _ _ l0_4 a1 t286 t287 _ ?side1 ?side2 ?side3 ?side4 A31.out).mono ?_); (case side1 => repeat (first | exact (Kd.C_below HR0_3.out HB.out) | (with_reducible refine Kd.C_alloc ?_ _) | (with_reducible refine Kd.C_drewN ?_ _) | (with_reducible refine Kd.C_drew ?_))); (case side2 => exact HC0_3.out); (case side3 => repeat (first | exact (Kd.C_below HR0_4.out HB.out) | (with_reducible refine Kd.C_alloc ?_ _) | (with_reducible refine Kd.C_drewN ?_ _) | (with_reducible refine Kd.C_drew ?_))); (case side4 => exact HC0_4.out); rintro e w48 ⟨rfl, hb⟩; refine ⟨_, rfl, ?_⟩; have n0_ := Aside0.mk (blk_below (g := gb281) (o := .cells #[.int .i64 a0_0, .string a0_1, .string a0_2, .slice A0_3 l0_3.length c0_3, .slice A0_4 l0_4.length c0_4] 25 (0, 0)) (by (with_reducible repeat (first | refine blk_drewN ?_ _ | refine blk_drew ?_ | refine blk_alloc ?_ _)); exact BK281.out) hb); have n1_ := Aside0.mk (below_step (by repeat (first | (with_reducible first | exact HB.out | apply below_alloc | apply pw_below_drewN | apply below_drew1 | refine below_set ?_ GE281.out) | exact HB.out)) hb); clear BK281; clear HB; have BK281 := n0_; have HB := n1_; clear n0_ n1_; (try clear hb); (try clear hb2); (try clear hk); (try clear hi)))
                      go_ret
                      exact ⟨by first | rfl | (simp [errW_none, errW_some] <;> rfl) | (simp [*, errW_none, errW_some] <;> rfl), by repeat (first | (with_reducible first | exact HB.out | apply below_alloc | apply pw_below_drewN | apply below_drew1 | refine below_set ?_ GE281.out) | exact HB.out)⟩
                  · rw [if_neg c33] at H
                    have c33b0 : (t287 == true) = false := by simpa using c33
                    (try (have c33b1 : decide (t287 = true) = false := by simpa using c33))
                    (try (have c33b2 : (t287 == true) = false := by simpa using c33))
                    (try (have c33b3 : ¬ (t287 = true) := by simpa using c33))
                    clear c33
                    obtain rfl := Option.some.inj H
                    have hcz49_0 : wr.cell? ⟨gb281, 0, none⟩ = some (.int .i64 a0_0) := (blk_cell BK281.out 0).trans rfl
                    have hcz49_1 : wr.cell? ⟨gb281, 1, none⟩ = some (.string a0_1) := (blk_cell BK281.out 1).trans rfl
                    have hcz49_2 : wr.cell? ⟨gb281, 2, none⟩ = some (.string a0_2) := (blk_cell BK281.out 2).trans rfl
                    have hcz49_3 : wr.cell? ⟨gb281, 3, none⟩ = some (.slice A0_3 l0_3.length c0_3) := (blk_cell BK281.out 3).trans rfl
                    have hcz49_4 : wr.cell? ⟨gb281, 4, none⟩ = some (.slice A0_4 l0_4.length c0_4) := (blk_cell BK281.out 4).trans rfl
                    have hfz49_0 := blk_frozen BK281.out 0
                    have hfz49_1 := blk_frozen BK281.out 1
                    have hfz49_2 := blk_frozen BK281.out 2
                    have hfz49_3 := blk_frozen BK281.out 3
                    have hfz49_4 := blk_frozen BK281.out 4
                    go_wp2_with (first | ((with_reducible refine gate_callee (f := 20) rfl ?_); refine goesL_ (some 47) rfl rfl Try.func20 (by kernel_rfl) rfl #[.agg #[.int .i64 a0_0, .string a0_1, .string a0_2, .slice A0_3 l0_3.length c0_3, .slice A0_4 l0_4.length c0_4], .string a1] rfl (by (try simp only [List.map_toArray, List.map_cons, List.map_nil]); first | done | rfl | (simp only [List.length_drop, List.length_take]; rfl)) ?_; (with_reducible refine (impl_AttributeOf.calls a0_0 a0_1 a0_2 _ _ l0_3 _ _ l0_4 a1 t286 t287 _ ?side1 ?side2 ?side3 ?side4 A31.out).mono ?_); (case side1 => repeat (first | exact (Kd.C_below HR0_3.out HB.out) | (with_reducible refine Kd.C_alloc ?_ _) | (with_reducible refine Kd.C_drewN ?_ _) | (with_reducible refine Kd.C_drew ?_))); (case side2 => exact HC0_3.out); (case side3 => repeat (first | exact (Kd.C_below HR0_4.out HB.out) | (with_reducible refine Kd.C_alloc ?_ _) | (with_reducible refine Kd.C_drewN ?_ _) | (with_reducible refine Kd.C_drew ?_))); (case side4 => exact HC0_4.out); rintro e w50 ⟨rfl, hb⟩; refine ⟨_, rfl, ?_⟩; have n0_ := Aside0.mk (blk_below (g := gb281) (o := .cells #[.int .i64 a0_0, .string a0_1, .string a0_2, .slice A0_3 l0_3.length c0_3, .slice A0_4 l0_4.length c0_4] 25 (0, 0)) (by (with_reducible repeat (first | refine blk_drewN ?_ _ | refine blk_drew ?_ | refine blk_alloc ?_ _)); exact BK281.out) hb); have n1_ := Aside0.mk (below_step (by repeat (first | (with_reducible first | exact HB.out | apply below_alloc | apply pw_below_drewN | apply below_drew1 | refine below_set ?_ GE281.out) | exact HB.out)) hb); clear BK281; clear HB; have BK281 := n0_; have HB := n1_; clear n0_ n1_; (try clear hb); (try clear hb2); (try clear hk); (try clear hi)))
                    go_ret
                    exact ⟨by first | rfl | (simp [errW_none, errW_some] <;> rfl) | (simp [*, errW_none, errW_some] <;> rfl), by repeat (first | (with_reducible first | exact HB.out | apply below_alloc | apply pw_below_drewN | apply below_drew1 | refine below_set ?_ GE281.out) | exact HB.out)⟩
                · replace c32 := Bool.eq_false_iff.mpr c32
                  subst c32
                  have H1 : (if (t287 == false) = true then (if t286.toList = x7_2.toList then ((impl_AttributeOr.f a0_0 a0_1 a0_2 l0_3 l0_4 a1 a2).bind fun t290 => (if t290.toList = a2.toList then ((laws_living29.f).bind fun t291 => (some t291)) else (some false))) else (some false)) else (some false)) = some r := by rw [if_neg (show ¬ (false = true) by decide)] at H; exact H
                  clear H
                  have H := H1
                  clear H1
                  by_cases c51 : (t287 == false) = true
                  · rw [if_pos c51] at H
                    have c51b0 : (t287 == false) = true := c51
                    (try (have c51b1 : decide (t287 = false) = true := by simpa using c51))
                    (try (have c51b2 : (t287 == false) = true := by simpa using c51))
                    clear c51
                    by_cases c52 : t286.toList = x7_2.toList
                    · rw [if_pos c52] at H
                      have c52b0 : (t286.toList == x7_2.toList) = true := beq_iff_eq.mpr c52
                      have c52b1 : (t286.toList != x7_2.toList) = false := bne_eq_false_iff_eq.mpr c52
                      clear c52
                      replace H := Option.bind_eq_some_iff.mp H
                      obtain ⟨t290, A530, H⟩ := H
                      replace H : (if t290.toList = a2.toList then ((laws_living29.f).bind fun t291 => (some t291)) else (some false)) = some r := H
                      have A53 := Aside0.mk A530
                      clear A530
                      by_cases c54 : t290.toList = a2.toList
                      · rw [if_pos c54] at H
                        have c54b0 : (t290.toList == a2.toList) = true := beq_iff_eq.mpr c54
                        have c54b1 : (t290.toList != a2.toList) = false := bne_eq_false_iff_eq.mpr c54
                        clear c54
                        replace H := Option.bind_eq_some_iff.mp H
                        obtain ⟨t291, A550, H⟩ := H
                        replace H : (some t291) = some r := H
                        have A55 := Aside0.mk A550
                        clear A550
                        obtain rfl := Option.some.inj H
                        have hcz56_0 : wr.cell? ⟨gb281, 0, none⟩ = some (.int .i64 a0_0) := (blk_cell BK281.out 0).trans rfl
                        have hcz56_1 : wr.cell? ⟨gb281, 1, none⟩ = some (.string a0_1) := (blk_cell BK281.out 1).trans rfl
                        have hcz56_2 : wr.cell? ⟨gb281, 2, none⟩ = some (.string a0_2) := (blk_cell BK281.out 2).trans rfl
                        have hcz56_3 : wr.cell? ⟨gb281, 3, none⟩ = some (.slice A0_3 l0_3.length c0_3) := (blk_cell BK281.out 3).trans rfl
                        have hcz56_4 : wr.cell? ⟨gb281, 4, none⟩ = some (.slice A0_4 l0_4.length c0_4) := (blk_cell BK281.out 4).trans rfl
                        have hfz56_0 := blk_frozen BK281.out 0
                        have hfz56_1 := blk_frozen BK281.out 1
                        have hfz56_2 := blk_frozen BK281.out 2
                        have hfz56_3 := blk_frozen BK281.out 3
                        have hfz56_4 := blk_frozen BK281.out 4
                        go_wp2_with (first | ((with_reducible refine gate_callee (f := 20) rfl ?_); refine goesL_ (some 47) rfl rfl Try.func20 (by kernel_rfl) rfl #[.agg #[.int .i64 a0_0, .string a0_1, .string a0_2, .slice A0_3 l0_3.length c0_3, .slice A0_4 l0_4.length c0_4], .string a1] rfl (by (try simp only [List.map_toArray, List.map_cons, List.map_nil]); first | done | rfl | (simp only [List.length_drop, List.length_take]; rfl)) ?_; (with_reducible refine (impl_AttributeOf.calls a0_0 a0_1 a0_2 _ _ l0_3 _ _ l0_4 a1 t286 t287 _ ?side1 ?side2 ?side3 ?side4 A31.out).mono ?_); (case side1 => repeat (first | exact (Kd.C_below HR0_3.out HB.out) | (with_reducible refine Kd.C_alloc ?_ _) | (with_reducible refine Kd.C_drewN ?_ _) | (with_reducible refine Kd.C_drew ?_))); (case side2 => exact HC0_3.out); (case side3 => repeat (first | exact (Kd.C_below HR0_4.out HB.out) | (with_reducible refine Kd.C_alloc ?_ _) | (with_reducible refine Kd.C_drewN ?_ _) | (with_reducible refine Kd.C_drew ?_))); (case side4 => exact HC0_4.out); rintro e w57 ⟨rfl, hb⟩; refine ⟨_, rfl, ?_⟩; have n0_ := Aside0.mk (blk_below (g := gb281) (o := .cells #[.int .i64 a0_0, .string a0_1, .string a0_2, .slice A0_3 l0_3.length c0_3, .slice A0_4 l0_4.length c0_4] 25 (0, 0)) (by (with_reducible repeat (first | refine blk_drewN ?_ _ | refine blk_drew ?_ | refine blk_alloc ?_ _)); exact BK281.out) hb); have n1_ := Aside0.mk (below_step (by repeat (first | (with_reducible first | exact HB.out | apply below_alloc | apply pw_below_drewN | apply below_drew1 | refine below_set ?_ GE281.out) | exact HB.out)) hb); clear BK281; clear HB; have BK281 := n0_; have HB := n1_; clear n0_ n1_; (try clear hb); (try clear hb2); (try clear hk); (try clear hi); have hcz58_0 : w57.cell? ⟨gb281, 0, none⟩ = some (.int .i64 a0_0) := (blk_cell BK281.out 0).trans rfl; have hcz58_1 : w57.cell? ⟨gb281, 1, none⟩ = some (.string a0_1) := (blk_cell BK281.out 1).trans rfl; have hcz58_2 : w57.cell? ⟨gb281, 2, none⟩ = some (.string a0_2) := (blk_cell BK281.out 2).trans rfl; have hcz58_3 : w57.cell? ⟨gb281, 3, none⟩ = some (.slice A0_3 l0_3.length c0_3) := (blk_cell BK281.out 3).trans rfl; have hcz58_4 : w57.cell? ⟨gb281, 4, none⟩ = some (.slice A0_4 l0_4.length c0_4) := (blk_cell BK281.out 4).trans rfl; have hfz58_0 := blk_frozen BK281.out 0; have hfz58_1 := blk_frozen BK281.out 1; have hfz58_2 := blk_frozen BK281.out 2; have hfz58_3 := blk_frozen BK281.out 3; have hfz58_4 := blk_frozen BK281.out 4) | (go_at_call 21; (with_reducible refine (impl_AttributeOr.calls a0_0 a0_1 a0_2 _ _ l0_3 _ _ l0_4 a1 a2 t290 _ ?side1 ?side2 ?side3 ?side4 A53.out).mono ?_); (case side1 => repeat (first | exact (Kd.C_below HR0_3.out HB.out) | (with_reducible refine Kd.C_alloc ?_ _) | (with_reducible refine Kd.C_drewN ?_ _) | (with_reducible refine Kd.C_drew ?_))); (case side2 => exact HC0_3.out); (case side3 => repeat (first | exact (Kd.C_below HR0_4.out HB.out) | (with_reducible refine Kd.C_alloc ?_ _) | (with_reducible refine Kd.C_drewN ?_ _) | (with_reducible refine Kd.C_drew ?_))); (case side4 => exact HC0_4.out); rintro e w59 ⟨rfl, hb⟩; have n0_ := Aside0.mk (blk_below (g := gb281) (o := .cells #[.int .i64 a0_0, .string a0_1, .string a0_2, .slice A0_3 l0_3.length c0_3, .slice A0_4 l0_4.length c0_4] 25 (0, 0)) (by (with_reducible repeat (first | refine blk_drewN ?_ _ | refine blk_drew ?_ | refine blk_alloc ?_ _)); exact BK281.out) hb); have n1_ := Aside0.mk (below_step (by repeat (first | (with_reducible first | exact HB.out | apply below_alloc | apply pw_below_drewN | apply below_drew1 | refine below_set ?_ GE281.out) | exact HB.out)) hb); clear BK281; clear HB; have BK281 := n0_; have HB := n1_; clear n0_ n1_; (try clear hb); (try clear hb2); (try clear hk); (try clear hi)) | (go_at_call 22; (with_reducible refine (laws_living29.calls  t291 _ A55.out).mono ?_); rintro e w60 ⟨rfl, hb⟩; have n0_ := Aside0.mk (blk_below (g := gb281) (o := .cells #[.int .i64 a0_0, .string a0_1, .string a0_2, .slice A0_3 l0_3.length c0_3, .slice A0_4 l0_4.length c0_4] 25 (0, 0)) (by (with_reducible repeat (first | refine blk_drewN ?_ _ | refine blk_drew ?_ | refine blk_alloc ?_ _)); exact BK281.out) hb); have n1_ := Aside0.mk (below_step (by repeat (first | (with_reducible first | exact HB.out | apply below_alloc | apply pw_below_drewN | apply below_drew1 | refine below_set ?_ GE281.out) | exact HB.out)) hb); clear BK281; clear HB; have BK281 := n0_; have HB := n1_; clear n0_ n1_; (try clear hb); (try clear hb2); (try clear hk); (try clear hi)))
                        go_ret
                        exact ⟨by first | rfl | (simp [errW_none, errW_some] <;> rfl) | (simp [*, errW_none, errW_some] <;> rfl), by repeat (first | (with_reducible first | exact HB.out | apply below_alloc | apply pw_below_drewN | apply below_drew1 | refine below_set ?_ GE281.out) | exact HB.out)⟩
                      · rw [if_neg c54] at H
                        have c54b0 : (t290.toList == a2.toList) = false := beq_eq_false_iff_ne.mpr c54
                        have c54b1 : (t290.toList != a2.toList) = true := bne_iff_ne.mpr c54
                        obtain rfl := Option.some.inj H
                        have hcz61_0 : wr.cell? ⟨gb281, 0, none⟩ = some (.int .i64 a0_0) := (blk_cell BK281.out 0).trans rfl
                        have hcz61_1 : wr.cell? ⟨gb281, 1, none⟩ = some (.string a0_1) := (blk_cell BK281.out 1).trans rfl
                        have hcz61_2 : wr.cell? ⟨gb281, 2, none⟩ = some (.string a0_2) := (blk_cell BK281.out 2).trans rfl
                        have hcz61_3 : wr.cell? ⟨gb281, 3, none⟩ = some (.slice A0_3 l0_3.length c0_3) := (blk_cell BK281.out 3).trans rfl
                        have hcz61_4 : wr.cell? ⟨gb281, 4, none⟩ = some (.slice A0_4 l0_4.length c0_4) := (blk_cell BK281.out 4).trans rfl
                        have hfz61_0 := blk_frozen BK281.out 0
                        have hfz61_1 := blk_frozen BK281.out 1
                        have hfz61_2 := blk_frozen BK281.out 2
                        have hfz61_3 := blk_frozen BK281.out 3
                        have hfz61_4 := blk_frozen BK281.out 4
                        go_wp2_with (first | ((with_reducible refine gate_callee (f := 20) rfl ?_); refine goesL_ (some 47) rfl rfl Try.func20 (by kernel_rfl) rfl #[.agg #[.int .i64 a0_0, .string a0_1, .string a0_2, .slice A0_3 l0_3.length c0_3, .slice A0_4 l0_4.length c0_4], .string a1] rfl (by (try simp only [List.map_toArray, List.map_cons, List.map_nil]); first | done | rfl | (simp only [List.length_drop, List.length_take]; rfl)) ?_; (with_reducible refine (impl_AttributeOf.calls a0_0 a0_1 a0_2 _ _ l0_3 _ _ l0_4 a1 t286 t287 _ ?side1 ?side2 ?side3 ?side4 A31.out).mono ?_); (case side1 => repeat (first | exact (Kd.C_below HR0_3.out HB.out) | (with_reducible refine Kd.C_alloc ?_ _) | (with_reducible refine Kd.C_drewN ?_ _) | (with_reducible refine Kd.C_drew ?_))); (case side2 => exact HC0_3.out); (case side3 => repeat (first | exact (Kd.C_below HR0_4.out HB.out) | (with_reducible refine Kd.C_alloc ?_ _) | (with_reducible refine Kd.C_drewN ?_ _) | (with_reducible refine Kd.C_drew ?_))); (case side4 => exact HC0_4.out); rintro e w62 ⟨rfl, hb⟩; refine ⟨_, rfl, ?_⟩; have n0_ := Aside0.mk (blk_below (g := gb281) (o := .cells #[.int .i64 a0_0, .string a0_1, .string a0_2, .slice A0_3 l0_3.length c0_3, .slice A0_4 l0_4.length c0_4] 25 (0, 0)) (by (with_reducible repeat (first | refine blk_drewN ?_ _ | refine blk_drew ?_ | refine blk_alloc ?_ _)); exact BK281.out) hb); have n1_ := Aside0.mk (below_step (by repeat (first | (with_reducible first | exact HB.out | apply below_alloc | apply pw_below_drewN | apply below_drew1 | refine below_set ?_ GE281.out) | exact HB.out)) hb); clear BK281; clear HB; have BK281 := n0_; have HB := n1_; clear n0_ n1_; (try clear hb); (try clear hb2); (try clear hk); (try clear hi); have hcz63_0 : w62.cell? ⟨gb281, 0, none⟩ = some (.int .i64 a0_0) := (blk_cell BK281.out 0).trans rfl; have hcz63_1 : w62.cell? ⟨gb281, 1, none⟩ = some (.string a0_1) := (blk_cell BK281.out 1).trans rfl; have hcz63_2 : w62.cell? ⟨gb281, 2, none⟩ = some (.string a0_2) := (blk_cell BK281.out 2).trans rfl; have hcz63_3 : w62.cell? ⟨gb281, 3, none⟩ = some (.slice A0_3 l0_3.length c0_3) := (blk_cell BK281.out 3).trans rfl; have hcz63_4 : w62.cell? ⟨gb281, 4, none⟩ = some (.slice A0_4 l0_4.length c0_4) := (blk_cell BK281.out 4).trans rfl; have hfz63_0 := blk_frozen BK281.out 0; have hfz63_1 := blk_frozen BK281.out 1; have hfz63_2 := blk_frozen BK281.out 2; have hfz63_3 := blk_frozen BK281.out 3; have hfz63_4 := blk_frozen BK281.out 4) | (go_at_call 21; (with_reducible refine (impl_AttributeOr.calls a0_0 a0_1 a0_2 _ _ l0_3 _ _ l0_4 a1 a2 t290 _ ?side1 ?side2 ?side3 ?side4 A53.out).mono ?_); (case side1 => repeat (first | exact (Kd.C_below HR0_3.out HB.out) | (with_reducible refine Kd.C_alloc ?_ _) | (with_reducible refine Kd.C_drewN ?_ _) | (with_reducible refine Kd.C_drew ?_))); (case side2 => exact HC0_3.out); (case side3 => repeat (first | exact (Kd.C_below HR0_4.out HB.out) | (with_reducible refine Kd.C_alloc ?_ _) | (with_reducible refine Kd.C_drewN ?_ _) | (with_reducible refine Kd.C_drew ?_))); (case side4 => exact HC0_4.out); rintro e w64 ⟨rfl, hb⟩; have n0_ := Aside0.mk (blk_below (g := gb281) (o := .cells #[.int .i64 a0_0, .string a0_1, .string a0_2, .slice A0_3 l0_3.length c0_3, .slice A0_4 l0_4.length c0_4] 25 (0, 0)) (by (with_reducible repeat (first | refine blk_drewN ?_ _ | refine blk_drew ?_ | refine blk_alloc ?_ _)); exact BK281.out) hb); have n1_ := Aside0.mk (below_step (by repeat (first | (with_reducible first | exact HB.out | apply below_alloc | apply pw_below_drewN | apply below_drew1 | refine below_set ?_ GE281.out) | exact HB.out)) hb); clear BK281; clear HB; have BK281 := n0_; have HB := n1_; clear n0_ n1_; (try clear hb); (try clear hb2); (try clear hk); (try clear hi)))
                        go_ret
                        exact ⟨by first | rfl | (simp [errW_none, errW_some] <;> rfl) | (simp [*, errW_none, errW_some] <;> rfl), by repeat (first | (with_reducible first | exact HB.out | apply below_alloc | apply pw_below_drewN | apply below_drew1 | refine below_set ?_ GE281.out) | exact HB.out)⟩
                    · rw [if_neg c52] at H
                      have c52b0 : (t286.toList == x7_2.toList) = false := beq_eq_false_iff_ne.mpr c52
                      have c52b1 : (t286.toList != x7_2.toList) = true := bne_iff_ne.mpr c52
                      obtain rfl := Option.some.inj H
                      have hcz65_0 : wr.cell? ⟨gb281, 0, none⟩ = some (.int .i64 a0_0) := (blk_cell BK281.out 0).trans rfl
                      have hcz65_1 : wr.cell? ⟨gb281, 1, none⟩ = some (.string a0_1) := (blk_cell BK281.out 1).trans rfl
                      have hcz65_2 : wr.cell? ⟨gb281, 2, none⟩ = some (.string a0_2) := (blk_cell BK281.out 2).trans rfl
                      have hcz65_3 : wr.cell? ⟨gb281, 3, none⟩ = some (.slice A0_3 l0_3.length c0_3) := (blk_cell BK281.out 3).trans rfl
                      have hcz65_4 : wr.cell? ⟨gb281, 4, none⟩ = some (.slice A0_4 l0_4.length c0_4) := (blk_cell BK281.out 4).trans rfl
                      have hfz65_0 := blk_frozen BK281.out 0
                      have hfz65_1 := blk_frozen BK281.out 1
                      have hfz65_2 := blk_frozen BK281.out 2
                      have hfz65_3 := blk_frozen BK281.out 3
                      have hfz65_4 := blk_frozen BK281.out 4
                      go_wp2_with (first | ((with_reducible refine gate_callee (f := 20) rfl ?_); refine goesL_ (some 47) rfl rfl Try.func20 (by kernel_rfl) rfl #[.agg #[.int .i64 a0_0, .string a0_1, .string a0_2, .slice A0_3 l0_3.length c0_3, .slice A0_4 l0_4.length c0_4], .string a1] rfl (by (try simp only [List.map_toArray, List.map_cons, List.map_nil]); first | done | rfl | (simp only [List.length_drop, List.length_take]; rfl)) ?_; (with_reducible refine (impl_AttributeOf.calls a0_0 a0_1 a0_2 _ _ l0_3 _ _ l0_4 a1 t286 t287 _ ?side1 ?side2 ?side3 ?side4 A31.out).mono ?_); (case side1 => repeat (first | exact (Kd.C_below HR0_3.out HB.out) | (with_reducible refine Kd.C_alloc ?_ _) | (with_reducible refine Kd.C_drewN ?_ _) | (with_reducible refine Kd.C_drew ?_))); (case side2 => exact HC0_3.out); (case side3 => repeat (first | exact (Kd.C_below HR0_4.out HB.out) | (with_reducible refine Kd.C_alloc ?_ _) | (with_reducible refine Kd.C_drewN ?_ _) | (with_reducible refine Kd.C_drew ?_))); (case side4 => exact HC0_4.out); rintro e w66 ⟨rfl, hb⟩; refine ⟨_, rfl, ?_⟩; have n0_ := Aside0.mk (blk_below (g := gb281) (o := .cells #[.int .i64 a0_0, .string a0_1, .string a0_2, .slice A0_3 l0_3.length c0_3, .slice A0_4 l0_4.length c0_4] 25 (0, 0)) (by (with_reducible repeat (first | refine blk_drewN ?_ _ | refine blk_drew ?_ | refine blk_alloc ?_ _)); exact BK281.out) hb); have n1_ := Aside0.mk (below_step (by repeat (first | (with_reducible first | exact HB.out | apply below_alloc | apply pw_below_drewN | apply below_drew1 | refine below_set ?_ GE281.out) | exact HB.out)) hb); clear BK281; clear HB; have BK281 := n0_; have HB := n1_; clear n0_ n1_; (try clear hb); (try clear hb2); (try clear hk); (try clear hi)))
                      go_ret
                      exact ⟨by first | rfl | (simp [errW_none, errW_some] <;> rfl) | (simp [*, errW_none, errW_some] <;> rfl), by repeat (first | (with_reducible first | exact HB.out | apply below_alloc | apply pw_below_drewN | apply below_drew1 | refine below_set ?_ GE281.out) | exact HB.out)⟩
                  · rw [if_neg c51] at H
                    have c51b0 : (t287 == false) = false := by simpa using c51
                    (try (have c51b1 : decide (t287 = false) = false := by simpa using c51))
                    (try (have c51b2 : (t287 == false) = false := by simpa using c51))
                    (try (have c51b3 : ¬ (t287 = false) := by simpa using c51))
                    clear c51
                    obtain rfl := Option.some.inj H
                    have hcz67_0 : wr.cell? ⟨gb281, 0, none⟩ = some (.int .i64 a0_0) := (blk_cell BK281.out 0).trans rfl
                    have hcz67_1 : wr.cell? ⟨gb281, 1, none⟩ = some (.string a0_1) := (blk_cell BK281.out 1).trans rfl
                    have hcz67_2 : wr.cell? ⟨gb281, 2, none⟩ = some (.string a0_2) := (blk_cell BK281.out 2).trans rfl
                    have hcz67_3 : wr.cell? ⟨gb281, 3, none⟩ = some (.slice A0_3 l0_3.length c0_3) := (blk_cell BK281.out 3).trans rfl
                    have hcz67_4 : wr.cell? ⟨gb281, 4, none⟩ = some (.slice A0_4 l0_4.length c0_4) := (blk_cell BK281.out 4).trans rfl
                    have hfz67_0 := blk_frozen BK281.out 0
                    have hfz67_1 := blk_frozen BK281.out 1
                    have hfz67_2 := blk_frozen BK281.out 2
                    have hfz67_3 := blk_frozen BK281.out 3
                    have hfz67_4 := blk_frozen BK281.out 4
                    go_wp2_with (first | ((with_reducible refine gate_callee (f := 20) rfl ?_); refine goesL_ (some 47) rfl rfl Try.func20 (by kernel_rfl) rfl #[.agg #[.int .i64 a0_0, .string a0_1, .string a0_2, .slice A0_3 l0_3.length c0_3, .slice A0_4 l0_4.length c0_4], .string a1] rfl (by (try simp only [List.map_toArray, List.map_cons, List.map_nil]); first | done | rfl | (simp only [List.length_drop, List.length_take]; rfl)) ?_; (with_reducible refine (impl_AttributeOf.calls a0_0 a0_1 a0_2 _ _ l0_3 _ _ l0_4 a1 t286 t287 _ ?side1 ?side2 ?side3 ?side4 A31.out).mono ?_); (case side1 => repeat (first | exact (Kd.C_below HR0_3.out HB.out) | (with_reducible refine Kd.C_alloc ?_ _) | (with_reducible refine Kd.C_drewN ?_ _) | (with_reducible refine Kd.C_drew ?_))); (case side2 => exact HC0_3.out); (case side3 => repeat (first | exact (Kd.C_below HR0_4.out HB.out) | (with_reducible refine Kd.C_alloc ?_ _) | (with_reducible refine Kd.C_drewN ?_ _) | (with_reducible refine Kd.C_drew ?_))); (case side4 => exact HC0_4.out); rintro e w68 ⟨rfl, hb⟩; refine ⟨_, rfl, ?_⟩; have n0_ := Aside0.mk (blk_below (g := gb281) (o := .cells #[.int .i64 a0_0, .string a0_1, .string a0_2, .slice A0_3 l0_3.length c0_3, .slice A0_4 l0_4.length c0_4] 25 (0, 0)) (by (with_reducible repeat (first | refine blk_drewN ?_ _ | refine blk_drew ?_ | refine blk_alloc ?_ _)); exact BK281.out) hb); have n1_ := Aside0.mk (below_step (by repeat (first | (with_reducible first | exact HB.out | apply below_alloc | apply pw_below_drewN | apply below_drew1 | refine below_set ?_ GE281.out) | exact HB.out)) hb); clear BK281; clear HB; have BK281 := n0_; have HB := n1_; clear n0_ n1_; (try clear hb); (try clear hb2); (try clear hk); (try clear hi)))
                    go_ret
                    exact ⟨by first | rfl | (simp [errW_none, errW_some] <;> rfl) | (simp [*, errW_none, errW_some] <;> rfl), by repeat (first | (with_reducible first | exact HB.out | apply below_alloc | apply pw_below_drewN | apply below_drew1 | refine below_set ?_ GE281.out) | exact HB.out)⟩
        · replace c17 := Bool.eq_false_iff.mpr c17
          subst c17
          have H1 : (some true) = some r := by rw [if_neg (show ¬ (false = true) by decide)] at H; exact H
          clear H
          have H := H1
          clear H1
          obtain rfl := Option.some.inj H
          have hcz69_0 : wc.cell? ⟨gb281, 0, none⟩ = some (.int .i64 a0_0) := (blk_cell BK281.out 0).trans rfl
          have hcz69_1 : wc.cell? ⟨gb281, 1, none⟩ = some (.string a0_1) := (blk_cell BK281.out 1).trans rfl
          have hcz69_2 : wc.cell? ⟨gb281, 2, none⟩ = some (.string a0_2) := (blk_cell BK281.out 2).trans rfl
          have hcz69_3 : wc.cell? ⟨gb281, 3, none⟩ = some (.slice A0_3 l0_3.length c0_3) := (blk_cell BK281.out 3).trans rfl
          have hcz69_4 : wc.cell? ⟨gb281, 4, none⟩ = some (.slice A0_4 l0_4.length c0_4) := (blk_cell BK281.out 4).trans rfl
          have hfz69_0 := blk_frozen BK281.out 0
          have hfz69_1 := blk_frozen BK281.out 1
          have hfz69_2 := blk_frozen BK281.out 2
          have hfz69_3 := blk_frozen BK281.out 3
          have hfz69_4 := blk_frozen BK281.out 4
          go_wp2_with (first | ((with_reducible refine gate_callee (f := 15) rfl ?_); refine goesL_ (some 28) rfl rfl Try.func15 (by kernel_rfl) rfl #[.agg #[.int .i64 a0_0, .string a0_1, .string a0_2, .slice A0_3 l0_3.length c0_3, .slice A0_4 l0_4.length c0_4]] rfl (by (try simp only [List.map_toArray, List.map_cons, List.map_nil]); first | done | rfl | (simp only [List.length_drop, List.length_take]; rfl)) ?_; (with_reducible refine (laws_tree29.calls kj3 a0_0 a0_1 a0_2 _ _ l0_3 _ _ l0_4 false _ ?side1 ?side2 ?side3 ?side4 A16.out).mono ?_); (case side1 => repeat (first | exact (Kd.C_below HR0_3.out HB.out) | (with_reducible refine Kd.C_alloc ?_ _) | (with_reducible refine Kd.C_drewN ?_ _) | (with_reducible refine Kd.C_drew ?_))); (case side2 => exact HC0_3.out); (case side3 => repeat (first | exact (Kd.C_below HR0_4.out HB.out) | (with_reducible refine Kd.C_alloc ?_ _) | (with_reducible refine Kd.C_drewN ?_ _) | (with_reducible refine Kd.C_drew ?_))); (case side4 => exact HC0_4.out); rintro e w70 ⟨rfl, hb⟩; refine ⟨_, rfl, ?_⟩; have n0_ := Aside0.mk (blk_below (g := gb281) (o := .cells #[.int .i64 a0_0, .string a0_1, .string a0_2, .slice A0_3 l0_3.length c0_3, .slice A0_4 l0_4.length c0_4] 25 (0, 0)) (by (with_reducible repeat (first | refine blk_drewN ?_ _ | refine blk_drew ?_ | refine blk_alloc ?_ _)); exact BK281.out) hb); have n1_ := Aside0.mk (below_step (by repeat (first | (with_reducible first | exact HB.out | apply below_alloc | apply pw_below_drewN | apply below_drew1 | refine below_set ?_ GE281.out) | exact HB.out)) hb); clear BK281; clear HB; have BK281 := n0_; have HB := n1_; clear n0_ n1_; (try clear hb); (try clear hb2); (try clear hk); (try clear hi)))
          go_ret
          exact ⟨by first | rfl | (simp [errW_none, errW_some] <;> rfl) | (simp [*, errW_none, errW_some] <;> rfl), by repeat (first | (with_reducible first | exact HB.out | apply below_alloc | apply pw_below_drewN | apply below_drew1 | refine below_set ?_ GE281.out) | exact HB.out)⟩

end Go.Proofs.Ytlallihdiffheaa.GT
