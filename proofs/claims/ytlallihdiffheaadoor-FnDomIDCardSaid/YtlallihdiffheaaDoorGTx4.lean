-- made by a program of this session, after the kit's print
import Derived.Test.YtlallihdiffheaaDoorGTx3
import Derived.Test.YtlallihdiffheaaDoorGivDomID
namespace Go.Proofs.YtlallihdiffheaaDoor.GT
open Go.RowKit Go.Proofs.YtlallihdiffheaaDoorW.PrintWords Go.Proofs.YtlallihdiffheaaDoorW.PrintLast Go.Proofs.YtlallihdiffheaaDoorW.PrintMore
attribute [local go_sem] max2_int min2_int max_two min_two max_three min_three max_four min_four   -- for this text's walks alone
set_option linter.unusedVariables false
set_option linter.unusedSimpArgs false

/-! ### laws_FnDomID: function 3 -/
mutual
def laws_FnDomID.j0 : Nat → ByteArray → Bool → Int → ByteArray → ByteArray → List (S29) → List (S25) → Option (Bool)
  | 0, _, _, _, _, _, _, _ => none
  | k + 1, x1, x15, x130000, x130001, x130002, x130003, x130004 => if x15 = true then (some true) else ((laws_tree29.f k x130000 x130001 x130002 x130003 x130004).bind fun t131 => (if t131 = true then ((laws_one29.f k x1).bind fun t132 => (laws_FnDomID.j1 k x1 (!t132) x130000 x130001 x130002 x130003 x130004)) else (laws_FnDomID.j1 k x1 true x130000 x130001 x130002 x130003 x130004)))
def laws_FnDomID.j1 : Nat → ByteArray → Bool → Int → ByteArray → ByteArray → List (S29) → List (S25) → Option (Bool)
  | 0, _, _, _, _, _, _, _ => none
  | k + 1, x1, x23, x130000, x130001, x130002, x130003, x130004 => if x23 = true then (some true) else (laws_FnDomID.l0 k x1 false x130003 (x130003.length : Int) 0 x130000 x130001 x130002 x130003 x130004)
def laws_FnDomID.l0 : Nat → ByteArray → Bool → List (S29) → Int → Int → Int → ByteArray → ByteArray → List (S29) → List (S25) → Option (Bool)
  | 0, _, _, _, _, _, _, _, _, _, _ => none
  | k + 1, x1, x5, x25, x26, x27, x130000, x130001, x130002, x130003, x130004 => if x27 < x26 then (if 0 ≤ x27 then (if x27 < (x25.length : Int) then (if ((rd_T29 x25 x27).f0).toList = ([105, 100] : List UInt8) then ((laws_one29.f k ((rd_T29 x25 x27).f1)).bind fun t135 => (if t135 = true then (if x5 = true then (laws_FnDomID.l0 k x1 true x25 x26 (wrap64 (x27 + 1)) x130000 x130001 x130002 x130003 x130004) else (laws_FnDomID.l0 k x1 (((rd_T29 x25 x27).f1).toList == x1.toList) x25 x26 (wrap64 (x27 + 1)) x130000 x130001 x130002 x130003 x130004)) else (some true))) else (if x5 = true then (laws_FnDomID.l0 k x1 true x25 x26 (wrap64 (x27 + 1)) x130000 x130001 x130002 x130003 x130004) else (laws_FnDomID.l0 k x1 false x25 x26 (wrap64 (x27 + 1)) x130000 x130001 x130002 x130003 x130004))) else (none)) else (none)) else ((impl_HasID.f x130000 x130001 x130002 x130003 x130004 x1).bind fun t136 => (if (t136 == x5) = true then ((laws_living29.f).bind fun t137 => (some t137)) else (some false)))
end
def laws_FnDomID.f (k : Nat) (a0_0 : Int) (a0_1 : ByteArray) (a0_2 : ByteArray) (l0_3 : List (S29)) (l0_4 : List (S25)) (a1 : ByteArray) : Option (Bool) := (laws_zzFits2.f k a0_0 a0_1 a0_2 l0_3 l0_4).bind fun t130 => (if t130 = true then (laws_FnDomID.j0 k a1 (decide ((a1.size : Int) > 2147483647)) a0_0 a0_1 a0_2 l0_3 l0_4) else (laws_FnDomID.j0 k a1 true a0_0 a0_1 a0_2 l0_3 l0_4))
theorem laws_FnDomID.mono_l : ∀ k, (∀ y0 y1 y2 y3 y4 y5 y6, LeO (laws_FnDomID.j0 k y0 y1 y2 y3 y4 y5 y6) (laws_FnDomID.j0 (k + 1) y0 y1 y2 y3 y4 y5 y6)) ∧ (∀ y0 y1 y2 y3 y4 y5 y6, LeO (laws_FnDomID.j1 k y0 y1 y2 y3 y4 y5 y6) (laws_FnDomID.j1 (k + 1) y0 y1 y2 y3 y4 y5 y6)) ∧ (∀ y0 y1 y2 y3 y4 y5 y6 y7 y8 y9, LeO (laws_FnDomID.l0 k y0 y1 y2 y3 y4 y5 y6 y7 y8 y9) (laws_FnDomID.l0 (k + 1) y0 y1 y2 y3 y4 y5 y6 y7 y8 y9))
  | 0 => ⟨fun _ _ _ _ _ _ _ r h => by simp [laws_FnDomID.j0] at h, fun _ _ _ _ _ _ _ r h => by simp [laws_FnDomID.j1] at h, fun _ _ _ _ _ _ _ _ _ _ r h => by simp [laws_FnDomID.l0] at h⟩
  | k + 1 => by
    obtain ⟨ih0, ih1, ih2⟩ := laws_FnDomID.mono_l k
    refine ⟨?_, ?_, ?_⟩
    · intro y0 y1 y2 y3 y4 y5 y6
      unfold laws_FnDomID.j0
      repeat' first
      | (with_reducible exact ih0 _ _ _ _ _ _ _)
      | (with_reducible exact ih1 _ _ _ _ _ _ _)
      | (with_reducible exact ih2 _ _ _ _ _ _ _ _ _ _)
      | (with_reducible exact laws_one29.mono _ _)
      | (with_reducible exact laws_tree29.mono _ _ _ _ _ _)
      | (with_reducible exact laws_zzFits2.mono _ _ _ _ _ _)
      | (with_reducible exact LeO.refl _)
      | (with_reducible exact LeO.none _)
      | (with_reducible refine LeO.ite ?_ ?_)
      | (with_reducible refine LeO.bind ?_ (fun _ => ?_))
      | exact ih0 _ _ _ _ _ _ _
      | exact ih1 _ _ _ _ _ _ _
      | exact ih2 _ _ _ _ _ _ _ _ _ _
      | exact laws_one29.mono _ _
      | exact laws_tree29.mono _ _ _ _ _ _
      | exact laws_zzFits2.mono _ _ _ _ _ _
      | exact LeO.none _
      | refine LeO.ite ?_ ?_
      | refine LeO.bind ?_ (fun _ => ?_)
    · intro y0 y1 y2 y3 y4 y5 y6
      unfold laws_FnDomID.j1
      repeat' first
      | (with_reducible exact ih0 _ _ _ _ _ _ _)
      | (with_reducible exact ih1 _ _ _ _ _ _ _)
      | (with_reducible exact ih2 _ _ _ _ _ _ _ _ _ _)
      | (with_reducible exact laws_one29.mono _ _)
      | (with_reducible exact laws_tree29.mono _ _ _ _ _ _)
      | (with_reducible exact laws_zzFits2.mono _ _ _ _ _ _)
      | (with_reducible exact LeO.refl _)
      | (with_reducible exact LeO.none _)
      | (with_reducible refine LeO.ite ?_ ?_)
      | (with_reducible refine LeO.bind ?_ (fun _ => ?_))
      | exact ih0 _ _ _ _ _ _ _
      | exact ih1 _ _ _ _ _ _ _
      | exact ih2 _ _ _ _ _ _ _ _ _ _
      | exact laws_one29.mono _ _
      | exact laws_tree29.mono _ _ _ _ _ _
      | exact laws_zzFits2.mono _ _ _ _ _ _
      | exact LeO.none _
      | refine LeO.ite ?_ ?_
      | refine LeO.bind ?_ (fun _ => ?_)
    · intro y0 y1 y2 y3 y4 y5 y6 y7 y8 y9
      unfold laws_FnDomID.l0
      repeat' first
      | (with_reducible exact ih0 _ _ _ _ _ _ _)
      | (with_reducible exact ih1 _ _ _ _ _ _ _)
      | (with_reducible exact ih2 _ _ _ _ _ _ _ _ _ _)
      | (with_reducible exact laws_one29.mono _ _)
      | (with_reducible exact laws_tree29.mono _ _ _ _ _ _)
      | (with_reducible exact laws_zzFits2.mono _ _ _ _ _ _)
      | (with_reducible exact LeO.refl _)
      | (with_reducible exact LeO.none _)
      | (with_reducible refine LeO.ite ?_ ?_)
      | (with_reducible refine LeO.bind ?_ (fun _ => ?_))
      | exact ih0 _ _ _ _ _ _ _
      | exact ih1 _ _ _ _ _ _ _
      | exact ih2 _ _ _ _ _ _ _ _ _ _
      | exact laws_one29.mono _ _
      | exact laws_tree29.mono _ _ _ _ _ _
      | exact laws_zzFits2.mono _ _ _ _ _ _
      | exact LeO.none _
      | refine LeO.ite ?_ ?_
      | refine LeO.bind ?_ (fun _ => ?_)
theorem laws_FnDomID.mono : ∀ a0 a1 a2 a3 a4 a5 k, LeO (laws_FnDomID.f k a0 a1 a2 a3 a4 a5) (laws_FnDomID.f (k + 1) a0 a1 a2 a3 a4 a5) := by
  intro a0 a1 a2 a3 a4 a5 k
  obtain ⟨ih0, ih1, ih2⟩ := laws_FnDomID.mono_l k
  unfold laws_FnDomID.f
  repeat' first
      | (with_reducible exact ih0 _ _ _ _ _ _ _)
      | (with_reducible exact ih1 _ _ _ _ _ _ _)
      | (with_reducible exact ih2 _ _ _ _ _ _ _ _ _ _)
      | (with_reducible exact laws_one29.mono _ _)
      | (with_reducible exact laws_tree29.mono _ _ _ _ _ _)
      | (with_reducible exact laws_zzFits2.mono _ _ _ _ _ _)
      | (with_reducible exact LeO.refl _)
      | (with_reducible exact LeO.none _)
      | (with_reducible refine LeO.ite ?_ ?_)
      | (with_reducible refine LeO.bind ?_ (fun _ => ?_))
      | exact ih0 _ _ _ _ _ _ _
      | exact ih1 _ _ _ _ _ _ _
      | exact ih2 _ _ _ _ _ _ _ _ _ _
      | exact laws_one29.mono _ _
      | exact laws_tree29.mono _ _ _ _ _ _
      | exact laws_zzFits2.mono _ _ _ _ _ _
      | exact LeO.none _
      | refine LeO.ite ?_ ?_
      | refine LeO.bind ?_ (fun _ => ?_)
set_option maxHeartbeats 8000000 in
set_option maxRecDepth 100000 in
theorem laws_FnDomID.calls (k : Nat) (a0_0 : Int) (a0_1 : ByteArray) (a0_2 : ByteArray) (A0_3 : Option Addr) (c0_3 : Nat) (l0_3 : List (S29)) (A0_4 : Option Addr) (c0_4 : Nat) (l0_4 : List (S25)) (a1 : ByteArray) (r : Bool) (w : World) (hr0_3 : Kd.C k29 w A0_3 l0_3.length l0_3) (hc0_3 : l0_3.length ≤ c0_3) (hr0_4 : Kd.C k25 w A0_4 l0_4.length l0_4) (hc0_4 : l0_4.length ≤ c0_4) (h : laws_FnDomID.f k a0_0 a0_1 a0_2 l0_3 l0_4 a1 = some r) (hT0 : Hand.TabB w) :
    Calls Tryd.prog 3 #[.agg #[.int .i64 a0_0, .string a0_1, .string a0_2, .slice A0_3 l0_3.length c0_3, .slice A0_4 l0_4.length c0_4], .string a1] w fun e w' => e = .returned (.bool r) ∧ Below w.heap.size w w' := by
  have HT0 := Aside0.mk hT0
  clear hT0
  have hu25 := Tryd.underlying25
  have hu29 := Tryd.underlying29
  have HR0_3 := Aside0.mk hr0_3
  have HC0_3 := Aside0.mk hc0_3
  clear hr0_3 hc0_3
  have HR0_4 := Aside0.mk hr0_4
  have HC0_4 := Aside0.mk hc0_4
  clear hr0_4 hc0_4
  have HB := Aside0.mk (Below.refl w.heap.size w)
  have H : ((laws_zzFits2.f k a0_0 a0_1 a0_2 l0_3 l0_4).bind fun t130 => (if t130 = true then (laws_FnDomID.j0 k a1 (decide ((a1.size : Int) > 2147483647)) a0_0 a0_1 a0_2 l0_3 l0_4) else (laws_FnDomID.j0 k a1 true a0_0 a0_1 a0_2 l0_3 l0_4))) = some r := h
  clear h
  have HC3 := Aside0.mk H
  clear H
  go_enter Tryd.func3, Tryd.ntmps3
  go_upto_region 1 with (first | ((with_reducible refine gate_dst (N := 2) rfl ?_); (try (refine gate_guard (by rfl) ?_; dsimp only)); refine box_event ?hg (N := 2) ?hd (cs := #[.int .i64 a0_0, .string a0_1, .string a0_2, .slice A0_3 l0_3.length c0_3, .slice A0_4 l0_4.length c0_4]) (t := 25) ?hr ?_; (case hd => rfl); (case hg => rfl); (case hr => first | (go_simp; done) | (go_simp; rfl)); intro gb129 hg w4 hbox hb; have n0_ := Aside0.mk (below_step (by repeat (first | (with_reducible first | exact HB.out | apply below_alloc | apply pw_below_drewN | apply below_drew1) | exact HB.out)) hb); have n1_ := Aside0.mk (hbox); have n2_ := Aside0.mk ((by rw [hg]; exact (below_size (by repeat (first | (with_reducible first | exact HB.out | apply below_alloc | apply pw_below_drewN | apply below_drew1) | exact HB.out))) : w.heap.size ≤ gb129)); have n3_ := Aside0.mk ((by rw [hg]; exact (below_size (by repeat (first | (with_reducible first | exact HB.out | apply below_alloc | apply pw_below_drewN | apply below_drew1) | exact HB.out))) : w.heap.size ≤ gb129)); clear HB; have HB := n0_; have BK129 := n1_; have GW129 := n2_; have GE129 := n3_; clear n0_ n1_ n2_ n3_; clear hb hbox hg))
  (try simp only [Act.put, List.setIfInBounds_toArray, List.set_cons_zero, List.set_cons_succ])
  go_cut [15] (fun v15 wc => ∃ (kq : Nat) (x15_2 : Bool), v15 = .bool x15_2 ∧ Aside0 (laws_FnDomID.j0 kq a1 x15_2 a0_0 a0_1 a0_2 l0_3 l0_4 = some r) ∧ Aside0 (kq ≤ k) ∧ Aside0 (wc.heap[gb129]? = some (.cells #[.int .i64 a0_0, .string a0_1, .string a0_2, (.slice A0_3 l0_3.length c0_3), (.slice A0_4 l0_4.length c0_4)] 25 (0, 0))) ∧ Aside0 (Below w.heap.size w wc))
  case first =>
    have H := HC3.out
    clear HC3
    replace H := Option.bind_eq_some_iff.mp H
    obtain ⟨t130, A50, H⟩ := H
    replace H : (if t130 = true then (laws_FnDomID.j0 k a1 (decide ((a1.size : Int) > 2147483647)) a0_0 a0_1 a0_2 l0_3 l0_4) else (laws_FnDomID.j0 k a1 true a0_0 a0_1 a0_2 l0_3 l0_4)) = some r := H
    have A5 := Aside0.mk A50
    clear A50
    by_cases c6 : t130 = true
    · subst c6
      have H1 : (laws_FnDomID.j0 k a1 (decide ((a1.size : Int) > 2147483647)) a0_0 a0_1 a0_2 l0_3 l0_4) = some r := by rw [if_pos rfl] at H; exact H
      clear H
      have H := H1
      clear H1
      have H' := Aside0.mk H
      clear H
      have hcz7_0 : w4.cell? ⟨gb129, 0, none⟩ = some (.int .i64 a0_0) := (blk_cell BK129.out 0).trans rfl
      have hcz7_1 : w4.cell? ⟨gb129, 1, none⟩ = some (.string a0_1) := (blk_cell BK129.out 1).trans rfl
      have hcz7_2 : w4.cell? ⟨gb129, 2, none⟩ = some (.string a0_2) := (blk_cell BK129.out 2).trans rfl
      have hcz7_3 : w4.cell? ⟨gb129, 3, none⟩ = some (.slice A0_3 l0_3.length c0_3) := (blk_cell BK129.out 3).trans rfl
      have hcz7_4 : w4.cell? ⟨gb129, 4, none⟩ = some (.slice A0_4 l0_4.length c0_4) := (blk_cell BK129.out 4).trans rfl
      have hfz7_0 := blk_frozen BK129.out 0
      have hfz7_1 := blk_frozen BK129.out 1
      have hfz7_2 := blk_frozen BK129.out 2
      have hfz7_3 := blk_frozen BK129.out 3
      have hfz7_4 := blk_frozen BK129.out 4
      go_wp2_with (first | ((with_reducible refine gate_callee (f := 7) rfl ?_); refine goesL_ (some 9) rfl rfl Tryd.func7 (by kernel_rfl) rfl #[.agg #[.int .i64 a0_0, .string a0_1, .string a0_2, .slice A0_3 l0_3.length c0_3, .slice A0_4 l0_4.length c0_4]] rfl (by (try simp only [List.map_toArray, List.map_cons, List.map_nil]); first | done | rfl | (simp only [List.length_drop, List.length_take]; rfl)) ?_; (with_reducible refine (laws_zzFits2.calls k a0_0 a0_1 a0_2 _ _ l0_3 _ _ l0_4 true _ ?side1 ?side2 ?side3 ?side4 A5.out).mono ?_); (case side1 => repeat (first | exact (Kd.C_below HR0_3.out HB.out) | (with_reducible refine Kd.C_alloc ?_ _) | (with_reducible refine Kd.C_drewN ?_ _) | (with_reducible refine Kd.C_drew ?_))); (case side2 => exact HC0_3.out); (case side3 => repeat (first | exact (Kd.C_below HR0_4.out HB.out) | (with_reducible refine Kd.C_alloc ?_ _) | (with_reducible refine Kd.C_drewN ?_ _) | (with_reducible refine Kd.C_drew ?_))); (case side4 => exact HC0_4.out); rintro e w8 ⟨rfl, hb⟩; refine ⟨_, rfl, ?_⟩; have n0_ := Aside0.mk (blk_below (g := gb129) (o := .cells #[.int .i64 a0_0, .string a0_1, .string a0_2, .slice A0_3 l0_3.length c0_3, .slice A0_4 l0_4.length c0_4] 25 (0, 0)) (by (with_reducible repeat (first | refine blk_drewN ?_ _ | refine blk_drew ?_ | refine blk_alloc ?_ _)); exact BK129.out) hb); have n1_ := Aside0.mk (below_step (by repeat (first | (with_reducible first | exact HB.out | apply below_alloc | apply pw_below_drewN | apply below_drew1 | refine below_set ?_ GE129.out) | exact HB.out)) hb); clear BK129; clear HB; have BK129 := n0_; have HB := n1_; clear n0_ n1_; (try clear hb); (try clear hb2); (try clear hk); (try clear hi)))
      go_meet
      case rel => exact ⟨_, (decide ((a1.size : Int) > 2147483647)), (by first | rfl | (simp; done) | (simp [*]; done)), H', ⟨by first | omega | exact Nat.le_refl _⟩, ⟨by (with_reducible repeat (first | refine blk_drewN ?_ _ | refine blk_drew ?_ | refine blk_alloc ?_ _)); exact BK129.out⟩, ⟨by repeat (first | (with_reducible first | exact HB.out | apply below_alloc | apply pw_below_drewN | apply below_drew1 | refine below_set ?_ GE129.out) | exact HB.out)⟩⟩
    · replace c6 := Bool.eq_false_iff.mpr c6
      subst c6
      have H1 : (laws_FnDomID.j0 k a1 true a0_0 a0_1 a0_2 l0_3 l0_4) = some r := by rw [if_neg (show ¬ (false = true) by decide)] at H; exact H
      clear H
      have H := H1
      clear H1
      have H' := Aside0.mk H
      clear H
      have hcz9_0 : w4.cell? ⟨gb129, 0, none⟩ = some (.int .i64 a0_0) := (blk_cell BK129.out 0).trans rfl
      have hcz9_1 : w4.cell? ⟨gb129, 1, none⟩ = some (.string a0_1) := (blk_cell BK129.out 1).trans rfl
      have hcz9_2 : w4.cell? ⟨gb129, 2, none⟩ = some (.string a0_2) := (blk_cell BK129.out 2).trans rfl
      have hcz9_3 : w4.cell? ⟨gb129, 3, none⟩ = some (.slice A0_3 l0_3.length c0_3) := (blk_cell BK129.out 3).trans rfl
      have hcz9_4 : w4.cell? ⟨gb129, 4, none⟩ = some (.slice A0_4 l0_4.length c0_4) := (blk_cell BK129.out 4).trans rfl
      have hfz9_0 := blk_frozen BK129.out 0
      have hfz9_1 := blk_frozen BK129.out 1
      have hfz9_2 := blk_frozen BK129.out 2
      have hfz9_3 := blk_frozen BK129.out 3
      have hfz9_4 := blk_frozen BK129.out 4
      go_wp2_with (first | ((with_reducible refine gate_callee (f := 7) rfl ?_); refine goesL_ (some 9) rfl rfl Tryd.func7 (by kernel_rfl) rfl #[.agg #[.int .i64 a0_0, .string a0_1, .string a0_2, .slice A0_3 l0_3.length c0_3, .slice A0_4 l0_4.length c0_4]] rfl (by (try simp only [List.map_toArray, List.map_cons, List.map_nil]); first | done | rfl | (simp only [List.length_drop, List.length_take]; rfl)) ?_; (with_reducible refine (laws_zzFits2.calls k a0_0 a0_1 a0_2 _ _ l0_3 _ _ l0_4 false _ ?side1 ?side2 ?side3 ?side4 A5.out).mono ?_); (case side1 => repeat (first | exact (Kd.C_below HR0_3.out HB.out) | (with_reducible refine Kd.C_alloc ?_ _) | (with_reducible refine Kd.C_drewN ?_ _) | (with_reducible refine Kd.C_drew ?_))); (case side2 => exact HC0_3.out); (case side3 => repeat (first | exact (Kd.C_below HR0_4.out HB.out) | (with_reducible refine Kd.C_alloc ?_ _) | (with_reducible refine Kd.C_drewN ?_ _) | (with_reducible refine Kd.C_drew ?_))); (case side4 => exact HC0_4.out); rintro e w10 ⟨rfl, hb⟩; refine ⟨_, rfl, ?_⟩; have n0_ := Aside0.mk (blk_below (g := gb129) (o := .cells #[.int .i64 a0_0, .string a0_1, .string a0_2, .slice A0_3 l0_3.length c0_3, .slice A0_4 l0_4.length c0_4] 25 (0, 0)) (by (with_reducible repeat (first | refine blk_drewN ?_ _ | refine blk_drew ?_ | refine blk_alloc ?_ _)); exact BK129.out) hb); have n1_ := Aside0.mk (below_step (by repeat (first | (with_reducible first | exact HB.out | apply below_alloc | apply pw_below_drewN | apply below_drew1 | refine below_set ?_ GE129.out) | exact HB.out)) hb); clear BK129; clear HB; have BK129 := n0_; have HB := n1_; clear n0_ n1_; (try clear hb); (try clear hb2); (try clear hk); (try clear hi)))
      go_meet
      case rel => exact ⟨_, (true), (by first | rfl | (simp; done) | (simp [*]; done)), H', ⟨by first | omega | exact Nat.le_refl _⟩, ⟨by (with_reducible repeat (first | refine blk_drewN ?_ _ | refine blk_drew ?_ | refine blk_alloc ?_ _)); exact BK129.out⟩, ⟨by repeat (first | (with_reducible first | exact HB.out | apply below_alloc | apply pw_below_drewN | apply below_drew1 | refine below_set ?_ GE129.out) | exact HB.out)⟩⟩
  case rest =>
    clear HC3
    try clear p2
    try clear c3
    try clear c6
    try clear c7
    try clear hcz7_0
    try clear hcz7_1
    try clear hcz7_2
    try clear hcz7_3
    try clear hcz7_4
    try clear hcz9_0
    try clear hcz9_1
    try clear hcz9_2
    try clear hcz9_3
    try clear hcz9_4
    try clear hfz7_0
    try clear hfz7_1
    try clear hfz7_2
    try clear hfz7_3
    try clear hfz7_4
    try clear hfz9_0
    try clear hfz9_1
    try clear hfz9_2
    try clear hfz9_3
    try clear hfz9_4
    obtain ⟨kq, x15_2, rfl, HA, HJ2, BK129, HB⟩ := hcut
    cases kq with
    | zero => exact absurd HA.out (by simp [laws_FnDomID.j0])
    | succ kj2 =>
      have H := HA.out
      clear HA
      simp only [laws_FnDomID.j0] at H
      by_cases c11 : x15_2 = true
      · subst c11
        have H1 : (some true) = some r := by rw [if_pos rfl] at H; exact H
        clear H
        have H := H1
        clear H1
        obtain rfl := Option.some.inj H
        go_wp2
        go_ret
        exact ⟨by first | rfl | (simp [errW_none, errW_some] <;> rfl) | (simp [*, errW_none, errW_some] <;> rfl), by repeat (first | (with_reducible first | exact HB.out | apply below_alloc | apply pw_below_drewN | apply below_drew1 | refine below_set ?_ GE129.out) | exact HB.out)⟩
      · replace c11 := Bool.eq_false_iff.mpr c11
        subst c11
        have H1 : ((laws_tree29.f kj2 a0_0 a0_1 a0_2 l0_3 l0_4).bind fun t131 => (if t131 = true then ((laws_one29.f kj2 a1).bind fun t132 => (laws_FnDomID.j1 kj2 a1 (!t132) a0_0 a0_1 a0_2 l0_3 l0_4)) else (laws_FnDomID.j1 kj2 a1 true a0_0 a0_1 a0_2 l0_3 l0_4))) = some r := by rw [if_neg (show ¬ (false = true) by decide)] at H; exact H
        clear H
        have H := H1
        clear H1
        have HC12 := Aside0.mk H
        clear H
        go_upto_region 3 with (fail)
        go_cut [23] (fun v23 wc => ∃ (kq : Nat) (x23_11 : Bool), v23 = .bool x23_11 ∧ Aside0 (laws_FnDomID.j1 kq a1 x23_11 a0_0 a0_1 a0_2 l0_3 l0_4 = some r) ∧ Aside0 (kq ≤ kj2) ∧ Aside0 (wc.heap[gb129]? = some (.cells #[.int .i64 a0_0, .string a0_1, .string a0_2, (.slice A0_3 l0_3.length c0_3), (.slice A0_4 l0_4.length c0_4)] 25 (0, 0))) ∧ Aside0 (Below w.heap.size w wc))
        case first =>
          have H := HC12.out
          clear HC12
          replace H := Option.bind_eq_some_iff.mp H
          obtain ⟨t131, A130, H⟩ := H
          replace H : (if t131 = true then ((laws_one29.f kj2 a1).bind fun t132 => (laws_FnDomID.j1 kj2 a1 (!t132) a0_0 a0_1 a0_2 l0_3 l0_4)) else (laws_FnDomID.j1 kj2 a1 true a0_0 a0_1 a0_2 l0_3 l0_4)) = some r := H
          have A13 := Aside0.mk A130
          clear A130
          by_cases c14 : t131 = true
          · subst c14
            have H1 : ((laws_one29.f kj2 a1).bind fun t132 => (laws_FnDomID.j1 kj2 a1 (!t132) a0_0 a0_1 a0_2 l0_3 l0_4)) = some r := by rw [if_pos rfl] at H; exact H
            clear H
            have H := H1
            clear H1
            replace H := Option.bind_eq_some_iff.mp H
            obtain ⟨t132, A150, H⟩ := H
            replace H : (laws_FnDomID.j1 kj2 a1 (!t132) a0_0 a0_1 a0_2 l0_3 l0_4) = some r := H
            have A15 := Aside0.mk A150
            clear A150
            have H' := Aside0.mk H
            clear H
            have hcz16_0 : wc.cell? ⟨gb129, 0, none⟩ = some (.int .i64 a0_0) := (blk_cell BK129.out 0).trans rfl
            have hcz16_1 : wc.cell? ⟨gb129, 1, none⟩ = some (.string a0_1) := (blk_cell BK129.out 1).trans rfl
            have hcz16_2 : wc.cell? ⟨gb129, 2, none⟩ = some (.string a0_2) := (blk_cell BK129.out 2).trans rfl
            have hcz16_3 : wc.cell? ⟨gb129, 3, none⟩ = some (.slice A0_3 l0_3.length c0_3) := (blk_cell BK129.out 3).trans rfl
            have hcz16_4 : wc.cell? ⟨gb129, 4, none⟩ = some (.slice A0_4 l0_4.length c0_4) := (blk_cell BK129.out 4).trans rfl
            have hfz16_0 := blk_frozen BK129.out 0
            have hfz16_1 := blk_frozen BK129.out 1
            have hfz16_2 := blk_frozen BK129.out 2
            have hfz16_3 := blk_frozen BK129.out 3
            have hfz16_4 := blk_frozen BK129.out 4
            go_wp2_with (first | ((with_reducible refine gate_callee (f := 8) rfl ?_); refine goesL_ (some 17) rfl rfl Tryd.func8 (by kernel_rfl) rfl #[.agg #[.int .i64 a0_0, .string a0_1, .string a0_2, .slice A0_3 l0_3.length c0_3, .slice A0_4 l0_4.length c0_4]] rfl (by (try simp only [List.map_toArray, List.map_cons, List.map_nil]); first | done | rfl | (simp only [List.length_drop, List.length_take]; rfl)) ?_; (with_reducible refine (laws_tree29.calls kj2 a0_0 a0_1 a0_2 _ _ l0_3 _ _ l0_4 true _ ?side1 ?side2 ?side3 ?side4 A13.out).mono ?_); (case side1 => repeat (first | exact (Kd.C_below HR0_3.out HB.out) | (with_reducible refine Kd.C_alloc ?_ _) | (with_reducible refine Kd.C_drewN ?_ _) | (with_reducible refine Kd.C_drew ?_))); (case side2 => exact HC0_3.out); (case side3 => repeat (first | exact (Kd.C_below HR0_4.out HB.out) | (with_reducible refine Kd.C_alloc ?_ _) | (with_reducible refine Kd.C_drewN ?_ _) | (with_reducible refine Kd.C_drew ?_))); (case side4 => exact HC0_4.out); rintro e w17 ⟨rfl, hb⟩; refine ⟨_, rfl, ?_⟩; have n0_ := Aside0.mk (blk_below (g := gb129) (o := .cells #[.int .i64 a0_0, .string a0_1, .string a0_2, .slice A0_3 l0_3.length c0_3, .slice A0_4 l0_4.length c0_4] 25 (0, 0)) (by (with_reducible repeat (first | refine blk_drewN ?_ _ | refine blk_drew ?_ | refine blk_alloc ?_ _)); exact BK129.out) hb); have n1_ := Aside0.mk (below_step (by repeat (first | (with_reducible first | exact HB.out | apply below_alloc | apply pw_below_drewN | apply below_drew1 | refine below_set ?_ GE129.out) | exact HB.out)) hb); clear BK129; clear HB; have BK129 := n0_; have HB := n1_; clear n0_ n1_; (try clear hb); (try clear hb2); (try clear hk); (try clear hi)) | (go_at_call 9; (with_reducible refine (laws_one29.calls kj2 a1 t132 _ A15.out).mono ?_); rintro e w' ⟨rfl, ⟨nd, rfl⟩⟩))
            go_meet
            case rel => exact ⟨_, (!t132), (by first | rfl | (simp; done) | (simp [*]; done)), H', ⟨by have := HJ2.out; first | omega | exact Nat.le_refl _⟩, ⟨by (with_reducible repeat (first | refine blk_drewN ?_ _ | refine blk_drew ?_ | refine blk_alloc ?_ _)); exact BK129.out⟩, ⟨by repeat (first | (with_reducible first | exact HB.out | apply below_alloc | apply pw_below_drewN | apply below_drew1 | refine below_set ?_ GE129.out) | exact HB.out)⟩⟩
          · replace c14 := Bool.eq_false_iff.mpr c14
            subst c14
            have H1 : (laws_FnDomID.j1 kj2 a1 true a0_0 a0_1 a0_2 l0_3 l0_4) = some r := by rw [if_neg (show ¬ (false = true) by decide)] at H; exact H
            clear H
            have H := H1
            clear H1
            have H' := Aside0.mk H
            clear H
            have hcz18_0 : wc.cell? ⟨gb129, 0, none⟩ = some (.int .i64 a0_0) := (blk_cell BK129.out 0).trans rfl
            have hcz18_1 : wc.cell? ⟨gb129, 1, none⟩ = some (.string a0_1) := (blk_cell BK129.out 1).trans rfl
            have hcz18_2 : wc.cell? ⟨gb129, 2, none⟩ = some (.string a0_2) := (blk_cell BK129.out 2).trans rfl
            have hcz18_3 : wc.cell? ⟨gb129, 3, none⟩ = some (.slice A0_3 l0_3.length c0_3) := (blk_cell BK129.out 3).trans rfl
            have hcz18_4 : wc.cell? ⟨gb129, 4, none⟩ = some (.slice A0_4 l0_4.length c0_4) := (blk_cell BK129.out 4).trans rfl
            have hfz18_0 := blk_frozen BK129.out 0
            have hfz18_1 := blk_frozen BK129.out 1
            have hfz18_2 := blk_frozen BK129.out 2
            have hfz18_3 := blk_frozen BK129.out 3
            have hfz18_4 := blk_frozen BK129.out 4
            go_wp2_with (first | ((with_reducible refine gate_callee (f := 8) rfl ?_); refine goesL_ (some 17) rfl rfl Tryd.func8 (by kernel_rfl) rfl #[.agg #[.int .i64 a0_0, .string a0_1, .string a0_2, .slice A0_3 l0_3.length c0_3, .slice A0_4 l0_4.length c0_4]] rfl (by (try simp only [List.map_toArray, List.map_cons, List.map_nil]); first | done | rfl | (simp only [List.length_drop, List.length_take]; rfl)) ?_; (with_reducible refine (laws_tree29.calls kj2 a0_0 a0_1 a0_2 _ _ l0_3 _ _ l0_4 false _ ?side1 ?side2 ?side3 ?side4 A13.out).mono ?_); (case side1 => repeat (first | exact (Kd.C_below HR0_3.out HB.out) | (with_reducible refine Kd.C_alloc ?_ _) | (with_reducible refine Kd.C_drewN ?_ _) | (with_reducible refine Kd.C_drew ?_))); (case side2 => exact HC0_3.out); (case side3 => repeat (first | exact (Kd.C_below HR0_4.out HB.out) | (with_reducible refine Kd.C_alloc ?_ _) | (with_reducible refine Kd.C_drewN ?_ _) | (with_reducible refine Kd.C_drew ?_))); (case side4 => exact HC0_4.out); rintro e w19 ⟨rfl, hb⟩; refine ⟨_, rfl, ?_⟩; have n0_ := Aside0.mk (blk_below (g := gb129) (o := .cells #[.int .i64 a0_0, .string a0_1, .string a0_2, .slice A0_3 l0_3.length c0_3, .slice A0_4 l0_4.length c0_4] 25 (0, 0)) (by (with_reducible repeat (first | refine blk_drewN ?_ _ | refine blk_drew ?_ | refine blk_alloc ?_ _)); exact BK129.out) hb); have n1_ := Aside0.mk (below_step (by repeat (first | (with_reducible first | exact HB.out | apply below_alloc | apply pw_below_drewN | apply below_drew1 | refine below_set ?_ GE129.out) | exact HB.out)) hb); clear BK129; clear HB; have BK129 := n0_; have HB := n1_; clear n0_ n1_; (try clear hb); (try clear hb2); (try clear hk); (try clear hi)))
            go_meet
            case rel => exact ⟨_, (true), (by first | rfl | (simp; done) | (simp [*]; done)), H', ⟨by have := HJ2.out; first | omega | exact Nat.le_refl _⟩, ⟨by (with_reducible repeat (first | refine blk_drewN ?_ _ | refine blk_drew ?_ | refine blk_alloc ?_ _)); exact BK129.out⟩, ⟨by repeat (first | (with_reducible first | exact HB.out | apply below_alloc | apply pw_below_drewN | apply below_drew1 | refine below_set ?_ GE129.out) | exact HB.out)⟩⟩
        case rest =>
          clear HC12
          try clear c1
          try clear p2
          try clear c3
          try clear c6
          try clear c7
          try clear c8
          try clear c11
          try clear c14
          try clear hcz16_0
          try clear hcz16_1
          try clear hcz16_2
          try clear hcz16_3
          try clear hcz16_4
          try clear hcz18_0
          try clear hcz18_1
          try clear hcz18_2
          try clear hcz18_3
          try clear hcz18_4
          try clear hcz7_0
          try clear hcz7_1
          try clear hcz7_2
          try clear hcz7_3
          try clear hcz7_4
          try clear hcz9_0
          try clear hcz9_1
          try clear hcz9_2
          try clear hcz9_3
          try clear hcz9_4
          try clear hfz16_0
          try clear hfz16_1
          try clear hfz16_2
          try clear hfz16_3
          try clear hfz16_4
          try clear hfz18_0
          try clear hfz18_1
          try clear hfz18_2
          try clear hfz18_3
          try clear hfz18_4
          try clear hfz7_0
          try clear hfz7_1
          try clear hfz7_2
          try clear hfz7_3
          try clear hfz7_4
          try clear hfz9_0
          try clear hfz9_1
          try clear hfz9_2
          try clear hfz9_3
          try clear hfz9_4
          try clear p2
          obtain ⟨kq, x23_11, rfl, HA, HJ11, BK129, HB⟩ := hcut
          cases kq with
          | zero => exact absurd HA.out (by simp [laws_FnDomID.j1])
          | succ kj11 =>
            have H := HA.out
            clear HA
            simp only [laws_FnDomID.j1] at H
            by_cases c20 : x23_11 = true
            · subst c20
              have H1 : (some true) = some r := by rw [if_pos rfl] at H; exact H
              clear H
              have H := H1
              clear H1
              obtain rfl := Option.some.inj H
              go_wp2
              go_ret
              exact ⟨by first | rfl | (simp [errW_none, errW_some] <;> rfl) | (simp [*, errW_none, errW_some] <;> rfl), by repeat (first | (with_reducible first | exact HB.out | apply below_alloc | apply pw_below_drewN | apply below_drew1 | refine below_set ?_ GE129.out) | exact HB.out)⟩
            · replace c20 := Bool.eq_false_iff.mpr c20
              subst c20
              have H1 : (laws_FnDomID.l0 kj11 a1 false l0_3 (l0_3.length : Int) 0 a0_0 a0_1 a0_2 l0_3 l0_4) = some r := by rw [if_neg (show ¬ (false = true) by decide)] at H; exact H
              clear H
              have H := H1
              clear H1
              have H' := Aside0.mk H
              clear H
              have hcz21_0 : wc.cell? ⟨gb129, 0, none⟩ = some (.int .i64 a0_0) := (blk_cell BK129.out 0).trans rfl
              have hcz21_1 : wc.cell? ⟨gb129, 1, none⟩ = some (.string a0_1) := (blk_cell BK129.out 1).trans rfl
              have hcz21_2 : wc.cell? ⟨gb129, 2, none⟩ = some (.string a0_2) := (blk_cell BK129.out 2).trans rfl
              have hcz21_3 : wc.cell? ⟨gb129, 3, none⟩ = some (.slice A0_3 l0_3.length c0_3) := (blk_cell BK129.out 3).trans rfl
              have hcz21_4 : wc.cell? ⟨gb129, 4, none⟩ = some (.slice A0_4 l0_4.length c0_4) := (blk_cell BK129.out 4).trans rfl
              have hfz21_0 := blk_frozen BK129.out 0
              have hfz21_1 := blk_frozen BK129.out 1
              have hfz21_2 := blk_frozen BK129.out 2
              have hfz21_3 := blk_frozen BK129.out 3
              have hfz21_4 := blk_frozen BK129.out 4
              go_wp2
              go_loopg [5, 27] kj11 (fun kq v5 v27 w' => ∃ (x5_3 : Bool) (x27_3 : Int), v5 = .bool x5_3 ∧ v27 = .int .i64 x27_3 ∧ Aside0 (laws_FnDomID.l0 kq a1 x5_3 l0_3 (l0_3.length : Int) x27_3 a0_0 a0_1 a0_2 l0_3 l0_4 = some r) ∧ Aside0 (kq ≤ kj11) ∧ Aside0 (w'.heap[gb129]? = some (.cells #[.int .i64 a0_0, .string a0_1, .string a0_2, (.slice A0_3 l0_3.length c0_3), (.slice A0_4 l0_4.length c0_4)] 25 (0, 0))) ∧ Aside0 (Below w.heap.size w w'))
              case atStart => exact ⟨(false), (0), (by first | rfl | (simp; done) | (simp [*]; done)), (by first | rfl | (simp; done) | (simp [*]; done)), H', ⟨Nat.le_refl _⟩, ⟨by (with_reducible repeat (first | refine blk_drewN ?_ _ | refine blk_drew ?_ | refine blk_alloc ?_ _)); exact BK129.out⟩, ⟨by repeat (first | (with_reducible first | exact HB.out | apply below_alloc | apply pw_below_drewN | apply below_drew1 | refine below_set ?_ GE129.out) | exact HB.out)⟩⟩
              case round =>
                clear H'
                try clear c1
                try clear c2
                try clear p2
                try clear c3
                try clear c6
                try clear c7
                try clear c8
                try clear c11
                try clear c14
                try clear c20
                try clear hcz16_0
                try clear hcz16_1
                try clear hcz16_2
                try clear hcz16_3
                try clear hcz16_4
                try clear hcz18_0
                try clear hcz18_1
                try clear hcz18_2
                try clear hcz18_3
                try clear hcz18_4
                try clear hcz21_0
                try clear hcz21_1
                try clear hcz21_2
                try clear hcz21_3
                try clear hcz21_4
                try clear hcz7_0
                try clear hcz7_1
                try clear hcz7_2
                try clear hcz7_3
                try clear hcz7_4
                try clear hcz9_0
                try clear hcz9_1
                try clear hcz9_2
                try clear hcz9_3
                try clear hcz9_4
                try clear hfz16_0
                try clear hfz16_1
                try clear hfz16_2
                try clear hfz16_3
                try clear hfz16_4
                try clear hfz18_0
                try clear hfz18_1
                try clear hfz18_2
                try clear hfz18_3
                try clear hfz18_4
                try clear hfz21_0
                try clear hfz21_1
                try clear hfz21_2
                try clear hfz21_3
                try clear hfz21_4
                try clear hfz7_0
                try clear hfz7_1
                try clear hfz7_2
                try clear hfz7_3
                try clear hfz7_4
                try clear hfz9_0
                try clear hfz9_1
                try clear hfz9_2
                try clear hfz9_3
                try clear hfz9_4
                try clear p2
                obtain ⟨x5_3, x27_3, rfl, rfl, HA, HK3, BK129, HB⟩ := hrel
                cases gk with
                | zero => exact absurd HA.out (by simp [laws_FnDomID.l0])
                | succ k3 =>
                  have H := HA.out
                  clear HA
                  simp only [laws_FnDomID.l0] at H
                  by_cases c22 : x27_3 < (l0_3.length : Int)
                  · rw [if_pos c22] at H
                    have c22b0 : decide (x27_3 < (l0_3.length : Int)) = true := decide_eq_true c22
                    clear c22
                    by_cases c23 : 0 ≤ x27_3
                    · rw [if_pos c23] at H
                      have c23b0 : decide (0 ≤ x27_3) = true := decide_eq_true c23
                      clear c23
                      by_cases c24 : x27_3 < (l0_3.length : Int)
                      · rw [if_pos c24] at H
                        have c24b0 : decide (x27_3 < (l0_3.length : Int)) = true := decide_eq_true c24
                        clear c24
                        by_cases c25 : ((rd_T29 l0_3 x27_3).f0).toList = ([105, 100] : List UInt8)
                        · rw [if_pos c25] at H
                          have c25b0 : (((rd_T29 l0_3 x27_3).f0).toList == ([105, 100] : List UInt8)) = true := beq_iff_eq.mpr c25
                          have c25b1 : (((rd_T29 l0_3 x27_3).f0).toList != ([105, 100] : List UInt8)) = false := bne_eq_false_iff_eq.mpr c25
                          clear c25
                          replace H := Option.bind_eq_some_iff.mp H
                          obtain ⟨t135, A260, H⟩ := H
                          replace H : (if t135 = true then (if x5_3 = true then (laws_FnDomID.l0 k3 a1 true l0_3 (l0_3.length : Int) (wrap64 (x27_3 + 1)) a0_0 a0_1 a0_2 l0_3 l0_4) else (laws_FnDomID.l0 k3 a1 (((rd_T29 l0_3 x27_3).f1).toList == a1.toList) l0_3 (l0_3.length : Int) (wrap64 (x27_3 + 1)) a0_0 a0_1 a0_2 l0_3 l0_4)) else (some true)) = some r := H
                          have A26 := Aside0.mk A260
                          clear A260
                          by_cases c27 : t135 = true
                          · subst c27
                            have H1 : (if x5_3 = true then (laws_FnDomID.l0 k3 a1 true l0_3 (l0_3.length : Int) (wrap64 (x27_3 + 1)) a0_0 a0_1 a0_2 l0_3 l0_4) else (laws_FnDomID.l0 k3 a1 (((rd_T29 l0_3 x27_3).f1).toList == a1.toList) l0_3 (l0_3.length : Int) (wrap64 (x27_3 + 1)) a0_0 a0_1 a0_2 l0_3 l0_4)) = some r := by rw [if_pos rfl] at H; exact H
                            clear H
                            have H := H1
                            clear H1
                            by_cases c28 : x5_3 = true
                            · subst c28
                              have H1 : (laws_FnDomID.l0 k3 a1 true l0_3 (l0_3.length : Int) (wrap64 (x27_3 + 1)) a0_0 a0_1 a0_2 l0_3 l0_4) = some r := by rw [if_pos rfl] at H; exact H
                              clear H
                              have H := H1
                              clear H1
                              have H' := Aside0.mk H
                              clear H
                              have p133 : 0 ≤ (x27_3 : Int) := of_decide_eq_true (by first | (with_reducible assumption) | assumption)
                              have q133 : x27_3 < (l0_3.length : Int) := of_decide_eq_true (by first | (with_reducible assumption) | assumption)
                              obtain ⟨ad133, e133, hx133_0, hx133_1⟩ := at_T29 HR0_3.out x27_3 p133 q133
                              cases e133
                              replace hx133_0 := (HB.out.cell (World.block_lt_of_cell? w _ hx133_0)).trans hx133_0
                              replace hx133_1 := (HB.out.cell (World.block_lt_of_cell? w _ hx133_1)).trans hx133_1
                              replace p133 := eq_true p133
                              replace q133 := eq_true q133
                              go_wp2_with (first | ((with_reducible refine gate_dst (N := 7) rfl ?_); (try (refine gate_guard (by rfl) ?_; dsimp only)); refine box_event ?hg (N := 7) ?hd (cs := #[.string (⟨#[]⟩ : ByteArray), .string (⟨#[]⟩ : ByteArray)]) (t := 29) ?hr ?_; (case hd => rfl); (case hg => rfl); (case hr => first | (go_simp; done) | (go_simp; rfl)); intro gb134 hg w29 hbox hb; have n0_ := Aside0.mk (blk_below (g := gb129) (o := .cells #[.int .i64 a0_0, .string a0_1, .string a0_2, .slice (some ad133) l0_3.length c0_3, .slice A0_4 l0_4.length c0_4] 25 (0, 0)) (by (with_reducible repeat (first | refine blk_drewN ?_ _ | refine blk_drew ?_ | refine blk_alloc ?_ _)); exact BK129.out) hb); have n1_ := Aside0.mk (below_step (by repeat (first | (with_reducible first | exact HB.out | apply below_alloc | apply pw_below_drewN | apply below_drew1 | refine below_set ?_ GE129.out) | exact HB.out)) hb); have n2_ := Aside0.mk (hbox); have n3_ := Aside0.mk ((by rw [hg]; exact (below_size (by repeat (first | (with_reducible first | exact HB.out | apply below_alloc | apply pw_below_drewN | apply below_drew1 | refine below_set ?_ GE129.out) | exact HB.out))) : w.heap.size ≤ gb134)); have n4_ := Aside0.mk ((by rw [hg]; exact (below_size (by repeat (first | (with_reducible first | exact HB.out | apply below_alloc | apply pw_below_drewN | apply below_drew1 | refine below_set ?_ GE129.out) | exact HB.out))) : w.heap.size ≤ gb134)); have n5_ := Aside0.mk ((by rw [hg]; exact Nat.ne_of_lt (blk_lt (g := gb129) (o := .cells #[.int .i64 a0_0, .string a0_1, .string a0_2, .slice (some ad133) l0_3.length c0_3, .slice A0_4 l0_4.length c0_4] 25 (0, 0)) (by (with_reducible repeat (first | refine blk_drewN ?_ _ | refine blk_drew ?_ | refine blk_alloc ?_ _)); exact BK129.out)) : gb129 ≠ gb134)); have n6_ := Aside0.mk ((by rw [hg]; exact Nat.ne_of_gt (blk_lt (g := gb129) (o := .cells #[.int .i64 a0_0, .string a0_1, .string a0_2, .slice (some ad133) l0_3.length c0_3, .slice A0_4 l0_4.length c0_4] 25 (0, 0)) (by (with_reducible repeat (first | refine blk_drewN ?_ _ | refine blk_drew ?_ | refine blk_alloc ?_ _)); exact BK129.out)) : gb134 ≠ gb129)); clear BK129; clear HB; have BK129 := n0_; have HB := n1_; have BK134 := n2_; have GW134 := n3_; have GE134 := n4_; have NB129_134 := n5_; have NB134_129 := n6_; clear n0_ n1_ n2_ n3_ n4_ n5_ n6_; clear hb hbox hg; have hnb30 := NB134_129.out; have hnc30 := NB129_134.out; have hcz31_0 : w29.cell? ⟨gb134, 0, none⟩ = some (.string (⟨#[]⟩ : ByteArray)) := (blk_cell BK134.out 0).trans rfl; have hcz31_1 : w29.cell? ⟨gb134, 1, none⟩ = some (.string (⟨#[]⟩ : ByteArray)) := (blk_cell BK134.out 1).trans rfl; have hfz31_0 := blk_frozen BK134.out 0; have hfz31_1 := blk_frozen BK134.out 1) | (go_at_call 9; (with_reducible refine (laws_one29.calls k3 ((rd_T29 l0_3 x27_3).f1) true _ A26.out).mono ?_); rintro e w' ⟨rfl, ⟨nd, rfl⟩⟩))
                              go_roundg k3
                              case measure => have := HJ2.out; have := HJ11.out; have := HK3.out; omega
                              case rel => exact ⟨(true), (wrap64 (x27_3 + 1)), (by first | rfl | (simp; done) | (simp [*]; done)), (by first | rfl | (simp; done) | (simp [*]; done)), H', ⟨by have := HJ2.out; have := HJ11.out; have := HK3.out; omega⟩, ⟨by (with_reducible repeat (first | refine blk_drewN ?_ _ | refine blk_drew ?_ | refine blk_alloc ?_ _)); refine blk_far ?_ NB129_134.out _; (with_reducible repeat (first | refine blk_drewN ?_ _ | refine blk_drew ?_ | refine blk_alloc ?_ _)); refine blk_far ?_ NB129_134.out _; (with_reducible repeat (first | refine blk_drewN ?_ _ | refine blk_drew ?_ | refine blk_alloc ?_ _)); exact BK129.out⟩, ⟨by repeat (first | (with_reducible first | exact HB.out | apply below_alloc | apply pw_below_drewN | apply below_drew1 | refine below_set ?_ GE129.out | refine below_set ?_ GE134.out) | exact HB.out)⟩⟩
                            · replace c28 := Bool.eq_false_iff.mpr c28
                              subst c28
                              have H1 : (laws_FnDomID.l0 k3 a1 (((rd_T29 l0_3 x27_3).f1).toList == a1.toList) l0_3 (l0_3.length : Int) (wrap64 (x27_3 + 1)) a0_0 a0_1 a0_2 l0_3 l0_4) = some r := by rw [if_neg (show ¬ (false = true) by decide)] at H; exact H
                              clear H
                              have H := H1
                              clear H1
                              have H' := Aside0.mk H
                              clear H
                              have p133 : 0 ≤ (x27_3 : Int) := of_decide_eq_true (by first | (with_reducible assumption) | assumption)
                              have q133 : x27_3 < (l0_3.length : Int) := of_decide_eq_true (by first | (with_reducible assumption) | assumption)
                              obtain ⟨ad133, e133, hx133_0, hx133_1⟩ := at_T29 HR0_3.out x27_3 p133 q133
                              cases e133
                              replace hx133_0 := (HB.out.cell (World.block_lt_of_cell? w _ hx133_0)).trans hx133_0
                              replace hx133_1 := (HB.out.cell (World.block_lt_of_cell? w _ hx133_1)).trans hx133_1
                              replace p133 := eq_true p133
                              replace q133 := eq_true q133
                              go_wp2_with (first | ((with_reducible refine gate_dst (N := 7) rfl ?_); (try (refine gate_guard (by rfl) ?_; dsimp only)); refine box_event ?hg (N := 7) ?hd (cs := #[.string (⟨#[]⟩ : ByteArray), .string (⟨#[]⟩ : ByteArray)]) (t := 29) ?hr ?_; (case hd => rfl); (case hg => rfl); (case hr => first | (go_simp; done) | (go_simp; rfl)); intro gb134 hg w32 hbox hb; have n0_ := Aside0.mk (blk_below (g := gb129) (o := .cells #[.int .i64 a0_0, .string a0_1, .string a0_2, .slice (some ad133) l0_3.length c0_3, .slice A0_4 l0_4.length c0_4] 25 (0, 0)) (by (with_reducible repeat (first | refine blk_drewN ?_ _ | refine blk_drew ?_ | refine blk_alloc ?_ _)); exact BK129.out) hb); have n1_ := Aside0.mk (below_step (by repeat (first | (with_reducible first | exact HB.out | apply below_alloc | apply pw_below_drewN | apply below_drew1 | refine below_set ?_ GE129.out) | exact HB.out)) hb); have n2_ := Aside0.mk (hbox); have n3_ := Aside0.mk ((by rw [hg]; exact (below_size (by repeat (first | (with_reducible first | exact HB.out | apply below_alloc | apply pw_below_drewN | apply below_drew1 | refine below_set ?_ GE129.out) | exact HB.out))) : w.heap.size ≤ gb134)); have n4_ := Aside0.mk ((by rw [hg]; exact (below_size (by repeat (first | (with_reducible first | exact HB.out | apply below_alloc | apply pw_below_drewN | apply below_drew1 | refine below_set ?_ GE129.out) | exact HB.out))) : w.heap.size ≤ gb134)); have n5_ := Aside0.mk ((by rw [hg]; exact Nat.ne_of_lt (blk_lt (g := gb129) (o := .cells #[.int .i64 a0_0, .string a0_1, .string a0_2, .slice (some ad133) l0_3.length c0_3, .slice A0_4 l0_4.length c0_4] 25 (0, 0)) (by (with_reducible repeat (first | refine blk_drewN ?_ _ | refine blk_drew ?_ | refine blk_alloc ?_ _)); exact BK129.out)) : gb129 ≠ gb134)); have n6_ := Aside0.mk ((by rw [hg]; exact Nat.ne_of_gt (blk_lt (g := gb129) (o := .cells #[.int .i64 a0_0, .string a0_1, .string a0_2, .slice (some ad133) l0_3.length c0_3, .slice A0_4 l0_4.length c0_4] 25 (0, 0)) (by (with_reducible repeat (first | refine blk_drewN ?_ _ | refine blk_drew ?_ | refine blk_alloc ?_ _)); exact BK129.out)) : gb134 ≠ gb129)); clear BK129; clear HB; have BK129 := n0_; have HB := n1_; have BK134 := n2_; have GW134 := n3_; have GE134 := n4_; have NB129_134 := n5_; have NB134_129 := n6_; clear n0_ n1_ n2_ n3_ n4_ n5_ n6_; clear hb hbox hg; have hnb33 := NB134_129.out; have hnc33 := NB129_134.out; have hcz34_0 : w32.cell? ⟨gb134, 0, none⟩ = some (.string (⟨#[]⟩ : ByteArray)) := (blk_cell BK134.out 0).trans rfl; have hcz34_1 : w32.cell? ⟨gb134, 1, none⟩ = some (.string (⟨#[]⟩ : ByteArray)) := (blk_cell BK134.out 1).trans rfl; have hfz34_0 := blk_frozen BK134.out 0; have hfz34_1 := blk_frozen BK134.out 1) | (go_at_call 9; (with_reducible refine (laws_one29.calls k3 ((rd_T29 l0_3 x27_3).f1) true _ A26.out).mono ?_); rintro e w' ⟨rfl, ⟨nd, rfl⟩⟩))
                              go_roundg k3
                              case measure => have := HJ2.out; have := HJ11.out; have := HK3.out; omega
                              case rel => exact ⟨((((rd_T29 l0_3 x27_3).f1).toList == a1.toList)), (wrap64 (x27_3 + 1)), (by first | rfl | (simp; done) | (simp [*]; done)), (by first | rfl | (simp; done) | (simp [*]; done)), H', ⟨by have := HJ2.out; have := HJ11.out; have := HK3.out; omega⟩, ⟨by (with_reducible repeat (first | refine blk_drewN ?_ _ | refine blk_drew ?_ | refine blk_alloc ?_ _)); refine blk_far ?_ NB129_134.out _; (with_reducible repeat (first | refine blk_drewN ?_ _ | refine blk_drew ?_ | refine blk_alloc ?_ _)); refine blk_far ?_ NB129_134.out _; (with_reducible repeat (first | refine blk_drewN ?_ _ | refine blk_drew ?_ | refine blk_alloc ?_ _)); exact BK129.out⟩, ⟨by repeat (first | (with_reducible first | exact HB.out | apply below_alloc | apply pw_below_drewN | apply below_drew1 | refine below_set ?_ GE129.out | refine below_set ?_ GE134.out) | exact HB.out)⟩⟩
                          · replace c27 := Bool.eq_false_iff.mpr c27
                            subst c27
                            have H1 : (some true) = some r := by rw [if_neg (show ¬ (false = true) by decide)] at H; exact H
                            clear H
                            have H := H1
                            clear H1
                            obtain rfl := Option.some.inj H
                            have p133 : 0 ≤ (x27_3 : Int) := of_decide_eq_true (by first | (with_reducible assumption) | assumption)
                            have q133 : x27_3 < (l0_3.length : Int) := of_decide_eq_true (by first | (with_reducible assumption) | assumption)
                            obtain ⟨ad133, e133, hx133_0, hx133_1⟩ := at_T29 HR0_3.out x27_3 p133 q133
                            cases e133
                            replace hx133_0 := (HB.out.cell (World.block_lt_of_cell? w _ hx133_0)).trans hx133_0
                            replace hx133_1 := (HB.out.cell (World.block_lt_of_cell? w _ hx133_1)).trans hx133_1
                            replace p133 := eq_true p133
                            replace q133 := eq_true q133
                            go_wp2_with (first | ((with_reducible refine gate_dst (N := 7) rfl ?_); (try (refine gate_guard (by rfl) ?_; dsimp only)); refine box_event ?hg (N := 7) ?hd (cs := #[.string (⟨#[]⟩ : ByteArray), .string (⟨#[]⟩ : ByteArray)]) (t := 29) ?hr ?_; (case hd => rfl); (case hg => rfl); (case hr => first | (go_simp; done) | (go_simp; rfl)); intro gb134 hg w35 hbox hb; have n0_ := Aside0.mk (blk_below (g := gb129) (o := .cells #[.int .i64 a0_0, .string a0_1, .string a0_2, .slice (some ad133) l0_3.length c0_3, .slice A0_4 l0_4.length c0_4] 25 (0, 0)) (by (with_reducible repeat (first | refine blk_drewN ?_ _ | refine blk_drew ?_ | refine blk_alloc ?_ _)); exact BK129.out) hb); have n1_ := Aside0.mk (below_step (by repeat (first | (with_reducible first | exact HB.out | apply below_alloc | apply pw_below_drewN | apply below_drew1 | refine below_set ?_ GE129.out) | exact HB.out)) hb); have n2_ := Aside0.mk (hbox); have n3_ := Aside0.mk ((by rw [hg]; exact (below_size (by repeat (first | (with_reducible first | exact HB.out | apply below_alloc | apply pw_below_drewN | apply below_drew1 | refine below_set ?_ GE129.out) | exact HB.out))) : w.heap.size ≤ gb134)); have n4_ := Aside0.mk ((by rw [hg]; exact (below_size (by repeat (first | (with_reducible first | exact HB.out | apply below_alloc | apply pw_below_drewN | apply below_drew1 | refine below_set ?_ GE129.out) | exact HB.out))) : w.heap.size ≤ gb134)); have n5_ := Aside0.mk ((by rw [hg]; exact Nat.ne_of_lt (blk_lt (g := gb129) (o := .cells #[.int .i64 a0_0, .string a0_1, .string a0_2, .slice (some ad133) l0_3.length c0_3, .slice A0_4 l0_4.length c0_4] 25 (0, 0)) (by (with_reducible repeat (first | refine blk_drewN ?_ _ | refine blk_drew ?_ | refine blk_alloc ?_ _)); exact BK129.out)) : gb129 ≠ gb134)); have n6_ := Aside0.mk ((by rw [hg]; exact Nat.ne_of_gt (blk_lt (g := gb129) (o := .cells #[.int .i64 a0_0, .string a0_1, .string a0_2, .slice (some ad133) l0_3.length c0_3, .slice A0_4 l0_4.length c0_4] 25 (0, 0)) (by (with_reducible repeat (first | refine blk_drewN ?_ _ | refine blk_drew ?_ | refine blk_alloc ?_ _)); exact BK129.out)) : gb134 ≠ gb129)); clear BK129; clear HB; have BK129 := n0_; have HB := n1_; have BK134 := n2_; have GW134 := n3_; have GE134 := n4_; have NB129_134 := n5_; have NB134_129 := n6_; clear n0_ n1_ n2_ n3_ n4_ n5_ n6_; clear hb hbox hg; have hnb36 := NB134_129.out; have hnc36 := NB129_134.out; have hcz37_0 : w35.cell? ⟨gb134, 0, none⟩ = some (.string (⟨#[]⟩ : ByteArray)) := (blk_cell BK134.out 0).trans rfl; have hcz37_1 : w35.cell? ⟨gb134, 1, none⟩ = some (.string (⟨#[]⟩ : ByteArray)) := (blk_cell BK134.out 1).trans rfl; have hfz37_0 := blk_frozen BK134.out 0; have hfz37_1 := blk_frozen BK134.out 1) | (go_at_call 9; (with_reducible refine (laws_one29.calls k3 ((rd_T29 l0_3 x27_3).f1) false _ A26.out).mono ?_); rintro e w' ⟨rfl, ⟨nd, rfl⟩⟩))
                            go_ret
                            exact ⟨by first | rfl | (simp [errW_none, errW_some] <;> rfl) | (simp [*, errW_none, errW_some] <;> rfl), by repeat (first | (with_reducible first | exact HB.out | apply below_alloc | apply pw_below_drewN | apply below_drew1 | refine below_set ?_ GE129.out | refine below_set ?_ GE134.out) | exact HB.out)⟩
                        · rw [if_neg c25] at H
                          have c25b0 : (((rd_T29 l0_3 x27_3).f0).toList == ([105, 100] : List UInt8)) = false := beq_eq_false_iff_ne.mpr c25
                          have c25b1 : (((rd_T29 l0_3 x27_3).f0).toList != ([105, 100] : List UInt8)) = true := bne_iff_ne.mpr c25
                          by_cases c38 : x5_3 = true
                          · subst c38
                            have H1 : (laws_FnDomID.l0 k3 a1 true l0_3 (l0_3.length : Int) (wrap64 (x27_3 + 1)) a0_0 a0_1 a0_2 l0_3 l0_4) = some r := by rw [if_pos rfl] at H; exact H
                            clear H
                            have H := H1
                            clear H1
                            have H' := Aside0.mk H
                            clear H
                            have p133 : 0 ≤ (x27_3 : Int) := of_decide_eq_true (by first | (with_reducible assumption) | assumption)
                            have q133 : x27_3 < (l0_3.length : Int) := of_decide_eq_true (by first | (with_reducible assumption) | assumption)
                            obtain ⟨ad133, e133, hx133_0, hx133_1⟩ := at_T29 HR0_3.out x27_3 p133 q133
                            cases e133
                            replace hx133_0 := (HB.out.cell (World.block_lt_of_cell? w _ hx133_0)).trans hx133_0
                            replace hx133_1 := (HB.out.cell (World.block_lt_of_cell? w _ hx133_1)).trans hx133_1
                            replace p133 := eq_true p133
                            replace q133 := eq_true q133
                            go_wp2_with (first | ((with_reducible refine gate_dst (N := 7) rfl ?_); (try (refine gate_guard (by rfl) ?_; dsimp only)); refine box_event ?hg (N := 7) ?hd (cs := #[.string (⟨#[]⟩ : ByteArray), .string (⟨#[]⟩ : ByteArray)]) (t := 29) ?hr ?_; (case hd => rfl); (case hg => rfl); (case hr => first | (go_simp; done) | (go_simp; rfl)); intro gb134 hg w39 hbox hb; have n0_ := Aside0.mk (blk_below (g := gb129) (o := .cells #[.int .i64 a0_0, .string a0_1, .string a0_2, .slice (some ad133) l0_3.length c0_3, .slice A0_4 l0_4.length c0_4] 25 (0, 0)) (by (with_reducible repeat (first | refine blk_drewN ?_ _ | refine blk_drew ?_ | refine blk_alloc ?_ _)); exact BK129.out) hb); have n1_ := Aside0.mk (below_step (by repeat (first | (with_reducible first | exact HB.out | apply below_alloc | apply pw_below_drewN | apply below_drew1 | refine below_set ?_ GE129.out) | exact HB.out)) hb); have n2_ := Aside0.mk (hbox); have n3_ := Aside0.mk ((by rw [hg]; exact (below_size (by repeat (first | (with_reducible first | exact HB.out | apply below_alloc | apply pw_below_drewN | apply below_drew1 | refine below_set ?_ GE129.out) | exact HB.out))) : w.heap.size ≤ gb134)); have n4_ := Aside0.mk ((by rw [hg]; exact (below_size (by repeat (first | (with_reducible first | exact HB.out | apply below_alloc | apply pw_below_drewN | apply below_drew1 | refine below_set ?_ GE129.out) | exact HB.out))) : w.heap.size ≤ gb134)); have n5_ := Aside0.mk ((by rw [hg]; exact Nat.ne_of_lt (blk_lt (g := gb129) (o := .cells #[.int .i64 a0_0, .string a0_1, .string a0_2, .slice (some ad133) l0_3.length c0_3, .slice A0_4 l0_4.length c0_4] 25 (0, 0)) (by (with_reducible repeat (first | refine blk_drewN ?_ _ | refine blk_drew ?_ | refine blk_alloc ?_ _)); exact BK129.out)) : gb129 ≠ gb134)); have n6_ := Aside0.mk ((by rw [hg]; exact Nat.ne_of_gt (blk_lt (g := gb129) (o := .cells #[.int .i64 a0_0, .string a0_1, .string a0_2, .slice (some ad133) l0_3.length c0_3, .slice A0_4 l0_4.length c0_4] 25 (0, 0)) (by (with_reducible repeat (first | refine blk_drewN ?_ _ | refine blk_drew ?_ | refine blk_alloc ?_ _)); exact BK129.out)) : gb134 ≠ gb129)); clear BK129; clear HB; have BK129 := n0_; have HB := n1_; have BK134 := n2_; have GW134 := n3_; have GE134 := n4_; have NB129_134 := n5_; have NB134_129 := n6_; clear n0_ n1_ n2_ n3_ n4_ n5_ n6_; clear hb hbox hg; have hnb40 := NB134_129.out; have hnc40 := NB129_134.out; have hcz41_0 : w39.cell? ⟨gb134, 0, none⟩ = some (.string (⟨#[]⟩ : ByteArray)) := (blk_cell BK134.out 0).trans rfl; have hcz41_1 : w39.cell? ⟨gb134, 1, none⟩ = some (.string (⟨#[]⟩ : ByteArray)) := (blk_cell BK134.out 1).trans rfl; have hfz41_0 := blk_frozen BK134.out 0; have hfz41_1 := blk_frozen BK134.out 1))
                            go_roundg k3
                            case measure => have := HJ2.out; have := HJ11.out; have := HK3.out; omega
                            case rel => exact ⟨(true), (wrap64 (x27_3 + 1)), (by first | rfl | (simp; done) | (simp [*]; done)), (by first | rfl | (simp; done) | (simp [*]; done)), H', ⟨by have := HJ2.out; have := HJ11.out; have := HK3.out; omega⟩, ⟨by (with_reducible repeat (first | refine blk_drewN ?_ _ | refine blk_drew ?_ | refine blk_alloc ?_ _)); refine blk_far ?_ NB129_134.out _; (with_reducible repeat (first | refine blk_drewN ?_ _ | refine blk_drew ?_ | refine blk_alloc ?_ _)); refine blk_far ?_ NB129_134.out _; (with_reducible repeat (first | refine blk_drewN ?_ _ | refine blk_drew ?_ | refine blk_alloc ?_ _)); exact BK129.out⟩, ⟨by repeat (first | (with_reducible first | exact HB.out | apply below_alloc | apply pw_below_drewN | apply below_drew1 | refine below_set ?_ GE129.out | refine below_set ?_ GE134.out) | exact HB.out)⟩⟩
                          · replace c38 := Bool.eq_false_iff.mpr c38
                            subst c38
                            have H1 : (laws_FnDomID.l0 k3 a1 false l0_3 (l0_3.length : Int) (wrap64 (x27_3 + 1)) a0_0 a0_1 a0_2 l0_3 l0_4) = some r := by rw [if_neg (show ¬ (false = true) by decide)] at H; exact H
                            clear H
                            have H := H1
                            clear H1
                            have H' := Aside0.mk H
                            clear H
                            have p133 : 0 ≤ (x27_3 : Int) := of_decide_eq_true (by first | (with_reducible assumption) | assumption)
                            have q133 : x27_3 < (l0_3.length : Int) := of_decide_eq_true (by first | (with_reducible assumption) | assumption)
                            obtain ⟨ad133, e133, hx133_0, hx133_1⟩ := at_T29 HR0_3.out x27_3 p133 q133
                            cases e133
                            replace hx133_0 := (HB.out.cell (World.block_lt_of_cell? w _ hx133_0)).trans hx133_0
                            replace hx133_1 := (HB.out.cell (World.block_lt_of_cell? w _ hx133_1)).trans hx133_1
                            replace p133 := eq_true p133
                            replace q133 := eq_true q133
                            go_wp2_with (first | ((with_reducible refine gate_dst (N := 7) rfl ?_); (try (refine gate_guard (by rfl) ?_; dsimp only)); refine box_event ?hg (N := 7) ?hd (cs := #[.string (⟨#[]⟩ : ByteArray), .string (⟨#[]⟩ : ByteArray)]) (t := 29) ?hr ?_; (case hd => rfl); (case hg => rfl); (case hr => first | (go_simp; done) | (go_simp; rfl)); intro gb134 hg w42 hbox hb; have n0_ := Aside0.mk (blk_below (g := gb129) (o := .cells #[.int .i64 a0_0, .string a0_1, .string a0_2, .slice (some ad133) l0_3.length c0_3, .slice A0_4 l0_4.length c0_4] 25 (0, 0)) (by (with_reducible repeat (first | refine blk_drewN ?_ _ | refine blk_drew ?_ | refine blk_alloc ?_ _)); exact BK129.out) hb); have n1_ := Aside0.mk (below_step (by repeat (first | (with_reducible first | exact HB.out | apply below_alloc | apply pw_below_drewN | apply below_drew1 | refine below_set ?_ GE129.out) | exact HB.out)) hb); have n2_ := Aside0.mk (hbox); have n3_ := Aside0.mk ((by rw [hg]; exact (below_size (by repeat (first | (with_reducible first | exact HB.out | apply below_alloc | apply pw_below_drewN | apply below_drew1 | refine below_set ?_ GE129.out) | exact HB.out))) : w.heap.size ≤ gb134)); have n4_ := Aside0.mk ((by rw [hg]; exact (below_size (by repeat (first | (with_reducible first | exact HB.out | apply below_alloc | apply pw_below_drewN | apply below_drew1 | refine below_set ?_ GE129.out) | exact HB.out))) : w.heap.size ≤ gb134)); have n5_ := Aside0.mk ((by rw [hg]; exact Nat.ne_of_lt (blk_lt (g := gb129) (o := .cells #[.int .i64 a0_0, .string a0_1, .string a0_2, .slice (some ad133) l0_3.length c0_3, .slice A0_4 l0_4.length c0_4] 25 (0, 0)) (by (with_reducible repeat (first | refine blk_drewN ?_ _ | refine blk_drew ?_ | refine blk_alloc ?_ _)); exact BK129.out)) : gb129 ≠ gb134)); have n6_ := Aside0.mk ((by rw [hg]; exact Nat.ne_of_gt (blk_lt (g := gb129) (o := .cells #[.int .i64 a0_0, .string a0_1, .string a0_2, .slice (some ad133) l0_3.length c0_3, .slice A0_4 l0_4.length c0_4] 25 (0, 0)) (by (with_reducible repeat (first | refine blk_drewN ?_ _ | refine blk_drew ?_ | refine blk_alloc ?_ _)); exact BK129.out)) : gb134 ≠ gb129)); clear BK129; clear HB; have BK129 := n0_; have HB := n1_; have BK134 := n2_; have GW134 := n3_; have GE134 := n4_; have NB129_134 := n5_; have NB134_129 := n6_; clear n0_ n1_ n2_ n3_ n4_ n5_ n6_; clear hb hbox hg; have hnb43 := NB134_129.out; have hnc43 := NB129_134.out; have hcz44_0 : w42.cell? ⟨gb134, 0, none⟩ = some (.string (⟨#[]⟩ : ByteArray)) := (blk_cell BK134.out 0).trans rfl; have hcz44_1 : w42.cell? ⟨gb134, 1, none⟩ = some (.string (⟨#[]⟩ : ByteArray)) := (blk_cell BK134.out 1).trans rfl; have hfz44_0 := blk_frozen BK134.out 0; have hfz44_1 := blk_frozen BK134.out 1))
                            go_roundg k3
                            case measure => have := HJ2.out; have := HJ11.out; have := HK3.out; omega
                            case rel => exact ⟨(false), (wrap64 (x27_3 + 1)), (by first | rfl | (simp; done) | (simp [*]; done)), (by first | rfl | (simp; done) | (simp [*]; done)), H', ⟨by have := HJ2.out; have := HJ11.out; have := HK3.out; omega⟩, ⟨by (with_reducible repeat (first | refine blk_drewN ?_ _ | refine blk_drew ?_ | refine blk_alloc ?_ _)); refine blk_far ?_ NB129_134.out _; (with_reducible repeat (first | refine blk_drewN ?_ _ | refine blk_drew ?_ | refine blk_alloc ?_ _)); refine blk_far ?_ NB129_134.out _; (with_reducible repeat (first | refine blk_drewN ?_ _ | refine blk_drew ?_ | refine blk_alloc ?_ _)); exact BK129.out⟩, ⟨by repeat (first | (with_reducible first | exact HB.out | apply below_alloc | apply pw_below_drewN | apply below_drew1 | refine below_set ?_ GE129.out | refine below_set ?_ GE134.out) | exact HB.out)⟩⟩
                      · rw [if_neg c24] at H
                        exact absurd H (by simp)
                    · rw [if_neg c23] at H
                      exact absurd H (by simp)
                  · rw [if_neg c22] at H
                    have c22b0 : decide (x27_3 < (l0_3.length : Int)) = false := decide_eq_false c22
                    clear c22
                    replace H := Option.bind_eq_some_iff.mp H
                    obtain ⟨t136, A450, H⟩ := H
                    replace H : (if (t136 == x5_3) = true then ((laws_living29.f).bind fun t137 => (some t137)) else (some false)) = some r := H
                    have A45 := Aside0.mk A450
                    clear A450
                    by_cases c46 : (t136 == x5_3) = true
                    · rw [if_pos c46] at H
                      have c46b0 : (t136 == x5_3) = true := c46
                      (try (have c46b1 : decide (t136 = x5_3) = true := by simpa using c46))
                      (try (have c46b2 : (t136 == x5_3) = true := by simpa using c46))
                      clear c46
                      replace H := Option.bind_eq_some_iff.mp H
                      obtain ⟨t137, A470, H⟩ := H
                      replace H : (some t137) = some r := H
                      have A47 := Aside0.mk A470
                      clear A470
                      obtain rfl := Option.some.inj H
                      have hcz48_0 : wr.cell? ⟨gb129, 0, none⟩ = some (.int .i64 a0_0) := (blk_cell BK129.out 0).trans rfl
                      have hcz48_1 : wr.cell? ⟨gb129, 1, none⟩ = some (.string a0_1) := (blk_cell BK129.out 1).trans rfl
                      have hcz48_2 : wr.cell? ⟨gb129, 2, none⟩ = some (.string a0_2) := (blk_cell BK129.out 2).trans rfl
                      have hcz48_3 : wr.cell? ⟨gb129, 3, none⟩ = some (.slice A0_3 l0_3.length c0_3) := (blk_cell BK129.out 3).trans rfl
                      have hcz48_4 : wr.cell? ⟨gb129, 4, none⟩ = some (.slice A0_4 l0_4.length c0_4) := (blk_cell BK129.out 4).trans rfl
                      have hfz48_0 := blk_frozen BK129.out 0
                      have hfz48_1 := blk_frozen BK129.out 1
                      have hfz48_2 := blk_frozen BK129.out 2
                      have hfz48_3 := blk_frozen BK129.out 3
                      have hfz48_4 := blk_frozen BK129.out 4
                      go_wp2_with (first | ((with_reducible refine gate_callee (f := 10) rfl ?_); refine goesL_ (some 55) rfl rfl Tryd.func10 (by kernel_rfl) rfl #[.agg #[.int .i64 a0_0, .string a0_1, .string a0_2, .slice A0_3 l0_3.length c0_3, .slice A0_4 l0_4.length c0_4], .string a1] rfl (by (try simp only [List.map_toArray, List.map_cons, List.map_nil]); first | done | rfl | (simp only [List.length_drop, List.length_take]; rfl)) ?_; (with_reducible refine (impl_HasID.calls a0_0 a0_1 a0_2 _ _ l0_3 _ _ l0_4 a1 t136 _ ?side1 ?side2 ?side3 ?side4 A45.out ?sideT).mono ?_); (case sideT => exact Hand.tabB_below HT0.out (by repeat (first | (with_reducible first | exact HB.out | apply below_alloc | apply pw_below_drewN | apply below_drew1) | exact HB.out))); (case side1 => repeat (first | exact (Kd.C_below HR0_3.out HB.out) | (with_reducible refine Kd.C_alloc ?_ _) | (with_reducible refine Kd.C_drewN ?_ _) | (with_reducible refine Kd.C_drew ?_))); (case side2 => exact HC0_3.out); (case side3 => repeat (first | exact (Kd.C_below HR0_4.out HB.out) | (with_reducible refine Kd.C_alloc ?_ _) | (with_reducible refine Kd.C_drewN ?_ _) | (with_reducible refine Kd.C_drew ?_))); (case side4 => exact HC0_4.out); rintro e w49 ⟨rfl, hb⟩; refine ⟨_, rfl, ?_⟩; have n0_ := Aside0.mk (blk_below (g := gb129) (o := .cells #[.int .i64 a0_0, .string a0_1, .string a0_2, .slice A0_3 l0_3.length c0_3, .slice A0_4 l0_4.length c0_4] 25 (0, 0)) (by (with_reducible repeat (first | refine blk_drewN ?_ _ | refine blk_drew ?_ | refine blk_alloc ?_ _)); exact BK129.out) hb); have n1_ := Aside0.mk (below_step (by repeat (first | (with_reducible first | exact HB.out | apply below_alloc | apply pw_below_drewN | apply below_drew1 | refine below_set ?_ GE129.out) | exact HB.out)) hb); clear BK129; clear HB; have BK129 := n0_; have HB := n1_; clear n0_ n1_; (try clear hb); (try clear hb2); (try clear hk); (try clear hi)) | (go_at_call 11; (with_reducible refine (laws_living29.calls  t137 _ A47.out).mono ?_); rintro e w50 ⟨rfl, hb⟩; have n0_ := Aside0.mk (blk_below (g := gb129) (o := .cells #[.int .i64 a0_0, .string a0_1, .string a0_2, .slice A0_3 l0_3.length c0_3, .slice A0_4 l0_4.length c0_4] 25 (0, 0)) (by (with_reducible repeat (first | refine blk_drewN ?_ _ | refine blk_drew ?_ | refine blk_alloc ?_ _)); exact BK129.out) hb); have n1_ := Aside0.mk (below_step (by repeat (first | (with_reducible first | exact HB.out | apply below_alloc | apply pw_below_drewN | apply below_drew1 | refine below_set ?_ GE129.out) | exact HB.out)) hb); clear BK129; clear HB; have BK129 := n0_; have HB := n1_; clear n0_ n1_; (try clear hb); (try clear hb2); (try clear hk); (try clear hi)))
                      go_ret
                      exact ⟨by first | rfl | (simp [errW_none, errW_some] <;> rfl) | (simp [*, errW_none, errW_some] <;> rfl), by repeat (first | (with_reducible first | exact HB.out | apply below_alloc | apply pw_below_drewN | apply below_drew1 | refine below_set ?_ GE129.out) | exact HB.out)⟩
                    · rw [if_neg c46] at H
                      have c46b0 : (t136 == x5_3) = false := by simpa using c46
                      (try (have c46b1 : decide (t136 = x5_3) = false := by simpa using c46))
                      (try (have c46b2 : (t136 == x5_3) = false := by simpa using c46))
                      (try (have c46b3 : ¬ (t136 = x5_3) := by simpa using c46))
                      clear c46
                      obtain rfl := Option.some.inj H
                      have hcz51_0 : wr.cell? ⟨gb129, 0, none⟩ = some (.int .i64 a0_0) := (blk_cell BK129.out 0).trans rfl
                      have hcz51_1 : wr.cell? ⟨gb129, 1, none⟩ = some (.string a0_1) := (blk_cell BK129.out 1).trans rfl
                      have hcz51_2 : wr.cell? ⟨gb129, 2, none⟩ = some (.string a0_2) := (blk_cell BK129.out 2).trans rfl
                      have hcz51_3 : wr.cell? ⟨gb129, 3, none⟩ = some (.slice A0_3 l0_3.length c0_3) := (blk_cell BK129.out 3).trans rfl
                      have hcz51_4 : wr.cell? ⟨gb129, 4, none⟩ = some (.slice A0_4 l0_4.length c0_4) := (blk_cell BK129.out 4).trans rfl
                      have hfz51_0 := blk_frozen BK129.out 0
                      have hfz51_1 := blk_frozen BK129.out 1
                      have hfz51_2 := blk_frozen BK129.out 2
                      have hfz51_3 := blk_frozen BK129.out 3
                      have hfz51_4 := blk_frozen BK129.out 4
                      go_wp2_with (first | ((with_reducible refine gate_callee (f := 10) rfl ?_); refine goesL_ (some 55) rfl rfl Tryd.func10 (by kernel_rfl) rfl #[.agg #[.int .i64 a0_0, .string a0_1, .string a0_2, .slice A0_3 l0_3.length c0_3, .slice A0_4 l0_4.length c0_4], .string a1] rfl (by (try simp only [List.map_toArray, List.map_cons, List.map_nil]); first | done | rfl | (simp only [List.length_drop, List.length_take]; rfl)) ?_; (with_reducible refine (impl_HasID.calls a0_0 a0_1 a0_2 _ _ l0_3 _ _ l0_4 a1 t136 _ ?side1 ?side2 ?side3 ?side4 A45.out ?sideT).mono ?_); (case sideT => exact Hand.tabB_below HT0.out (by repeat (first | (with_reducible first | exact HB.out | apply below_alloc | apply pw_below_drewN | apply below_drew1) | exact HB.out))); (case side1 => repeat (first | exact (Kd.C_below HR0_3.out HB.out) | (with_reducible refine Kd.C_alloc ?_ _) | (with_reducible refine Kd.C_drewN ?_ _) | (with_reducible refine Kd.C_drew ?_))); (case side2 => exact HC0_3.out); (case side3 => repeat (first | exact (Kd.C_below HR0_4.out HB.out) | (with_reducible refine Kd.C_alloc ?_ _) | (with_reducible refine Kd.C_drewN ?_ _) | (with_reducible refine Kd.C_drew ?_))); (case side4 => exact HC0_4.out); rintro e w52 ⟨rfl, hb⟩; refine ⟨_, rfl, ?_⟩; have n0_ := Aside0.mk (blk_below (g := gb129) (o := .cells #[.int .i64 a0_0, .string a0_1, .string a0_2, .slice A0_3 l0_3.length c0_3, .slice A0_4 l0_4.length c0_4] 25 (0, 0)) (by (with_reducible repeat (first | refine blk_drewN ?_ _ | refine blk_drew ?_ | refine blk_alloc ?_ _)); exact BK129.out) hb); have n1_ := Aside0.mk (below_step (by repeat (first | (with_reducible first | exact HB.out | apply below_alloc | apply pw_below_drewN | apply below_drew1 | refine below_set ?_ GE129.out) | exact HB.out)) hb); clear BK129; clear HB; have BK129 := n0_; have HB := n1_; clear n0_ n1_; (try clear hb); (try clear hb2); (try clear hk); (try clear hi)))
                      go_ret
                      exact ⟨by first | rfl | (simp [errW_none, errW_some] <;> rfl) | (simp [*, errW_none, errW_some] <;> rfl), by repeat (first | (with_reducible first | exact HB.out | apply below_alloc | apply pw_below_drewN | apply below_drew1 | refine below_set ?_ GE129.out) | exact HB.out)⟩

end Go.Proofs.YtlallihdiffheaaDoor.GT
