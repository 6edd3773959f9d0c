-- made by a program of this session, after the kit's print
import Derived.Test.YtlallihdiffheaaGTx0
import Derived.Test.YtlallihdiffheaaGTx2
import Derived.Test.YtlallihdiffheaaGTx8
import Derived.Test.YtlallihdiffheaaGTx10
import Derived.Test.YtlallihdiffheaaGTx12
import Derived.Test.YtlallihdiffheaaGivDomNeighbor
namespace Go.Proofs.Ytlallihdiffheaa.GT
open Go.RowKit Go.Proofs.YtlallihdiffheaaW.PrintWords Go.Proofs.YtlallihdiffheaaW.PrintLast Go.Proofs.YtlallihdiffheaaW.PrintMore
attribute [local go_sem] max2_int min2_int max_two min_two max_three min_three max_four min_four   -- for this text's walks alone
set_option linter.unusedVariables false
set_option linter.unusedSimpArgs false

/-! ### laws_FnDomNeighbor: function 7 -/
mutual
def laws_FnDomNeighbor.j0 : Nat → List Int → Int → Bool → Int → ByteArray → ByteArray → List (S34) → List (S25) → Option (Bool)
  | 0, _, _, _, _, _, _, _, _ => none
  | k + 1, x1, x2, x23, x282000, x282001, x282002, x282003, x282004 => if x23 = true then (some true) else (if x2 = 0 then (laws_FnDomNeighbor.j1 k x1 x2 1 true false x282000 x282001 x282002 x282003 x282004) else (if x2 = 1 then (laws_FnDomNeighbor.j1 k x1 x2 1 true true x282000 x282001 x282002 x282003 x282004) else (if x2 = 2 then (laws_FnDomNeighbor.j1 k x1 x2 1 false false x282000 x282001 x282002 x282003 x282004) else (if x2 = 3 then (laws_FnDomNeighbor.j1 k x1 x2 1 false true x282000 x282001 x282002 x282003 x282004) else (if x2 = 4 then (laws_FnDomNeighbor.j1 k x1 x2 (-1) true false x282000 x282001 x282002 x282003 x282004) else (if x2 = 5 then (laws_FnDomNeighbor.j1 k x1 x2 (-1) true true x282000 x282001 x282002 x282003 x282004) else (if x2 = 6 then (laws_FnDomNeighbor.j1 k x1 x2 (-1) false false x282000 x282001 x282002 x282003 x282004) else (if x2 = 7 then (laws_FnDomNeighbor.j1 k x1 x2 (-1) false true x282000 x282001 x282002 x282003 x282004) else (some true)))))))))
def laws_FnDomNeighbor.j1 : Nat → List Int → Int → Int → Bool → Bool → Int → ByteArray → ByteArray → List (S34) → List (S25) → Option (Bool)
  | 0, _, _, _, _, _, _, _, _, _, _ => none
  | k + 1, x1, x2, x7, x8, x9, x282000, x282001, x282002, x282003, x282004 => (spec_At29.f k x282000 x282001 x282002 x282003 x282004 x1).bind fun bt283 => (if bt283.2.2.2.2.2 = true then ((laws_tree29.f k x282000 x282001 x282002 x282003 x282004).bind fun t294 => (laws_FnDomNeighbor.j2 k x1 x2 x7 x8 x9 (!t294) x282000 x282001 x282002 x282003 x282004)) else (laws_FnDomNeighbor.j2 k x1 x2 x7 x8 x9 true x282000 x282001 x282002 x282003 x282004))
def laws_FnDomNeighbor.j2 : Nat → List Int → Int → Int → Bool → Bool → Bool → Int → ByteArray → ByteArray → List (S34) → List (S25) → Option (Bool)
  | 0, _, _, _, _, _, _, _, _, _, _, _ => none
  | k + 1, x1, x2, x7, x8, x9, x53, x282000, x282001, x282002, x282003, x282004 => if x53 = true then (some true) else ((spec_Near29.f k x282000 x282001 x282002 x282003 x282004 x1 x7 x8 x9).bind fun bt295 => ((impl_Neighbor.f x282000 x282001 x282002 x282003 x282004 x1 x2).bind fun bt299 => (if (bt299.2 == bt295.2) = true then (if bt299.2 = true then ((laws_path29.f k bt299.1 bt295.1).bind fun t303 => (if t303 = true then ((laws_living29.f).bind fun t304 => (some t304)) else (some false))) else ((laws_living29.f).bind fun t305 => (some t305))) else (some false))))
end
def laws_FnDomNeighbor.f (k : Nat) (a0_0 : Int) (a0_1 : ByteArray) (a0_2 : ByteArray) (l0_3 : List (S34)) (l0_4 : List (S25)) (l1 : List Int) (a2 : Int) : Option (Bool) := (laws_zzFits2.f k a0_0 a0_1 a0_2 l0_3 l0_4).bind fun t282 => (if t282 = true then (laws_FnDomNeighbor.j0 k l1 a2 (decide ((l1.length : Int) > 2147483647)) a0_0 a0_1 a0_2 l0_3 l0_4) else (laws_FnDomNeighbor.j0 k l1 a2 true a0_0 a0_1 a0_2 l0_3 l0_4))
theorem laws_FnDomNeighbor.mono_l : ∀ k, (∀ y0 y1 y2 y3 y4 y5 y6 y7, LeO (laws_FnDomNeighbor.j0 k y0 y1 y2 y3 y4 y5 y6 y7) (laws_FnDomNeighbor.j0 (k + 1) y0 y1 y2 y3 y4 y5 y6 y7)) ∧ (∀ y0 y1 y2 y3 y4 y5 y6 y7 y8 y9, LeO (laws_FnDomNeighbor.j1 k y0 y1 y2 y3 y4 y5 y6 y7 y8 y9) (laws_FnDomNeighbor.j1 (k + 1) y0 y1 y2 y3 y4 y5 y6 y7 y8 y9)) ∧ (∀ y0 y1 y2 y3 y4 y5 y6 y7 y8 y9 y10, LeO (laws_FnDomNeighbor.j2 k y0 y1 y2 y3 y4 y5 y6 y7 y8 y9 y10) (laws_FnDomNeighbor.j2 (k + 1) y0 y1 y2 y3 y4 y5 y6 y7 y8 y9 y10))
  | 0 => ⟨fun _ _ _ _ _ _ _ _ r h => by simp [laws_FnDomNeighbor.j0] at h, fun _ _ _ _ _ _ _ _ _ _ r h => by simp [laws_FnDomNeighbor.j1] at h, fun _ _ _ _ _ _ _ _ _ _ _ r h => by simp [laws_FnDomNeighbor.j2] at h⟩
  | k + 1 => by
    obtain ⟨ih0, ih1, ih2⟩ := laws_FnDomNeighbor.mono_l k
    refine ⟨?_, ?_, ?_⟩
    · intro y0 y1 y2 y3 y4 y5 y6 y7
      unfold laws_FnDomNeighbor.j0
      repeat' first
      | (with_reducible exact ih0 _ _ _ _ _ _ _ _)
      | (with_reducible exact ih1 _ _ _ _ _ _ _ _ _ _)
      | (with_reducible exact ih2 _ _ _ _ _ _ _ _ _ _ _)
      | (with_reducible exact laws_path29.mono _ _ _)
      | (with_reducible exact laws_tree29.mono _ _ _ _ _ _)
      | (with_reducible exact laws_zzFits2.mono _ _ _ _ _ _)
      | (with_reducible exact spec_At29.mono _ _ _ _ _ _ _)
      | (with_reducible exact spec_Near29.mono _ _ _ _ _ _ _ _ _ _)
      | (with_reducible exact LeO.refl _)
      | (with_reducible exact LeO.none _)
      | (with_reducible refine LeO.ite ?_ ?_)
      | (with_reducible refine LeO.bind ?_ (fun _ => ?_))
      | exact ih0 _ _ _ _ _ _ _ _
      | exact ih1 _ _ _ _ _ _ _ _ _ _
      | exact ih2 _ _ _ _ _ _ _ _ _ _ _
      | exact laws_path29.mono _ _ _
      | exact laws_tree29.mono _ _ _ _ _ _
      | exact laws_zzFits2.mono _ _ _ _ _ _
      | exact spec_At29.mono _ _ _ _ _ _ _
      | exact spec_Near29.mono _ _ _ _ _ _ _ _ _ _
      | exact LeO.none _
      | refine LeO.ite ?_ ?_
      | refine LeO.bind ?_ (fun _ => ?_)
    · intro y0 y1 y2 y3 y4 y5 y6 y7 y8 y9
      unfold laws_FnDomNeighbor.j1
      repeat' first
      | (with_reducible exact ih0 _ _ _ _ _ _ _ _)
      | (with_reducible exact ih1 _ _ _ _ _ _ _ _ _ _)
      | (with_reducible exact ih2 _ _ _ _ _ _ _ _ _ _ _)
      | (with_reducible exact laws_path29.mono _ _ _)
      | (with_reducible exact laws_tree29.mono _ _ _ _ _ _)
      | (with_reducible exact laws_zzFits2.mono _ _ _ _ _ _)
      | (with_reducible exact spec_At29.mono _ _ _ _ _ _ _)
      | (with_reducible exact spec_Near29.mono _ _ _ _ _ _ _ _ _ _)
      | (with_reducible exact LeO.refl _)
      | (with_reducible exact LeO.none _)
      | (with_reducible refine LeO.ite ?_ ?_)
      | (with_reducible refine LeO.bind ?_ (fun _ => ?_))
      | exact ih0 _ _ _ _ _ _ _ _
      | exact ih1 _ _ _ _ _ _ _ _ _ _
      | exact ih2 _ _ _ _ _ _ _ _ _ _ _
      | exact laws_path29.mono _ _ _
      | exact laws_tree29.mono _ _ _ _ _ _
      | exact laws_zzFits2.mono _ _ _ _ _ _
      | exact spec_At29.mono _ _ _ _ _ _ _
      | exact spec_Near29.mono _ _ _ _ _ _ _ _ _ _
      | exact LeO.none _
      | refine LeO.ite ?_ ?_
      | refine LeO.bind ?_ (fun _ => ?_)
    · intro y0 y1 y2 y3 y4 y5 y6 y7 y8 y9 y10
      unfold laws_FnDomNeighbor.j2
      repeat' first
      | (with_reducible exact ih0 _ _ _ _ _ _ _ _)
      | (with_reducible exact ih1 _ _ _ _ _ _ _ _ _ _)
      | (with_reducible exact ih2 _ _ _ _ _ _ _ _ _ _ _)
      | (with_reducible exact laws_path29.mono _ _ _)
      | (with_reducible exact laws_tree29.mono _ _ _ _ _ _)
      | (with_reducible exact laws_zzFits2.mono _ _ _ _ _ _)
      | (with_reducible exact spec_At29.mono _ _ _ _ _ _ _)
      | (with_reducible exact spec_Near29.mono _ _ _ _ _ _ _ _ _ _)
      | (with_reducible exact LeO.refl _)
      | (with_reducible exact LeO.none _)
      | (with_reducible refine LeO.ite ?_ ?_)
      | (with_reducible refine LeO.bind ?_ (fun _ => ?_))
      | exact ih0 _ _ _ _ _ _ _ _
      | exact ih1 _ _ _ _ _ _ _ _ _ _
      | exact ih2 _ _ _ _ _ _ _ _ _ _ _
      | exact laws_path29.mono _ _ _
      | exact laws_tree29.mono _ _ _ _ _ _
      | exact laws_zzFits2.mono _ _ _ _ _ _
      | exact spec_At29.mono _ _ _ _ _ _ _
      | exact spec_Near29.mono _ _ _ _ _ _ _ _ _ _
      | exact LeO.none _
      | refine LeO.ite ?_ ?_
      | refine LeO.bind ?_ (fun _ => ?_)
theorem laws_FnDomNeighbor.mono : ∀ a0 a1 a2 a3 a4 a5 a6 k, LeO (laws_FnDomNeighbor.f k a0 a1 a2 a3 a4 a5 a6) (laws_FnDomNeighbor.f (k + 1) a0 a1 a2 a3 a4 a5 a6) := by
  intro a0 a1 a2 a3 a4 a5 a6 k
  obtain ⟨ih0, ih1, ih2⟩ := laws_FnDomNeighbor.mono_l k
  unfold laws_FnDomNeighbor.f
  repeat' first
      | (with_reducible exact ih0 _ _ _ _ _ _ _ _)
      | (with_reducible exact ih1 _ _ _ _ _ _ _ _ _ _)
      | (with_reducible exact ih2 _ _ _ _ _ _ _ _ _ _ _)
      | (with_reducible exact laws_path29.mono _ _ _)
      | (with_reducible exact laws_tree29.mono _ _ _ _ _ _)
      | (with_reducible exact laws_zzFits2.mono _ _ _ _ _ _)
      | (with_reducible exact spec_At29.mono _ _ _ _ _ _ _)
      | (with_reducible exact spec_Near29.mono _ _ _ _ _ _ _ _ _ _)
      | (with_reducible exact LeO.refl _)
      | (with_reducible exact LeO.none _)
      | (with_reducible refine LeO.ite ?_ ?_)
      | (with_reducible refine LeO.bind ?_ (fun _ => ?_))
      | exact ih0 _ _ _ _ _ _ _ _
      | exact ih1 _ _ _ _ _ _ _ _ _ _
      | exact ih2 _ _ _ _ _ _ _ _ _ _ _
      | exact laws_path29.mono _ _ _
      | exact laws_tree29.mono _ _ _ _ _ _
      | exact laws_zzFits2.mono _ _ _ _ _ _
      | exact spec_At29.mono _ _ _ _ _ _ _
      | exact spec_Near29.mono _ _ _ _ _ _ _ _ _ _
      | exact LeO.none _
      | refine LeO.ite ?_ ?_
      | refine LeO.bind ?_ (fun _ => ?_)
set_option maxHeartbeats 8000000 in
set_option maxRecDepth 100000 in
theorem laws_FnDomNeighbor.calls (k : Nat) (a0_0 : Int) (a0_1 : ByteArray) (a0_2 : ByteArray) (A0_3 : Option Addr) (c0_3 : Nat) (l0_3 : List (S34)) (A0_4 : Option Addr) (c0_4 : Nat) (l0_4 : List (S25)) (A1 : Option Addr) (c1 : Nat) (l1 : List Int) (a2 : Int) (r : Bool) (w : World) (hr0_3 : Kd.C k34 w A0_3 l0_3.length l0_3) (hc0_3 : l0_3.length ≤ c0_3) (hr0_4 : Kd.C k25 w A0_4 l0_4.length l0_4) (hc0_4 : l0_4.length ≤ c0_4) (hr1 : Kd.C (Kd.int .i64) w A1 l1.length l1) (hc1 : l1.length ≤ c1) (h : laws_FnDomNeighbor.f k a0_0 a0_1 a0_2 l0_3 l0_4 l1 a2 = some r) :
    Calls Try.prog 7 #[.agg #[.int .i64 a0_0, .string a0_1, .string a0_2, .slice A0_3 l0_3.length c0_3, .slice A0_4 l0_4.length c0_4], .slice A1 l1.length c1, .int .i64 a2] w fun e w' => e = .returned (.bool r) ∧ Below w.heap.size w w' := by
  have hu25 := Try.underlying25
  have HR0_3 := Aside0.mk hr0_3
  have HC0_3 := Aside0.mk hc0_3
  clear hr0_3 hc0_3
  have HR0_4 := Aside0.mk hr0_4
  have HC0_4 := Aside0.mk hc0_4
  clear hr0_4 hc0_4
  have HR1 := Aside0.mk hr1
  have HC1 := Aside0.mk hc1
  clear hr1 hc1
  have HB := Aside0.mk (Below.refl w.heap.size w)
  have H : ((laws_zzFits2.f k a0_0 a0_1 a0_2 l0_3 l0_4).bind fun t282 => (if t282 = true then (laws_FnDomNeighbor.j0 k l1 a2 (decide ((l1.length : Int) > 2147483647)) a0_0 a0_1 a0_2 l0_3 l0_4) else (laws_FnDomNeighbor.j0 k l1 a2 true a0_0 a0_1 a0_2 l0_3 l0_4))) = some r := h
  clear h
  have HC4 := Aside0.mk H
  clear H
  go_enter Try.func7, Try.ntmps7
  go_upto_region 1 with (first | ((with_reducible refine gate_dst (N := 3) rfl ?_); (try (refine gate_guard (by rfl) ?_; dsimp only)); refine box_event ?hg (N := 3) ?hd (cs := #[.int .i64 a0_0, .string a0_1, .string a0_2, .slice A0_3 l0_3.length c0_3, .slice A0_4 l0_4.length c0_4]) (t := 25) ?hr ?_; (case hd => rfl); (case hg => rfl); (case hr => first | (go_simp; done) | (go_simp; rfl)); intro gb281 hg w5 hbox hb; have n0_ := Aside0.mk (below_step (by repeat (first | (with_reducible first | exact HB.out | apply below_alloc | apply pw_below_drewN | apply below_drew1) | exact HB.out)) hb); have n1_ := Aside0.mk (hbox); have n2_ := Aside0.mk ((by rw [hg]; exact (below_size (by repeat (first | (with_reducible first | exact HB.out | apply below_alloc | apply pw_below_drewN | apply below_drew1) | exact HB.out))) : w.heap.size ≤ gb281)); have n3_ := Aside0.mk ((by rw [hg]; exact (below_size (by repeat (first | (with_reducible first | exact HB.out | apply below_alloc | apply pw_below_drewN | apply below_drew1) | exact HB.out))) : w.heap.size ≤ gb281)); clear HB; have HB := n0_; have BK281 := n1_; have GW281 := n2_; have GE281 := n3_; clear n0_ n1_ n2_ n3_; clear hb hbox hg))
  (try simp only [Act.put, List.setIfInBounds_toArray, List.set_cons_zero, List.set_cons_succ])
  go_cut [23] (fun v23 wc => ∃ (kq : Nat) (x23_3 : Bool), v23 = .bool x23_3 ∧ Aside0 (laws_FnDomNeighbor.j0 kq l1 a2 x23_3 a0_0 a0_1 a0_2 l0_3 l0_4 = some r) ∧ Aside0 (kq ≤ k) ∧ Aside0 (wc.heap[gb281]? = some (.cells #[.int .i64 a0_0, .string a0_1, .string a0_2, (.slice A0_3 l0_3.length c0_3), (.slice A0_4 l0_4.length c0_4)] 25 (0, 0))) ∧ Aside0 (Below w.heap.size w wc))
  case first =>
    have H := HC4.out
    clear HC4
    replace H := Option.bind_eq_some_iff.mp H
    obtain ⟨t282, A60, H⟩ := H
    replace H : (if t282 = true then (laws_FnDomNeighbor.j0 k l1 a2 (decide ((l1.length : Int) > 2147483647)) a0_0 a0_1 a0_2 l0_3 l0_4) else (laws_FnDomNeighbor.j0 k l1 a2 true a0_0 a0_1 a0_2 l0_3 l0_4)) = some r := H
    have A6 := Aside0.mk A60
    clear A60
    by_cases c7 : t282 = true
    · subst c7
      have H1 : (laws_FnDomNeighbor.j0 k l1 a2 (decide ((l1.length : Int) > 2147483647)) a0_0 a0_1 a0_2 l0_3 l0_4) = some r := by rw [if_pos rfl] at H; exact H
      clear H
      have H := H1
      clear H1
      have H' := Aside0.mk H
      clear H
      have hcz8_0 : w5.cell? ⟨gb281, 0, none⟩ = some (.int .i64 a0_0) := (blk_cell BK281.out 0).trans rfl
      have hcz8_1 : w5.cell? ⟨gb281, 1, none⟩ = some (.string a0_1) := (blk_cell BK281.out 1).trans rfl
      have hcz8_2 : w5.cell? ⟨gb281, 2, none⟩ = some (.string a0_2) := (blk_cell BK281.out 2).trans rfl
      have hcz8_3 : w5.cell? ⟨gb281, 3, none⟩ = some (.slice A0_3 l0_3.length c0_3) := (blk_cell BK281.out 3).trans rfl
      have hcz8_4 : w5.cell? ⟨gb281, 4, none⟩ = some (.slice A0_4 l0_4.length c0_4) := (blk_cell BK281.out 4).trans rfl
      have hfz8_0 := blk_frozen BK281.out 0
      have hfz8_1 := blk_frozen BK281.out 1
      have hfz8_2 := blk_frozen BK281.out 2
      have hfz8_3 := blk_frozen BK281.out 3
      have hfz8_4 := blk_frozen BK281.out 4
      go_wp2_with (first | ((with_reducible refine gate_callee (f := 14) rfl ?_); refine goesL_ (some 17) rfl rfl Try.func14 (by kernel_rfl) rfl #[.agg #[.int .i64 a0_0, .string a0_1, .string a0_2, .slice A0_3 l0_3.length c0_3, .slice A0_4 l0_4.length c0_4]] rfl (by (try simp only [List.map_toArray, List.map_cons, List.map_nil]); first | done | rfl | (simp only [List.length_drop, List.length_take]; rfl)) ?_; (with_reducible refine (laws_zzFits2.calls k a0_0 a0_1 a0_2 _ _ l0_3 _ _ l0_4 true _ ?side1 ?side2 ?side3 ?side4 A6.out).mono ?_); (case side1 => repeat (first | exact (Kd.C_below HR0_3.out HB.out) | (with_reducible refine Kd.C_alloc ?_ _) | (with_reducible refine Kd.C_drewN ?_ _) | (with_reducible refine Kd.C_drew ?_))); (case side2 => exact HC0_3.out); (case side3 => repeat (first | exact (Kd.C_below HR0_4.out HB.out) | (with_reducible refine Kd.C_alloc ?_ _) | (with_reducible refine Kd.C_drewN ?_ _) | (with_reducible refine Kd.C_drew ?_))); (case side4 => exact HC0_4.out); rintro e w9 ⟨rfl, hb⟩; refine ⟨_, rfl, ?_⟩; have n0_ := Aside0.mk (blk_below (g := gb281) (o := .cells #[.int .i64 a0_0, .string a0_1, .string a0_2, .slice A0_3 l0_3.length c0_3, .slice A0_4 l0_4.length c0_4] 25 (0, 0)) (by (with_reducible repeat (first | refine blk_drewN ?_ _ | refine blk_drew ?_ | refine blk_alloc ?_ _)); exact BK281.out) hb); have n1_ := Aside0.mk (below_step (by repeat (first | (with_reducible first | exact HB.out | apply below_alloc | apply pw_below_drewN | apply below_drew1 | refine below_set ?_ GE281.out) | exact HB.out)) hb); clear BK281; clear HB; have BK281 := n0_; have HB := n1_; clear n0_ n1_; (try clear hb); (try clear hb2); (try clear hk); (try clear hi)))
      go_meet
      case rel => exact ⟨_, (decide ((l1.length : Int) > 2147483647)), (by first | rfl | (simp; done) | (simp [*]; done)), H', ⟨by first | omega | exact Nat.le_refl _⟩, ⟨by (with_reducible repeat (first | refine blk_drewN ?_ _ | refine blk_drew ?_ | refine blk_alloc ?_ _)); exact BK281.out⟩, ⟨by repeat (first | (with_reducible first | exact HB.out | apply below_alloc | apply pw_below_drewN | apply below_drew1 | refine below_set ?_ GE281.out) | exact HB.out)⟩⟩
    · replace c7 := Bool.eq_false_iff.mpr c7
      subst c7
      have H1 : (laws_FnDomNeighbor.j0 k l1 a2 true a0_0 a0_1 a0_2 l0_3 l0_4) = some r := by rw [if_neg (show ¬ (false = true) by decide)] at H; exact H
      clear H
      have H := H1
      clear H1
      have H' := Aside0.mk H
      clear H
      have hcz10_0 : w5.cell? ⟨gb281, 0, none⟩ = some (.int .i64 a0_0) := (blk_cell BK281.out 0).trans rfl
      have hcz10_1 : w5.cell? ⟨gb281, 1, none⟩ = some (.string a0_1) := (blk_cell BK281.out 1).trans rfl
      have hcz10_2 : w5.cell? ⟨gb281, 2, none⟩ = some (.string a0_2) := (blk_cell BK281.out 2).trans rfl
      have hcz10_3 : w5.cell? ⟨gb281, 3, none⟩ = some (.slice A0_3 l0_3.length c0_3) := (blk_cell BK281.out 3).trans rfl
      have hcz10_4 : w5.cell? ⟨gb281, 4, none⟩ = some (.slice A0_4 l0_4.length c0_4) := (blk_cell BK281.out 4).trans rfl
      have hfz10_0 := blk_frozen BK281.out 0
      have hfz10_1 := blk_frozen BK281.out 1
      have hfz10_2 := blk_frozen BK281.out 2
      have hfz10_3 := blk_frozen BK281.out 3
      have hfz10_4 := blk_frozen BK281.out 4
      go_wp2_with (first | ((with_reducible refine gate_callee (f := 14) rfl ?_); refine goesL_ (some 17) rfl rfl Try.func14 (by kernel_rfl) rfl #[.agg #[.int .i64 a0_0, .string a0_1, .string a0_2, .slice A0_3 l0_3.length c0_3, .slice A0_4 l0_4.length c0_4]] rfl (by (try simp only [List.map_toArray, List.map_cons, List.map_nil]); first | done | rfl | (simp only [List.length_drop, List.length_take]; rfl)) ?_; (with_reducible refine (laws_zzFits2.calls k a0_0 a0_1 a0_2 _ _ l0_3 _ _ l0_4 false _ ?side1 ?side2 ?side3 ?side4 A6.out).mono ?_); (case side1 => repeat (first | exact (Kd.C_below HR0_3.out HB.out) | (with_reducible refine Kd.C_alloc ?_ _) | (with_reducible refine Kd.C_drewN ?_ _) | (with_reducible refine Kd.C_drew ?_))); (case side2 => exact HC0_3.out); (case side3 => repeat (first | exact (Kd.C_below HR0_4.out HB.out) | (with_reducible refine Kd.C_alloc ?_ _) | (with_reducible refine Kd.C_drewN ?_ _) | (with_reducible refine Kd.C_drew ?_))); (case side4 => exact HC0_4.out); rintro e w11 ⟨rfl, hb⟩; refine ⟨_, rfl, ?_⟩; have n0_ := Aside0.mk (blk_below (g := gb281) (o := .cells #[.int .i64 a0_0, .string a0_1, .string a0_2, .slice A0_3 l0_3.length c0_3, .slice A0_4 l0_4.length c0_4] 25 (0, 0)) (by (with_reducible repeat (first | refine blk_drewN ?_ _ | refine blk_drew ?_ | refine blk_alloc ?_ _)); exact BK281.out) hb); have n1_ := Aside0.mk (below_step (by repeat (first | (with_reducible first | exact HB.out | apply below_alloc | apply pw_below_drewN | apply below_drew1 | refine below_set ?_ GE281.out) | exact HB.out)) hb); clear BK281; clear HB; have BK281 := n0_; have HB := n1_; clear n0_ n1_; (try clear hb); (try clear hb2); (try clear hk); (try clear hi)))
      go_meet
      case rel => exact ⟨_, (true), (by first | rfl | (simp; done) | (simp [*]; done)), H', ⟨by first | omega | exact Nat.le_refl _⟩, ⟨by (with_reducible repeat (first | refine blk_drewN ?_ _ | refine blk_drew ?_ | refine blk_alloc ?_ _)); exact BK281.out⟩, ⟨by repeat (first | (with_reducible first | exact HB.out | apply below_alloc | apply pw_below_drewN | apply below_drew1 | refine below_set ?_ GE281.out) | exact HB.out)⟩⟩
  case rest =>
    clear HC4
    try clear c1
    try clear p2
    try clear c7
    try clear hcz10_0
    try clear hcz10_1
    try clear hcz10_2
    try clear hcz10_3
    try clear hcz10_4
    try clear hcz8_0
    try clear hcz8_1
    try clear hcz8_2
    try clear hcz8_3
    try clear hcz8_4
    try clear hfz10_0
    try clear hfz10_1
    try clear hfz10_2
    try clear hfz10_3
    try clear hfz10_4
    try clear hfz8_0
    try clear hfz8_1
    try clear hfz8_2
    try clear hfz8_3
    try clear hfz8_4
    obtain ⟨kq, x23_3, rfl, HA, HJ3, BK281, HB⟩ := hcut
    cases kq with
    | zero => exact absurd HA.out (by simp [laws_FnDomNeighbor.j0])
    | succ kj3 =>
      have H := HA.out
      clear HA
      simp only [laws_FnDomNeighbor.j0] at H
      by_cases c12 : x23_3 = true
      · subst c12
        have H1 : (some true) = some r := by rw [if_pos rfl] at H; exact H
        clear H
        have H := H1
        clear H1
        obtain rfl := Option.some.inj H
        go_wp2
        go_ret
        exact ⟨by first | rfl | (simp [errW_none, errW_some] <;> rfl) | (simp [*, errW_none, errW_some] <;> rfl), by repeat (first | (with_reducible first | exact HB.out | apply below_alloc | apply pw_below_drewN | apply below_drew1 | refine below_set ?_ GE281.out) | exact HB.out)⟩
      · replace c12 := Bool.eq_false_iff.mpr c12
        subst c12
        have H1 : (if a2 = 0 then (laws_FnDomNeighbor.j1 kj3 l1 a2 1 true false a0_0 a0_1 a0_2 l0_3 l0_4) else (if a2 = 1 then (laws_FnDomNeighbor.j1 kj3 l1 a2 1 true true a0_0 a0_1 a0_2 l0_3 l0_4) else (if a2 = 2 then (laws_FnDomNeighbor.j1 kj3 l1 a2 1 false false a0_0 a0_1 a0_2 l0_3 l0_4) else (if a2 = 3 then (laws_FnDomNeighbor.j1 kj3 l1 a2 1 false true a0_0 a0_1 a0_2 l0_3 l0_4) else (if a2 = 4 then (laws_FnDomNeighbor.j1 kj3 l1 a2 (-1) true false a0_0 a0_1 a0_2 l0_3 l0_4) else (if a2 = 5 then (laws_FnDomNeighbor.j1 kj3 l1 a2 (-1) true true a0_0 a0_1 a0_2 l0_3 l0_4) else (if a2 = 6 then (laws_FnDomNeighbor.j1 kj3 l1 a2 (-1) false false a0_0 a0_1 a0_2 l0_3 l0_4) else (if a2 = 7 then (laws_FnDomNeighbor.j1 kj3 l1 a2 (-1) false true a0_0 a0_1 a0_2 l0_3 l0_4) else (some true))))))))) = some r := by rw [if_neg (show ¬ (false = true) by decide)] at H; exact H
        clear H
        have H := H1
        clear H1
        have HC13 := Aside0.mk H
        clear H
        go_upto_block 0 with (fail)
        go_cut [7, 8, 9] (fun v7 v8 v9 wc => ∃ (kq : Nat) (x7_12 : Int) (x8_12 : Bool) (x9_12 : Bool), v7 = .int .i64 x7_12 ∧ v8 = .bool x8_12 ∧ v9 = .bool x9_12 ∧ Aside0 (laws_FnDomNeighbor.j1 kq l1 a2 x7_12 x8_12 x9_12 a0_0 a0_1 a0_2 l0_3 l0_4 = some r) ∧ Aside0 (kq ≤ kj3) ∧ Aside0 (wc.heap[gb281]? = some (.cells #[.int .i64 a0_0, .string a0_1, .string a0_2, (.slice A0_3 l0_3.length c0_3), (.slice A0_4 l0_4.length c0_4)] 25 (0, 0))) ∧ Aside0 (Below w.heap.size w wc))
        case first =>
          have H := HC13.out
          clear HC13
          by_cases c14 : a2 = 0
          · rw [if_pos c14] at H
            have c14b0 : (a2 == 0) = true := beq_iff_eq.mpr c14
            have c14b1 : (a2 != 0) = false := bne_eq_false_iff_eq.mpr c14
            clear c14
            (first | rw [c14b0] | (simp only [i64_w, i32_w]; rw [c14b0]) | skip)
            have H' := Aside0.mk H
            clear H
            go_wp2
            go_meet
            case rel => exact ⟨_, (1), (true), (false), (by first | rfl | (simp; done) | (simp [*]; done)), (by first | rfl | (simp; done) | (simp [*]; done)), (by first | rfl | (simp; done) | (simp [*]; done)), H', ⟨by have := HJ3.out; first | omega | exact Nat.le_refl _⟩, ⟨by (with_reducible repeat (first | refine blk_drewN ?_ _ | refine blk_drew ?_ | refine blk_alloc ?_ _)); exact BK281.out⟩, ⟨by repeat (first | (with_reducible first | exact HB.out | apply below_alloc | apply pw_below_drewN | apply below_drew1 | refine below_set ?_ GE281.out) | exact HB.out)⟩⟩
          · rw [if_neg c14] at H
            have c14b0 : (a2 == 0) = false := beq_eq_false_iff_ne.mpr c14
            have c14b1 : (a2 != 0) = true := bne_iff_ne.mpr c14
            (first | rw [c14b0] | (simp only [i64_w, i32_w]; rw [c14b0]) | skip)
            by_cases c15 : a2 = 1
            · rw [if_pos c15] at H
              have c15b0 : (a2 == 1) = true := beq_iff_eq.mpr c15
              have c15b1 : (a2 != 1) = false := bne_eq_false_iff_eq.mpr c15
              clear c15
              have H' := Aside0.mk H
              clear H
              go_wp2
              go_meet
              case rel => exact ⟨_, (1), (true), (true), (by first | rfl | (simp; done) | (simp [*]; done)), (by first | rfl | (simp; done) | (simp [*]; done)), (by first | rfl | (simp; done) | (simp [*]; done)), H', ⟨by have := HJ3.out; first | omega | exact Nat.le_refl _⟩, ⟨by (with_reducible repeat (first | refine blk_drewN ?_ _ | refine blk_drew ?_ | refine blk_alloc ?_ _)); exact BK281.out⟩, ⟨by repeat (first | (with_reducible first | exact HB.out | apply below_alloc | apply pw_below_drewN | apply below_drew1 | refine below_set ?_ GE281.out) | exact HB.out)⟩⟩
            · rw [if_neg c15] at H
              have c15b0 : (a2 == 1) = false := beq_eq_false_iff_ne.mpr c15
              have c15b1 : (a2 != 1) = true := bne_iff_ne.mpr c15
              by_cases c16 : a2 = 2
              · rw [if_pos c16] at H
                have c16b0 : (a2 == 2) = true := beq_iff_eq.mpr c16
                have c16b1 : (a2 != 2) = false := bne_eq_false_iff_eq.mpr c16
                clear c16
                have H' := Aside0.mk H
                clear H
                go_wp2
                go_meet
                case rel => exact ⟨_, (1), (false), (false), (by first | rfl | (simp; done) | (simp [*]; done)), (by first | rfl | (simp; done) | (simp [*]; done)), (by first | rfl | (simp; done) | (simp [*]; done)), H', ⟨by have := HJ3.out; first | omega | exact Nat.le_refl _⟩, ⟨by (with_reducible repeat (first | refine blk_drewN ?_ _ | refine blk_drew ?_ | refine blk_alloc ?_ _)); exact BK281.out⟩, ⟨by repeat (first | (with_reducible first | exact HB.out | apply below_alloc | apply pw_below_drewN | apply below_drew1 | refine below_set ?_ GE281.out) | exact HB.out)⟩⟩
              · rw [if_neg c16] at H
                have c16b0 : (a2 == 2) = false := beq_eq_false_iff_ne.mpr c16
                have c16b1 : (a2 != 2) = true := bne_iff_ne.mpr c16
                by_cases c17 : a2 = 3
                · rw [if_pos c17] at H
                  have c17b0 : (a2 == 3) = true := beq_iff_eq.mpr c17
                  have c17b1 : (a2 != 3) = false := bne_eq_false_iff_eq.mpr c17
                  clear c17
                  have H' := Aside0.mk H
                  clear H
                  go_wp2
                  go_meet
                  case rel => exact ⟨_, (1), (false), (true), (by first | rfl | (simp; done) | (simp [*]; done)), (by first | rfl | (simp; done) | (simp [*]; done)), (by first | rfl | (simp; done) | (simp [*]; done)), H', ⟨by have := HJ3.out; first | omega | exact Nat.le_refl _⟩, ⟨by (with_reducible repeat (first | refine blk_drewN ?_ _ | refine blk_drew ?_ | refine blk_alloc ?_ _)); exact BK281.out⟩, ⟨by repeat (first | (with_reducible first | exact HB.out | apply below_alloc | apply pw_below_drewN | apply below_drew1 | refine below_set ?_ GE281.out) | exact HB.out)⟩⟩
                · rw [if_neg c17] at H
                  have c17b0 : (a2 == 3) = false := beq_eq_false_iff_ne.mpr c17
                  have c17b1 : (a2 != 3) = true := bne_iff_ne.mpr c17
                  by_cases c18 : a2 = 4
                  · rw [if_pos c18] at H
                    have c18b0 : (a2 == 4) = true := beq_iff_eq.mpr c18
                    have c18b1 : (a2 != 4) = false := bne_eq_false_iff_eq.mpr c18
                    clear c18
                    have H' := Aside0.mk H
                    clear H
                    go_wp2
                    go_meet
                    case rel => exact ⟨_, ((-1)), (true), (false), (by first | rfl | (simp; done) | (simp [*]; done)), (by first | rfl | (simp; done) | (simp [*]; done)), (by first | rfl | (simp; done) | (simp [*]; done)), H', ⟨by have := HJ3.out; first | omega | exact Nat.le_refl _⟩, ⟨by (with_reducible repeat (first | refine blk_drewN ?_ _ | refine blk_drew ?_ | refine blk_alloc ?_ _)); exact BK281.out⟩, ⟨by repeat (first | (with_reducible first | exact HB.out | apply below_alloc | apply pw_below_drewN | apply below_drew1 | refine below_set ?_ GE281.out) | exact HB.out)⟩⟩
                  · rw [if_neg c18] at H
                    have c18b0 : (a2 == 4) = false := beq_eq_false_iff_ne.mpr c18
                    have c18b1 : (a2 != 4) = true := bne_iff_ne.mpr c18
                    by_cases c19 : a2 = 5
                    · rw [if_pos c19] at H
                      have c19b0 : (a2 == 5) = true := beq_iff_eq.mpr c19
                      have c19b1 : (a2 != 5) = false := bne_eq_false_iff_eq.mpr c19
                      clear c19
                      have H' := Aside0.mk H
                      clear H
                      go_wp2
                      go_meet
                      case rel => exact ⟨_, ((-1)), (true), (true), (by first | rfl | (simp; done) | (simp [*]; done)), (by first | rfl | (simp; done) | (simp [*]; done)), (by first | rfl | (simp; done) | (simp [*]; done)), H', ⟨by have := HJ3.out; first | omega | exact Nat.le_refl _⟩, ⟨by (with_reducible repeat (first | refine blk_drewN ?_ _ | refine blk_drew ?_ | refine blk_alloc ?_ _)); exact BK281.out⟩, ⟨by repeat (first | (with_reducible first | exact HB.out | apply below_alloc | apply pw_below_drewN | apply below_drew1 | refine below_set ?_ GE281.out) | exact HB.out)⟩⟩
                    · rw [if_neg c19] at H
                      have c19b0 : (a2 == 5) = false := beq_eq_false_iff_ne.mpr c19
                      have c19b1 : (a2 != 5) = true := bne_iff_ne.mpr c19
                      by_cases c20 : a2 = 6
                      · rw [if_pos c20] at H
                        have c20b0 : (a2 == 6) = true := beq_iff_eq.mpr c20
                        have c20b1 : (a2 != 6) = false := bne_eq_false_iff_eq.mpr c20
                        clear c20
                        have H' := Aside0.mk H
                        clear H
                        go_wp2
                        go_meet
                        case rel => exact ⟨_, ((-1)), (false), (false), (by first | rfl | (simp; done) | (simp [*]; done)), (by first | rfl | (simp; done) | (simp [*]; done)), (by first | rfl | (simp; done) | (simp [*]; done)), H', ⟨by have := HJ3.out; first | omega | exact Nat.le_refl _⟩, ⟨by (with_reducible repeat (first | refine blk_drewN ?_ _ | refine blk_drew ?_ | refine blk_alloc ?_ _)); exact BK281.out⟩, ⟨by repeat (first | (with_reducible first | exact HB.out | apply below_alloc | apply pw_below_drewN | apply below_drew1 | refine below_set ?_ GE281.out) | exact HB.out)⟩⟩
                      · rw [if_neg c20] at H
                        have c20b0 : (a2 == 6) = false := beq_eq_false_iff_ne.mpr c20
                        have c20b1 : (a2 != 6) = true := bne_iff_ne.mpr c20
                        by_cases c21 : a2 = 7
                        · rw [if_pos c21] at H
                          have c21b0 : (a2 == 7) = true := beq_iff_eq.mpr c21
                          have c21b1 : (a2 != 7) = false := bne_eq_false_iff_eq.mpr c21
                          clear c21
                          have H' := Aside0.mk H
                          clear H
                          go_wp2
                          go_meet
                          case rel => exact ⟨_, ((-1)), (false), (true), (by first | rfl | (simp; done) | (simp [*]; done)), (by first | rfl | (simp; done) | (simp [*]; done)), (by first | rfl | (simp; done) | (simp [*]; done)), H', ⟨by have := HJ3.out; first | omega | exact Nat.le_refl _⟩, ⟨by (with_reducible repeat (first | refine blk_drewN ?_ _ | refine blk_drew ?_ | refine blk_alloc ?_ _)); exact BK281.out⟩, ⟨by repeat (first | (with_reducible first | exact HB.out | apply below_alloc | apply pw_below_drewN | apply below_drew1 | refine below_set ?_ GE281.out) | exact HB.out)⟩⟩
                        · rw [if_neg c21] at H
                          have c21b0 : (a2 == 7) = false := beq_eq_false_iff_ne.mpr c21
                          have c21b1 : (a2 != 7) = true := bne_iff_ne.mpr c21
                          obtain rfl := Option.some.inj H
                          go_wp2
                          go_ret
                          exact ⟨by first | rfl | (simp [errW_none, errW_some] <;> rfl) | (simp [*, errW_none, errW_some] <;> rfl), by repeat (first | (with_reducible first | exact HB.out | apply below_alloc | apply pw_below_drewN | apply below_drew1 | refine below_set ?_ GE281.out) | exact HB.out)⟩
        case rest =>
          clear HC13
          try clear c1
          try clear c2
          try clear p2
          try clear c7
          try clear c12
          try clear c14
          try clear c14b0
          try clear c14b1
          try clear c15
          try clear c15b0
          try clear c15b1
          try clear c16
          try clear c16b0
          try clear c16b1
          try clear c17
          try clear c17b0
          try clear c17b1
          try clear c18
          try clear c18b0
          try clear c18b1
          try clear c19
          try clear c19b0
          try clear c19b1
          try clear c20
          try clear c20b0
          try clear c20b1
          try clear c21
          try clear c21b0
          try clear c21b1
          try clear hcz10_0
          try clear hcz10_1
          try clear hcz10_2
          try clear hcz10_3
          try clear hcz10_4
          try clear hcz8_0
          try clear hcz8_1
          try clear hcz8_2
          try clear hcz8_3
          try clear hcz8_4
          try clear hfz10_0
          try clear hfz10_1
          try clear hfz10_2
          try clear hfz10_3
          try clear hfz10_4
          try clear hfz8_0
          try clear hfz8_1
          try clear hfz8_2
          try clear hfz8_3
          try clear hfz8_4
          try clear p2
          obtain ⟨kq, x7_12, x8_12, x9_12, rfl, rfl, rfl, HA, HJ12, BK281, HB⟩ := hcut
          cases kq with
          | zero => exact absurd HA.out (by simp [laws_FnDomNeighbor.j1])
          | succ kj12 =>
            have H := HA.out
            clear HA
            simp only [laws_FnDomNeighbor.j1] at H
            replace H := Option.bind_eq_some_iff.mp H
            obtain ⟨⟨t283, t284, t285, t286, t289, t292⟩, A220, H⟩ := H
            replace H : (if t292 = true then ((laws_tree29.f kj12 a0_0 a0_1 a0_2 l0_3 l0_4).bind fun t294 => (laws_FnDomNeighbor.j2 kj12 l1 a2 x7_12 x8_12 x9_12 (!t294) a0_0 a0_1 a0_2 l0_3 l0_4)) else (laws_FnDomNeighbor.j2 kj12 l1 a2 x7_12 x8_12 x9_12 true a0_0 a0_1 a0_2 l0_3 l0_4)) = some r := H
            have A22 := Aside0.mk A220
            clear A220
            have HC23 := Aside0.mk H
            clear H
            have hcz24_0 : wc.cell? ⟨gb281, 0, none⟩ = some (.int .i64 a0_0) := (blk_cell BK281.out 0).trans rfl
            have hcz24_1 : wc.cell? ⟨gb281, 1, none⟩ = some (.string a0_1) := (blk_cell BK281.out 1).trans rfl
            have hcz24_2 : wc.cell? ⟨gb281, 2, none⟩ = some (.string a0_2) := (blk_cell BK281.out 2).trans rfl
            have hcz24_3 : wc.cell? ⟨gb281, 3, none⟩ = some (.slice A0_3 l0_3.length c0_3) := (blk_cell BK281.out 3).trans rfl
            have hcz24_4 : wc.cell? ⟨gb281, 4, none⟩ = some (.slice A0_4 l0_4.length c0_4) := (blk_cell BK281.out 4).trans rfl
            have hfz24_0 := blk_frozen BK281.out 0
            have hfz24_1 := blk_frozen BK281.out 1
            have hfz24_2 := blk_frozen BK281.out 2
            have hfz24_3 := blk_frozen BK281.out 3
            have hfz24_4 := blk_frozen BK281.out 4
            go_upto_region 22 with (first | ((with_reducible refine gate_callee (f := 23) rfl ?_); refine goesL_ (some 44) rfl rfl Try.func23 (by kernel_rfl) rfl #[.agg #[.int .i64 a0_0, .string a0_1, .string a0_2, .slice A0_3 l0_3.length c0_3, .slice A0_4 l0_4.length c0_4], .slice A1 l1.length c1] rfl (by (try simp only [List.map_toArray, List.map_cons, List.map_nil]); first | done | rfl | (simp only [List.length_drop, List.length_take]; rfl)) ?_; (with_reducible refine (spec_At29.calls kj12 a0_0 a0_1 a0_2 (fun k_ => k_ < w.heap.size) _ _ l0_3 (fun k_ => k_ < w.heap.size) _ _ l0_4 _ _ l1 t283 t284 t285 t286 t289 t292 _ ?side1 ?side2 ?side3 ?side4 A22.out).mono ?_); (case side1 => exact Kd.V_mk HC0_3.out (Kd.F_below (Kd.C_F k34_heap HR0_3.out) (by repeat (first | (with_reducible first | exact HB.out | apply below_alloc | apply pw_below_drewN | apply below_drew1 | refine below_set ?_ GE281.out) | exact HB.out)))); (case side2 => exact Kd.V_mk HC0_4.out (Kd.F_below (Kd.C_F k25_heap HR0_4.out) (by repeat (first | (with_reducible first | exact HB.out | apply below_alloc | apply pw_below_drewN | apply below_drew1 | refine below_set ?_ GE281.out) | exact HB.out)))); (case side3 => repeat (first | exact (Kd.C_below HR1.out HB.out) | (with_reducible refine Kd.C_alloc ?_ _) | (with_reducible refine Kd.C_drewN ?_ _) | (with_reducible refine Kd.C_drew ?_))); (case side4 => exact HC1.out); rintro e w25 ⟨v287, v290, rfl, ho0, ho1, hb⟩; refine ⟨_, rfl, ?_⟩; have n0_ := Aside0.mk (Kd.V_lower (Kd.V_mono (ok' := fun k_ => k_ ≠ gb281) ho0 (fun k_ hk_ => Or.elim hk_ (fun hs_ => Or.elim hs_ (fun hs_ => fun e_ => Nat.not_le.2 hs_ (by rw [e_]; exact GW281.out)) (fun hs_ => fun e_ => Nat.not_le.2 hs_ (by rw [e_]; exact GW281.out))) (fun hn_ => (Kd.freshB (g := gb281) (o := .cells #[.int .i64 a0_0, .string a0_1, .string a0_2, .slice A0_3 l0_3.length c0_3, .slice A0_4 l0_4.length c0_4] 25 (0, 0)) (by (with_reducible repeat (first | refine blk_drewN ?_ _ | refine blk_drew ?_ | refine blk_alloc ?_ _)); exact BK281.out) k_ hn_)))) (below_size (by repeat (first | (with_reducible first | exact HB.out | apply below_alloc | apply pw_below_drewN | apply below_drew1 | refine below_set ?_ GE281.out) | exact HB.out)))); have n1_ := Aside0.mk (Kd.V_lower (Kd.V_mono (ok' := fun k_ => k_ ≠ gb281) ho1 (fun k_ hk_ => Or.elim hk_ (fun hs_ => Or.elim hs_ (fun hs_ => fun e_ => Nat.not_le.2 hs_ (by rw [e_]; exact GW281.out)) (fun hs_ => fun e_ => Nat.not_le.2 hs_ (by rw [e_]; exact GW281.out))) (fun hn_ => (Kd.freshB (g := gb281) (o := .cells #[.int .i64 a0_0, .string a0_1, .string a0_2, .slice A0_3 l0_3.length c0_3, .slice A0_4 l0_4.length c0_4] 25 (0, 0)) (by (with_reducible repeat (first | refine blk_drewN ?_ _ | refine blk_drew ?_ | refine blk_alloc ?_ _)); exact BK281.out) k_ hn_)))) (below_size (by repeat (first | (with_reducible first | exact HB.out | apply below_alloc | apply pw_below_drewN | apply below_drew1 | refine below_set ?_ GE281.out) | exact HB.out)))); have n2_ := Aside0.mk (blk_below (g := gb281) (o := .cells #[.int .i64 a0_0, .string a0_1, .string a0_2, .slice A0_3 l0_3.length c0_3, .slice A0_4 l0_4.length c0_4] 25 (0, 0)) (by (with_reducible repeat (first | refine blk_drewN ?_ _ | refine blk_drew ?_ | refine blk_alloc ?_ _)); exact BK281.out) hb); have n3_ := Aside0.mk (below_step (by repeat (first | (with_reducible first | exact HB.out | apply below_alloc | apply pw_below_drewN | apply below_drew1 | refine below_set ?_ GE281.out) | exact HB.out)) hb); clear BK281; clear HB; have HO288 := n0_; have HO291 := n1_; have BK281 := n2_; have HB := n3_; clear n0_ n1_ n2_ n3_; (try clear hb); (try clear hb2); (try clear hk); (try clear hi); (try clear ho0); (try clear ho1)) | ((with_reducible refine gate_dst (N := 10) rfl ?_); (try (refine gate_guard (by rfl) ?_; dsimp only)); refine box_event ?hg (N := 10) ?hd (cs := #[.int .i64 0, .string (⟨#[]⟩ : ByteArray), .string (⟨#[]⟩ : ByteArray), .slice none 0 0, .slice none 0 0]) (t := 25) ?hr ?_; (case hd => rfl); (case hg => rfl); (case hr => first | (go_simp; done) | (go_simp; rfl)); intro gb293 hg w26 hbox hb; have n0_ := Aside0.mk (Kd.V_below (Kd.V_elderB (by (with_reducible repeat (first | apply Kd.V_alloc | apply Kd.V_drewN | apply Kd.V_drew)); exact HO288.out) gb293 (Nat.le_of_eq hg.symm)) hb); have n1_ := Aside0.mk (Kd.V_below (Kd.V_elderB (by (with_reducible repeat (first | apply Kd.V_alloc | apply Kd.V_drewN | apply Kd.V_drew)); exact HO291.out) gb293 (Nat.le_of_eq hg.symm)) hb); have n2_ := Aside0.mk (blk_below (g := gb281) (o := .cells #[.int .i64 a0_0, .string a0_1, .string a0_2, .slice A0_3 l0_3.length c0_3, .slice A0_4 l0_4.length c0_4] 25 (0, 0)) (by (with_reducible repeat (first | refine blk_drewN ?_ _ | refine blk_drew ?_ | refine blk_alloc ?_ _)); exact BK281.out) hb); have n3_ := Aside0.mk (below_step (by repeat (first | (with_reducible first | exact HB.out | apply below_alloc | apply pw_below_drewN | apply below_drew1 | refine below_set ?_ GE281.out) | exact HB.out)) hb); have n4_ := Aside0.mk (hbox); have n5_ := Aside0.mk ((by rw [hg]; exact (below_size (by repeat (first | (with_reducible first | exact HB.out | apply below_alloc | apply pw_below_drewN | apply below_drew1 | refine below_set ?_ GE281.out) | exact HB.out))) : w.heap.size ≤ gb293)); have n6_ := Aside0.mk ((by rw [hg]; exact (below_size (by repeat (first | (with_reducible first | exact HB.out | apply below_alloc | apply pw_below_drewN | apply below_drew1 | refine below_set ?_ GE281.out) | exact HB.out))) : w.heap.size ≤ gb293)); have n7_ := Aside0.mk ((by rw [hg]; exact Nat.ne_of_lt (blk_lt (g := gb281) (o := .cells #[.int .i64 a0_0, .string a0_1, .string a0_2, .slice A0_3 l0_3.length c0_3, .slice A0_4 l0_4.length c0_4] 25 (0, 0)) (by (with_reducible repeat (first | refine blk_drewN ?_ _ | refine blk_drew ?_ | refine blk_alloc ?_ _)); exact BK281.out)) : gb281 ≠ gb293)); have n8_ := Aside0.mk ((by rw [hg]; exact Nat.ne_of_gt (blk_lt (g := gb281) (o := .cells #[.int .i64 a0_0, .string a0_1, .string a0_2, .slice A0_3 l0_3.length c0_3, .slice A0_4 l0_4.length c0_4] 25 (0, 0)) (by (with_reducible repeat (first | refine blk_drewN ?_ _ | refine blk_drew ?_ | refine blk_alloc ?_ _)); exact BK281.out)) : gb293 ≠ gb281)); clear HO288; clear HO291; clear BK281; clear HB; have HO288 := n0_; have HO291 := n1_; have BK281 := n2_; have HB := n3_; have BK293 := n4_; have GW293 := n5_; have GE293 := n6_; have NB281_293 := n7_; have NB293_281 := n8_; clear n0_ n1_ n2_ n3_ n4_ n5_ n6_ n7_ n8_; clear hb hbox hg; have hnb27 := NB293_281.out; have hnc27 := NB281_293.out; have hcz28_0 : w26.cell? ⟨gb293, 0, none⟩ = some (.int .i64 0) := (blk_cell BK293.out 0).trans rfl; have hcz28_1 : w26.cell? ⟨gb293, 1, none⟩ = some (.string (⟨#[]⟩ : ByteArray)) := (blk_cell BK293.out 1).trans rfl; have hcz28_2 : w26.cell? ⟨gb293, 2, none⟩ = some (.string (⟨#[]⟩ : ByteArray)) := (blk_cell BK293.out 2).trans rfl; have hcz28_3 : w26.cell? ⟨gb293, 3, none⟩ = some (.slice none 0 0) := (blk_cell BK293.out 3).trans rfl; have hcz28_4 : w26.cell? ⟨gb293, 4, none⟩ = some (.slice none 0 0) := (blk_cell BK293.out 4).trans rfl; have hfz28_0 := blk_frozen BK293.out 0; have hfz28_1 := blk_frozen BK293.out 1; have hfz28_2 := blk_frozen BK293.out 2; have hfz28_3 := blk_frozen BK293.out 3; have hfz28_4 := blk_frozen BK293.out 4; obtain ⟨Ao29, co29, eo29⟩ := Kd.V_slice HO288.out; subst eo29; obtain ⟨Ao30, co30, eo30⟩ := Kd.V_slice HO291.out; subst eo30))
            (try simp only [Act.put, List.setIfInBounds_toArray, List.set_cons_zero, List.set_cons_succ])
            go_cut [53] (fun v53 wc => ∃ (kq : Nat) (x53_22 : Bool), v53 = .bool x53_22 ∧ Aside0 (laws_FnDomNeighbor.j2 kq l1 a2 x7_12 x8_12 x9_12 x53_22 a0_0 a0_1 a0_2 l0_3 l0_4 = some r) ∧ Aside0 (kq ≤ kj12) ∧ Aside0 (Kd.V k34 34 wc w.heap.size (fun k_ => k_ ≠ gb281 ∧ k_ ≠ gb293) (.slice Ao29 t286.length co29) t286) ∧ Aside0 (Kd.V k25 25 wc w.heap.size (fun k_ => k_ ≠ gb281 ∧ k_ ≠ gb293) (.slice Ao30 t289.length co30) t289) ∧ Aside0 (wc.heap[gb281]? = some (.cells #[.int .i64 a0_0, .string a0_1, .string a0_2, (.slice A0_3 l0_3.length c0_3), (.slice A0_4 l0_4.length c0_4)] 25 (0, 0))) ∧ Aside0 (wc.heap[gb293]? = some (.cells #[.int .i64 t283, .string t284, .string t285, (.slice Ao29 t286.length co29), (.slice Ao30 t289.length co30)] 25 (0, 0))) ∧ Aside0 (Below w.heap.size w wc))
            case first =>
              have H := HC23.out
              clear HC23
              by_cases c31 : t292 = true
              · subst c31
                have H1 : ((laws_tree29.f kj12 a0_0 a0_1 a0_2 l0_3 l0_4).bind fun t294 => (laws_FnDomNeighbor.j2 kj12 l1 a2 x7_12 x8_12 x9_12 (!t294) a0_0 a0_1 a0_2 l0_3 l0_4)) = some r := by rw [if_pos rfl] at H; exact H
                clear H
                have H := H1
                clear H1
                replace H := Option.bind_eq_some_iff.mp H
                obtain ⟨t294, A320, H⟩ := H
                replace H : (laws_FnDomNeighbor.j2 kj12 l1 a2 x7_12 x8_12 x9_12 (!t294) a0_0 a0_1 a0_2 l0_3 l0_4) = some r := H
                have A32 := Aside0.mk A320
                clear A320
                have H' := Aside0.mk H
                clear H
                have hnb33 := NB281_293.out
                have hnc33 := NB293_281.out
                have hcz34_0 : w26.cell? ⟨gb281, 0, none⟩ = some (.int .i64 a0_0) := (blk_cell BK281.out 0).trans rfl
                have hcz34_1 : w26.cell? ⟨gb281, 1, none⟩ = some (.string a0_1) := (blk_cell BK281.out 1).trans rfl
                have hcz34_2 : w26.cell? ⟨gb281, 2, none⟩ = some (.string a0_2) := (blk_cell BK281.out 2).trans rfl
                have hcz34_3 : w26.cell? ⟨gb281, 3, none⟩ = some (.slice A0_3 l0_3.length c0_3) := (blk_cell BK281.out 3).trans rfl
                have hcz34_4 : w26.cell? ⟨gb281, 4, none⟩ = some (.slice A0_4 l0_4.length c0_4) := (blk_cell BK281.out 4).trans rfl
                have hfz34_0 := blk_frozen BK281.out 0
                have hfz34_1 := blk_frozen BK281.out 1
                have hfz34_2 := blk_frozen BK281.out 2
                have hfz34_3 := blk_frozen BK281.out 3
                have hfz34_4 := blk_frozen BK281.out 4
                go_wp2_with (first | (go_at_call 15; (with_reducible refine (laws_tree29.calls kj12 a0_0 a0_1 a0_2 _ _ l0_3 _ _ l0_4 t294 _ ?side1 ?side2 ?side3 ?side4 A32.out).mono ?_); (case side1 => exact Kd.C_below HR0_3.out (by repeat (first | (with_reducible first | exact HB.out | apply below_alloc | apply pw_below_drewN | apply below_drew1 | refine below_set ?_ GE281.out | refine below_set ?_ GE293.out) | exact HB.out))); (case side2 => exact HC0_3.out); (case side3 => exact Kd.C_below HR0_4.out (by repeat (first | (with_reducible first | exact HB.out | apply below_alloc | apply pw_below_drewN | apply below_drew1 | refine below_set ?_ GE281.out | refine below_set ?_ GE293.out) | exact HB.out))); (case side4 => exact HC0_4.out); rintro e w35 ⟨rfl, hb⟩; have n0_ := Aside0.mk (Kd.V_below (by (with_reducible repeat (first | apply Kd.V_alloc | apply Kd.V_drewN | apply Kd.V_drew)); exact (Kd.V_mono (Kd.V_far (p := ⟨gb293, 4, none⟩) (Kd.V_far (p := ⟨gb293, 3, none⟩) (Kd.V_far (p := ⟨gb293, 2, none⟩) (Kd.V_far (p := ⟨gb293, 1, none⟩) (Kd.V_far (p := ⟨gb293, 0, none⟩) (Kd.V_mono HO288.out (fun k_ hk => (⟨hk, hk.2⟩ : _ ∧ k_ ≠ gb293))) (fun _ hk => hk.2) (.int .i64 t283)) (fun _ hk => hk.2) (.string t284)) (fun _ hk => hk.2) (.string t285)) (fun _ hk => hk.2) (.slice Ao29 t286.length co29)) (fun _ hk => hk.2) (.slice Ao30 t289.length co30)) (fun _ h_ => h_.1))) hb); have n1_ := Aside0.mk (Kd.V_below (by (with_reducible repeat (first | apply Kd.V_alloc | apply Kd.V_drewN | apply Kd.V_drew)); exact (Kd.V_mono (Kd.V_far (p := ⟨gb293, 4, none⟩) (Kd.V_far (p := ⟨gb293, 3, none⟩) (Kd.V_far (p := ⟨gb293, 2, none⟩) (Kd.V_far (p := ⟨gb293, 1, none⟩) (Kd.V_far (p := ⟨gb293, 0, none⟩) (Kd.V_mono HO291.out (fun k_ hk => (⟨hk, hk.2⟩ : _ ∧ k_ ≠ gb293))) (fun _ hk => hk.2) (.int .i64 t283)) (fun _ hk => hk.2) (.string t284)) (fun _ hk => hk.2) (.string t285)) (fun _ hk => hk.2) (.slice Ao29 t286.length co29)) (fun _ hk => hk.2) (.slice Ao30 t289.length co30)) (fun _ h_ => h_.1))) hb); have n2_ := Aside0.mk (blk_below (g := gb281) (o := .cells #[.int .i64 a0_0, .string a0_1, .string a0_2, .slice A0_3 l0_3.length c0_3, .slice A0_4 l0_4.length c0_4] 25 (0, 0)) (by (with_reducible repeat (first | refine blk_drewN ?_ _ | refine blk_drew ?_ | refine blk_alloc ?_ _)); refine blk_far ?_ NB281_293.out _; (with_reducible repeat (first | refine blk_drewN ?_ _ | refine blk_drew ?_ | refine blk_alloc ?_ _)); refine blk_far ?_ NB281_293.out _; (with_reducible repeat (first | refine blk_drewN ?_ _ | refine blk_drew ?_ | refine blk_alloc ?_ _)); refine blk_far ?_ NB281_293.out _; (with_reducible repeat (first | refine blk_drewN ?_ _ | refine blk_drew ?_ | refine blk_alloc ?_ _)); refine blk_far ?_ NB281_293.out _; (with_reducible repeat (first | refine blk_drewN ?_ _ | refine blk_drew ?_ | refine blk_alloc ?_ _)); refine blk_far ?_ NB281_293.out _; (with_reducible repeat (first | refine blk_drewN ?_ _ | refine blk_drew ?_ | refine blk_alloc ?_ _)); exact BK281.out) hb); have n3_ := Aside0.mk (blk_below (g := gb293) (o := .cells #[.int .i64 t283, .string t284, .string t285, .slice Ao29 t286.length co29, .slice Ao30 t289.length co30] 25 (0, 0)) (by (with_reducible repeat (first | refine blk_drewN ?_ _ | refine blk_drew ?_ | refine blk_alloc ?_ _)); refine blk_put (cs := #[.int .i64 t283, .string t284, .string t285, .slice Ao29 t286.length co29, .slice none 0 0]) ?_ 4 _ rfl; (with_reducible repeat (first | refine blk_drewN ?_ _ | refine blk_drew ?_ | refine blk_alloc ?_ _)); refine blk_put (cs := #[.int .i64 t283, .string t284, .string t285, .slice none 0 0, .slice none 0 0]) ?_ 3 _ rfl; (with_reducible repeat (first | refine blk_drewN ?_ _ | refine blk_drew ?_ | refine blk_alloc ?_ _)); refine blk_put (cs := #[.int .i64 t283, .string t284, .string (⟨#[]⟩ : ByteArray), .slice none 0 0, .slice none 0 0]) ?_ 2 _ rfl; (with_reducible repeat (first | refine blk_drewN ?_ _ | refine blk_drew ?_ | refine blk_alloc ?_ _)); refine blk_put (cs := #[.int .i64 t283, .string (⟨#[]⟩ : ByteArray), .string (⟨#[]⟩ : ByteArray), .slice none 0 0, .slice none 0 0]) ?_ 1 _ rfl; (with_reducible repeat (first | refine blk_drewN ?_ _ | refine blk_drew ?_ | refine blk_alloc ?_ _)); refine blk_put (cs := #[.int .i64 0, .string (⟨#[]⟩ : ByteArray), .string (⟨#[]⟩ : ByteArray), .slice none 0 0, .slice none 0 0]) ?_ 0 _ rfl; (with_reducible repeat (first | refine blk_drewN ?_ _ | refine blk_drew ?_ | refine blk_alloc ?_ _)); exact BK293.out) hb); have n4_ := Aside0.mk (below_step (by repeat (first | (with_reducible first | exact HB.out | apply below_alloc | apply pw_below_drewN | apply below_drew1 | refine below_set ?_ GE281.out | refine below_set ?_ GE293.out) | exact HB.out)) hb); clear HO288; clear HO291; clear BK281; clear BK293; clear HB; have HO288 := n0_; have HO291 := n1_; have BK281 := n2_; have BK293 := n3_; have HB := n4_; clear n0_ n1_ n2_ n3_ n4_; (try clear hb); (try clear hb2); (try clear hk); (try clear hi)))
                go_meet
                case rel => exact ⟨_, (!t294), (by first | rfl | (simp; done) | (simp [*]; done)), H', ⟨by have := HJ3.out; have := HJ12.out; first | omega | exact Nat.le_refl _⟩, ⟨by (with_reducible repeat (first | apply Kd.V_alloc | apply Kd.V_drewN | apply Kd.V_drew)); exact HO288.out⟩, ⟨by (with_reducible repeat (first | apply Kd.V_alloc | apply Kd.V_drewN | apply Kd.V_drew)); exact HO291.out⟩, ⟨by (with_reducible repeat (first | refine blk_drewN ?_ _ | refine blk_drew ?_ | refine blk_alloc ?_ _)); exact BK281.out⟩, ⟨by (with_reducible repeat (first | refine blk_drewN ?_ _ | refine blk_drew ?_ | refine blk_alloc ?_ _)); exact BK293.out⟩, ⟨by repeat (first | (with_reducible first | exact HB.out | apply below_alloc | apply pw_below_drewN | apply below_drew1 | refine below_set ?_ GE281.out | refine below_set ?_ GE293.out) | exact HB.out)⟩⟩
              · replace c31 := Bool.eq_false_iff.mpr c31
                subst c31
                have H1 : (laws_FnDomNeighbor.j2 kj12 l1 a2 x7_12 x8_12 x9_12 true a0_0 a0_1 a0_2 l0_3 l0_4) = some r := by rw [if_neg (show ¬ (false = true) by decide)] at H; exact H
                clear H
                have H := H1
                clear H1
                have H' := Aside0.mk H
                clear H
                go_wp2
                go_meet
                case rel => exact ⟨_, (true), (by first | rfl | (simp; done) | (simp [*]; done)), H', ⟨by have := HJ3.out; have := HJ12.out; first | omega | exact Nat.le_refl _⟩, ⟨by (with_reducible repeat (first | apply Kd.V_alloc | apply Kd.V_drewN | apply Kd.V_drew)); exact Kd.V_mono (Kd.V_far (p := ⟨gb293, 4, none⟩) (Kd.V_far (p := ⟨gb293, 3, none⟩) (Kd.V_far (p := ⟨gb293, 2, none⟩) (Kd.V_far (p := ⟨gb293, 1, none⟩) (Kd.V_far (p := ⟨gb293, 0, none⟩) (Kd.V_mono HO288.out (fun k_ hk => (⟨hk, hk.2⟩ : _ ∧ k_ ≠ gb293))) (fun _ hk => hk.2) (.int .i64 t283)) (fun _ hk => hk.2) (.string t284)) (fun _ hk => hk.2) (.string t285)) (fun _ hk => hk.2) (.slice Ao29 t286.length co29)) (fun _ hk => hk.2) (.slice Ao30 t289.length co30)) (fun _ hk => ⟨hk.1.1, hk.1.2⟩)⟩, ⟨by (with_reducible repeat (first | apply Kd.V_alloc | apply Kd.V_drewN | apply Kd.V_drew)); exact Kd.V_mono (Kd.V_far (p := ⟨gb293, 4, none⟩) (Kd.V_far (p := ⟨gb293, 3, none⟩) (Kd.V_far (p := ⟨gb293, 2, none⟩) (Kd.V_far (p := ⟨gb293, 1, none⟩) (Kd.V_far (p := ⟨gb293, 0, none⟩) (Kd.V_mono HO291.out (fun k_ hk => (⟨hk, hk.2⟩ : _ ∧ k_ ≠ gb293))) (fun _ hk => hk.2) (.int .i64 t283)) (fun _ hk => hk.2) (.string t284)) (fun _ hk => hk.2) (.string t285)) (fun _ hk => hk.2) (.slice Ao29 t286.length co29)) (fun _ hk => hk.2) (.slice Ao30 t289.length co30)) (fun _ hk => ⟨hk.1.1, hk.1.2⟩)⟩, ⟨by (with_reducible repeat (first | refine blk_drewN ?_ _ | refine blk_drew ?_ | refine blk_alloc ?_ _)); refine blk_far ?_ NB281_293.out _; (with_reducible repeat (first | refine blk_drewN ?_ _ | refine blk_drew ?_ | refine blk_alloc ?_ _)); refine blk_far ?_ NB281_293.out _; (with_reducible repeat (first | refine blk_drewN ?_ _ | refine blk_drew ?_ | refine blk_alloc ?_ _)); refine blk_far ?_ NB281_293.out _; (with_reducible repeat (first | refine blk_drewN ?_ _ | refine blk_drew ?_ | refine blk_alloc ?_ _)); refine blk_far ?_ NB281_293.out _; (with_reducible repeat (first | refine blk_drewN ?_ _ | refine blk_drew ?_ | refine blk_alloc ?_ _)); refine blk_far ?_ NB281_293.out _; (with_reducible repeat (first | refine blk_drewN ?_ _ | refine blk_drew ?_ | refine blk_alloc ?_ _)); exact BK281.out⟩, ⟨by (with_reducible repeat (first | refine blk_drewN ?_ _ | refine blk_drew ?_ | refine blk_alloc ?_ _)); refine blk_put (cs := #[.int .i64 t283, .string t284, .string t285, .slice Ao29 t286.length co29, .slice none 0 0]) ?_ 4 _ rfl; (with_reducible repeat (first | refine blk_drewN ?_ _ | refine blk_drew ?_ | refine blk_alloc ?_ _)); refine blk_put (cs := #[.int .i64 t283, .string t284, .string t285, .slice none 0 0, .slice none 0 0]) ?_ 3 _ rfl; (with_reducible repeat (first | refine blk_drewN ?_ _ | refine blk_drew ?_ | refine blk_alloc ?_ _)); refine blk_put (cs := #[.int .i64 t283, .string t284, .string (⟨#[]⟩ : ByteArray), .slice none 0 0, .slice none 0 0]) ?_ 2 _ rfl; (with_reducible repeat (first | refine blk_drewN ?_ _ | refine blk_drew ?_ | refine blk_alloc ?_ _)); refine blk_put (cs := #[.int .i64 t283, .string (⟨#[]⟩ : ByteArray), .string (⟨#[]⟩ : ByteArray), .slice none 0 0, .slice none 0 0]) ?_ 1 _ rfl; (with_reducible repeat (first | refine blk_drewN ?_ _ | refine blk_drew ?_ | refine blk_alloc ?_ _)); refine blk_put (cs := #[.int .i64 0, .string (⟨#[]⟩ : ByteArray), .string (⟨#[]⟩ : ByteArray), .slice none 0 0, .slice none 0 0]) ?_ 0 _ rfl; (with_reducible repeat (first | refine blk_drewN ?_ _ | refine blk_drew ?_ | refine blk_alloc ?_ _)); exact BK293.out⟩, ⟨by repeat (first | (with_reducible first | exact HB.out | apply below_alloc | apply pw_below_drewN | apply below_drew1 | refine below_set ?_ GE281.out | refine below_set ?_ GE293.out) | exact HB.out)⟩⟩
            case rest =>
              clear HC23
              try clear c1
              try clear c2
              try clear p2
              try clear c3
              try clear c7
              try clear c12
              try clear c14
              try clear c14b0
              try clear c14b1
              try clear c15
              try clear c15b0
              try clear c15b1
              try clear c16
              try clear c16b0
              try clear c16b1
              try clear c17
              try clear c17b0
              try clear c17b1
              try clear c18
              try clear c18b0
              try clear c18b1
              try clear c19
              try clear c19b0
              try clear c19b1
              try clear c20
              try clear c20b0
              try clear c20b1
              try clear c21
              try clear c21b0
              try clear c21b1
              try clear c23
              try clear c27
              try clear c31
              try clear c33
              try clear hcz10_0
              try clear hcz10_1
              try clear hcz10_2
              try clear hcz10_3
              try clear hcz10_4
              try clear hcz24_0
              try clear hcz24_1
              try clear hcz24_2
              try clear hcz24_3
              try clear hcz24_4
              try clear hcz28_0
              try clear hcz28_1
              try clear hcz28_2
              try clear hcz28_3
              try clear hcz28_4
              try clear hcz34_0
              try clear hcz34_1
              try clear hcz34_2
              try clear hcz34_3
              try clear hcz34_4
              try clear hcz8_0
              try clear hcz8_1
              try clear hcz8_2
              try clear hcz8_3
              try clear hcz8_4
              try clear hfz10_0
              try clear hfz10_1
              try clear hfz10_2
              try clear hfz10_3
              try clear hfz10_4
              try clear hfz24_0
              try clear hfz24_1
              try clear hfz24_2
              try clear hfz24_3
              try clear hfz24_4
              try clear hfz28_0
              try clear hfz28_1
              try clear hfz28_2
              try clear hfz28_3
              try clear hfz28_4
              try clear hfz34_0
              try clear hfz34_1
              try clear hfz34_2
              try clear hfz34_3
              try clear hfz34_4
              try clear hfz8_0
              try clear hfz8_1
              try clear hfz8_2
              try clear hfz8_3
              try clear hfz8_4
              try clear p2
              obtain ⟨kq, x53_22, rfl, HA, HJ22, HO_294003, HO_294004, BK281, BK293, HB⟩ := hcut
              cases kq with
              | zero => exact absurd HA.out (by simp [laws_FnDomNeighbor.j2])
              | succ kj22 =>
                have H := HA.out
                clear HA
                simp only [laws_FnDomNeighbor.j2] at H
                by_cases c36 : x53_22 = true
                · subst c36
                  have H1 : (some true) = some r := by rw [if_pos rfl] at H; exact H
                  clear H
                  have H := H1
                  clear H1
                  obtain rfl := Option.some.inj H
                  go_wp2
                  go_ret
                  exact ⟨by first | rfl | (simp [errW_none, errW_some] <;> rfl) | (simp [*, errW_none, errW_some] <;> rfl), by repeat (first | (with_reducible first | exact HB.out | apply below_alloc | apply pw_below_drewN | apply below_drew1 | refine below_set ?_ GE281.out | refine below_set ?_ GE293.out) | exact HB.out)⟩
                · replace c36 := Bool.eq_false_iff.mpr c36
                  subst c36
                  have H1 : ((spec_Near29.f kj22 a0_0 a0_1 a0_2 l0_3 l0_4 l1 x7_12 x8_12 x9_12).bind fun bt295 => ((impl_Neighbor.f a0_0 a0_1 a0_2 l0_3 l0_4 l1 a2).bind fun bt299 => (if (bt299.2 == bt295.2) = true then (if bt299.2 = true then ((laws_path29.f kj22 bt299.1 bt295.1).bind fun t303 => (if t303 = true then ((laws_living29.f).bind fun t304 => (some t304)) else (some false))) else ((laws_living29.f).bind fun t305 => (some t305))) else (some false)))) = some r := by rw [if_neg (show ¬ (false = true) by decide)] at H; exact H
                  clear H
                  have H := H1
                  clear H1
                  replace H := Option.bind_eq_some_iff.mp H
                  obtain ⟨⟨t295, t298⟩, A370, H⟩ := H
                  replace H : ((impl_Neighbor.f a0_0 a0_1 a0_2 l0_3 l0_4 l1 a2).bind fun bt299 => (if (bt299.2 == t298) = true then (if bt299.2 = true then ((laws_path29.f kj22 bt299.1 t295).bind fun t303 => (if t303 = true then ((laws_living29.f).bind fun t304 => (some t304)) else (some false))) else ((laws_living29.f).bind fun t305 => (some t305))) else (some false))) = some r := H
                  have A37 := Aside0.mk A370
                  clear A370
                  replace H := Option.bind_eq_some_iff.mp H
                  obtain ⟨⟨t299, t302⟩, A380, H⟩ := H
                  replace H : (if (t302 == t298) = true then (if t302 = true then ((laws_path29.f kj22 t299 t295).bind fun t303 => (if t303 = true then ((laws_living29.f).bind fun t304 => (some t304)) else (some false))) else ((laws_living29.f).bind fun t305 => (some t305))) else (some false)) = some r := H
                  have A38 := Aside0.mk A380
                  clear A380
                  by_cases c39 : (t302 == t298) = true
                  · rw [if_pos c39] at H
                    have c39b0 : (t302 == t298) = true := c39
                    (try (have c39b1 : decide (t302 = t298) = true := by simpa using c39))
                    (try (have c39b2 : (t302 == t298) = true := by simpa using c39))
                    clear c39
                    by_cases c40 : t302 = true
                    · subst c40
                      have H1 : ((laws_path29.f kj22 t299 t295).bind fun t303 => (if t303 = true then ((laws_living29.f).bind fun t304 => (some t304)) else (some false))) = some r := by rw [if_pos rfl] at H; exact H
                      clear H
                      have H := H1
                      clear H1
                      replace H := Option.bind_eq_some_iff.mp H
                      obtain ⟨t303, A410, H⟩ := H
                      replace H : (if t303 = true then ((laws_living29.f).bind fun t304 => (some t304)) else (some false)) = some r := H
                      have A41 := Aside0.mk A410
                      clear A410
                      by_cases c42 : t303 = true
                      · subst c42
                        have H1 : ((laws_living29.f).bind fun t304 => (some t304)) = some r := by rw [if_pos rfl] at H; exact H
                        clear H
                        have H := H1
                        clear H1
                        replace H := Option.bind_eq_some_iff.mp H
                        obtain ⟨t304, A430, H⟩ := H
                        replace H : (some t304) = some r := H
                        have A43 := Aside0.mk A430
                        clear A430
                        obtain rfl := Option.some.inj H
                        have hnb44 := NB281_293.out
                        have hnc44 := NB293_281.out
                        have hcz45_0 : wc.cell? ⟨gb281, 0, none⟩ = some (.int .i64 a0_0) := (blk_cell BK281.out 0).trans rfl
                        have hcz45_1 : wc.cell? ⟨gb281, 1, none⟩ = some (.string a0_1) := (blk_cell BK281.out 1).trans rfl
                        have hcz45_2 : wc.cell? ⟨gb281, 2, none⟩ = some (.string a0_2) := (blk_cell BK281.out 2).trans rfl
                        have hcz45_3 : wc.cell? ⟨gb281, 3, none⟩ = some (.slice A0_3 l0_3.length c0_3) := (blk_cell BK281.out 3).trans rfl
                        have hcz45_4 : wc.cell? ⟨gb281, 4, none⟩ = some (.slice A0_4 l0_4.length c0_4) := (blk_cell BK281.out 4).trans rfl
                        have hfz45_0 := blk_frozen BK281.out 0
                        have hfz45_1 := blk_frozen BK281.out 1
                        have hfz45_2 := blk_frozen BK281.out 2
                        have hfz45_3 := blk_frozen BK281.out 3
                        have hfz45_4 := blk_frozen BK281.out 4
                        go_wp2_with (first | ((with_reducible refine gate_callee (f := 28) rfl ?_); refine goesL_ (some 60) rfl rfl Try.func28 (by kernel_rfl) rfl #[.agg #[.int .i64 a0_0, .string a0_1, .string a0_2, .slice A0_3 l0_3.length c0_3, .slice A0_4 l0_4.length c0_4], .slice A1 l1.length c1, .int .i64 x7_12, .bool x8_12, .bool x9_12] rfl (by (try simp only [List.map_toArray, List.map_cons, List.map_nil]); first | done | rfl | (simp only [List.length_drop, List.length_take]; rfl)) ?_; (with_reducible refine (spec_Near29.calls kj22 a0_0 a0_1 a0_2 _ _ l0_3 _ _ l0_4 _ _ l1 x7_12 x8_12 x9_12 t295 t298 _ ?side1 ?side2 ?side3 ?side4 ?side5 ?side6 A37.out).mono ?_); (case side1 => repeat (first | exact (Kd.C_below HR0_3.out HB.out) | (with_reducible refine Kd.C_alloc ?_ _) | (with_reducible refine Kd.C_drewN ?_ _) | (with_reducible refine Kd.C_drew ?_))); (case side2 => exact HC0_3.out); (case side3 => repeat (first | exact (Kd.C_below HR0_4.out HB.out) | (with_reducible refine Kd.C_alloc ?_ _) | (with_reducible refine Kd.C_drewN ?_ _) | (with_reducible refine Kd.C_drew ?_))); (case side4 => exact HC0_4.out); (case side5 => repeat (first | exact (Kd.C_below HR1.out HB.out) | (with_reducible refine Kd.C_alloc ?_ _) | (with_reducible refine Kd.C_drewN ?_ _) | (with_reducible refine Kd.C_drew ?_))); (case side6 => exact HC1.out); rintro e w46 ⟨v296, rfl, ho0, hb⟩; refine ⟨_, rfl, ?_⟩; have n0_ := Aside0.mk (Kd.V_elder' (by (with_reducible repeat (first | apply Kd.V_alloc | apply Kd.V_drewN | apply Kd.V_drew)); exact HO_294003.out) (Kd.R_base ho0) hb); have n1_ := Aside0.mk (Kd.V_elder' (by (with_reducible repeat (first | apply Kd.V_alloc | apply Kd.V_drewN | apply Kd.V_drew)); exact HO_294004.out) (Kd.R_base ho0) hb); have n2_ := Aside0.mk (Kd.R_lower ho0 (below_size (by repeat (first | (with_reducible first | exact HB.out | apply below_alloc | apply pw_below_drewN | apply below_drew1 | refine below_set ?_ GE281.out | refine below_set ?_ GE293.out) | exact HB.out)))); have n3_ := Aside0.mk (blk_below (g := gb281) (o := .cells #[.int .i64 a0_0, .string a0_1, .string a0_2, .slice A0_3 l0_3.length c0_3, .slice A0_4 l0_4.length c0_4] 25 (0, 0)) (by (with_reducible repeat (first | refine blk_drewN ?_ _ | refine blk_drew ?_ | refine blk_alloc ?_ _)); exact BK281.out) hb); have n4_ := Aside0.mk (blk_below (g := gb293) (o := .cells #[.int .i64 t283, .string t284, .string t285, .slice Ao29 t286.length co29, .slice Ao30 t289.length co30] 25 (0, 0)) (by (with_reducible repeat (first | refine blk_drewN ?_ _ | refine blk_drew ?_ | refine blk_alloc ?_ _)); exact BK293.out) hb); have n5_ := Aside0.mk (below_step (by repeat (first | (with_reducible first | exact HB.out | apply below_alloc | apply pw_below_drewN | apply below_drew1 | refine below_set ?_ GE281.out | refine below_set ?_ GE293.out) | exact HB.out)) hb); clear HO_294003; clear HO_294004; clear BK281; clear BK293; clear HB; have HO_294003 := n0_; have HO_294004 := n1_; have HO297 := n2_; have BK281 := n3_; have BK293 := n4_; have HB := n5_; clear n0_ n1_ n2_ n3_ n4_ n5_; (try clear hb); (try clear hb2); (try clear hk); (try clear hi); (try clear ho0); have hcz47_0 : w46.cell? ⟨gb281, 0, none⟩ = some (.int .i64 a0_0) := (blk_cell BK281.out 0).trans rfl; have hcz47_1 : w46.cell? ⟨gb281, 1, none⟩ = some (.string a0_1) := (blk_cell BK281.out 1).trans rfl; have hcz47_2 : w46.cell? ⟨gb281, 2, none⟩ = some (.string a0_2) := (blk_cell BK281.out 2).trans rfl; have hcz47_3 : w46.cell? ⟨gb281, 3, none⟩ = some (.slice A0_3 l0_3.length c0_3) := (blk_cell BK281.out 3).trans rfl; have hcz47_4 : w46.cell? ⟨gb281, 4, none⟩ = some (.slice A0_4 l0_4.length c0_4) := (blk_cell BK281.out 4).trans rfl; have hfz47_0 := blk_frozen BK281.out 0; have hfz47_1 := blk_frozen BK281.out 1; have hfz47_2 := blk_frozen BK281.out 2; have hfz47_3 := blk_frozen BK281.out 3; have hfz47_4 := blk_frozen BK281.out 4) | ((with_reducible refine gate_callee (f := 29) rfl ?_); refine goesL_ (some 67) rfl rfl Try.func29 (by kernel_rfl) rfl #[.agg #[.int .i64 a0_0, .string a0_1, .string a0_2, .slice A0_3 l0_3.length c0_3, .slice A0_4 l0_4.length c0_4], .slice A1 l1.length c1, .int .i64 a2] rfl (by (try simp only [List.map_toArray, List.map_cons, List.map_nil]); first | done | rfl | (simp only [List.length_drop, List.length_take]; rfl)) ?_; (with_reducible refine (impl_Neighbor.calls a0_0 a0_1 a0_2 _ _ l0_3 _ _ l0_4 _ _ l1 a2 t299 true _ ?side1 ?side2 ?side3 ?side4 ?side5 ?side6 A38.out).mono ?_); (case side1 => repeat (first | exact (Kd.C_below HR0_3.out HB.out) | (with_reducible refine Kd.C_alloc ?_ _) | (with_reducible refine Kd.C_drewN ?_ _) | (with_reducible refine Kd.C_drew ?_))); (case side2 => exact HC0_3.out); (case side3 => repeat (first | exact (Kd.C_below HR0_4.out HB.out) | (with_reducible refine Kd.C_alloc ?_ _) | (with_reducible refine Kd.C_drewN ?_ _) | (with_reducible refine Kd.C_drew ?_))); (case side4 => exact HC0_4.out); (case side5 => repeat (first | exact (Kd.C_below HR1.out HB.out) | (with_reducible refine Kd.C_alloc ?_ _) | (with_reducible refine Kd.C_drewN ?_ _) | (with_reducible refine Kd.C_drew ?_))); (case side6 => exact HC1.out); rintro e w48 ⟨v300, rfl, ho0, hb⟩; refine ⟨_, rfl, ?_⟩; have n0_ := Aside0.mk (Kd.V_elder' (by (with_reducible repeat (first | apply Kd.V_alloc | apply Kd.V_drewN | apply Kd.V_drew)); exact HO_294003.out) (Kd.R_base ho0) hb); have n1_ := Aside0.mk (Kd.V_elder' (by (with_reducible repeat (first | apply Kd.V_alloc | apply Kd.V_drewN | apply Kd.V_drew)); exact HO_294004.out) (Kd.R_base ho0) hb); have n2_ := Aside0.mk (Kd.R_elder' (by (with_reducible repeat (first | apply Kd.R_alloc | apply Kd.R_drewN | apply Kd.R_drew)); exact HO297.out) (Kd.R_base ho0) hb); have n3_ := Aside0.mk (Kd.R_lower (Kd.R_new' ho0 (Kd.R_lt (by (with_reducible repeat (first | apply Kd.R_alloc | apply Kd.R_drewN | apply Kd.R_drew)); exact HO297.out))) (below_size (by repeat (first | (with_reducible first | exact HB.out | apply below_alloc | apply pw_below_drewN | apply below_drew1 | refine below_set ?_ GE281.out | refine below_set ?_ GE293.out) | exact HB.out)))); have n4_ := Aside0.mk (blk_below (g := gb281) (o := .cells #[.int .i64 a0_0, .string a0_1, .string a0_2, .slice A0_3 l0_3.length c0_3, .slice A0_4 l0_4.length c0_4] 25 (0, 0)) (by (with_reducible repeat (first | refine blk_drewN ?_ _ | refine blk_drew ?_ | refine blk_alloc ?_ _)); exact BK281.out) hb); have n5_ := Aside0.mk (blk_below (g := gb293) (o := .cells #[.int .i64 t283, .string t284, .string t285, .slice Ao29 t286.length co29, .slice Ao30 t289.length co30] 25 (0, 0)) (by (with_reducible repeat (first | refine blk_drewN ?_ _ | refine blk_drew ?_ | refine blk_alloc ?_ _)); exact BK293.out) hb); have n6_ := Aside0.mk (below_step (by repeat (first | (with_reducible first | exact HB.out | apply below_alloc | apply pw_below_drewN | apply below_drew1 | refine below_set ?_ GE281.out | refine below_set ?_ GE293.out) | exact HB.out)) hb); clear HO_294003; clear HO_294004; clear HO297; clear BK281; clear BK293; clear HB; have HO_294003 := n0_; have HO_294004 := n1_; have HO297 := n2_; have HO301 := n3_; have BK281 := n4_; have BK293 := n5_; have HB := n6_; clear n0_ n1_ n2_ n3_ n4_ n5_ n6_; (try clear hb); (try clear hb2); (try clear hk); (try clear hi); (try clear ho0); obtain ⟨Ao49, co49, eo49⟩ := Kd.R_slice HO301.out; subst eo49; obtain ⟨Ao50, co50, eo50⟩ := Kd.R_slice HO297.out; subst eo50) | (go_at_call 30; (with_reducible refine (laws_path29.calls kj22 _ _ t299 _ _ t295 true _ ?side1 ?side2 ?side3 ?side4 A41.out).mono ?_); (case side1 => repeat (first | exact (Kd.R_reads' HO301.out).2.2 | (with_reducible refine Kd.C_alloc ?_ _) | (with_reducible refine Kd.C_drewN ?_ _) | (with_reducible refine Kd.C_drew ?_))); (case side2 => exact (Kd.R_reads' HO301.out).2.1); (case side3 => repeat (first | exact (Kd.R_reads' HO297.out).2.2 | (with_reducible refine Kd.C_alloc ?_ _) | (with_reducible refine Kd.C_drewN ?_ _) | (with_reducible refine Kd.C_drew ?_))); (case side4 => exact (Kd.R_reads' HO297.out).2.1); rintro e w' ⟨rfl, ⟨nd, rfl⟩⟩) | (go_at_call 22; (with_reducible refine (laws_living29.calls  t304 _ A43.out).mono ?_); rintro e w51 ⟨rfl, hb⟩; have n0_ := Aside0.mk (Kd.V_below (by (with_reducible repeat (first | apply Kd.V_alloc | apply Kd.V_drewN | apply Kd.V_drew)); exact HO_294003.out) hb); have n1_ := Aside0.mk (Kd.V_below (by (with_reducible repeat (first | apply Kd.V_alloc | apply Kd.V_drewN | apply Kd.V_drew)); exact HO_294004.out) hb); have n2_ := Aside0.mk (Kd.R_below (by (with_reducible repeat (first | apply Kd.R_alloc | apply Kd.R_drewN | apply Kd.R_drew)); exact HO297.out) hb); have n3_ := Aside0.mk (Kd.R_below (by (with_reducible repeat (first | apply Kd.R_alloc | apply Kd.R_drewN | apply Kd.R_drew)); exact HO301.out) hb); have n4_ := Aside0.mk (blk_below (g := gb281) (o := .cells #[.int .i64 a0_0, .string a0_1, .string a0_2, .slice A0_3 l0_3.length c0_3, .slice A0_4 l0_4.length c0_4] 25 (0, 0)) (by (with_reducible repeat (first | refine blk_drewN ?_ _ | refine blk_drew ?_ | refine blk_alloc ?_ _)); exact BK281.out) hb); have n5_ := Aside0.mk (blk_below (g := gb293) (o := .cells #[.int .i64 t283, .string t284, .string t285, .slice Ao29 t286.length co29, .slice Ao30 t289.length co30] 25 (0, 0)) (by (with_reducible repeat (first | refine blk_drewN ?_ _ | refine blk_drew ?_ | refine blk_alloc ?_ _)); exact BK293.out) hb); have n6_ := Aside0.mk (below_step (by repeat (first | (with_reducible first | exact HB.out | apply below_alloc | apply pw_below_drewN | apply below_drew1 | refine below_set ?_ GE281.out | refine below_set ?_ GE293.out) | exact HB.out)) hb); clear HO_294003; clear HO_294004; clear HO297; clear HO301; clear BK281; clear BK293; clear HB; have HO_294003 := n0_; have HO_294004 := n1_; have HO297 := n2_; have HO301 := n3_; have BK281 := n4_; have BK293 := n5_; have HB := n6_; clear n0_ n1_ n2_ n3_ n4_ n5_ n6_; (try clear hb); (try clear hb2); (try clear hk); (try clear hi)))
                        go_ret
                        exact ⟨by first | rfl | (simp [errW_none, errW_some] <;> rfl) | (simp [*, errW_none, errW_some] <;> rfl), by repeat (first | (with_reducible first | exact HB.out | apply below_alloc | apply pw_below_drewN | apply below_drew1 | refine below_set ?_ GE281.out | refine below_set ?_ GE293.out) | exact HB.out)⟩
                      · replace c42 := Bool.eq_false_iff.mpr c42
                        subst c42
                        have H1 : (some false) = some r := by rw [if_neg (show ¬ (false = true) by decide)] at H; exact H
                        clear H
                        have H := H1
                        clear H1
                        obtain rfl := Option.some.inj H
                        have hnb52 := NB281_293.out
                        have hnc52 := NB293_281.out
                        have hcz53_0 : wc.cell? ⟨gb281, 0, none⟩ = some (.int .i64 a0_0) := (blk_cell BK281.out 0).trans rfl
                        have hcz53_1 : wc.cell? ⟨gb281, 1, none⟩ = some (.string a0_1) := (blk_cell BK281.out 1).trans rfl
                        have hcz53_2 : wc.cell? ⟨gb281, 2, none⟩ = some (.string a0_2) := (blk_cell BK281.out 2).trans rfl
                        have hcz53_3 : wc.cell? ⟨gb281, 3, none⟩ = some (.slice A0_3 l0_3.length c0_3) := (blk_cell BK281.out 3).trans rfl
                        have hcz53_4 : wc.cell? ⟨gb281, 4, none⟩ = some (.slice A0_4 l0_4.length c0_4) := (blk_cell BK281.out 4).trans rfl
                        have hfz53_0 := blk_frozen BK281.out 0
                        have hfz53_1 := blk_frozen BK281.out 1
                        have hfz53_2 := blk_frozen BK281.out 2
                        have hfz53_3 := blk_frozen BK281.out 3
                        have hfz53_4 := blk_frozen BK281.out 4
                        go_wp2_with (first | ((with_reducible refine gate_callee (f := 28) rfl ?_); refine goesL_ (some 60) rfl rfl Try.func28 (by kernel_rfl) rfl #[.agg #[.int .i64 a0_0, .string a0_1, .string a0_2, .slice A0_3 l0_3.length c0_3, .slice A0_4 l0_4.length c0_4], .slice A1 l1.length c1, .int .i64 x7_12, .bool x8_12, .bool x9_12] rfl (by (try simp only [List.map_toArray, List.map_cons, List.map_nil]); first | done | rfl | (simp only [List.length_drop, List.length_take]; rfl)) ?_; (with_reducible refine (spec_Near29.calls kj22 a0_0 a0_1 a0_2 _ _ l0_3 _ _ l0_4 _ _ l1 x7_12 x8_12 x9_12 t295 t298 _ ?side1 ?side2 ?side3 ?side4 ?side5 ?side6 A37.out).mono ?_); (case side1 => repeat (first | exact (Kd.C_below HR0_3.out HB.out) | (with_reducible refine Kd.C_alloc ?_ _) | (with_reducible refine Kd.C_drewN ?_ _) | (with_reducible refine Kd.C_drew ?_))); (case side2 => exact HC0_3.out); (case side3 => repeat (first | exact (Kd.C_below HR0_4.out HB.out) | (with_reducible refine Kd.C_alloc ?_ _) | (with_reducible refine Kd.C_drewN ?_ _) | (with_reducible refine Kd.C_drew ?_))); (case side4 => exact HC0_4.out); (case side5 => repeat (first | exact (Kd.C_below HR1.out HB.out) | (with_reducible refine Kd.C_alloc ?_ _) | (with_reducible refine Kd.C_drewN ?_ _) | (with_reducible refine Kd.C_drew ?_))); (case side6 => exact HC1.out); rintro e w54 ⟨v296, rfl, ho0, hb⟩; refine ⟨_, rfl, ?_⟩; have n0_ := Aside0.mk (Kd.V_elder' (by (with_reducible repeat (first | apply Kd.V_alloc | apply Kd.V_drewN | apply Kd.V_drew)); exact HO_294003.out) (Kd.R_base ho0) hb); have n1_ := Aside0.mk (Kd.V_elder' (by (with_reducible repeat (first | apply Kd.V_alloc | apply Kd.V_drewN | apply Kd.V_drew)); exact HO_294004.out) (Kd.R_base ho0) hb); have n2_ := Aside0.mk (Kd.R_lower ho0 (below_size (by repeat (first | (with_reducible first | exact HB.out | apply below_alloc | apply pw_below_drewN | apply below_drew1 | refine below_set ?_ GE281.out | refine below_set ?_ GE293.out) | exact HB.out)))); have n3_ := Aside0.mk (blk_below (g := gb281) (o := .cells #[.int .i64 a0_0, .string a0_1, .string a0_2, .slice A0_3 l0_3.length c0_3, .slice A0_4 l0_4.length c0_4] 25 (0, 0)) (by (with_reducible repeat (first | refine blk_drewN ?_ _ | refine blk_drew ?_ | refine blk_alloc ?_ _)); exact BK281.out) hb); have n4_ := Aside0.mk (blk_below (g := gb293) (o := .cells #[.int .i64 t283, .string t284, .string t285, .slice Ao29 t286.length co29, .slice Ao30 t289.length co30] 25 (0, 0)) (by (with_reducible repeat (first | refine blk_drewN ?_ _ | refine blk_drew ?_ | refine blk_alloc ?_ _)); exact BK293.out) hb); have n5_ := Aside0.mk (below_step (by repeat (first | (with_reducible first | exact HB.out | apply below_alloc | apply pw_below_drewN | apply below_drew1 | refine below_set ?_ GE281.out | refine below_set ?_ GE293.out) | exact HB.out)) hb); clear HO_294003; clear HO_294004; clear BK281; clear BK293; clear HB; have HO_294003 := n0_; have HO_294004 := n1_; have HO297 := n2_; have BK281 := n3_; have BK293 := n4_; have HB := n5_; clear n0_ n1_ n2_ n3_ n4_ n5_; (try clear hb); (try clear hb2); (try clear hk); (try clear hi); (try clear ho0); have hcz55_0 : w54.cell? ⟨gb281, 0, none⟩ = some (.int .i64 a0_0) := (blk_cell BK281.out 0).trans rfl; have hcz55_1 : w54.cell? ⟨gb281, 1, none⟩ = some (.string a0_1) := (blk_cell BK281.out 1).trans rfl; have hcz55_2 : w54.cell? ⟨gb281, 2, none⟩ = some (.string a0_2) := (blk_cell BK281.out 2).trans rfl; have hcz55_3 : w54.cell? ⟨gb281, 3, none⟩ = some (.slice A0_3 l0_3.length c0_3) := (blk_cell BK281.out 3).trans rfl; have hcz55_4 : w54.cell? ⟨gb281, 4, none⟩ = some (.slice A0_4 l0_4.length c0_4) := (blk_cell BK281.out 4).trans rfl; have hfz55_0 := blk_frozen BK281.out 0; have hfz55_1 := blk_frozen BK281.out 1; have hfz55_2 := blk_frozen BK281.out 2; have hfz55_3 := blk_frozen BK281.out 3; have hfz55_4 := blk_frozen BK281.out 4) | ((with_reducible refine gate_callee (f := 29) rfl ?_); refine goesL_ (some 67) rfl rfl Try.func29 (by kernel_rfl) rfl #[.agg #[.int .i64 a0_0, .string a0_1, .string a0_2, .slice A0_3 l0_3.length c0_3, .slice A0_4 l0_4.length c0_4], .slice A1 l1.length c1, .int .i64 a2] rfl (by (try simp only [List.map_toArray, List.map_cons, List.map_nil]); first | done | rfl | (simp only [List.length_drop, List.length_take]; rfl)) ?_; (with_reducible refine (impl_Neighbor.calls a0_0 a0_1 a0_2 _ _ l0_3 _ _ l0_4 _ _ l1 a2 t299 true _ ?side1 ?side2 ?side3 ?side4 ?side5 ?side6 A38.out).mono ?_); (case side1 => repeat (first | exact (Kd.C_below HR0_3.out HB.out) | (with_reducible refine Kd.C_alloc ?_ _) | (with_reducible refine Kd.C_drewN ?_ _) | (with_reducible refine Kd.C_drew ?_))); (case side2 => exact HC0_3.out); (case side3 => repeat (first | exact (Kd.C_below HR0_4.out HB.out) | (with_reducible refine Kd.C_alloc ?_ _) | (with_reducible refine Kd.C_drewN ?_ _) | (with_reducible refine Kd.C_drew ?_))); (case side4 => exact HC0_4.out); (case side5 => repeat (first | exact (Kd.C_below HR1.out HB.out) | (with_reducible refine Kd.C_alloc ?_ _) | (with_reducible refine Kd.C_drewN ?_ _) | (with_reducible refine Kd.C_drew ?_))); (case side6 => exact HC1.out); rintro e w56 ⟨v300, rfl, ho0, hb⟩; refine ⟨_, rfl, ?_⟩; have n0_ := Aside0.mk (Kd.V_elder' (by (with_reducible repeat (first | apply Kd.V_alloc | apply Kd.V_drewN | apply Kd.V_drew)); exact HO_294003.out) (Kd.R_base ho0) hb); have n1_ := Aside0.mk (Kd.V_elder' (by (with_reducible repeat (first | apply Kd.V_alloc | apply Kd.V_drewN | apply Kd.V_drew)); exact HO_294004.out) (Kd.R_base ho0) hb); have n2_ := Aside0.mk (Kd.R_elder' (by (with_reducible repeat (first | apply Kd.R_alloc | apply Kd.R_drewN | apply Kd.R_drew)); exact HO297.out) (Kd.R_base ho0) hb); have n3_ := Aside0.mk (Kd.R_lower (Kd.R_new' ho0 (Kd.R_lt (by (with_reducible repeat (first | apply Kd.R_alloc | apply Kd.R_drewN | apply Kd.R_drew)); exact HO297.out))) (below_size (by repeat (first | (with_reducible first | exact HB.out | apply below_alloc | apply pw_below_drewN | apply below_drew1 | refine below_set ?_ GE281.out | refine below_set ?_ GE293.out) | exact HB.out)))); have n4_ := Aside0.mk (blk_below (g := gb281) (o := .cells #[.int .i64 a0_0, .string a0_1, .string a0_2, .slice A0_3 l0_3.length c0_3, .slice A0_4 l0_4.length c0_4] 25 (0, 0)) (by (with_reducible repeat (first | refine blk_drewN ?_ _ | refine blk_drew ?_ | refine blk_alloc ?_ _)); exact BK281.out) hb); have n5_ := Aside0.mk (blk_below (g := gb293) (o := .cells #[.int .i64 t283, .string t284, .string t285, .slice Ao29 t286.length co29, .slice Ao30 t289.length co30] 25 (0, 0)) (by (with_reducible repeat (first | refine blk_drewN ?_ _ | refine blk_drew ?_ | refine blk_alloc ?_ _)); exact BK293.out) hb); have n6_ := Aside0.mk (below_step (by repeat (first | (with_reducible first | exact HB.out | apply below_alloc | apply pw_below_drewN | apply below_drew1 | refine below_set ?_ GE281.out | refine below_set ?_ GE293.out) | exact HB.out)) hb); clear HO_294003; clear HO_294004; clear HO297; clear BK281; clear BK293; clear HB; have HO_294003 := n0_; have HO_294004 := n1_; have HO297 := n2_; have HO301 := n3_; have BK281 := n4_; have BK293 := n5_; have HB := n6_; clear n0_ n1_ n2_ n3_ n4_ n5_ n6_; (try clear hb); (try clear hb2); (try clear hk); (try clear hi); (try clear ho0); obtain ⟨Ao57, co57, eo57⟩ := Kd.R_slice HO301.out; subst eo57; obtain ⟨Ao58, co58, eo58⟩ := Kd.R_slice HO297.out; subst eo58) | (go_at_call 30; (with_reducible refine (laws_path29.calls kj22 _ _ t299 _ _ t295 false _ ?side1 ?side2 ?side3 ?side4 A41.out).mono ?_); (case side1 => repeat (first | exact (Kd.R_reads' HO301.out).2.2 | (with_reducible refine Kd.C_alloc ?_ _) | (with_reducible refine Kd.C_drewN ?_ _) | (with_reducible refine Kd.C_drew ?_))); (case side2 => exact (Kd.R_reads' HO301.out).2.1); (case side3 => repeat (first | exact (Kd.R_reads' HO297.out).2.2 | (with_reducible refine Kd.C_alloc ?_ _) | (with_reducible refine Kd.C_drewN ?_ _) | (with_reducible refine Kd.C_drew ?_))); (case side4 => exact (Kd.R_reads' HO297.out).2.1); rintro e w' ⟨rfl, ⟨nd, rfl⟩⟩))
                        go_ret
                        exact ⟨by first | rfl | (simp [errW_none, errW_some] <;> rfl) | (simp [*, errW_none, errW_some] <;> rfl), by repeat (first | (with_reducible first | exact HB.out | apply below_alloc | apply pw_below_drewN | apply below_drew1 | refine below_set ?_ GE281.out | refine below_set ?_ GE293.out) | exact HB.out)⟩
                    · replace c40 := Bool.eq_false_iff.mpr c40
                      subst c40
                      have H1 : ((laws_living29.f).bind fun t305 => (some t305)) = some r := by rw [if_neg (show ¬ (false = true) by decide)] at H; exact H
                      clear H
                      have H := H1
                      clear H1
                      replace H := Option.bind_eq_some_iff.mp H
                      obtain ⟨t305, A590, H⟩ := H
                      replace H : (some t305) = some r := H
                      have A59 := Aside0.mk A590
                      clear A590
                      obtain rfl := Option.some.inj H
                      have hnb60 := NB281_293.out
                      have hnc60 := NB293_281.out
                      have hcz61_0 : wc.cell? ⟨gb281, 0, none⟩ = some (.int .i64 a0_0) := (blk_cell BK281.out 0).trans rfl
                      have hcz61_1 : wc.cell? ⟨gb281, 1, none⟩ = some (.string a0_1) := (blk_cell BK281.out 1).trans rfl
                      have hcz61_2 : wc.cell? ⟨gb281, 2, none⟩ = some (.string a0_2) := (blk_cell BK281.out 2).trans rfl
                      have hcz61_3 : wc.cell? ⟨gb281, 3, none⟩ = some (.slice A0_3 l0_3.length c0_3) := (blk_cell BK281.out 3).trans rfl
                      have hcz61_4 : wc.cell? ⟨gb281, 4, none⟩ = some (.slice A0_4 l0_4.length c0_4) := (blk_cell BK281.out 4).trans rfl
                      have hfz61_0 := blk_frozen BK281.out 0
                      have hfz61_1 := blk_frozen BK281.out 1
                      have hfz61_2 := blk_frozen BK281.out 2
                      have hfz61_3 := blk_frozen BK281.out 3
                      have hfz61_4 := blk_frozen BK281.out 4
                      go_wp2_with (first | ((with_reducible refine gate_callee (f := 28) rfl ?_); refine goesL_ (some 60) rfl rfl Try.func28 (by kernel_rfl) rfl #[.agg #[.int .i64 a0_0, .string a0_1, .string a0_2, .slice A0_3 l0_3.length c0_3, .slice A0_4 l0_4.length c0_4], .slice A1 l1.length c1, .int .i64 x7_12, .bool x8_12, .bool x9_12] rfl (by (try simp only [List.map_toArray, List.map_cons, List.map_nil]); first | done | rfl | (simp only [List.length_drop, List.length_take]; rfl)) ?_; (with_reducible refine (spec_Near29.calls kj22 a0_0 a0_1 a0_2 _ _ l0_3 _ _ l0_4 _ _ l1 x7_12 x8_12 x9_12 t295 t298 _ ?side1 ?side2 ?side3 ?side4 ?side5 ?side6 A37.out).mono ?_); (case side1 => repeat (first | exact (Kd.C_below HR0_3.out HB.out) | (with_reducible refine Kd.C_alloc ?_ _) | (with_reducible refine Kd.C_drewN ?_ _) | (with_reducible refine Kd.C_drew ?_))); (case side2 => exact HC0_3.out); (case side3 => repeat (first | exact (Kd.C_below HR0_4.out HB.out) | (with_reducible refine Kd.C_alloc ?_ _) | (with_reducible refine Kd.C_drewN ?_ _) | (with_reducible refine Kd.C_drew ?_))); (case side4 => exact HC0_4.out); (case side5 => repeat (first | exact (Kd.C_below HR1.out HB.out) | (with_reducible refine Kd.C_alloc ?_ _) | (with_reducible refine Kd.C_drewN ?_ _) | (with_reducible refine Kd.C_drew ?_))); (case side6 => exact HC1.out); rintro e w62 ⟨v296, rfl, ho0, hb⟩; refine ⟨_, rfl, ?_⟩; have n0_ := Aside0.mk (Kd.V_elder' (by (with_reducible repeat (first | apply Kd.V_alloc | apply Kd.V_drewN | apply Kd.V_drew)); exact HO_294003.out) (Kd.R_base ho0) hb); have n1_ := Aside0.mk (Kd.V_elder' (by (with_reducible repeat (first | apply Kd.V_alloc | apply Kd.V_drewN | apply Kd.V_drew)); exact HO_294004.out) (Kd.R_base ho0) hb); have n2_ := Aside0.mk (Kd.R_lower ho0 (below_size (by repeat (first | (with_reducible first | exact HB.out | apply below_alloc | apply pw_below_drewN | apply below_drew1 | refine below_set ?_ GE281.out | refine below_set ?_ GE293.out) | exact HB.out)))); have n3_ := Aside0.mk (blk_below (g := gb281) (o := .cells #[.int .i64 a0_0, .string a0_1, .string a0_2, .slice A0_3 l0_3.length c0_3, .slice A0_4 l0_4.length c0_4] 25 (0, 0)) (by (with_reducible repeat (first | refine blk_drewN ?_ _ | refine blk_drew ?_ | refine blk_alloc ?_ _)); exact BK281.out) hb); have n4_ := Aside0.mk (blk_below (g := gb293) (o := .cells #[.int .i64 t283, .string t284, .string t285, .slice Ao29 t286.length co29, .slice Ao30 t289.length co30] 25 (0, 0)) (by (with_reducible repeat (first | refine blk_drewN ?_ _ | refine blk_drew ?_ | refine blk_alloc ?_ _)); exact BK293.out) hb); have n5_ := Aside0.mk (below_step (by repeat (first | (with_reducible first | exact HB.out | apply below_alloc | apply pw_below_drewN | apply below_drew1 | refine below_set ?_ GE281.out | refine below_set ?_ GE293.out) | exact HB.out)) hb); clear HO_294003; clear HO_294004; clear BK281; clear BK293; clear HB; have HO_294003 := n0_; have HO_294004 := n1_; have HO297 := n2_; have BK281 := n3_; have BK293 := n4_; have HB := n5_; clear n0_ n1_ n2_ n3_ n4_ n5_; (try clear hb); (try clear hb2); (try clear hk); (try clear hi); (try clear ho0); have hcz63_0 : w62.cell? ⟨gb281, 0, none⟩ = some (.int .i64 a0_0) := (blk_cell BK281.out 0).trans rfl; have hcz63_1 : w62.cell? ⟨gb281, 1, none⟩ = some (.string a0_1) := (blk_cell BK281.out 1).trans rfl; have hcz63_2 : w62.cell? ⟨gb281, 2, none⟩ = some (.string a0_2) := (blk_cell BK281.out 2).trans rfl; have hcz63_3 : w62.cell? ⟨gb281, 3, none⟩ = some (.slice A0_3 l0_3.length c0_3) := (blk_cell BK281.out 3).trans rfl; have hcz63_4 : w62.cell? ⟨gb281, 4, none⟩ = some (.slice A0_4 l0_4.length c0_4) := (blk_cell BK281.out 4).trans rfl; have hfz63_0 := blk_frozen BK281.out 0; have hfz63_1 := blk_frozen BK281.out 1; have hfz63_2 := blk_frozen BK281.out 2; have hfz63_3 := blk_frozen BK281.out 3; have hfz63_4 := blk_frozen BK281.out 4) | ((with_reducible refine gate_callee (f := 29) rfl ?_); refine goesL_ (some 67) rfl rfl Try.func29 (by kernel_rfl) rfl #[.agg #[.int .i64 a0_0, .string a0_1, .string a0_2, .slice A0_3 l0_3.length c0_3, .slice A0_4 l0_4.length c0_4], .slice A1 l1.length c1, .int .i64 a2] rfl (by (try simp only [List.map_toArray, List.map_cons, List.map_nil]); first | done | rfl | (simp only [List.length_drop, List.length_take]; rfl)) ?_; (with_reducible refine (impl_Neighbor.calls a0_0 a0_1 a0_2 _ _ l0_3 _ _ l0_4 _ _ l1 a2 t299 false _ ?side1 ?side2 ?side3 ?side4 ?side5 ?side6 A38.out).mono ?_); (case side1 => repeat (first | exact (Kd.C_below HR0_3.out HB.out) | (with_reducible refine Kd.C_alloc ?_ _) | (with_reducible refine Kd.C_drewN ?_ _) | (with_reducible refine Kd.C_drew ?_))); (case side2 => exact HC0_3.out); (case side3 => repeat (first | exact (Kd.C_below HR0_4.out HB.out) | (with_reducible refine Kd.C_alloc ?_ _) | (with_reducible refine Kd.C_drewN ?_ _) | (with_reducible refine Kd.C_drew ?_))); (case side4 => exact HC0_4.out); (case side5 => repeat (first | exact (Kd.C_below HR1.out HB.out) | (with_reducible refine Kd.C_alloc ?_ _) | (with_reducible refine Kd.C_drewN ?_ _) | (with_reducible refine Kd.C_drew ?_))); (case side6 => exact HC1.out); rintro e w64 ⟨v300, rfl, ho0, hb⟩; refine ⟨_, rfl, ?_⟩; have n0_ := Aside0.mk (Kd.V_elder' (by (with_reducible repeat (first | apply Kd.V_alloc | apply Kd.V_drewN | apply Kd.V_drew)); exact HO_294003.out) (Kd.R_base ho0) hb); have n1_ := Aside0.mk (Kd.V_elder' (by (with_reducible repeat (first | apply Kd.V_alloc | apply Kd.V_drewN | apply Kd.V_drew)); exact HO_294004.out) (Kd.R_base ho0) hb); have n2_ := Aside0.mk (Kd.R_elder' (by (with_reducible repeat (first | apply Kd.R_alloc | apply Kd.R_drewN | apply Kd.R_drew)); exact HO297.out) (Kd.R_base ho0) hb); have n3_ := Aside0.mk (Kd.R_lower (Kd.R_new' ho0 (Kd.R_lt (by (with_reducible repeat (first | apply Kd.R_alloc | apply Kd.R_drewN | apply Kd.R_drew)); exact HO297.out))) (below_size (by repeat (first | (with_reducible first | exact HB.out | apply below_alloc | apply pw_below_drewN | apply below_drew1 | refine below_set ?_ GE281.out | refine below_set ?_ GE293.out) | exact HB.out)))); have n4_ := Aside0.mk (blk_below (g := gb281) (o := .cells #[.int .i64 a0_0, .string a0_1, .string a0_2, .slice A0_3 l0_3.length c0_3, .slice A0_4 l0_4.length c0_4] 25 (0, 0)) (by (with_reducible repeat (first | refine blk_drewN ?_ _ | refine blk_drew ?_ | refine blk_alloc ?_ _)); exact BK281.out) hb); have n5_ := Aside0.mk (blk_below (g := gb293) (o := .cells #[.int .i64 t283, .string t284, .string t285, .slice Ao29 t286.length co29, .slice Ao30 t289.length co30] 25 (0, 0)) (by (with_reducible repeat (first | refine blk_drewN ?_ _ | refine blk_drew ?_ | refine blk_alloc ?_ _)); exact BK293.out) hb); have n6_ := Aside0.mk (below_step (by repeat (first | (with_reducible first | exact HB.out | apply below_alloc | apply pw_below_drewN | apply below_drew1 | refine below_set ?_ GE281.out | refine below_set ?_ GE293.out) | exact HB.out)) hb); clear HO_294003; clear HO_294004; clear HO297; clear BK281; clear BK293; clear HB; have HO_294003 := n0_; have HO_294004 := n1_; have HO297 := n2_; have HO301 := n3_; have BK281 := n4_; have BK293 := n5_; have HB := n6_; clear n0_ n1_ n2_ n3_ n4_ n5_ n6_; (try clear hb); (try clear hb2); (try clear hk); (try clear hi); (try clear ho0)) | (go_at_call 22; (with_reducible refine (laws_living29.calls  t305 _ A59.out).mono ?_); rintro e w65 ⟨rfl, hb⟩; have n0_ := Aside0.mk (Kd.V_below (by (with_reducible repeat (first | apply Kd.V_alloc | apply Kd.V_drewN | apply Kd.V_drew)); exact HO_294003.out) hb); have n1_ := Aside0.mk (Kd.V_below (by (with_reducible repeat (first | apply Kd.V_alloc | apply Kd.V_drewN | apply Kd.V_drew)); exact HO_294004.out) hb); have n2_ := Aside0.mk (Kd.R_below (by (with_reducible repeat (first | apply Kd.R_alloc | apply Kd.R_drewN | apply Kd.R_drew)); exact HO297.out) hb); have n3_ := Aside0.mk (Kd.R_below (by (with_reducible repeat (first | apply Kd.R_alloc | apply Kd.R_drewN | apply Kd.R_drew)); exact HO301.out) hb); have n4_ := Aside0.mk (blk_below (g := gb281) (o := .cells #[.int .i64 a0_0, .string a0_1, .string a0_2, .slice A0_3 l0_3.length c0_3, .slice A0_4 l0_4.length c0_4] 25 (0, 0)) (by (with_reducible repeat (first | refine blk_drewN ?_ _ | refine blk_drew ?_ | refine blk_alloc ?_ _)); exact BK281.out) hb); have n5_ := Aside0.mk (blk_below (g := gb293) (o := .cells #[.int .i64 t283, .string t284, .string t285, .slice Ao29 t286.length co29, .slice Ao30 t289.length co30] 25 (0, 0)) (by (with_reducible repeat (first | refine blk_drewN ?_ _ | refine blk_drew ?_ | refine blk_alloc ?_ _)); exact BK293.out) hb); have n6_ := Aside0.mk (below_step (by repeat (first | (with_reducible first | exact HB.out | apply below_alloc | apply pw_below_drewN | apply below_drew1 | refine below_set ?_ GE281.out | refine below_set ?_ GE293.out) | exact HB.out)) hb); clear HO_294003; clear HO_294004; clear HO297; clear HO301; clear BK281; clear BK293; clear HB; have HO_294003 := n0_; have HO_294004 := n1_; have HO297 := n2_; have HO301 := n3_; have BK281 := n4_; have BK293 := n5_; have HB := n6_; clear n0_ n1_ n2_ n3_ n4_ n5_ n6_; (try clear hb); (try clear hb2); (try clear hk); (try clear hi)))
                      go_ret
                      exact ⟨by first | rfl | (simp [errW_none, errW_some] <;> rfl) | (simp [*, errW_none, errW_some] <;> rfl), by repeat (first | (with_reducible first | exact HB.out | apply below_alloc | apply pw_below_drewN | apply below_drew1 | refine below_set ?_ GE281.out | refine below_set ?_ GE293.out) | exact HB.out)⟩
                  · rw [if_neg c39] at H
                    have c39b0 : (t302 == t298) = false := by simpa using c39
                    (try (have c39b1 : decide (t302 = t298) = false := by simpa using c39))
                    (try (have c39b2 : (t302 == t298) = false := by simpa using c39))
                    (try (have c39b3 : ¬ (t302 = t298) := by simpa using c39))
                    clear c39
                    obtain rfl := Option.some.inj H
                    have hnb66 := NB281_293.out
                    have hnc66 := NB293_281.out
                    have hcz67_0 : wc.cell? ⟨gb281, 0, none⟩ = some (.int .i64 a0_0) := (blk_cell BK281.out 0).trans rfl
                    have hcz67_1 : wc.cell? ⟨gb281, 1, none⟩ = some (.string a0_1) := (blk_cell BK281.out 1).trans rfl
                    have hcz67_2 : wc.cell? ⟨gb281, 2, none⟩ = some (.string a0_2) := (blk_cell BK281.out 2).trans rfl
                    have hcz67_3 : wc.cell? ⟨gb281, 3, none⟩ = some (.slice A0_3 l0_3.length c0_3) := (blk_cell BK281.out 3).trans rfl
                    have hcz67_4 : wc.cell? ⟨gb281, 4, none⟩ = some (.slice A0_4 l0_4.length c0_4) := (blk_cell BK281.out 4).trans rfl
                    have hfz67_0 := blk_frozen BK281.out 0
                    have hfz67_1 := blk_frozen BK281.out 1
                    have hfz67_2 := blk_frozen BK281.out 2
                    have hfz67_3 := blk_frozen BK281.out 3
                    have hfz67_4 := blk_frozen BK281.out 4
                    go_wp2_with (first | ((with_reducible refine gate_callee (f := 28) rfl ?_); refine goesL_ (some 60) rfl rfl Try.func28 (by kernel_rfl) rfl #[.agg #[.int .i64 a0_0, .string a0_1, .string a0_2, .slice A0_3 l0_3.length c0_3, .slice A0_4 l0_4.length c0_4], .slice A1 l1.length c1, .int .i64 x7_12, .bool x8_12, .bool x9_12] rfl (by (try simp only [List.map_toArray, List.map_cons, List.map_nil]); first | done | rfl | (simp only [List.length_drop, List.length_take]; rfl)) ?_; (with_reducible refine (spec_Near29.calls kj22 a0_0 a0_1 a0_2 _ _ l0_3 _ _ l0_4 _ _ l1 x7_12 x8_12 x9_12 t295 t298 _ ?side1 ?side2 ?side3 ?side4 ?side5 ?side6 A37.out).mono ?_); (case side1 => repeat (first | exact (Kd.C_below HR0_3.out HB.out) | (with_reducible refine Kd.C_alloc ?_ _) | (with_reducible refine Kd.C_drewN ?_ _) | (with_reducible refine Kd.C_drew ?_))); (case side2 => exact HC0_3.out); (case side3 => repeat (first | exact (Kd.C_below HR0_4.out HB.out) | (with_reducible refine Kd.C_alloc ?_ _) | (with_reducible refine Kd.C_drewN ?_ _) | (with_reducible refine Kd.C_drew ?_))); (case side4 => exact HC0_4.out); (case side5 => repeat (first | exact (Kd.C_below HR1.out HB.out) | (with_reducible refine Kd.C_alloc ?_ _) | (with_reducible refine Kd.C_drewN ?_ _) | (with_reducible refine Kd.C_drew ?_))); (case side6 => exact HC1.out); rintro e w68 ⟨v296, rfl, ho0, hb⟩; refine ⟨_, rfl, ?_⟩; have n0_ := Aside0.mk (Kd.V_elder' (by (with_reducible repeat (first | apply Kd.V_alloc | apply Kd.V_drewN | apply Kd.V_drew)); exact HO_294003.out) (Kd.R_base ho0) hb); have n1_ := Aside0.mk (Kd.V_elder' (by (with_reducible repeat (first | apply Kd.V_alloc | apply Kd.V_drewN | apply Kd.V_drew)); exact HO_294004.out) (Kd.R_base ho0) hb); have n2_ := Aside0.mk (Kd.R_lower ho0 (below_size (by repeat (first | (with_reducible first | exact HB.out | apply below_alloc | apply pw_below_drewN | apply below_drew1 | refine below_set ?_ GE281.out | refine below_set ?_ GE293.out) | exact HB.out)))); have n3_ := Aside0.mk (blk_below (g := gb281) (o := .cells #[.int .i64 a0_0, .string a0_1, .string a0_2, .slice A0_3 l0_3.length c0_3, .slice A0_4 l0_4.length c0_4] 25 (0, 0)) (by (with_reducible repeat (first | refine blk_drewN ?_ _ | refine blk_drew ?_ | refine blk_alloc ?_ _)); exact BK281.out) hb); have n4_ := Aside0.mk (blk_below (g := gb293) (o := .cells #[.int .i64 t283, .string t284, .string t285, .slice Ao29 t286.length co29, .slice Ao30 t289.length co30] 25 (0, 0)) (by (with_reducible repeat (first | refine blk_drewN ?_ _ | refine blk_drew ?_ | refine blk_alloc ?_ _)); exact BK293.out) hb); have n5_ := Aside0.mk (below_step (by repeat (first | (with_reducible first | exact HB.out | apply below_alloc | apply pw_below_drewN | apply below_drew1 | refine below_set ?_ GE281.out | refine below_set ?_ GE293.out) | exact HB.out)) hb); clear HO_294003; clear HO_294004; clear BK281; clear BK293; clear HB; have HO_294003 := n0_; have HO_294004 := n1_; have HO297 := n2_; have BK281 := n3_; have BK293 := n4_; have HB := n5_; clear n0_ n1_ n2_ n3_ n4_ n5_; (try clear hb); (try clear hb2); (try clear hk); (try clear hi); (try clear ho0); have hcz69_0 : w68.cell? ⟨gb281, 0, none⟩ = some (.int .i64 a0_0) := (blk_cell BK281.out 0).trans rfl; have hcz69_1 : w68.cell? ⟨gb281, 1, none⟩ = some (.string a0_1) := (blk_cell BK281.out 1).trans rfl; have hcz69_2 : w68.cell? ⟨gb281, 2, none⟩ = some (.string a0_2) := (blk_cell BK281.out 2).trans rfl; have hcz69_3 : w68.cell? ⟨gb281, 3, none⟩ = some (.slice A0_3 l0_3.length c0_3) := (blk_cell BK281.out 3).trans rfl; have hcz69_4 : w68.cell? ⟨gb281, 4, none⟩ = some (.slice A0_4 l0_4.length c0_4) := (blk_cell BK281.out 4).trans rfl; have hfz69_0 := blk_frozen BK281.out 0; have hfz69_1 := blk_frozen BK281.out 1; have hfz69_2 := blk_frozen BK281.out 2; have hfz69_3 := blk_frozen BK281.out 3; have hfz69_4 := blk_frozen BK281.out 4) | ((with_reducible refine gate_callee (f := 29) rfl ?_); refine goesL_ (some 67) rfl rfl Try.func29 (by kernel_rfl) rfl #[.agg #[.int .i64 a0_0, .string a0_1, .string a0_2, .slice A0_3 l0_3.length c0_3, .slice A0_4 l0_4.length c0_4], .slice A1 l1.length c1, .int .i64 a2] rfl (by (try simp only [List.map_toArray, List.map_cons, List.map_nil]); first | done | rfl | (simp only [List.length_drop, List.length_take]; rfl)) ?_; (with_reducible refine (impl_Neighbor.calls a0_0 a0_1 a0_2 _ _ l0_3 _ _ l0_4 _ _ l1 a2 t299 t302 _ ?side1 ?side2 ?side3 ?side4 ?side5 ?side6 A38.out).mono ?_); (case side1 => repeat (first | exact (Kd.C_below HR0_3.out HB.out) | (with_reducible refine Kd.C_alloc ?_ _) | (with_reducible refine Kd.C_drewN ?_ _) | (with_reducible refine Kd.C_drew ?_))); (case side2 => exact HC0_3.out); (case side3 => repeat (first | exact (Kd.C_below HR0_4.out HB.out) | (with_reducible refine Kd.C_alloc ?_ _) | (with_reducible refine Kd.C_drewN ?_ _) | (with_reducible refine Kd.C_drew ?_))); (case side4 => exact HC0_4.out); (case side5 => repeat (first | exact (Kd.C_below HR1.out HB.out) | (with_reducible refine Kd.C_alloc ?_ _) | (with_reducible refine Kd.C_drewN ?_ _) | (with_reducible refine Kd.C_drew ?_))); (case side6 => exact HC1.out); rintro e w70 ⟨v300, rfl, ho0, hb⟩; refine ⟨_, rfl, ?_⟩; have n0_ := Aside0.mk (Kd.V_elder' (by (with_reducible repeat (first | apply Kd.V_alloc | apply Kd.V_drewN | apply Kd.V_drew)); exact HO_294003.out) (Kd.R_base ho0) hb); have n1_ := Aside0.mk (Kd.V_elder' (by (with_reducible repeat (first | apply Kd.V_alloc | apply Kd.V_drewN | apply Kd.V_drew)); exact HO_294004.out) (Kd.R_base ho0) hb); have n2_ := Aside0.mk (Kd.R_elder' (by (with_reducible repeat (first | apply Kd.R_alloc | apply Kd.R_drewN | apply Kd.R_drew)); exact HO297.out) (Kd.R_base ho0) hb); have n3_ := Aside0.mk (Kd.R_lower (Kd.R_new' ho0 (Kd.R_lt (by (with_reducible repeat (first | apply Kd.R_alloc | apply Kd.R_drewN | apply Kd.R_drew)); exact HO297.out))) (below_size (by repeat (first | (with_reducible first | exact HB.out | apply below_alloc | apply pw_below_drewN | apply below_drew1 | refine below_set ?_ GE281.out | refine below_set ?_ GE293.out) | exact HB.out)))); have n4_ := Aside0.mk (blk_below (g := gb281) (o := .cells #[.int .i64 a0_0, .string a0_1, .string a0_2, .slice A0_3 l0_3.length c0_3, .slice A0_4 l0_4.length c0_4] 25 (0, 0)) (by (with_reducible repeat (first | refine blk_drewN ?_ _ | refine blk_drew ?_ | refine blk_alloc ?_ _)); exact BK281.out) hb); have n5_ := Aside0.mk (blk_below (g := gb293) (o := .cells #[.int .i64 t283, .string t284, .string t285, .slice Ao29 t286.length co29, .slice Ao30 t289.length co30] 25 (0, 0)) (by (with_reducible repeat (first | refine blk_drewN ?_ _ | refine blk_drew ?_ | refine blk_alloc ?_ _)); exact BK293.out) hb); have n6_ := Aside0.mk (below_step (by repeat (first | (with_reducible first | exact HB.out | apply below_alloc | apply pw_below_drewN | apply below_drew1 | refine below_set ?_ GE281.out | refine below_set ?_ GE293.out) | exact HB.out)) hb); clear HO_294003; clear HO_294004; clear HO297; clear BK281; clear BK293; clear HB; have HO_294003 := n0_; have HO_294004 := n1_; have HO297 := n2_; have HO301 := n3_; have BK281 := n4_; have BK293 := n5_; have HB := n6_; clear n0_ n1_ n2_ n3_ n4_ n5_ n6_; (try clear hb); (try clear hb2); (try clear hk); (try clear hi); (try clear ho0)))
                    go_ret
                    exact ⟨by first | rfl | (simp [errW_none, errW_some] <;> rfl) | (simp [*, errW_none, errW_some] <;> rfl), by repeat (first | (with_reducible first | exact HB.out | apply below_alloc | apply pw_below_drewN | apply below_drew1 | refine below_set ?_ GE281.out | refine below_set ?_ GE293.out) | exact HB.out)⟩

end Go.Proofs.Ytlallihdiffheaa.GT
