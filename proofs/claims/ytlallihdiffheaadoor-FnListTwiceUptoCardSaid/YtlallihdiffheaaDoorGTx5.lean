-- made by a program of this session, after the kit's print
import Derived.Test.YtlallihdiffheaaDoorGTx0
import Derived.Test.YtlallihdiffheaaDoorGTx1
import Derived.Test.YtlallihdiffheaaDoorGTx4
namespace Go.Proofs.YtlallihdiffheaaDoor.GT
open Go.RowKit Go.Proofs.YtlallihdiffheaaDoorW.PrintWords Go.Proofs.YtlallihdiffheaaDoorW.PrintLast Go.Proofs.YtlallihdiffheaaDoorW.PrintMore
attribute [local go_sem] max2_int min2_int max_two min_two max_three min_three max_four min_four   -- for this text's walks alone
set_option linter.unusedVariables false
set_option linter.unusedSimpArgs false

attribute [local go_sem high] eqA29
/-! ### spec_Alike: function 20 -/
mutual
def spec_Alike.j0 : Nat → Bool → Int → ByteArray → ByteArray → List (S29) → List (S25) → Int → ByteArray → ByteArray → List (S29) → List (S25) → Option (Bool)
  | 0, _, _, _, _, _, _, _, _, _, _, _ => none
  | k + 1, x36, x149000, x149001, x149002, x149003, x149004, x150000, x150001, x150002, x150003, x150004 => if x36 = true then (some false) else (spec_Alike.l0 k (x149003.length : Int) 0 x149000 x149001 x149002 x149003 x149004 x150000 x150001 x150002 x150003 x150004)
def spec_Alike.l0 : Nat → Int → Int → Int → ByteArray → ByteArray → List (S29) → List (S25) → Int → ByteArray → ByteArray → List (S29) → List (S25) → Option (Bool)
  | 0, _, _, _, _, _, _, _, _, _, _, _, _ => none
  | k + 1, x39, x40, x149000, x149001, x149002, x149003, x149004, x150000, x150001, x150002, x150003, x150004 => if x40 < x39 then (if 0 ≤ x40 then (if x40 < (x149003.length : Int) then (if x40 < (x150003.length : Int) then (if (!((((rd_T29 x149003 x40).f0).toList) == (((rd_T29 x150003 x40).f0).toList)) || (!((((rd_T29 x149003 x40).f1).toList) == (((rd_T29 x150003 x40).f1).toList)))) = true then (some false) else (spec_Alike.l0 k x39 (wrap64 (x40 + 1)) x149000 x149001 x149002 x149003 x149004 x150000 x150001 x150002 x150003 x150004)) else (none)) else (none)) else (none)) else ((spec_merged.f k x149004).bind fun t152 => ((spec_merged.f k x150004).bind fun t155 => (if (t152.length : Int) = (t155.length : Int) then (spec_Alike.l1 k t152 t155 (t152.length : Int) 0) else (some false))))
def spec_Alike.l1 : Nat → List (S25) → List (S25) → Int → Int → Option (Bool)
  | 0, _, _, _, _ => none
  | k + 1, x6, x7, x67, x68 => if x68 < x67 then (if 0 ≤ x68 then (if x68 < (x6.length : Int) then (if x68 < (x7.length : Int) then ((spec_Alike.f k ((rd_T25 x6 x68).f0) ((rd_T25 x6 x68).f1) ((rd_T25 x6 x68).f2) ((rd_T25 x6 x68).f3) ((rd_T25 x6 x68).f4) ((rd_T25 x7 x68).f0) ((rd_T25 x7 x68).f1) ((rd_T25 x7 x68).f2) ((rd_T25 x7 x68).f3) ((rd_T25 x7 x68).f4)).bind fun t160 => (if t160 = true then (spec_Alike.l1 k x6 x7 x67 (wrap64 (x68 + 1))) else (some false))) else (none)) else (none)) else (none)) else (some true)
def spec_Alike.f : Nat → Int → ByteArray → ByteArray → List (S29) → List (S25) → Int → ByteArray → ByteArray → List (S29) → List (S25) → Option (Bool)
  | 0, _, _, _, _, _, _, _, _, _, _ => none
  | k + 1, a0_0, a0_1, a0_2, l0_3, l0_4, a1_0, a1_1, a1_2, l1_3, l1_4 => if a0_0 = a1_0 then (if a0_1.toList = a1_1.toList then (if a0_2.toList = a1_2.toList then (spec_Alike.j0 k ((l0_3.length : Int) != (l1_3.length : Int)) a0_0 a0_1 a0_2 l0_3 l0_4 a1_0 a1_1 a1_2 l1_3 l1_4) else (spec_Alike.j0 k true a0_0 a0_1 a0_2 l0_3 l0_4 a1_0 a1_1 a1_2 l1_3 l1_4)) else (spec_Alike.j0 k true a0_0 a0_1 a0_2 l0_3 l0_4 a1_0 a1_1 a1_2 l1_3 l1_4)) else (spec_Alike.j0 k true a0_0 a0_1 a0_2 l0_3 l0_4 a1_0 a1_1 a1_2 l1_3 l1_4)
end
theorem spec_Alike.mono_l : ∀ k, (∀ y0 y1 y2 y3 y4 y5 y6 y7 y8 y9, LeO (spec_Alike.f k y0 y1 y2 y3 y4 y5 y6 y7 y8 y9) (spec_Alike.f (k + 1) y0 y1 y2 y3 y4 y5 y6 y7 y8 y9)) ∧ (∀ y0 y1 y2 y3 y4 y5 y6 y7 y8 y9 y10, LeO (spec_Alike.j0 k y0 y1 y2 y3 y4 y5 y6 y7 y8 y9 y10) (spec_Alike.j0 (k + 1) y0 y1 y2 y3 y4 y5 y6 y7 y8 y9 y10)) ∧ (∀ y0 y1 y2 y3 y4 y5 y6 y7 y8 y9 y10 y11, LeO (spec_Alike.l0 k y0 y1 y2 y3 y4 y5 y6 y7 y8 y9 y10 y11) (spec_Alike.l0 (k + 1) y0 y1 y2 y3 y4 y5 y6 y7 y8 y9 y10 y11)) ∧ (∀ y0 y1 y2 y3, LeO (spec_Alike.l1 k y0 y1 y2 y3) (spec_Alike.l1 (k + 1) y0 y1 y2 y3))
  | 0 => ⟨fun _ _ _ _ _ _ _ _ _ _ r h => by simp [spec_Alike.f] at h, fun _ _ _ _ _ _ _ _ _ _ _ r h => by simp [spec_Alike.j0] at h, fun _ _ _ _ _ _ _ _ _ _ _ _ r h => by simp [spec_Alike.l0] at h, fun _ _ _ _ r h => by simp [spec_Alike.l1] at h⟩
  | k + 1 => by
    obtain ⟨ih0, ih1, ih2, ih3⟩ := spec_Alike.mono_l k
    refine ⟨?_, ?_, ?_, ?_⟩
    · intro y0 y1 y2 y3 y4 y5 y6 y7 y8 y9
      unfold spec_Alike.f
      repeat' first
      | (with_reducible exact ih0 _ _ _ _ _ _ _ _ _ _)
      | (with_reducible exact ih1 _ _ _ _ _ _ _ _ _ _ _)
      | (with_reducible exact ih2 _ _ _ _ _ _ _ _ _ _ _ _)
      | (with_reducible exact ih3 _ _ _ _)
      | (with_reducible exact spec_merged.mono _ _)
      | (with_reducible exact LeO.refl _)
      | (with_reducible exact LeO.none _)
      | (with_reducible refine LeO.ite ?_ ?_)
      | (with_reducible refine LeO.bind ?_ (fun _ => ?_))
      | exact ih0 _ _ _ _ _ _ _ _ _ _
      | exact ih1 _ _ _ _ _ _ _ _ _ _ _
      | exact ih2 _ _ _ _ _ _ _ _ _ _ _ _
      | exact ih3 _ _ _ _
      | exact spec_merged.mono _ _
      | exact LeO.none _
      | refine LeO.ite ?_ ?_
      | refine LeO.bind ?_ (fun _ => ?_)
    · intro y0 y1 y2 y3 y4 y5 y6 y7 y8 y9 y10
      unfold spec_Alike.j0
      repeat' first
      | (with_reducible exact ih0 _ _ _ _ _ _ _ _ _ _)
      | (with_reducible exact ih1 _ _ _ _ _ _ _ _ _ _ _)
      | (with_reducible exact ih2 _ _ _ _ _ _ _ _ _ _ _ _)
      | (with_reducible exact ih3 _ _ _ _)
      | (with_reducible exact spec_merged.mono _ _)
      | (with_reducible exact LeO.refl _)
      | (with_reducible exact LeO.none _)
      | (with_reducible refine LeO.ite ?_ ?_)
      | (with_reducible refine LeO.bind ?_ (fun _ => ?_))
      | exact ih0 _ _ _ _ _ _ _ _ _ _
      | exact ih1 _ _ _ _ _ _ _ _ _ _ _
      | exact ih2 _ _ _ _ _ _ _ _ _ _ _ _
      | exact ih3 _ _ _ _
      | exact spec_merged.mono _ _
      | exact LeO.none _
      | refine LeO.ite ?_ ?_
      | refine LeO.bind ?_ (fun _ => ?_)
    · intro y0 y1 y2 y3 y4 y5 y6 y7 y8 y9 y10 y11
      unfold spec_Alike.l0
      repeat' first
      | (with_reducible exact ih0 _ _ _ _ _ _ _ _ _ _)
      | (with_reducible exact ih1 _ _ _ _ _ _ _ _ _ _ _)
      | (with_reducible exact ih2 _ _ _ _ _ _ _ _ _ _ _ _)
      | (with_reducible exact ih3 _ _ _ _)
      | (with_reducible exact spec_merged.mono _ _)
      | (with_reducible exact LeO.refl _)
      | (with_reducible exact LeO.none _)
      | (with_reducible refine LeO.ite ?_ ?_)
      | (with_reducible refine LeO.bind ?_ (fun _ => ?_))
      | exact ih0 _ _ _ _ _ _ _ _ _ _
      | exact ih1 _ _ _ _ _ _ _ _ _ _ _
      | exact ih2 _ _ _ _ _ _ _ _ _ _ _ _
      | exact ih3 _ _ _ _
      | exact spec_merged.mono _ _
      | exact LeO.none _
      | refine LeO.ite ?_ ?_
      | refine LeO.bind ?_ (fun _ => ?_)
    · intro y0 y1 y2 y3
      unfold spec_Alike.l1
      repeat' first
      | (with_reducible exact ih0 _ _ _ _ _ _ _ _ _ _)
      | (with_reducible exact ih1 _ _ _ _ _ _ _ _ _ _ _)
      | (with_reducible exact ih2 _ _ _ _ _ _ _ _ _ _ _ _)
      | (with_reducible exact ih3 _ _ _ _)
      | (with_reducible exact spec_merged.mono _ _)
      | (with_reducible exact LeO.refl _)
      | (with_reducible exact LeO.none _)
      | (with_reducible refine LeO.ite ?_ ?_)
      | (with_reducible refine LeO.bind ?_ (fun _ => ?_))
      | exact ih0 _ _ _ _ _ _ _ _ _ _
      | exact ih1 _ _ _ _ _ _ _ _ _ _ _
      | exact ih2 _ _ _ _ _ _ _ _ _ _ _ _
      | exact ih3 _ _ _ _
      | exact spec_merged.mono _ _
      | exact LeO.none _
      | refine LeO.ite ?_ ?_
      | refine LeO.bind ?_ (fun _ => ?_)
theorem spec_Alike.mono : ∀ a0 a1 a2 a3 a4 a5 a6 a7 a8 a9 k, LeO (spec_Alike.f k a0 a1 a2 a3 a4 a5 a6 a7 a8 a9) (spec_Alike.f (k + 1) a0 a1 a2 a3 a4 a5 a6 a7 a8 a9) := by
  intro a0 a1 a2 a3 a4 a5 a6 a7 a8 a9 k
  obtain ⟨ih0, ih1, ih2, ih3⟩ := spec_Alike.mono_l k
  exact ih0 a0 a1 a2 a3 a4 a5 a6 a7 a8 a9
def spec_Alike.T6 : Bool × List (List Nat × List Nat) := (true, [([], []), ([0], [0]), ([], []), ([1, 2], [1, 2]), ([3], [3]), ([], []), ([5], [5]), ([], []), ([6, 7], [6, 7]), ([8], [8]), ([4, 9], [4, 9])])
def spec_Alike.B6 : List Nat := [0, 1, 0, 7, 15, 0, 32, 0, 224, 480, 1023]
theorem spec_Alike.tab6 : rtab .any (opsOf Tryd.f20 6) = spec_Alike.T6 := by kernel_rfl
theorem spec_Alike.bits6 : waitsOk spec_Alike.T6.2 spec_Alike.B6 = true := by kernel_rfl
def spec_Alike.T9 : Bool × List (List Nat × List Nat) := (true, [([], []), ([0], [0]), ([1], [1]), ([], []), ([3], [3]), ([4, 2], [4]), ([2, 5, 0, 1, 2], [2]), ([5, 6, 0, 1, 2, 3, 4, 5, 6], [5])])
def spec_Alike.B9 : List Nat := [0, 1, 3, 0, 8, 31, 63, 127]
theorem spec_Alike.tab9 : rtab .any (opsOf Tryd.f20 9) = spec_Alike.T9 := by kernel_rfl
theorem spec_Alike.bits9 : waitsOk spec_Alike.T9.2 spec_Alike.B9 = true := by kernel_rfl
def spec_Alike.T15 : Bool × List (List Nat × List Nat) := (true, [([], []), ([], []), ([0, 1], [0, 1]), ([2], [2]), ([], []), ([], []), ([4, 5], [4, 5]), ([6], [6]), ([3, 7], [3, 7]), ([8], [8])])
def spec_Alike.B15 : List Nat := [0, 0, 3, 7, 0, 0, 48, 112, 255, 511]
theorem spec_Alike.tab15 : rtab .any (opsOf Tryd.f20 15) = spec_Alike.T15 := by kernel_rfl
theorem spec_Alike.bits15 : waitsOk spec_Alike.T15.2 spec_Alike.B15 = true := by kernel_rfl
set_option maxHeartbeats 8000000 in
set_option maxRecDepth 100000 in
theorem spec_Alike.calls (k : Nat) : ∀ (a0_0 : Int) (a0_1 : ByteArray) (a0_2 : ByteArray) (A0_3 : Option Addr) (c0_3 : Nat) (l0_3 : List (S29)) (A0_4 : Option Addr) (c0_4 : Nat) (l0_4 : List (S25)) (a1_0 : Int) (a1_1 : ByteArray) (a1_2 : ByteArray) (A1_3 : Option Addr) (c1_3 : Nat) (l1_3 : List (S29)) (A1_4 : Option Addr) (c1_4 : Nat) (l1_4 : List (S25)) (r : Bool) (w : World) (hr0_3 : Kd.C k29 w A0_3 l0_3.length l0_3) (hc0_3 : l0_3.length ≤ c0_3) (hr0_4 : Kd.C k25 w A0_4 l0_4.length l0_4) (hc0_4 : l0_4.length ≤ c0_4) (hr1_3 : Kd.C k29 w A1_3 l1_3.length l1_3) (hc1_3 : l1_3.length ≤ c1_3) (hr1_4 : Kd.C k25 w A1_4 l1_4.length l1_4) (hc1_4 : l1_4.length ≤ c1_4) (h : spec_Alike.f k a0_0 a0_1 a0_2 l0_3 l0_4 a1_0 a1_1 a1_2 l1_3 l1_4 = some r),
    Calls Tryd.prog 20 #[.agg #[.int .i64 a0_0, .string a0_1, .string a0_2, .slice A0_3 l0_3.length c0_3, .slice A0_4 l0_4.length c0_4], .agg #[.int .i64 a1_0, .string a1_1, .string a1_2, .slice A1_3 l1_3.length c1_3, .slice A1_4 l1_4.length c1_4]] w fun e w' => e = .returned (.bool r) ∧ Below w.heap.size w w' := by
  induction k using Nat.strongRecOn with
  | _ k ih =>
  intro a0_0 a0_1 a0_2 A0_3 c0_3 l0_3 A0_4 c0_4 l0_4 a1_0 a1_1 a1_2 A1_3 c1_3 l1_3 A1_4 c1_4 l1_4 r w hr0_3 hc0_3 hr0_4 hc0_4 hr1_3 hc1_3 hr1_4 hc1_4 h
  cases k with
  | zero => exact absurd h (by simp [spec_Alike.f])
  | succ k =>
  simp only [spec_Alike.f] at h
  have hu25 := Tryd.underlying25
  have hu29 := Tryd.underlying29
  have HR0_3 := Aside0.mk hr0_3
  have HC0_3 := Aside0.mk hc0_3
  clear hr0_3 hc0_3
  have HR0_4 := Aside0.mk hr0_4
  have HC0_4 := Aside0.mk hc0_4
  clear hr0_4 hc0_4
  have HR1_3 := Aside0.mk hr1_3
  have HC1_3 := Aside0.mk hc1_3
  clear hr1_3 hc1_3
  have HR1_4 := Aside0.mk hr1_4
  have HC1_4 := Aside0.mk hc1_4
  clear hr1_4 hc1_4
  have HB := Aside0.mk (Below.refl w.heap.size w)
  have H : (if a0_0 = a1_0 then (if a0_1.toList = a1_1.toList then (if a0_2.toList = a1_2.toList then (spec_Alike.j0 k ((l0_3.length : Int) != (l1_3.length : Int)) a0_0 a0_1 a0_2 l0_3 l0_4 a1_0 a1_1 a1_2 l1_3 l1_4) else (spec_Alike.j0 k true a0_0 a0_1 a0_2 l0_3 l0_4 a1_0 a1_1 a1_2 l1_3 l1_4)) else (spec_Alike.j0 k true a0_0 a0_1 a0_2 l0_3 l0_4 a1_0 a1_1 a1_2 l1_3 l1_4)) else (spec_Alike.j0 k true a0_0 a0_1 a0_2 l0_3 l0_4 a1_0 a1_1 a1_2 l1_3 l1_4)) = some r := h
  clear h
  have HC3 := Aside0.mk H
  clear H
  go_enter Tryd.func20, Tryd.ntmps20
  go_upto_region 1 with (first | ((with_reducible refine gate_dst (N := 2) rfl ?_); (try (refine gate_guard (by rfl) ?_; dsimp only)); refine box_event ?hg (N := 2) ?hd (cs := #[.int .i64 a0_0, .string a0_1, .string a0_2, .slice A0_3 l0_3.length c0_3, .slice A0_4 l0_4.length c0_4]) (t := 25) ?hr ?_; (case hd => rfl); (case hg => rfl); (case hr => first | (go_simp; done) | (go_simp; rfl)); intro gb148 hg w4 hbox hb; have n0_ := Aside0.mk (below_step (by repeat (first | (with_reducible first | exact HB.out | apply below_alloc | apply pw_below_drewN | apply below_drew1) | exact HB.out)) hb); have n1_ := Aside0.mk (hbox); have n2_ := Aside0.mk ((by rw [hg]; exact (below_size (by repeat (first | (with_reducible first | exact HB.out | apply below_alloc | apply pw_below_drewN | apply below_drew1) | exact HB.out))) : w.heap.size ≤ gb148)); have n3_ := Aside0.mk ((by rw [hg]; exact (below_size (by repeat (first | (with_reducible first | exact HB.out | apply below_alloc | apply pw_below_drewN | apply below_drew1) | exact HB.out))) : w.heap.size ≤ gb148)); clear HB; have HB := n0_; have BK148 := n1_; have GW148 := n2_; have GE148 := n3_; clear n0_ n1_ n2_ n3_; clear hb hbox hg) | ((with_reducible refine gate_dst (N := 3) rfl ?_); (try (refine gate_guard (by rfl) ?_; dsimp only)); refine box_event ?hg (N := 3) ?hd (cs := #[.int .i64 a1_0, .string a1_1, .string a1_2, .slice A1_3 l1_3.length c1_3, .slice A1_4 l1_4.length c1_4]) (t := 25) ?hr ?_; (case hd => rfl); (case hg => rfl); (case hr => first | (go_simp; done) | (go_simp; rfl)); intro gb149 hg w5 hbox hb; have n0_ := Aside0.mk (blk_below (g := gb148) (o := .cells #[.int .i64 a0_0, .string a0_1, .string a0_2, .slice A0_3 l0_3.length c0_3, .slice A0_4 l0_4.length c0_4] 25 (0, 0)) (by (with_reducible repeat (first | refine blk_drewN ?_ _ | refine blk_drew ?_ | refine blk_alloc ?_ _)); exact BK148.out) hb); have n1_ := Aside0.mk (below_step (by repeat (first | (with_reducible first | exact HB.out | apply below_alloc | apply pw_below_drewN | apply below_drew1 | refine below_set ?_ GE148.out) | exact HB.out)) hb); have n2_ := Aside0.mk (hbox); have n3_ := Aside0.mk ((by rw [hg]; exact (below_size (by repeat (first | (with_reducible first | exact HB.out | apply below_alloc | apply pw_below_drewN | apply below_drew1 | refine below_set ?_ GE148.out) | exact HB.out))) : w.heap.size ≤ gb149)); have n4_ := Aside0.mk ((by rw [hg]; exact (below_size (by repeat (first | (with_reducible first | exact HB.out | apply below_alloc | apply pw_below_drewN | apply below_drew1 | refine below_set ?_ GE148.out) | exact HB.out))) : w.heap.size ≤ gb149)); have n5_ := Aside0.mk ((by rw [hg]; exact Nat.ne_of_lt (blk_lt (g := gb148) (o := .cells #[.int .i64 a0_0, .string a0_1, .string a0_2, .slice A0_3 l0_3.length c0_3, .slice A0_4 l0_4.length c0_4] 25 (0, 0)) (by (with_reducible repeat (first | refine blk_drewN ?_ _ | refine blk_drew ?_ | refine blk_alloc ?_ _)); exact BK148.out)) : gb148 ≠ gb149)); have n6_ := Aside0.mk ((by rw [hg]; exact Nat.ne_of_gt (blk_lt (g := gb148) (o := .cells #[.int .i64 a0_0, .string a0_1, .string a0_2, .slice A0_3 l0_3.length c0_3, .slice A0_4 l0_4.length c0_4] 25 (0, 0)) (by (with_reducible repeat (first | refine blk_drewN ?_ _ | refine blk_drew ?_ | refine blk_alloc ?_ _)); exact BK148.out)) : gb149 ≠ gb148)); clear BK148; clear HB; have BK148 := n0_; have HB := n1_; have BK149 := n2_; have GW149 := n3_; have GE149 := n4_; have NB148_149 := n5_; have NB149_148 := n6_; clear n0_ n1_ n2_ n3_ n4_ n5_ n6_; clear hb hbox hg))
  (try simp only [Act.put, List.setIfInBounds_toArray, List.set_cons_zero, List.set_cons_succ])
  go_cut [36] (fun v36 wc => ∃ (kq : Nat) (x36_2 : Bool), v36 = .bool x36_2 ∧ Aside0 (spec_Alike.j0 kq x36_2 a0_0 a0_1 a0_2 l0_3 l0_4 a1_0 a1_1 a1_2 l1_3 l1_4 = some r) ∧ Aside0 (kq ≤ k) ∧ Aside0 (wc.heap[gb148]? = some (.cells #[.int .i64 a0_0, .string a0_1, .string a0_2, (.slice A0_3 l0_3.length c0_3), (.slice A0_4 l0_4.length c0_4)] 25 (0, 0))) ∧ Aside0 (wc.heap[gb149]? = some (.cells #[.int .i64 a1_0, .string a1_1, .string a1_2, (.slice A1_3 l1_3.length c1_3), (.slice A1_4 l1_4.length c1_4)] 25 (0, 0))) ∧ Aside0 (Below w.heap.size w wc))
  case first =>
    have H := HC3.out
    clear HC3
    by_cases c6 : a0_0 = a1_0
    · rw [if_pos c6] at H
      have c6b0 : (a0_0 == a1_0) = true := beq_iff_eq.mpr c6
      have c6b1 : (a0_0 != a1_0) = false := bne_eq_false_iff_eq.mpr c6
      clear c6
      (first | rw [c6b0] | (simp only [i64_w, i32_w]; rw [c6b0]) | skip)
      by_cases c7 : a0_1.toList = a1_1.toList
      · rw [if_pos c7] at H
        have c7b0 : (a0_1.toList == a1_1.toList) = true := beq_iff_eq.mpr c7
        have c7b1 : (a0_1.toList != a1_1.toList) = false := bne_eq_false_iff_eq.mpr c7
        clear c7
        by_cases c8 : a0_2.toList = a1_2.toList
        · rw [if_pos c8] at H
          have c8b0 : (a0_2.toList == a1_2.toList) = true := beq_iff_eq.mpr c8
          have c8b1 : (a0_2.toList != a1_2.toList) = false := bne_eq_false_iff_eq.mpr c8
          clear c8
          have H' := Aside0.mk H
          clear H
          have hnb9 := NB148_149.out
          have hnc9 := NB149_148.out
          have hcz10_0 : w5.cell? ⟨gb148, 0, none⟩ = some (.int .i64 a0_0) := (blk_cell BK148.out 0).trans rfl
          have hcz10_1 : w5.cell? ⟨gb148, 1, none⟩ = some (.string a0_1) := (blk_cell BK148.out 1).trans rfl
          have hcz10_2 : w5.cell? ⟨gb148, 2, none⟩ = some (.string a0_2) := (blk_cell BK148.out 2).trans rfl
          have hcz10_3 : w5.cell? ⟨gb148, 3, none⟩ = some (.slice A0_3 l0_3.length c0_3) := (blk_cell BK148.out 3).trans rfl
          have hcz10_4 : w5.cell? ⟨gb148, 4, none⟩ = some (.slice A0_4 l0_4.length c0_4) := (blk_cell BK148.out 4).trans rfl
          have hfz10_0 := blk_frozen BK148.out 0
          have hfz10_1 := blk_frozen BK148.out 1
          have hfz10_2 := blk_frozen BK148.out 2
          have hfz10_3 := blk_frozen BK148.out 3
          have hfz10_4 := blk_frozen BK148.out 4
          have hcz11_0 : w5.cell? ⟨gb149, 0, none⟩ = some (.int .i64 a1_0) := (blk_cell BK149.out 0).trans rfl
          have hcz11_1 : w5.cell? ⟨gb149, 1, none⟩ = some (.string a1_1) := (blk_cell BK149.out 1).trans rfl
          have hcz11_2 : w5.cell? ⟨gb149, 2, none⟩ = some (.string a1_2) := (blk_cell BK149.out 2).trans rfl
          have hcz11_3 : w5.cell? ⟨gb149, 3, none⟩ = some (.slice A1_3 l1_3.length c1_3) := (blk_cell BK149.out 3).trans rfl
          have hcz11_4 : w5.cell? ⟨gb149, 4, none⟩ = some (.slice A1_4 l1_4.length c1_4) := (blk_cell BK149.out 4).trans rfl
          have hfz11_0 := blk_frozen BK149.out 0
          have hfz11_1 := blk_frozen BK149.out 1
          have hfz11_2 := blk_frozen BK149.out 2
          have hfz11_3 := blk_frozen BK149.out 3
          have hfz11_4 := blk_frozen BK149.out 4
          go_wp2
          go_meet
          case rel => exact ⟨_, (((l0_3.length : Int) != (l1_3.length : Int))), (by first | rfl | (simp; done) | (simp [*]; done)), H', ⟨by first | omega | exact Nat.le_refl _⟩, ⟨by (with_reducible repeat (first | refine blk_drewN ?_ _ | refine blk_drew ?_ | refine blk_alloc ?_ _)); exact BK148.out⟩, ⟨by (with_reducible repeat (first | refine blk_drewN ?_ _ | refine blk_drew ?_ | refine blk_alloc ?_ _)); exact BK149.out⟩, ⟨by repeat (first | (with_reducible first | exact HB.out | apply below_alloc | apply pw_below_drewN | apply below_drew1 | refine below_set ?_ GE148.out | refine below_set ?_ GE149.out) | exact HB.out)⟩⟩
        · rw [if_neg c8] at H
          have c8b0 : (a0_2.toList == a1_2.toList) = false := beq_eq_false_iff_ne.mpr c8
          have c8b1 : (a0_2.toList != a1_2.toList) = true := bne_iff_ne.mpr c8
          have H' := Aside0.mk H
          clear H
          have hnb12 := NB148_149.out
          have hnc12 := NB149_148.out
          have hcz13_0 : w5.cell? ⟨gb148, 0, none⟩ = some (.int .i64 a0_0) := (blk_cell BK148.out 0).trans rfl
          have hcz13_1 : w5.cell? ⟨gb148, 1, none⟩ = some (.string a0_1) := (blk_cell BK148.out 1).trans rfl
          have hcz13_2 : w5.cell? ⟨gb148, 2, none⟩ = some (.string a0_2) := (blk_cell BK148.out 2).trans rfl
          have hcz13_3 : w5.cell? ⟨gb148, 3, none⟩ = some (.slice A0_3 l0_3.length c0_3) := (blk_cell BK148.out 3).trans rfl
          have hcz13_4 : w5.cell? ⟨gb148, 4, none⟩ = some (.slice A0_4 l0_4.length c0_4) := (blk_cell BK148.out 4).trans rfl
          have hfz13_0 := blk_frozen BK148.out 0
          have hfz13_1 := blk_frozen BK148.out 1
          have hfz13_2 := blk_frozen BK148.out 2
          have hfz13_3 := blk_frozen BK148.out 3
          have hfz13_4 := blk_frozen BK148.out 4
          have hcz14_0 : w5.cell? ⟨gb149, 0, none⟩ = some (.int .i64 a1_0) := (blk_cell BK149.out 0).trans rfl
          have hcz14_1 : w5.cell? ⟨gb149, 1, none⟩ = some (.string a1_1) := (blk_cell BK149.out 1).trans rfl
          have hcz14_2 : w5.cell? ⟨gb149, 2, none⟩ = some (.string a1_2) := (blk_cell BK149.out 2).trans rfl
          have hcz14_3 : w5.cell? ⟨gb149, 3, none⟩ = some (.slice A1_3 l1_3.length c1_3) := (blk_cell BK149.out 3).trans rfl
          have hcz14_4 : w5.cell? ⟨gb149, 4, none⟩ = some (.slice A1_4 l1_4.length c1_4) := (blk_cell BK149.out 4).trans rfl
          have hfz14_0 := blk_frozen BK149.out 0
          have hfz14_1 := blk_frozen BK149.out 1
          have hfz14_2 := blk_frozen BK149.out 2
          have hfz14_3 := blk_frozen BK149.out 3
          have hfz14_4 := blk_frozen BK149.out 4
          go_wp2
          go_meet
          case rel => exact ⟨_, (true), (by first | rfl | (simp; done) | (simp [*]; done)), H', ⟨by first | omega | exact Nat.le_refl _⟩, ⟨by (with_reducible repeat (first | refine blk_drewN ?_ _ | refine blk_drew ?_ | refine blk_alloc ?_ _)); exact BK148.out⟩, ⟨by (with_reducible repeat (first | refine blk_drewN ?_ _ | refine blk_drew ?_ | refine blk_alloc ?_ _)); exact BK149.out⟩, ⟨by repeat (first | (with_reducible first | exact HB.out | apply below_alloc | apply pw_below_drewN | apply below_drew1 | refine below_set ?_ GE148.out | refine below_set ?_ GE149.out) | exact HB.out)⟩⟩
      · rw [if_neg c7] at H
        have c7b0 : (a0_1.toList == a1_1.toList) = false := beq_eq_false_iff_ne.mpr c7
        have c7b1 : (a0_1.toList != a1_1.toList) = true := bne_iff_ne.mpr c7
        have H' := Aside0.mk H
        clear H
        have hnb15 := NB148_149.out
        have hnc15 := NB149_148.out
        have hcz16_0 : w5.cell? ⟨gb148, 0, none⟩ = some (.int .i64 a0_0) := (blk_cell BK148.out 0).trans rfl
        have hcz16_1 : w5.cell? ⟨gb148, 1, none⟩ = some (.string a0_1) := (blk_cell BK148.out 1).trans rfl
        have hcz16_2 : w5.cell? ⟨gb148, 2, none⟩ = some (.string a0_2) := (blk_cell BK148.out 2).trans rfl
        have hcz16_3 : w5.cell? ⟨gb148, 3, none⟩ = some (.slice A0_3 l0_3.length c0_3) := (blk_cell BK148.out 3).trans rfl
        have hcz16_4 : w5.cell? ⟨gb148, 4, none⟩ = some (.slice A0_4 l0_4.length c0_4) := (blk_cell BK148.out 4).trans rfl
        have hfz16_0 := blk_frozen BK148.out 0
        have hfz16_1 := blk_frozen BK148.out 1
        have hfz16_2 := blk_frozen BK148.out 2
        have hfz16_3 := blk_frozen BK148.out 3
        have hfz16_4 := blk_frozen BK148.out 4
        have hcz17_0 : w5.cell? ⟨gb149, 0, none⟩ = some (.int .i64 a1_0) := (blk_cell BK149.out 0).trans rfl
        have hcz17_1 : w5.cell? ⟨gb149, 1, none⟩ = some (.string a1_1) := (blk_cell BK149.out 1).trans rfl
        have hcz17_2 : w5.cell? ⟨gb149, 2, none⟩ = some (.string a1_2) := (blk_cell BK149.out 2).trans rfl
        have hcz17_3 : w5.cell? ⟨gb149, 3, none⟩ = some (.slice A1_3 l1_3.length c1_3) := (blk_cell BK149.out 3).trans rfl
        have hcz17_4 : w5.cell? ⟨gb149, 4, none⟩ = some (.slice A1_4 l1_4.length c1_4) := (blk_cell BK149.out 4).trans rfl
        have hfz17_0 := blk_frozen BK149.out 0
        have hfz17_1 := blk_frozen BK149.out 1
        have hfz17_2 := blk_frozen BK149.out 2
        have hfz17_3 := blk_frozen BK149.out 3
        have hfz17_4 := blk_frozen BK149.out 4
        go_wp2
        go_meet
        case rel => exact ⟨_, (true), (by first | rfl | (simp; done) | (simp [*]; done)), H', ⟨by first | omega | exact Nat.le_refl _⟩, ⟨by (with_reducible repeat (first | refine blk_drewN ?_ _ | refine blk_drew ?_ | refine blk_alloc ?_ _)); exact BK148.out⟩, ⟨by (with_reducible repeat (first | refine blk_drewN ?_ _ | refine blk_drew ?_ | refine blk_alloc ?_ _)); exact BK149.out⟩, ⟨by repeat (first | (with_reducible first | exact HB.out | apply below_alloc | apply pw_below_drewN | apply below_drew1 | refine below_set ?_ GE148.out | refine below_set ?_ GE149.out) | exact HB.out)⟩⟩
    · rw [if_neg c6] at H
      have c6b0 : (a0_0 == a1_0) = false := beq_eq_false_iff_ne.mpr c6
      have c6b1 : (a0_0 != a1_0) = true := bne_iff_ne.mpr c6
      (first | rw [c6b0] | (simp only [i64_w, i32_w]; rw [c6b0]) | skip)
      have H' := Aside0.mk H
      clear H
      have hnb18 := NB148_149.out
      have hnc18 := NB149_148.out
      have hcz19_0 : w5.cell? ⟨gb148, 0, none⟩ = some (.int .i64 a0_0) := (blk_cell BK148.out 0).trans rfl
      have hcz19_1 : w5.cell? ⟨gb148, 1, none⟩ = some (.string a0_1) := (blk_cell BK148.out 1).trans rfl
      have hcz19_2 : w5.cell? ⟨gb148, 2, none⟩ = some (.string a0_2) := (blk_cell BK148.out 2).trans rfl
      have hcz19_3 : w5.cell? ⟨gb148, 3, none⟩ = some (.slice A0_3 l0_3.length c0_3) := (blk_cell BK148.out 3).trans rfl
      have hcz19_4 : w5.cell? ⟨gb148, 4, none⟩ = some (.slice A0_4 l0_4.length c0_4) := (blk_cell BK148.out 4).trans rfl
      have hfz19_0 := blk_frozen BK148.out 0
      have hfz19_1 := blk_frozen BK148.out 1
      have hfz19_2 := blk_frozen BK148.out 2
      have hfz19_3 := blk_frozen BK148.out 3
      have hfz19_4 := blk_frozen BK148.out 4
      have hcz20_0 : w5.cell? ⟨gb149, 0, none⟩ = some (.int .i64 a1_0) := (blk_cell BK149.out 0).trans rfl
      have hcz20_1 : w5.cell? ⟨gb149, 1, none⟩ = some (.string a1_1) := (blk_cell BK149.out 1).trans rfl
      have hcz20_2 : w5.cell? ⟨gb149, 2, none⟩ = some (.string a1_2) := (blk_cell BK149.out 2).trans rfl
      have hcz20_3 : w5.cell? ⟨gb149, 3, none⟩ = some (.slice A1_3 l1_3.length c1_3) := (blk_cell BK149.out 3).trans rfl
      have hcz20_4 : w5.cell? ⟨gb149, 4, none⟩ = some (.slice A1_4 l1_4.length c1_4) := (blk_cell BK149.out 4).trans rfl
      have hfz20_0 := blk_frozen BK149.out 0
      have hfz20_1 := blk_frozen BK149.out 1
      have hfz20_2 := blk_frozen BK149.out 2
      have hfz20_3 := blk_frozen BK149.out 3
      have hfz20_4 := blk_frozen BK149.out 4
      go_wp2
      go_meet
      case rel => exact ⟨_, (true), (by first | rfl | (simp; done) | (simp [*]; done)), H', ⟨by first | omega | exact Nat.le_refl _⟩, ⟨by (with_reducible repeat (first | refine blk_drewN ?_ _ | refine blk_drew ?_ | refine blk_alloc ?_ _)); exact BK148.out⟩, ⟨by (with_reducible repeat (first | refine blk_drewN ?_ _ | refine blk_drew ?_ | refine blk_alloc ?_ _)); exact BK149.out⟩, ⟨by repeat (first | (with_reducible first | exact HB.out | apply below_alloc | apply pw_below_drewN | apply below_drew1 | refine below_set ?_ GE148.out | refine below_set ?_ GE149.out) | exact HB.out)⟩⟩
  case rest =>
    clear HC3
    try clear c1
    try clear c2
    try clear p2
    try clear c6
    try clear c6b0
    try clear c6b1
    try clear c7
    try clear c7b0
    try clear c7b1
    try clear c8
    try clear c8b0
    try clear c8b1
    try clear c9
    try clear c12
    try clear c15
    try clear c18
    try clear c20
    try clear hcz10_0
    try clear hcz10_1
    try clear hcz10_2
    try clear hcz10_3
    try clear hcz10_4
    try clear hcz11_0
    try clear hcz11_1
    try clear hcz11_2
    try clear hcz11_3
    try clear hcz11_4
    try clear hcz13_0
    try clear hcz13_1
    try clear hcz13_2
    try clear hcz13_3
    try clear hcz13_4
    try clear hcz14_0
    try clear hcz14_1
    try clear hcz14_2
    try clear hcz14_3
    try clear hcz14_4
    try clear hcz16_0
    try clear hcz16_1
    try clear hcz16_2
    try clear hcz16_3
    try clear hcz16_4
    try clear hcz17_0
    try clear hcz17_1
    try clear hcz17_2
    try clear hcz17_3
    try clear hcz17_4
    try clear hcz19_0
    try clear hcz19_1
    try clear hcz19_2
    try clear hcz19_3
    try clear hcz19_4
    try clear hcz20_0
    try clear hcz20_1
    try clear hcz20_2
    try clear hcz20_3
    try clear hcz20_4
    try clear hfz10_0
    try clear hfz10_1
    try clear hfz10_2
    try clear hfz10_3
    try clear hfz10_4
    try clear hfz11_0
    try clear hfz11_1
    try clear hfz11_2
    try clear hfz11_3
    try clear hfz11_4
    try clear hfz13_0
    try clear hfz13_1
    try clear hfz13_2
    try clear hfz13_3
    try clear hfz13_4
    try clear hfz14_0
    try clear hfz14_1
    try clear hfz14_2
    try clear hfz14_3
    try clear hfz14_4
    try clear hfz16_0
    try clear hfz16_1
    try clear hfz16_2
    try clear hfz16_3
    try clear hfz16_4
    try clear hfz17_0
    try clear hfz17_1
    try clear hfz17_2
    try clear hfz17_3
    try clear hfz17_4
    try clear hfz19_0
    try clear hfz19_1
    try clear hfz19_2
    try clear hfz19_3
    try clear hfz19_4
    try clear hfz20_0
    try clear hfz20_1
    try clear hfz20_2
    try clear hfz20_3
    try clear hfz20_4
    obtain ⟨kq, x36_2, rfl, HA, HJ2, BK148, BK149, HB⟩ := hcut
    cases kq with
    | zero => exact absurd HA.out (by simp [spec_Alike.j0])
    | succ kj2 =>
      have H := HA.out
      clear HA
      simp only [spec_Alike.j0] at H
      by_cases c21 : x36_2 = true
      · subst c21
        have H1 : (some false) = some r := by rw [if_pos rfl] at H; exact H
        clear H
        have H := H1
        clear H1
        obtain rfl := Option.some.inj H
        go_wp2
        go_ret
        exact ⟨by first | rfl | (simp [errW_none, errW_some] <;> rfl) | (simp [*, errW_none, errW_some] <;> rfl), by repeat (first | (with_reducible first | exact HB.out | apply below_alloc | apply pw_below_drewN | apply below_drew1 | refine below_set ?_ GE148.out | refine below_set ?_ GE149.out) | exact HB.out)⟩
      · replace c21 := Bool.eq_false_iff.mpr c21
        subst c21
        have H1 : (spec_Alike.l0 kj2 (l0_3.length : Int) 0 a0_0 a0_1 a0_2 l0_3 l0_4 a1_0 a1_1 a1_2 l1_3 l1_4) = some r := by rw [if_neg (show ¬ (false = true) by decide)] at H; exact H
        clear H
        have H := H1
        clear H1
        have H' := Aside0.mk H
        clear H
        have hnb22 := NB148_149.out
        have hnc22 := NB149_148.out
        have hcz23_0 : wc.cell? ⟨gb148, 0, none⟩ = some (.int .i64 a0_0) := (blk_cell BK148.out 0).trans rfl
        have hcz23_1 : wc.cell? ⟨gb148, 1, none⟩ = some (.string a0_1) := (blk_cell BK148.out 1).trans rfl
        have hcz23_2 : wc.cell? ⟨gb148, 2, none⟩ = some (.string a0_2) := (blk_cell BK148.out 2).trans rfl
        have hcz23_3 : wc.cell? ⟨gb148, 3, none⟩ = some (.slice A0_3 l0_3.length c0_3) := (blk_cell BK148.out 3).trans rfl
        have hcz23_4 : wc.cell? ⟨gb148, 4, none⟩ = some (.slice A0_4 l0_4.length c0_4) := (blk_cell BK148.out 4).trans rfl
        have hfz23_0 := blk_frozen BK148.out 0
        have hfz23_1 := blk_frozen BK148.out 1
        have hfz23_2 := blk_frozen BK148.out 2
        have hfz23_3 := blk_frozen BK148.out 3
        have hfz23_4 := blk_frozen BK148.out 4
        go_wp2
        go_loopg [40] kj2 (fun kq v40 w' => ∃ (x40_2 : Int), v40 = .int .i64 x40_2 ∧ Aside0 (spec_Alike.l0 kq (l0_3.length : Int) x40_2 a0_0 a0_1 a0_2 l0_3 l0_4 a1_0 a1_1 a1_2 l1_3 l1_4 = some r) ∧ Aside0 (kq ≤ kj2) ∧ Aside0 (w'.heap[gb148]? = some (.cells #[.int .i64 a0_0, .string a0_1, .string a0_2, (.slice A0_3 l0_3.length c0_3), (.slice A0_4 l0_4.length c0_4)] 25 (0, 0))) ∧ Aside0 (w'.heap[gb149]? = some (.cells #[.int .i64 a1_0, .string a1_1, .string a1_2, (.slice A1_3 l1_3.length c1_3), (.slice A1_4 l1_4.length c1_4)] 25 (0, 0))) ∧ Aside0 (Below w.heap.size w w'))
        case atStart => exact ⟨(0), (by first | rfl | (simp; done) | (simp [*]; done)), H', ⟨Nat.le_refl _⟩, ⟨by (with_reducible repeat (first | refine blk_drewN ?_ _ | refine blk_drew ?_ | refine blk_alloc ?_ _)); exact BK148.out⟩, ⟨by (with_reducible repeat (first | refine blk_drewN ?_ _ | refine blk_drew ?_ | refine blk_alloc ?_ _)); exact BK149.out⟩, ⟨by repeat (first | (with_reducible first | exact HB.out | apply below_alloc | apply pw_below_drewN | apply below_drew1 | refine below_set ?_ GE148.out | refine below_set ?_ GE149.out) | exact HB.out)⟩⟩
        case round =>
          clear H'
          try clear c1
          try clear c2
          try clear p2
          try clear c6
          try clear c6b0
          try clear c6b1
          try clear c7
          try clear c7b0
          try clear c7b1
          try clear c8
          try clear c8b0
          try clear c8b1
          try clear c9
          try clear c12
          try clear c15
          try clear c18
          try clear c20
          try clear c21
          try clear c22
          try clear hcz10_0
          try clear hcz10_1
          try clear hcz10_2
          try clear hcz10_3
          try clear hcz10_4
          try clear hcz11_0
          try clear hcz11_1
          try clear hcz11_2
          try clear hcz11_3
          try clear hcz11_4
          try clear hcz13_0
          try clear hcz13_1
          try clear hcz13_2
          try clear hcz13_3
          try clear hcz13_4
          try clear hcz14_0
          try clear hcz14_1
          try clear hcz14_2
          try clear hcz14_3
          try clear hcz14_4
          try clear hcz16_0
          try clear hcz16_1
          try clear hcz16_2
          try clear hcz16_3
          try clear hcz16_4
          try clear hcz17_0
          try clear hcz17_1
          try clear hcz17_2
          try clear hcz17_3
          try clear hcz17_4
          try clear hcz19_0
          try clear hcz19_1
          try clear hcz19_2
          try clear hcz19_3
          try clear hcz19_4
          try clear hcz20_0
          try clear hcz20_1
          try clear hcz20_2
          try clear hcz20_3
          try clear hcz20_4
          try clear hcz23_0
          try clear hcz23_1
          try clear hcz23_2
          try clear hcz23_3
          try clear hcz23_4
          try clear hfz10_0
          try clear hfz10_1
          try clear hfz10_2
          try clear hfz10_3
          try clear hfz10_4
          try clear hfz11_0
          try clear hfz11_1
          try clear hfz11_2
          try clear hfz11_3
          try clear hfz11_4
          try clear hfz13_0
          try clear hfz13_1
          try clear hfz13_2
          try clear hfz13_3
          try clear hfz13_4
          try clear hfz14_0
          try clear hfz14_1
          try clear hfz14_2
          try clear hfz14_3
          try clear hfz14_4
          try clear hfz16_0
          try clear hfz16_1
          try clear hfz16_2
          try clear hfz16_3
          try clear hfz16_4
          try clear hfz17_0
          try clear hfz17_1
          try clear hfz17_2
          try clear hfz17_3
          try clear hfz17_4
          try clear hfz19_0
          try clear hfz19_1
          try clear hfz19_2
          try clear hfz19_3
          try clear hfz19_4
          try clear hfz20_0
          try clear hfz20_1
          try clear hfz20_2
          try clear hfz20_3
          try clear hfz20_4
          try clear hfz23_0
          try clear hfz23_1
          try clear hfz23_2
          try clear hfz23_3
          try clear hfz23_4
          try clear p2
          obtain ⟨x40_2, rfl, HA, HK2, BK148, BK149, HB⟩ := hrel
          cases gk with
          | zero => exact absurd HA.out (by simp [spec_Alike.l0])
          | succ k2 =>
            have H := HA.out
            clear HA
            simp only [spec_Alike.l0] at H
            by_cases c24 : x40_2 < (l0_3.length : Int)
            · rw [if_pos c24] at H
              have c24b0 : decide (x40_2 < (l0_3.length : Int)) = true := decide_eq_true c24
              clear c24
              by_cases c25 : 0 ≤ x40_2
              · rw [if_pos c25] at H
                have c25b0 : decide (0 ≤ x40_2) = true := decide_eq_true c25
                clear c25
                by_cases c26 : x40_2 < (l0_3.length : Int)
                · rw [if_pos c26] at H
                  have c26b0 : decide (x40_2 < (l0_3.length : Int)) = true := decide_eq_true c26
                  clear c26
                  by_cases c27 : x40_2 < (l1_3.length : Int)
                  · rw [if_pos c27] at H
                    have c27b0 : decide (x40_2 < (l1_3.length : Int)) = true := decide_eq_true c27
                    clear c27
                    by_cases c28 : (!((((rd_T29 l0_3 x40_2).f0).toList) == (((rd_T29 l1_3 x40_2).f0).toList)) || (!((((rd_T29 l0_3 x40_2).f1).toList) == (((rd_T29 l1_3 x40_2).f1).toList)))) = true
                    · rw [if_pos c28] at H
                      have c28b0 : (!((((rd_T29 l0_3 x40_2).f0).toList) == (((rd_T29 l1_3 x40_2).f0).toList)) || (!((((rd_T29 l0_3 x40_2).f1).toList) == (((rd_T29 l1_3 x40_2).f1).toList)))) = true := c28
                      clear c28
                      obtain rfl := Option.some.inj H
                      try go_wp2
                      have n0_ := Aside0.mk (blk_drew BK148.out)
                      have n1_ := Aside0.mk (blk_drew BK149.out)
                      have n2_ := Aside0.mk (below_drew1 HB.out)
                      clear BK148
                      clear BK149
                      clear HB
                      have BK148 := n0_
                      have BK149 := n1_
                      have HB := n2_
                      clear n0_ n1_ n2_
                      have p150 : 0 ≤ (x40_2 : Int) := of_decide_eq_true (by first | (with_reducible assumption) | assumption)
                      have q150 : x40_2 < (l0_3.length : Int) := of_decide_eq_true (by first | (with_reducible assumption) | assumption)
                      obtain ⟨ad150, e150, hx150_0, hx150_1⟩ := at_T29 HR0_3.out x40_2 p150 q150
                      have hw150_1 := hx150_1
                      have hw150_0 := hx150_0
                      cases e150
                      replace hx150_0 := (HB.out.cell (World.block_lt_of_cell? w _ hx150_0)).trans hx150_0
                      replace hx150_1 := (HB.out.cell (World.block_lt_of_cell? w _ hx150_1)).trans hx150_1
                      replace p150 := eq_true p150
                      replace q150 := eq_true q150
                      have p151 : 0 ≤ (x40_2 : Int) := of_decide_eq_true (by first | (with_reducible assumption) | assumption)
                      have q151 : x40_2 < (l1_3.length : Int) := of_decide_eq_true (by first | (with_reducible assumption) | assumption)
                      obtain ⟨ad151, e151, hx151_0, hx151_1⟩ := at_T29 HR1_3.out x40_2 p151 q151
                      have hw151_1 := hx151_1
                      have hw151_0 := hx151_0
                      cases e151
                      replace hx151_0 := (HB.out.cell (World.block_lt_of_cell? w _ hx151_0)).trans hx151_0
                      replace hx151_1 := (HB.out.cell (World.block_lt_of_cell? w _ hx151_1)).trans hx151_1
                      replace p151 := eq_true p151
                      replace q151 := eq_true q151
                      refine start_ (n := 11) (S := fun w' => w'.cell? ⟨gb148, 0, none⟩ = some (.int .i64 a0_0) ∧ w'.cell? ⟨gb148, 1, none⟩ = some (.string a0_1) ∧ w'.cell? ⟨gb148, 2, none⟩ = some (.string a0_2) ∧ w'.cell? ⟨gb148, 3, none⟩ = some (.slice (some ad150) l0_3.length c0_3) ∧ w'.cell? ⟨gb148, 4, none⟩ = some (.slice A0_4 l0_4.length c0_4) ∧ w'.cell? ⟨gb149, 0, none⟩ = some (.int .i64 a1_0) ∧ w'.cell? ⟨gb149, 1, none⟩ = some (.string a1_1) ∧ w'.cell? ⟨gb149, 2, none⟩ = some (.string a1_2) ∧ w'.cell? ⟨gb149, 3, none⟩ = some (.slice (some ad151) l1_3.length c1_3) ∧ w'.cell? ⟨gb149, 4, none⟩ = some (.slice A1_4 l1_4.length c1_4) ∧ w'.cell? (ad150.add ((x40_2).toNat * 2)) = some (.string ((rd_T29 l0_3 x40_2).f0)) ∧ w'.cell? ⟨(ad150.add ((x40_2).toNat * 2)).block, (ad150.add ((x40_2).toNat * 2)).off + 1, none⟩ = some (.string ((rd_T29 l0_3 x40_2).f1)) ∧ w'.cell? (ad151.add ((x40_2).toNat * 2)) = some (.string ((rd_T29 l1_3 x40_2).f0)) ∧ w'.cell? ⟨(ad151.add ((x40_2).toNat * 2)).block, (ad151.add ((x40_2).toNat * 2)).off + 1, none⟩ = some (.string ((rd_T29 l1_3 x40_2).f1))) (ds := []) #[false, false, false, false, false, false, false, false, false, false, false] (by kernel_rfl) rfl rfl ⟨(blk_cell BK148.out 0).trans rfl, (blk_cell BK148.out 1).trans rfl, (blk_cell BK148.out 2).trans rfl, (blk_cell BK148.out 3).trans rfl, (blk_cell BK148.out 4).trans rfl, (blk_cell BK149.out 0).trans rfl, (blk_cell BK149.out 1).trans rfl, (blk_cell BK149.out 2).trans rfl, (blk_cell BK149.out 3).trans rfl, (blk_cell BK149.out 4).trans rfl, ((HB.out.cell (World.block_lt_of_cell? w _ hw150_0)).trans hw150_0), ((HB.out.cell (World.block_lt_of_cell? w _ hw150_1)).trans hw150_1), ((HB.out.cell (World.block_lt_of_cell? w _ hw151_0)).trans hw151_0), ((HB.out.cell (World.block_lt_of_cell? w _ hw151_1)).trans hw151_1)⟩ (fun hHeld => ?_); refine with_tabW spec_Alike.tab6 spec_Alike.bits6 (fun HT_ HW_ => ?_)
                      generalize wr.drew = w29 at BK148 BK149 HB hx150_0 hx150_1 hx151_0 hx151_1 hHeld ⊢
                      refine pure_ (i := 0) (N := some 43) (v := ?_) (a' := ?_) #[true, false, false, false, false, false, false, false, false, false, false] rfl rfl (any_of HT_.out (by kernel_rfl)) (fun _ _ _ h => h) (Or.inl ⟨by rfl, ?_⟩) ?_ ?_
                      rotate_left
                      · intro w'
                        go_simp
                        with_reducible rfl
                      rotate_left
                      · simp only [Act.put, List.setIfInBounds_toArray, List.set_cons_zero, List.set_cons_succ, i64_w, i32_w]
                        rfl
                      refine pure_ (i := 2) (N := some 45) (v := ?_) (a' := ?_) #[true, false, true, false, false, false, false, false, false, false, false] rfl rfl (any_of HT_.out (by kernel_rfl)) (fun _ _ _ h => h) (Or.inl ⟨by rfl, ?_⟩) ?_ ?_
                      rotate_left
                      · intro w'
                        go_simp
                        with_reducible rfl
                      rotate_left
                      · simp only [Act.put, List.setIfInBounds_toArray, List.set_cons_zero, List.set_cons_succ, i64_w, i32_w]
                        rfl
                      refine pure_ (i := 5) (N := some 48) (v := ?_) (a' := ?_) #[true, false, true, false, false, true, false, false, false, false, false] rfl rfl (any_of HT_.out (by kernel_rfl)) (fun _ _ _ h => h) (Or.inl ⟨by rfl, ?_⟩) ?_ ?_
                      rotate_left
                      · intro w'
                        go_simp
                        with_reducible rfl
                      rotate_left
                      · simp only [Act.put, List.setIfInBounds_toArray, List.set_cons_zero, List.set_cons_succ, i64_w, i32_w]
                        rfl
                      refine pure_ (i := 7) (N := some 50) (v := ?_) (a' := ?_) #[true, false, true, false, false, true, false, true, false, false, false] rfl rfl (any_of HT_.out (by kernel_rfl)) (fun _ _ _ h => h) (Or.inl ⟨by rfl, ?_⟩) ?_ ?_
                      rotate_left
                      · intro w'
                        go_simp
                        with_reducible rfl
                      rotate_left
                      · simp only [Act.put, List.setIfInBounds_toArray, List.set_cons_zero, List.set_cons_succ, i64_w, i32_w]
                        rfl
                      refine take_ (i := 1) (N := some 44) (v := ?_) (a' := ?_) #[true, true, true, false, false, true, false, true, false, false, false] rfl rfl (take_ofW HT_.out HW_.out (by kernel_rfl)) (fun _ _ _ h => h) (Or.inl ⟨by rfl, ?_⟩) hHeld ?_ ?_
                      rotate_left
                      · rintro w' ⟨s0, s1, s2, s3, s4, s5, s6, s7, s8, s9, s10, s11, s12, s13⟩
                        go_simp
                        with_reducible rfl
                      rotate_left
                      · simp only [Act.put, List.setIfInBounds_toArray, List.set_cons_zero, List.set_cons_succ, i64_w, i32_w]
                        rfl
                      refine pure_ (i := 3) (N := some 46) (v := ?_) (a' := ?_) #[true, true, true, true, false, true, false, true, false, false, false] rfl rfl (any_of HT_.out (by kernel_rfl)) (fun _ _ _ h => h) (Or.inl ⟨by rfl, ?_⟩) ?_ ?_
                      rotate_left
                      · intro w'
                        go_simp
                        with_reducible rfl
                      rotate_left
                      · simp only [Act.put, List.setIfInBounds_toArray, List.set_cons_zero, List.set_cons_succ, i64_w, i32_w]
                        rfl
                      refine take_ (i := 4) (N := some 47) (v := ?_) (a' := ?_) #[true, true, true, true, true, true, false, true, false, false, false] rfl rfl (take_ofW HT_.out HW_.out (by kernel_rfl)) (fun _ _ _ h => h) (Or.inl ⟨by rfl, ?_⟩) hHeld ?_ ?_
                      rotate_left
                      · rintro w' ⟨s0, s1, s2, s3, s4, s5, s6, s7, s8, s9, s10, s11, s12, s13⟩
                        go_simp
                        with_reducible rfl
                      rotate_left
                      · simp only [Act.put, List.setIfInBounds_toArray, List.set_cons_zero, List.set_cons_succ, i64_w, i32_w]
                        rfl
                      refine take_ (i := 6) (N := some 49) (v := ?_) (a' := ?_) #[true, true, true, true, true, true, true, true, false, false, false] rfl rfl (take_ofW HT_.out HW_.out (by kernel_rfl)) (fun _ _ _ h => h) (Or.inl ⟨by rfl, ?_⟩) hHeld ?_ ?_
                      rotate_left
                      · rintro w' ⟨s0, s1, s2, s3, s4, s5, s6, s7, s8, s9, s10, s11, s12, s13⟩
                        go_simp
                        with_reducible rfl
                      rotate_left
                      · simp only [Act.put, List.setIfInBounds_toArray, List.set_cons_zero, List.set_cons_succ, i64_w, i32_w]
                        rfl
                      refine pure_ (i := 8) (N := some 51) (v := ?_) (a' := ?_) #[true, true, true, true, true, true, true, true, true, false, false] rfl rfl (any_of HT_.out (by kernel_rfl)) (fun _ _ _ h => h) (Or.inl ⟨by rfl, ?_⟩) ?_ ?_
                      rotate_left
                      · intro w'
                        go_simp
                        with_reducible rfl
                      rotate_left
                      · simp only [Act.put, List.setIfInBounds_toArray, List.set_cons_zero, List.set_cons_succ, i64_w, i32_w]
                        rfl
                      refine take_ (i := 9) (N := some 52) (v := ?_) (a' := ?_) #[true, true, true, true, true, true, true, true, true, true, false] rfl rfl (take_ofW HT_.out HW_.out (by kernel_rfl)) (fun _ _ _ h => h) (Or.inl ⟨by rfl, ?_⟩) hHeld ?_ ?_
                      rotate_left
                      · rintro w' ⟨s0, s1, s2, s3, s4, s5, s6, s7, s8, s9, s10, s11, s12, s13⟩
                        go_simp
                        with_reducible rfl
                      rotate_left
                      · simp only [Act.put, List.setIfInBounds_toArray, List.set_cons_zero, List.set_cons_succ, i64_w, i32_w]
                        rfl
                      refine pure_ (i := 10) (N := some 53) (v := ?_) (a' := ?_) #[true, true, true, true, true, true, true, true, true, true, true] rfl rfl (any_of HT_.out (by kernel_rfl)) (fun _ _ _ h => h) (Or.inl ⟨by rfl, ?_⟩) ?_ ?_
                      rotate_left
                      · intro w'
                        go_simp
                        with_reducible rfl
                      rotate_left
                      · simp only [Act.put, List.setIfInBounds_toArray, List.set_cons_zero, List.set_cons_succ, i64_w, i32_w]
                        rfl
                      refine done_ (done_of HT_.out (by kernel_rfl)) ?_
                      try go_wp2
                      go_ret
                      exact ⟨by first | rfl | (simp [errW_none, errW_some] <;> rfl) | (simp [*, errW_none, errW_some] <;> rfl), by repeat (first | (with_reducible first | exact HB.out | apply below_alloc | apply pw_below_drewN | apply below_drew1 | refine below_set ?_ GE148.out | refine below_set ?_ GE149.out) | exact HB.out)⟩
                    · rw [if_neg c28] at H
                      have c28b0 : (!((((rd_T29 l0_3 x40_2).f0).toList) == (((rd_T29 l1_3 x40_2).f0).toList)) || (!((((rd_T29 l0_3 x40_2).f1).toList) == (((rd_T29 l1_3 x40_2).f1).toList)))) = false := by simpa using c28
                      clear c28
                      have H' := Aside0.mk H
                      clear H
                      try go_wp2
                      have n0_ := Aside0.mk (blk_drew BK148.out)
                      have n1_ := Aside0.mk (blk_drew BK149.out)
                      have n2_ := Aside0.mk (below_drew1 HB.out)
                      clear BK148
                      clear BK149
                      clear HB
                      have BK148 := n0_
                      have BK149 := n1_
                      have HB := n2_
                      clear n0_ n1_ n2_
                      have p150 : 0 ≤ (x40_2 : Int) := of_decide_eq_true (by first | (with_reducible assumption) | assumption)
                      have q150 : x40_2 < (l0_3.length : Int) := of_decide_eq_true (by first | (with_reducible assumption) | assumption)
                      obtain ⟨ad150, e150, hx150_0, hx150_1⟩ := at_T29 HR0_3.out x40_2 p150 q150
                      have hw150_1 := hx150_1
                      have hw150_0 := hx150_0
                      cases e150
                      replace hx150_0 := (HB.out.cell (World.block_lt_of_cell? w _ hx150_0)).trans hx150_0
                      replace hx150_1 := (HB.out.cell (World.block_lt_of_cell? w _ hx150_1)).trans hx150_1
                      replace p150 := eq_true p150
                      replace q150 := eq_true q150
                      have p151 : 0 ≤ (x40_2 : Int) := of_decide_eq_true (by first | (with_reducible assumption) | assumption)
                      have q151 : x40_2 < (l1_3.length : Int) := of_decide_eq_true (by first | (with_reducible assumption) | assumption)
                      obtain ⟨ad151, e151, hx151_0, hx151_1⟩ := at_T29 HR1_3.out x40_2 p151 q151
                      have hw151_1 := hx151_1
                      have hw151_0 := hx151_0
                      cases e151
                      replace hx151_0 := (HB.out.cell (World.block_lt_of_cell? w _ hx151_0)).trans hx151_0
                      replace hx151_1 := (HB.out.cell (World.block_lt_of_cell? w _ hx151_1)).trans hx151_1
                      replace p151 := eq_true p151
                      replace q151 := eq_true q151
                      refine start_ (n := 11) (S := fun w' => w'.cell? ⟨gb148, 0, none⟩ = some (.int .i64 a0_0) ∧ w'.cell? ⟨gb148, 1, none⟩ = some (.string a0_1) ∧ w'.cell? ⟨gb148, 2, none⟩ = some (.string a0_2) ∧ w'.cell? ⟨gb148, 3, none⟩ = some (.slice (some ad150) l0_3.length c0_3) ∧ w'.cell? ⟨gb148, 4, none⟩ = some (.slice A0_4 l0_4.length c0_4) ∧ w'.cell? ⟨gb149, 0, none⟩ = some (.int .i64 a1_0) ∧ w'.cell? ⟨gb149, 1, none⟩ = some (.string a1_1) ∧ w'.cell? ⟨gb149, 2, none⟩ = some (.string a1_2) ∧ w'.cell? ⟨gb149, 3, none⟩ = some (.slice (some ad151) l1_3.length c1_3) ∧ w'.cell? ⟨gb149, 4, none⟩ = some (.slice A1_4 l1_4.length c1_4) ∧ w'.cell? (ad150.add ((x40_2).toNat * 2)) = some (.string ((rd_T29 l0_3 x40_2).f0)) ∧ w'.cell? ⟨(ad150.add ((x40_2).toNat * 2)).block, (ad150.add ((x40_2).toNat * 2)).off + 1, none⟩ = some (.string ((rd_T29 l0_3 x40_2).f1)) ∧ w'.cell? (ad151.add ((x40_2).toNat * 2)) = some (.string ((rd_T29 l1_3 x40_2).f0)) ∧ w'.cell? ⟨(ad151.add ((x40_2).toNat * 2)).block, (ad151.add ((x40_2).toNat * 2)).off + 1, none⟩ = some (.string ((rd_T29 l1_3 x40_2).f1))) (ds := []) #[false, false, false, false, false, false, false, false, false, false, false] (by kernel_rfl) rfl rfl ⟨(blk_cell BK148.out 0).trans rfl, (blk_cell BK148.out 1).trans rfl, (blk_cell BK148.out 2).trans rfl, (blk_cell BK148.out 3).trans rfl, (blk_cell BK148.out 4).trans rfl, (blk_cell BK149.out 0).trans rfl, (blk_cell BK149.out 1).trans rfl, (blk_cell BK149.out 2).trans rfl, (blk_cell BK149.out 3).trans rfl, (blk_cell BK149.out 4).trans rfl, ((HB.out.cell (World.block_lt_of_cell? w _ hw150_0)).trans hw150_0), ((HB.out.cell (World.block_lt_of_cell? w _ hw150_1)).trans hw150_1), ((HB.out.cell (World.block_lt_of_cell? w _ hw151_0)).trans hw151_0), ((HB.out.cell (World.block_lt_of_cell? w _ hw151_1)).trans hw151_1)⟩ (fun hHeld => ?_); refine with_tabW spec_Alike.tab6 spec_Alike.bits6 (fun HT_ HW_ => ?_)
                      generalize wr.drew = w30 at BK148 BK149 HB hx150_0 hx150_1 hx151_0 hx151_1 hHeld ⊢
                      refine pure_ (i := 0) (N := some 43) (v := ?_) (a' := ?_) #[true, false, false, false, false, false, false, false, false, false, false] rfl rfl (any_of HT_.out (by kernel_rfl)) (fun _ _ _ h => h) (Or.inl ⟨by rfl, ?_⟩) ?_ ?_
                      rotate_left
                      · intro w'
                        go_simp
                        with_reducible rfl
                      rotate_left
                      · simp only [Act.put, List.setIfInBounds_toArray, List.set_cons_zero, List.set_cons_succ, i64_w, i32_w]
                        rfl
                      refine pure_ (i := 2) (N := some 45) (v := ?_) (a' := ?_) #[true, false, true, false, false, false, false, false, false, false, false] rfl rfl (any_of HT_.out (by kernel_rfl)) (fun _ _ _ h => h) (Or.inl ⟨by rfl, ?_⟩) ?_ ?_
                      rotate_left
                      · intro w'
                        go_simp
                        with_reducible rfl
                      rotate_left
                      · simp only [Act.put, List.setIfInBounds_toArray, List.set_cons_zero, List.set_cons_succ, i64_w, i32_w]
                        rfl
                      refine pure_ (i := 5) (N := some 48) (v := ?_) (a' := ?_) #[true, false, true, false, false, true, false, false, false, false, false] rfl rfl (any_of HT_.out (by kernel_rfl)) (fun _ _ _ h => h) (Or.inl ⟨by rfl, ?_⟩) ?_ ?_
                      rotate_left
                      · intro w'
                        go_simp
                        with_reducible rfl
                      rotate_left
                      · simp only [Act.put, List.setIfInBounds_toArray, List.set_cons_zero, List.set_cons_succ, i64_w, i32_w]
                        rfl
                      refine pure_ (i := 7) (N := some 50) (v := ?_) (a' := ?_) #[true, false, true, false, false, true, false, true, false, false, false] rfl rfl (any_of HT_.out (by kernel_rfl)) (fun _ _ _ h => h) (Or.inl ⟨by rfl, ?_⟩) ?_ ?_
                      rotate_left
                      · intro w'
                        go_simp
                        with_reducible rfl
                      rotate_left
                      · simp only [Act.put, List.setIfInBounds_toArray, List.set_cons_zero, List.set_cons_succ, i64_w, i32_w]
                        rfl
                      refine take_ (i := 1) (N := some 44) (v := ?_) (a' := ?_) #[true, true, true, false, false, true, false, true, false, false, false] rfl rfl (take_ofW HT_.out HW_.out (by kernel_rfl)) (fun _ _ _ h => h) (Or.inl ⟨by rfl, ?_⟩) hHeld ?_ ?_
                      rotate_left
                      · rintro w' ⟨s0, s1, s2, s3, s4, s5, s6, s7, s8, s9, s10, s11, s12, s13⟩
                        go_simp
                        with_reducible rfl
                      rotate_left
                      · simp only [Act.put, List.setIfInBounds_toArray, List.set_cons_zero, List.set_cons_succ, i64_w, i32_w]
                        rfl
                      refine pure_ (i := 3) (N := some 46) (v := ?_) (a' := ?_) #[true, true, true, true, false, true, false, true, false, false, false] rfl rfl (any_of HT_.out (by kernel_rfl)) (fun _ _ _ h => h) (Or.inl ⟨by rfl, ?_⟩) ?_ ?_
                      rotate_left
                      · intro w'
                        go_simp
                        with_reducible rfl
                      rotate_left
                      · simp only [Act.put, List.setIfInBounds_toArray, List.set_cons_zero, List.set_cons_succ, i64_w, i32_w]
                        rfl
                      refine take_ (i := 4) (N := some 47) (v := ?_) (a' := ?_) #[true, true, true, true, true, true, false, true, false, false, false] rfl rfl (take_ofW HT_.out HW_.out (by kernel_rfl)) (fun _ _ _ h => h) (Or.inl ⟨by rfl, ?_⟩) hHeld ?_ ?_
                      rotate_left
                      · rintro w' ⟨s0, s1, s2, s3, s4, s5, s6, s7, s8, s9, s10, s11, s12, s13⟩
                        go_simp
                        with_reducible rfl
                      rotate_left
                      · simp only [Act.put, List.setIfInBounds_toArray, List.set_cons_zero, List.set_cons_succ, i64_w, i32_w]
                        rfl
                      refine take_ (i := 6) (N := some 49) (v := ?_) (a' := ?_) #[true, true, true, true, true, true, true, true, false, false, false] rfl rfl (take_ofW HT_.out HW_.out (by kernel_rfl)) (fun _ _ _ h => h) (Or.inl ⟨by rfl, ?_⟩) hHeld ?_ ?_
                      rotate_left
                      · rintro w' ⟨s0, s1, s2, s3, s4, s5, s6, s7, s8, s9, s10, s11, s12, s13⟩
                        go_simp
                        with_reducible rfl
                      rotate_left
                      · simp only [Act.put, List.setIfInBounds_toArray, List.set_cons_zero, List.set_cons_succ, i64_w, i32_w]
                        rfl
                      refine pure_ (i := 8) (N := some 51) (v := ?_) (a' := ?_) #[true, true, true, true, true, true, true, true, true, false, false] rfl rfl (any_of HT_.out (by kernel_rfl)) (fun _ _ _ h => h) (Or.inl ⟨by rfl, ?_⟩) ?_ ?_
                      rotate_left
                      · intro w'
                        go_simp
                        with_reducible rfl
                      rotate_left
                      · simp only [Act.put, List.setIfInBounds_toArray, List.set_cons_zero, List.set_cons_succ, i64_w, i32_w]
                        rfl
                      refine take_ (i := 9) (N := some 52) (v := ?_) (a' := ?_) #[true, true, true, true, true, true, true, true, true, true, false] rfl rfl (take_ofW HT_.out HW_.out (by kernel_rfl)) (fun _ _ _ h => h) (Or.inl ⟨by rfl, ?_⟩) hHeld ?_ ?_
                      rotate_left
                      · rintro w' ⟨s0, s1, s2, s3, s4, s5, s6, s7, s8, s9, s10, s11, s12, s13⟩
                        go_simp
                        with_reducible rfl
                      rotate_left
                      · simp only [Act.put, List.setIfInBounds_toArray, List.set_cons_zero, List.set_cons_succ, i64_w, i32_w]
                        rfl
                      refine pure_ (i := 10) (N := some 53) (v := ?_) (a' := ?_) #[true, true, true, true, true, true, true, true, true, true, true] rfl rfl (any_of HT_.out (by kernel_rfl)) (fun _ _ _ h => h) (Or.inl ⟨by rfl, ?_⟩) ?_ ?_
                      rotate_left
                      · intro w'
                        go_simp
                        with_reducible rfl
                      rotate_left
                      · simp only [Act.put, List.setIfInBounds_toArray, List.set_cons_zero, List.set_cons_succ, i64_w, i32_w]
                        rfl
                      refine done_ (done_of HT_.out (by kernel_rfl)) ?_
                      try go_wp2
                      go_roundg k2
                      case measure => have := HJ2.out; have := HK2.out; omega
                      case rel => exact ⟨(wrap64 (x40_2 + 1)), (by first | rfl | (simp; done) | (simp [*]; done)), H', ⟨by have := HJ2.out; have := HK2.out; omega⟩, ⟨by (with_reducible repeat (first | refine blk_drewN ?_ _ | refine blk_drew ?_ | refine blk_alloc ?_ _)); exact BK148.out⟩, ⟨by (with_reducible repeat (first | refine blk_drewN ?_ _ | refine blk_drew ?_ | refine blk_alloc ?_ _)); exact BK149.out⟩, ⟨by repeat (first | (with_reducible first | exact HB.out | apply below_alloc | apply pw_below_drewN | apply below_drew1 | refine below_set ?_ GE148.out | refine below_set ?_ GE149.out) | exact HB.out)⟩⟩
                  · rw [if_neg c27] at H
                    exact absurd H (by simp)
                · rw [if_neg c26] at H
                  exact absurd H (by simp)
              · rw [if_neg c25] at H
                exact absurd H (by simp)
            · rw [if_neg c24] at H
              have c24b0 : decide (x40_2 < (l0_3.length : Int)) = false := decide_eq_false c24
              clear c24
              replace H := Option.bind_eq_some_iff.mp H
              obtain ⟨t152, A310, H⟩ := H
              replace H : ((spec_merged.f k2 l1_4).bind fun t155 => (if (t152.length : Int) = (t155.length : Int) then (spec_Alike.l1 k2 t152 t155 (t152.length : Int) 0) else (some false))) = some r := H
              have A31 := Aside0.mk A310
              clear A310
              replace H := Option.bind_eq_some_iff.mp H
              obtain ⟨t155, A320, H⟩ := H
              replace H : (if (t152.length : Int) = (t155.length : Int) then (spec_Alike.l1 k2 t152 t155 (t152.length : Int) 0) else (some false)) = some r := H
              have A32 := Aside0.mk A320
              clear A320
              by_cases c33 : (t152.length : Int) = (t155.length : Int)
              · rw [if_pos c33] at H
                have c33b0 : ((t152.length : Int) == (t155.length : Int)) = true := beq_iff_eq.mpr c33
                have c33b1 : ((t152.length : Int) != (t155.length : Int)) = false := bne_eq_false_iff_eq.mpr c33
                have c33b2 : (t152.length == t155.length) = true := by first | simpa using c33 | (simp at c33 ⊢; omega)
                clear c33
                have H' := Aside0.mk H
                clear H
                try go_wp2
                have n0_ := Aside0.mk (blk_drew BK148.out)
                have n1_ := Aside0.mk (blk_drew BK149.out)
                have n2_ := Aside0.mk (below_drew1 HB.out)
                clear BK148
                clear BK149
                clear HB
                have BK148 := n0_
                have BK149 := n1_
                have HB := n2_
                clear n0_ n1_ n2_
                refine start_ (n := 8) (S := fun w' => w'.cell? ⟨gb148, 0, none⟩ = some (.int .i64 a0_0) ∧ w'.cell? ⟨gb148, 1, none⟩ = some (.string a0_1) ∧ w'.cell? ⟨gb148, 2, none⟩ = some (.string a0_2) ∧ w'.cell? ⟨gb148, 3, none⟩ = some (.slice A0_3 l0_3.length c0_3) ∧ w'.cell? ⟨gb148, 4, none⟩ = some (.slice A0_4 l0_4.length c0_4) ∧ w'.cell? ⟨gb149, 0, none⟩ = some (.int .i64 a1_0) ∧ w'.cell? ⟨gb149, 1, none⟩ = some (.string a1_1) ∧ w'.cell? ⟨gb149, 2, none⟩ = some (.string a1_2) ∧ w'.cell? ⟨gb149, 3, none⟩ = some (.slice A1_3 l1_3.length c1_3) ∧ w'.cell? ⟨gb149, 4, none⟩ = some (.slice A1_4 l1_4.length c1_4)) (ds := []) #[false, false, false, false, false, false, false, false] (by kernel_rfl) rfl rfl ⟨(blk_cell BK148.out 0).trans rfl, (blk_cell BK148.out 1).trans rfl, (blk_cell BK148.out 2).trans rfl, (blk_cell BK148.out 3).trans rfl, (blk_cell BK148.out 4).trans rfl, (blk_cell BK149.out 0).trans rfl, (blk_cell BK149.out 1).trans rfl, (blk_cell BK149.out 2).trans rfl, (blk_cell BK149.out 3).trans rfl, (blk_cell BK149.out 4).trans rfl⟩ (fun hHeld => ?_); refine with_tabW spec_Alike.tab9 spec_Alike.bits9 (fun HT_ HW_ => ?_)
                generalize wr.drew = w34 at BK148 BK149 HB hHeld ⊢
                refine pure_ (i := 0) (N := some 55) (v := ?_) (a' := ?_) #[true, false, false, false, false, false, false, false] rfl rfl (any_of HT_.out (by kernel_rfl)) (fun _ _ _ h => h) (Or.inl ⟨by rfl, ?_⟩) ?_ ?_
                rotate_left
                · intro w'
                  go_simp
                  with_reducible rfl
                rotate_left
                · simp only [Act.put, List.setIfInBounds_toArray, List.set_cons_zero, List.set_cons_succ, i64_w, i32_w]
                  rfl
                refine pure_ (i := 3) (N := some 58) (v := ?_) (a' := ?_) #[true, false, false, true, false, false, false, false] rfl rfl (any_of HT_.out (by kernel_rfl)) (fun _ _ _ h => h) (Or.inl ⟨by rfl, ?_⟩) ?_ ?_
                rotate_left
                · intro w'
                  go_simp
                  with_reducible rfl
                rotate_left
                · simp only [Act.put, List.setIfInBounds_toArray, List.set_cons_zero, List.set_cons_succ, i64_w, i32_w]
                  rfl
                refine take_ (i := 1) (N := some 56) (v := ?_) (a' := ?_) #[true, true, false, true, false, false, false, false] rfl rfl (take_ofW HT_.out HW_.out (by kernel_rfl)) (fun _ _ _ h => h) (Or.inl ⟨by rfl, ?_⟩) hHeld ?_ ?_
                rotate_left
                · rintro w' ⟨s0, s1, s2, s3, s4, s5, s6, s7, s8, s9⟩
                  go_simp
                  with_reducible rfl
                rotate_left
                · simp only [Act.put, List.setIfInBounds_toArray, List.set_cons_zero, List.set_cons_succ, i64_w, i32_w]
                  rfl
                refine take_ (i := 4) (N := some 59) (v := ?_) (a' := ?_) #[true, true, false, true, true, false, false, false] rfl rfl (take_ofW HT_.out HW_.out (by kernel_rfl)) (fun _ _ _ h => h) (Or.inl ⟨by rfl, ?_⟩) hHeld ?_ ?_
                rotate_left
                · rintro w' ⟨s0, s1, s2, s3, s4, s5, s6, s7, s8, s9⟩
                  go_simp
                  with_reducible rfl
                rotate_left
                · simp only [Act.put, List.setIfInBounds_toArray, List.set_cons_zero, List.set_cons_succ, i64_w, i32_w]
                  rfl
                refine one_ (i := 2) (N := some 57) #[true, true, true, true, true, false, false, false] rfl rfl (one_of HT_.out (by kernel_rfl)) (by decide) (fun K hK => ?_)
                refine goes_ Tryd.func44 (by kernel_rfl) rfl #[.slice A0_4 l0_4.length c0_4] (by rfl) rfl rfl (by (try simp only [List.map_toArray, List.map_cons, List.map_nil]); first | done | rfl | (simp only [List.length_drop, List.length_take]; rfl)) ?_
                with_reducible refine (spec_merged.calls k2 (fun k_ => k_ < w.heap.size) _ _ l0_4 t152 _ ?side1 A31.out).mono ?_
                (case side1 => exact Kd.V_mk HC0_4.out (Kd.F_below (Kd.C_F k25_heap HR0_4.out) (by repeat (first | (with_reducible first | exact HB.out | apply below_alloc | apply pw_below_drewN | apply below_drew1 | refine below_set ?_ GE148.out | refine below_set ?_ GE149.out) | exact HB.out))))
                rintro e w35 ⟨v153, rfl, ho0, hb⟩
                refine ⟨_, rfl, ?_⟩
                have n0_ := Aside0.mk (Kd.N_lower (Kd.N_mono (ok' := fun k_ => k_ ≠ gb148 ∧ k_ ≠ gb149) ho0 (fun k_ hk_ => ⟨Or.elim hk_ (fun hs_ => fun e_ => Nat.not_le.2 hs_ (by rw [e_]; exact GW148.out)) (fun hn_ => (Kd.freshB (g := gb148) (o := .cells #[.int .i64 a0_0, .string a0_1, .string a0_2, .slice A0_3 l0_3.length c0_3, .slice A0_4 l0_4.length c0_4] 25 (0, 0)) (by (with_reducible repeat (first | refine blk_drewN ?_ _ | refine blk_drew ?_ | refine blk_alloc ?_ _)); exact BK148.out) k_ hn_)), Or.elim hk_ (fun hs_ => fun e_ => Nat.not_le.2 hs_ (by rw [e_]; exact GW149.out)) (fun hn_ => (Kd.freshB (g := gb149) (o := .cells #[.int .i64 a1_0, .string a1_1, .string a1_2, .slice A1_3 l1_3.length c1_3, .slice A1_4 l1_4.length c1_4] 25 (0, 0)) (by (with_reducible repeat (first | refine blk_drewN ?_ _ | refine blk_drew ?_ | refine blk_alloc ?_ _)); exact BK149.out) k_ hn_))⟩)) (below_size (by repeat (first | (with_reducible first | exact HB.out | apply below_alloc | apply pw_below_drewN | apply below_drew1 | refine below_set ?_ GE148.out | refine below_set ?_ GE149.out) | exact HB.out))))
                have n1_ := Aside0.mk (blk_below (g := gb148) (o := .cells #[.int .i64 a0_0, .string a0_1, .string a0_2, .slice A0_3 l0_3.length c0_3, .slice A0_4 l0_4.length c0_4] 25 (0, 0)) (by (with_reducible repeat (first | refine blk_drewN ?_ _ | refine blk_drew ?_ | refine blk_alloc ?_ _)); exact BK148.out) hb)
                have n2_ := Aside0.mk (blk_below (g := gb149) (o := .cells #[.int .i64 a1_0, .string a1_1, .string a1_2, .slice A1_3 l1_3.length c1_3, .slice A1_4 l1_4.length c1_4] 25 (0, 0)) (by (with_reducible repeat (first | refine blk_drewN ?_ _ | refine blk_drew ?_ | refine blk_alloc ?_ _)); exact BK149.out) hb)
                have n3_ := Aside0.mk (below_step (by repeat (first | (with_reducible first | exact HB.out | apply below_alloc | apply pw_below_drewN | apply below_drew1 | refine below_set ?_ GE148.out | refine below_set ?_ GE149.out) | exact HB.out)) hb)
                clear BK148
                clear BK149
                clear HB
                have HO154 := n0_
                have BK148 := n1_
                have BK149 := n2_
                have HB := n3_
                clear n0_ n1_ n2_ n3_
                (try clear hb)
                (try clear hb2)
                (try clear hk)
                (try clear hi)
                (try clear ho0)
                refine hK.out _ _ ⟨(blk_cell BK148.out 0).trans rfl, (blk_cell BK148.out 1).trans rfl, (blk_cell BK148.out 2).trans rfl, (blk_cell BK148.out 3).trans rfl, (blk_cell BK148.out 4).trans rfl, (blk_cell BK149.out 0).trans rfl, (blk_cell BK149.out 1).trans rfl, (blk_cell BK149.out 2).trans rfl, (blk_cell BK149.out 3).trans rfl, (blk_cell BK149.out 4).trans rfl⟩ (fun hHeld => ?_)
                clear hK K
                refine norm_ (a' := ?_) ?_ ?_
                rotate_left
                · show Act.put _ (some 57) _ = _
                  simp only [Act.put, List.setIfInBounds_toArray, List.set_cons_zero, List.set_cons_succ, i64_w, i32_w]
                  rfl
                refine one_ (i := 5) (N := some 60) #[true, true, true, true, true, true, false, false] rfl rfl (one_of HT_.out (by kernel_rfl)) (by decide) (fun K hK => ?_)
                refine goes_ Tryd.func44 (by kernel_rfl) rfl #[.slice A1_4 l1_4.length c1_4] (by rfl) rfl rfl (by (try simp only [List.map_toArray, List.map_cons, List.map_nil]); first | done | rfl | (simp only [List.length_drop, List.length_take]; rfl)) ?_
                with_reducible refine (spec_merged.calls k2 (fun k_ => k_ < w.heap.size) _ _ l1_4 t155 _ ?side1 A32.out).mono ?_
                (case side1 => exact Kd.V_mk HC1_4.out (Kd.F_below (Kd.C_F k25_heap HR1_4.out) (by repeat (first | (with_reducible first | exact HB.out | apply below_alloc | apply pw_below_drewN | apply below_drew1 | refine below_set ?_ GE148.out | refine below_set ?_ GE149.out) | exact HB.out))))
                rintro e w36 ⟨v156, rfl, ho0, hb⟩
                refine ⟨_, rfl, ?_⟩
                have n0_ := Aside0.mk (Kd.N_elder' (by (with_reducible repeat (first | apply Kd.N_alloc | apply Kd.N_drewN | apply Kd.N_drew)); exact HO154.out) (Kd.N_base ho0) hb)
                have n1_ := Aside0.mk (Kd.N_lower (Kd.N_mono (ok' := fun k_ => some k_ ≠ (v153 : Value).ownBlock ∧ k_ ≠ gb148 ∧ k_ ≠ gb149) ho0 (fun k_ hk_ => ⟨Or.elim hk_ (fun hs_ => fun e_ => Nat.not_le.2 hs_ (Kd.N_base HO154.out k_ e_.symm)) (fun hn_ => (Kd.fresh' (Kd.N_lt (by (with_reducible repeat (first | apply Kd.N_alloc | apply Kd.N_drewN | apply Kd.N_drew)); exact HO154.out)) k_ hn_)), Or.elim hk_ (fun hs_ => fun e_ => Nat.not_le.2 hs_ (by rw [e_]; exact GW148.out)) (fun hn_ => (Kd.freshB (g := gb148) (o := .cells #[.int .i64 a0_0, .string a0_1, .string a0_2, .slice A0_3 l0_3.length c0_3, .slice A0_4 l0_4.length c0_4] 25 (0, 0)) (by (with_reducible repeat (first | refine blk_drewN ?_ _ | refine blk_drew ?_ | refine blk_alloc ?_ _)); exact BK148.out) k_ hn_)), Or.elim hk_ (fun hs_ => fun e_ => Nat.not_le.2 hs_ (by rw [e_]; exact GW149.out)) (fun hn_ => (Kd.freshB (g := gb149) (o := .cells #[.int .i64 a1_0, .string a1_1, .string a1_2, .slice A1_3 l1_3.length c1_3, .slice A1_4 l1_4.length c1_4] 25 (0, 0)) (by (with_reducible repeat (first | refine blk_drewN ?_ _ | refine blk_drew ?_ | refine blk_alloc ?_ _)); exact BK149.out) k_ hn_))⟩)) (below_size (by repeat (first | (with_reducible first | exact HB.out | apply below_alloc | apply pw_below_drewN | apply below_drew1 | refine below_set ?_ GE148.out | refine below_set ?_ GE149.out) | exact HB.out))))
                have n2_ := Aside0.mk (blk_below (g := gb148) (o := .cells #[.int .i64 a0_0, .string a0_1, .string a0_2, .slice A0_3 l0_3.length c0_3, .slice A0_4 l0_4.length c0_4] 25 (0, 0)) (by (with_reducible repeat (first | refine blk_drewN ?_ _ | refine blk_drew ?_ | refine blk_alloc ?_ _)); exact BK148.out) hb)
                have n3_ := Aside0.mk (blk_below (g := gb149) (o := .cells #[.int .i64 a1_0, .string a1_1, .string a1_2, .slice A1_3 l1_3.length c1_3, .slice A1_4 l1_4.length c1_4] 25 (0, 0)) (by (with_reducible repeat (first | refine blk_drewN ?_ _ | refine blk_drew ?_ | refine blk_alloc ?_ _)); exact BK149.out) hb)
                have n4_ := Aside0.mk (below_step (by repeat (first | (with_reducible first | exact HB.out | apply below_alloc | apply pw_below_drewN | apply below_drew1 | refine below_set ?_ GE148.out | refine below_set ?_ GE149.out) | exact HB.out)) hb)
                clear HO154
                clear BK148
                clear BK149
                clear HB
                have HO154 := n0_
                have HO157 := n1_
                have BK148 := n2_
                have BK149 := n3_
                have HB := n4_
                clear n0_ n1_ n2_ n3_ n4_
                (try clear hb)
                (try clear hb2)
                (try clear hk)
                (try clear hi)
                (try clear ho0)
                refine hK.out _ _ ⟨(blk_cell BK148.out 0).trans rfl, (blk_cell BK148.out 1).trans rfl, (blk_cell BK148.out 2).trans rfl, (blk_cell BK148.out 3).trans rfl, (blk_cell BK148.out 4).trans rfl, (blk_cell BK149.out 0).trans rfl, (blk_cell BK149.out 1).trans rfl, (blk_cell BK149.out 2).trans rfl, (blk_cell BK149.out 3).trans rfl, (blk_cell BK149.out 4).trans rfl⟩ (fun hHeld => ?_)
                clear hK K
                refine norm_ (a' := ?_) ?_ ?_
                rotate_left
                · show Act.put _ (some 60) _ = _
                  simp only [Act.put, List.setIfInBounds_toArray, List.set_cons_zero, List.set_cons_succ, i64_w, i32_w]
                  rfl
                refine pure_ (i := 6) (N := some 6) (v := ?_) (a' := ?_) #[true, true, true, true, true, true, true, false] rfl rfl (any_of HT_.out (by kernel_rfl)) (fun _ _ _ h => h) (Or.inl ⟨by rfl, ?_⟩) ?_ ?_
                rotate_left
                · intro w'
                  go_simp
                  with_reducible rfl
                rotate_left
                · simp only [Act.put, List.setIfInBounds_toArray, List.set_cons_zero, List.set_cons_succ, i64_w, i32_w]
                  rfl
                refine pure_ (i := 7) (N := some 7) (v := ?_) (a' := ?_) #[true, true, true, true, true, true, true, true] rfl rfl (any_of HT_.out (by kernel_rfl)) (fun _ _ _ h => h) (Or.inl ⟨by rfl, ?_⟩) ?_ ?_
                rotate_left
                · intro w'
                  go_simp
                  with_reducible rfl
                rotate_left
                · simp only [Act.put, List.setIfInBounds_toArray, List.set_cons_zero, List.set_cons_succ, i64_w, i32_w]
                  rfl
                refine done_ (done_of HT_.out (by kernel_rfl)) ?_
                obtain ⟨Ao37, co37, eo37⟩ := Kd.N_slice HO154.out
                subst eo37
                obtain ⟨Ao38, co38, eo38⟩ := Kd.N_slice HO157.out
                subst eo38
                try go_wp2
                go_loopg [68] k2 (fun kq v68 w' => ∃ (x68_3 : Int), v68 = .int .i64 x68_3 ∧ Aside0 (spec_Alike.l1 kq t152 t155 (t152.length : Int) x68_3 = some r) ∧ Aside0 (kq ≤ k2) ∧ Aside0 (Kd.N k25 25 w' w.heap.size (fun k_ => some k_ ≠ ((.slice Ao38 t155.length co38) : Value).ownBlock ∧ k_ ≠ gb148 ∧ k_ ≠ gb149) (.slice Ao37 t152.length co37) t152) ∧ Aside0 (Kd.N k25 25 w' w.heap.size (fun k_ => some k_ ≠ ((.slice Ao37 t152.length co37) : Value).ownBlock ∧ k_ ≠ gb148 ∧ k_ ≠ gb149) (.slice Ao38 t155.length co38) t155) ∧ Aside0 (w'.heap[gb148]? = some (.cells #[.int .i64 a0_0, .string a0_1, .string a0_2, (.slice A0_3 l0_3.length c0_3), (.slice A0_4 l0_4.length c0_4)] 25 (0, 0))) ∧ Aside0 (w'.heap[gb149]? = some (.cells #[.int .i64 a1_0, .string a1_1, .string a1_2, (.slice A1_3 l1_3.length c1_3), (.slice A1_4 l1_4.length c1_4)] 25 (0, 0))) ∧ Aside0 (Below w.heap.size w w'))
                case atStart => exact ⟨(0), (by first | rfl | (simp; done) | (simp [*]; done)), H', ⟨Nat.le_refl _⟩, ⟨by (with_reducible repeat (first | apply Kd.N_alloc | apply Kd.N_drewN | apply Kd.N_drew)); exact Kd.N_mono HO154.out (fun _ hk => ⟨hk.2, ⟨hk.1.1, hk.1.2⟩⟩)⟩, ⟨by (with_reducible repeat (first | apply Kd.N_alloc | apply Kd.N_drewN | apply Kd.N_drew)); exact HO157.out⟩, ⟨by (with_reducible repeat (first | refine blk_drewN ?_ _ | refine blk_drew ?_ | refine blk_alloc ?_ _)); exact BK148.out⟩, ⟨by (with_reducible repeat (first | refine blk_drewN ?_ _ | refine blk_drew ?_ | refine blk_alloc ?_ _)); exact BK149.out⟩, ⟨by repeat (first | (with_reducible first | exact HB.out | apply below_alloc | apply pw_below_drewN | apply below_drew1 | refine below_set ?_ GE148.out | refine below_set ?_ GE149.out) | exact HB.out)⟩⟩
                case round =>
                  clear H'
                  try clear c1
                  try clear p1
                  try clear q1
                  try clear hx1
                  try clear c2
                  try clear p2
                  try clear c3
                  try clear c4
                  try clear c6
                  try clear c6b0
                  try clear c6b1
                  try clear p6
                  try clear c7
                  try clear c7b0
                  try clear c7b1
                  try clear c8
                  try clear c8b0
                  try clear c8b1
                  try clear c9
                  try clear c12
                  try clear c15
                  try clear p15
                  try clear q15
                  try clear hx15
                  try clear c18
                  try clear c20
                  try clear c21
                  try clear c22
                  try clear c24
                  try clear c24b0
                  try clear c25
                  try clear c25b0
                  try clear c26
                  try clear c26b0
                  try clear c27
                  try clear c27b0
                  try clear c28
                  try clear c28b0
                  try clear c33
                  try clear c33b0
                  try clear c33b1
                  try clear c33b2
                  try clear hcz10_0
                  try clear hcz10_1
                  try clear hcz10_2
                  try clear hcz10_3
                  try clear hcz10_4
                  try clear hcz11_0
                  try clear hcz11_1
                  try clear hcz11_2
                  try clear hcz11_3
                  try clear hcz11_4
                  try clear hcz13_0
                  try clear hcz13_1
                  try clear hcz13_2
                  try clear hcz13_3
                  try clear hcz13_4
                  try clear hcz14_0
                  try clear hcz14_1
                  try clear hcz14_2
                  try clear hcz14_3
                  try clear hcz14_4
                  try clear hcz16_0
                  try clear hcz16_1
                  try clear hcz16_2
                  try clear hcz16_3
                  try clear hcz16_4
                  try clear hcz17_0
                  try clear hcz17_1
                  try clear hcz17_2
                  try clear hcz17_3
                  try clear hcz17_4
                  try clear hcz19_0
                  try clear hcz19_1
                  try clear hcz19_2
                  try clear hcz19_3
                  try clear hcz19_4
                  try clear hcz20_0
                  try clear hcz20_1
                  try clear hcz20_2
                  try clear hcz20_3
                  try clear hcz20_4
                  try clear hcz23_0
                  try clear hcz23_1
                  try clear hcz23_2
                  try clear hcz23_3
                  try clear hcz23_4
                  try clear hfz10_0
                  try clear hfz10_1
                  try clear hfz10_2
                  try clear hfz10_3
                  try clear hfz10_4
                  try clear hfz11_0
                  try clear hfz11_1
                  try clear hfz11_2
                  try clear hfz11_3
                  try clear hfz11_4
                  try clear hfz13_0
                  try clear hfz13_1
                  try clear hfz13_2
                  try clear hfz13_3
                  try clear hfz13_4
                  try clear hfz14_0
                  try clear hfz14_1
                  try clear hfz14_2
                  try clear hfz14_3
                  try clear hfz14_4
                  try clear hfz16_0
                  try clear hfz16_1
                  try clear hfz16_2
                  try clear hfz16_3
                  try clear hfz16_4
                  try clear hfz17_0
                  try clear hfz17_1
                  try clear hfz17_2
                  try clear hfz17_3
                  try clear hfz17_4
                  try clear hfz19_0
                  try clear hfz19_1
                  try clear hfz19_2
                  try clear hfz19_3
                  try clear hfz19_4
                  try clear hfz20_0
                  try clear hfz20_1
                  try clear hfz20_2
                  try clear hfz20_3
                  try clear hfz20_4
                  try clear hfz23_0
                  try clear hfz23_1
                  try clear hfz23_2
                  try clear hfz23_3
                  try clear hfz23_4
                  try clear hx150_0
                  try clear hx150_1
                  try clear hx151_0
                  try clear hx151_1
                  try clear p150
                  try clear p151
                  try clear p2
                  try clear q150
                  try clear q151
                  obtain ⟨x68_3, rfl, HA, HK3, HO_6, HO_7, BK148, BK149, HB⟩ := hrel
                  cases gk with
                  | zero => exact absurd HA.out (by simp [spec_Alike.l1])
                  | succ k3 =>
                    have H := HA.out
                    clear HA
                    simp only [spec_Alike.l1] at H
                    by_cases c39 : x68_3 < (t152.length : Int)
                    · rw [if_pos c39] at H
                      have c39b0 : decide (x68_3 < (t152.length : Int)) = true := decide_eq_true c39
                      clear c39
                      by_cases c40 : 0 ≤ x68_3
                      · rw [if_pos c40] at H
                        have c40b0 : decide (0 ≤ x68_3) = true := decide_eq_true c40
                        clear c40
                        by_cases c41 : x68_3 < (t152.length : Int)
                        · rw [if_pos c41] at H
                          have c41b0 : decide (x68_3 < (t152.length : Int)) = true := decide_eq_true c41
                          clear c41
                          by_cases c42 : x68_3 < (t155.length : Int)
                          · rw [if_pos c42] at H
                            have c42b0 : decide (x68_3 < (t155.length : Int)) = true := decide_eq_true c42
                            clear c42
                            replace H := Option.bind_eq_some_iff.mp H
                            obtain ⟨t160, A430, H⟩ := H
                            replace H : (if t160 = true then (spec_Alike.l1 k3 t152 t155 (t152.length : Int) (wrap64 (x68_3 + 1))) else (some false)) = some r := H
                            have A43 := Aside0.mk A430
                            clear A430
                            by_cases c44 : t160 = true
                            · subst c44
                              have H1 : (spec_Alike.l1 k3 t152 t155 (t152.length : Int) (wrap64 (x68_3 + 1))) = some r := by rw [if_pos rfl] at H; exact H
                              clear H
                              have H := H1
                              clear H1
                              have H' := Aside0.mk H
                              clear H
                              try go_wp2
                              have n0_ := Aside0.mk (Kd.N_drew HO_6.out)
                              have n1_ := Aside0.mk (Kd.N_drew HO_7.out)
                              have n2_ := Aside0.mk (blk_drew BK148.out)
                              have n3_ := Aside0.mk (blk_drew BK149.out)
                              have n4_ := Aside0.mk (below_drew1 HB.out)
                              clear HO_6
                              clear HO_7
                              clear BK148
                              clear BK149
                              clear HB
                              have HO_6 := n0_
                              have HO_7 := n1_
                              have BK148 := n2_
                              have BK149 := n3_
                              have HB := n4_
                              clear n0_ n1_ n2_ n3_ n4_
                              have p158 : 0 ≤ (x68_3 : Int) := of_decide_eq_true (by first | (with_reducible assumption) | assumption)
                              have q158 : x68_3 < (t152.length : Int) := of_decide_eq_true (by first | (with_reducible assumption) | assumption)
                              obtain ⟨ad158, A158_3, c158_3, A158_4, c158_4, e158, hx158_0, hx158_1, hx158_2, hx158_3, hx158_4, hl158_3, hi158_3, hl158_4, hi158_4⟩ := at_T25 (Kd.N_reads' HO_6.out).2.2 x68_3 p158 q158
                              cases e158
                              obtain ⟨ce158, hce158, hMe158, hcc158⟩ := Kd.N_get HO_6.out z25 x68_3 p158 (by first | exact q158 | exact of_decide_eq_true (by first | (with_reducible assumption) | assumption) | (have e_ := (Kd.N_reads' HO_6.out).1; omega))
                              obtain ⟨ua158_3, uc158_3, ua158_4, uc158_4, rfl, ul158_3, ge158_3, ul158_4, ge158_4⟩ := k25_openF hMe158
                              have hv158_3 := hcc158 3 _ rfl
                              rw [add_field _ _ 3 (by omega)] at hv158_3
                              replace hv158_3 := Option.some.inj (hv158_3.symm.trans hx158_3)
                              injection hv158_3 with hva_ hvn_ hvc_
                              rw [hva_] at ge158_3
                              rw [hvc_] at ul158_3
                              have HL158_3 := Aside0.mk (show Kd.V k29 29 _ w.heap.size _ _ ((rd_T25 t152 x68_3).f3) from Kd.V_mk ul158_3 ge158_3)
                              clear hva_ hvn_ hvc_ ge158_3 ul158_3
                              have hv158_4 := hcc158 4 _ rfl
                              rw [add_field _ _ 4 (by omega)] at hv158_4
                              replace hv158_4 := Option.some.inj (hv158_4.symm.trans hx158_4)
                              injection hv158_4 with hva_ hvn_ hvc_
                              rw [hva_] at ge158_4
                              rw [hvc_] at ul158_4
                              have HL158_4 := Aside0.mk (show Kd.V k25 25 _ w.heap.size _ _ ((rd_T25 t152 x68_3).f4) from Kd.V_mk ul158_4 ge158_4)
                              clear hva_ hvn_ hvc_ ge158_4 ul158_4
                              clear hcc158 hce158
                              have HR158_3 := Aside0.mk hi158_3
                              have HC158_3 := Aside0.mk hl158_3
                              clear hi158_3 hl158_3
                              have HR158_4 := Aside0.mk hi158_4
                              have HC158_4 := Aside0.mk hl158_4
                              clear hi158_4 hl158_4
                              replace p158 := eq_true p158
                              replace q158 := eq_true q158
                              have p159 : 0 ≤ (x68_3 : Int) := of_decide_eq_true (by first | (with_reducible assumption) | assumption)
                              have q159 : x68_3 < (t155.length : Int) := of_decide_eq_true (by first | (with_reducible assumption) | assumption)
                              obtain ⟨ad159, A159_3, c159_3, A159_4, c159_4, e159, hx159_0, hx159_1, hx159_2, hx159_3, hx159_4, hl159_3, hi159_3, hl159_4, hi159_4⟩ := at_T25 (Kd.N_reads' HO_7.out).2.2 x68_3 p159 q159
                              cases e159
                              obtain ⟨ce159, hce159, hMe159, hcc159⟩ := Kd.N_get HO_7.out z25 x68_3 p159 (by first | exact q159 | exact of_decide_eq_true (by first | (with_reducible assumption) | assumption) | (have e_ := (Kd.N_reads' HO_7.out).1; omega))
                              obtain ⟨ua159_3, uc159_3, ua159_4, uc159_4, rfl, ul159_3, ge159_3, ul159_4, ge159_4⟩ := k25_openF hMe159
                              have hv159_3 := hcc159 3 _ rfl
                              rw [add_field _ _ 3 (by omega)] at hv159_3
                              replace hv159_3 := Option.some.inj (hv159_3.symm.trans hx159_3)
                              injection hv159_3 with hva_ hvn_ hvc_
                              rw [hva_] at ge159_3
                              rw [hvc_] at ul159_3
                              have HL159_3 := Aside0.mk (show Kd.V k29 29 _ w.heap.size _ _ ((rd_T25 t155 x68_3).f3) from Kd.V_mk ul159_3 ge159_3)
                              clear hva_ hvn_ hvc_ ge159_3 ul159_3
                              have hv159_4 := hcc159 4 _ rfl
                              rw [add_field _ _ 4 (by omega)] at hv159_4
                              replace hv159_4 := Option.some.inj (hv159_4.symm.trans hx159_4)
                              injection hv159_4 with hva_ hvn_ hvc_
                              rw [hva_] at ge159_4
                              rw [hvc_] at ul159_4
                              have HL159_4 := Aside0.mk (show Kd.V k25 25 _ w.heap.size _ _ ((rd_T25 t155 x68_3).f4) from Kd.V_mk ul159_4 ge159_4)
                              clear hva_ hvn_ hvc_ ge159_4 ul159_4
                              clear hcc159 hce159
                              have HR159_3 := Aside0.mk hi159_3
                              have HC159_3 := Aside0.mk hl159_3
                              clear hi159_3 hl159_3
                              have HR159_4 := Aside0.mk hi159_4
                              have HC159_4 := Aside0.mk hl159_4
                              clear hi159_4 hl159_4
                              replace p159 := eq_true p159
                              replace q159 := eq_true q159
                              refine start_ (n := 10) (S := fun w' => w'.cell? (ad158.add ((x68_3).toNat * 5)) = some (.int .i64 ((rd_T25 t152 x68_3).f0)) ∧ w'.cell? ⟨(ad158.add ((x68_3).toNat * 5)).block, (ad158.add ((x68_3).toNat * 5)).off + 1, none⟩ = some (.string ((rd_T25 t152 x68_3).f1)) ∧ w'.cell? ⟨(ad158.add ((x68_3).toNat * 5)).block, (ad158.add ((x68_3).toNat * 5)).off + 2, none⟩ = some (.string ((rd_T25 t152 x68_3).f2)) ∧ w'.cell? ⟨(ad158.add ((x68_3).toNat * 5)).block, (ad158.add ((x68_3).toNat * 5)).off + 3, none⟩ = some (.slice A158_3 ((rd_T25 t152 x68_3).f3).length c158_3) ∧ w'.cell? ⟨(ad158.add ((x68_3).toNat * 5)).block, (ad158.add ((x68_3).toNat * 5)).off + 4, none⟩ = some (.slice A158_4 ((rd_T25 t152 x68_3).f4).length c158_4) ∧ w'.cell? (ad159.add ((x68_3).toNat * 5)) = some (.int .i64 ((rd_T25 t155 x68_3).f0)) ∧ w'.cell? ⟨(ad159.add ((x68_3).toNat * 5)).block, (ad159.add ((x68_3).toNat * 5)).off + 1, none⟩ = some (.string ((rd_T25 t155 x68_3).f1)) ∧ w'.cell? ⟨(ad159.add ((x68_3).toNat * 5)).block, (ad159.add ((x68_3).toNat * 5)).off + 2, none⟩ = some (.string ((rd_T25 t155 x68_3).f2)) ∧ w'.cell? ⟨(ad159.add ((x68_3).toNat * 5)).block, (ad159.add ((x68_3).toNat * 5)).off + 3, none⟩ = some (.slice A159_3 ((rd_T25 t155 x68_3).f3).length c159_3) ∧ w'.cell? ⟨(ad159.add ((x68_3).toNat * 5)).block, (ad159.add ((x68_3).toNat * 5)).off + 4, none⟩ = some (.slice A159_4 ((rd_T25 t155 x68_3).f4).length c159_4)) (ds := []) #[false, false, false, false, false, false, false, false, false, false] (by kernel_rfl) rfl rfl ⟨hx158_0, hx158_1, hx158_2, hx158_3, hx158_4, hx159_0, hx159_1, hx159_2, hx159_3, hx159_4⟩ (fun hHeld => ?_); refine with_tabW spec_Alike.tab15 spec_Alike.bits15 (fun HT_ HW_ => ?_)
                              generalize wr.drew = w45 at HO_6 HO_7 BK148 BK149 HB HL158_3 HL158_4 HL159_3 HL159_4 HR158_3 HR158_4 HR159_3 HR159_4 hx158_0 hx158_1 hx158_2 hx158_3 hx158_4 hx159_0 hx159_1 hx159_2 hx159_3 hx159_4 hHeld ⊢
                              refine pure_ (i := 0) (N := some 71) (v := ?_) (a' := ?_) #[true, false, false, false, false, false, false, false, false, false] rfl rfl (any_of HT_.out (by kernel_rfl)) (fun _ _ _ h => h) (Or.inl ⟨by rfl, ?_⟩) ?_ ?_
                              rotate_left
                              · intro w'
                                go_simp
                                with_reducible rfl
                              rotate_left
                              · simp only [Act.put, List.setIfInBounds_toArray, List.set_cons_zero, List.set_cons_succ, i64_w, i32_w]
                                rfl
                              refine pure_ (i := 1) (N := some 72) (v := ?_) (a' := ?_) #[true, true, false, false, false, false, false, false, false, false] rfl rfl (any_of HT_.out (by kernel_rfl)) (fun _ _ _ h => h) (Or.inl ⟨by rfl, ?_⟩) ?_ ?_
                              rotate_left
                              · intro w'
                                go_simp
                                with_reducible rfl
                              rotate_left
                              · simp only [Act.put, List.setIfInBounds_toArray, List.set_cons_zero, List.set_cons_succ, i64_w, i32_w]
                                rfl
                              refine pure_ (i := 2) (N := some 73) (v := ?_) (a' := ?_) #[true, true, true, false, false, false, false, false, false, false] rfl rfl (any_of HT_.out (by kernel_rfl)) (fun _ _ _ h => h) (Or.inl ⟨by rfl, ?_⟩) ?_ ?_
                              rotate_left
                              · intro w'
                                go_simp
                                with_reducible rfl
                              rotate_left
                              · simp only [Act.put, List.setIfInBounds_toArray, List.set_cons_zero, List.set_cons_succ, i64_w, i32_w]
                                rfl
                              refine pure_ (i := 4) (N := some 75) (v := ?_) (a' := ?_) #[true, true, true, false, true, false, false, false, false, false] rfl rfl (any_of HT_.out (by kernel_rfl)) (fun _ _ _ h => h) (Or.inl ⟨by rfl, ?_⟩) ?_ ?_
                              rotate_left
                              · intro w'
                                go_simp
                                with_reducible rfl
                              rotate_left
                              · simp only [Act.put, List.setIfInBounds_toArray, List.set_cons_zero, List.set_cons_succ, i64_w, i32_w]
                                rfl
                              refine pure_ (i := 5) (N := some 76) (v := ?_) (a' := ?_) #[true, true, true, false, true, true, false, false, false, false] rfl rfl (any_of HT_.out (by kernel_rfl)) (fun _ _ _ h => h) (Or.inl ⟨by rfl, ?_⟩) ?_ ?_
                              rotate_left
                              · intro w'
                                go_simp
                                with_reducible rfl
                              rotate_left
                              · simp only [Act.put, List.setIfInBounds_toArray, List.set_cons_zero, List.set_cons_succ, i64_w, i32_w]
                                rfl
                              refine pure_ (i := 6) (N := some 77) (v := ?_) (a' := ?_) #[true, true, true, false, true, true, true, false, false, false] rfl rfl (any_of HT_.out (by kernel_rfl)) (fun _ _ _ h => h) (Or.inl ⟨by rfl, ?_⟩) ?_ ?_
                              rotate_left
                              · intro w'
                                go_simp
                                with_reducible rfl
                              rotate_left
                              · simp only [Act.put, List.setIfInBounds_toArray, List.set_cons_zero, List.set_cons_succ, i64_w, i32_w]
                                rfl
                              refine take_ (i := 3) (N := some 74) (v := ?_) (a' := ?_) #[true, true, true, true, true, true, true, false, false, false] rfl rfl (take_ofW HT_.out HW_.out (by kernel_rfl)) (fun _ _ _ h => h) (Or.inl ⟨by rfl, ?_⟩) hHeld ?_ ?_
                              rotate_left
                              · rintro w' ⟨s0, s1, s2, s3, s4, s5, s6, s7, s8, s9⟩
                                go_simp
                                with_reducible rfl
                              rotate_left
                              · simp only [Act.put, List.setIfInBounds_toArray, List.set_cons_zero, List.set_cons_succ, i64_w, i32_w]
                                rfl
                              refine take_ (i := 7) (N := some 78) (v := ?_) (a' := ?_) #[true, true, true, true, true, true, true, true, false, false] rfl rfl (take_ofW HT_.out HW_.out (by kernel_rfl)) (fun _ _ _ h => h) (Or.inl ⟨by rfl, ?_⟩) hHeld ?_ ?_
                              rotate_left
                              · rintro w' ⟨s0, s1, s2, s3, s4, s5, s6, s7, s8, s9⟩
                                go_simp
                                with_reducible rfl
                              rotate_left
                              · simp only [Act.put, List.setIfInBounds_toArray, List.set_cons_zero, List.set_cons_succ, i64_w, i32_w]
                                rfl
                              refine one_ (i := 8) (N := some 79) #[true, true, true, true, true, true, true, true, true, false] rfl rfl (one_of HT_.out (by kernel_rfl)) (by decide) (fun K hK => ?_)
                              refine goes_ Tryd.func20 (by kernel_rfl) rfl #[.agg #[.int .i64 ((rd_T25 t152 x68_3).f0), .string ((rd_T25 t152 x68_3).f1), .string ((rd_T25 t152 x68_3).f2), .slice A158_3 ((rd_T25 t152 x68_3).f3).length c158_3, .slice A158_4 ((rd_T25 t152 x68_3).f4).length c158_4], .agg #[.int .i64 ((rd_T25 t155 x68_3).f0), .string ((rd_T25 t155 x68_3).f1), .string ((rd_T25 t155 x68_3).f2), .slice A159_3 ((rd_T25 t155 x68_3).f3).length c159_3, .slice A159_4 ((rd_T25 t155 x68_3).f4).length c159_4]] (by rfl) rfl rfl (by (try simp only [List.map_toArray, List.map_cons, List.map_nil]); first | done | rfl | (simp only [List.length_drop, List.length_take]; rfl)) ?_
                              with_reducible refine (ih k3 (by have := HJ2.out; have := HK2.out; have := HK3.out; omega) ((rd_T25 t152 x68_3).f0) ((rd_T25 t152 x68_3).f1) ((rd_T25 t152 x68_3).f2) _ _ ((rd_T25 t152 x68_3).f3) _ _ ((rd_T25 t152 x68_3).f4) ((rd_T25 t155 x68_3).f0) ((rd_T25 t155 x68_3).f1) ((rd_T25 t155 x68_3).f2) _ _ ((rd_T25 t155 x68_3).f3) _ _ ((rd_T25 t155 x68_3).f4) true _ ?side1 ?side2 ?side3 ?side4 ?side5 ?side6 ?side7 ?side8 A43.out).mono ?_
                              (case side1 => repeat (first | exact (by repeat (first | (with_reducible exact HR158_3.out) | (with_reducible refine Kd.C_alloc ?_ _) | (with_reducible refine Kd.C_drewN ?_ _) | (with_reducible refine Kd.C_drew ?_) | exact HR158_3.out)) | (with_reducible refine Kd.C_alloc ?_ _) | (with_reducible refine Kd.C_drewN ?_ _) | (with_reducible refine Kd.C_drew ?_)))
                              (case side2 => exact HC158_3.out)
                              (case side3 => repeat (first | exact (by repeat (first | (with_reducible exact HR158_4.out) | (with_reducible refine Kd.C_alloc ?_ _) | (with_reducible refine Kd.C_drewN ?_ _) | (with_reducible refine Kd.C_drew ?_) | exact HR158_4.out)) | (with_reducible refine Kd.C_alloc ?_ _) | (with_reducible refine Kd.C_drewN ?_ _) | (with_reducible refine Kd.C_drew ?_)))
                              (case side4 => exact HC158_4.out)
                              (case side5 => repeat (first | exact (by repeat (first | (with_reducible exact HR159_3.out) | (with_reducible refine Kd.C_alloc ?_ _) | (with_reducible refine Kd.C_drewN ?_ _) | (with_reducible refine Kd.C_drew ?_) | exact HR159_3.out)) | (with_reducible refine Kd.C_alloc ?_ _) | (with_reducible refine Kd.C_drewN ?_ _) | (with_reducible refine Kd.C_drew ?_)))
                              (case side6 => exact HC159_3.out)
                              (case side7 => repeat (first | exact (by repeat (first | (with_reducible exact HR159_4.out) | (with_reducible refine Kd.C_alloc ?_ _) | (with_reducible refine Kd.C_drewN ?_ _) | (with_reducible refine Kd.C_drew ?_) | exact HR159_4.out)) | (with_reducible refine Kd.C_alloc ?_ _) | (with_reducible refine Kd.C_drewN ?_ _) | (with_reducible refine Kd.C_drew ?_)))
                              (case side8 => exact HC159_4.out)
                              rintro e w46 ⟨rfl, hb⟩
                              have HS0_ := (hb.cell (World.block_lt_of_cell? _ _ (hHeld.1))).trans (hHeld.1)
                              have HS1_ := (hb.cell (World.block_lt_of_cell? _ _ (hHeld.2.1))).trans (hHeld.2.1)
                              have HS2_ := (hb.cell (World.block_lt_of_cell? _ _ (hHeld.2.2.1))).trans (hHeld.2.2.1)
                              have HS3_ := (hb.cell (World.block_lt_of_cell? _ _ (hHeld.2.2.2.1))).trans (hHeld.2.2.2.1)
                              have HS4_ := (hb.cell (World.block_lt_of_cell? _ _ (hHeld.2.2.2.2.1))).trans (hHeld.2.2.2.2.1)
                              have HS5_ := (hb.cell (World.block_lt_of_cell? _ _ (hHeld.2.2.2.2.2.1))).trans (hHeld.2.2.2.2.2.1)
                              have HS6_ := (hb.cell (World.block_lt_of_cell? _ _ (hHeld.2.2.2.2.2.2.1))).trans (hHeld.2.2.2.2.2.2.1)
                              have HS7_ := (hb.cell (World.block_lt_of_cell? _ _ (hHeld.2.2.2.2.2.2.2.1))).trans (hHeld.2.2.2.2.2.2.2.1)
                              have HS8_ := (hb.cell (World.block_lt_of_cell? _ _ (hHeld.2.2.2.2.2.2.2.2.1))).trans (hHeld.2.2.2.2.2.2.2.2.1)
                              have HS9_ := (hb.cell (World.block_lt_of_cell? _ _ (hHeld.2.2.2.2.2.2.2.2.2))).trans (hHeld.2.2.2.2.2.2.2.2.2)
                              refine ⟨_, rfl, ?_⟩
                              have n0_ := Aside0.mk (Kd.N_below (by (with_reducible repeat (first | apply Kd.N_alloc | apply Kd.N_drewN | apply Kd.N_drew)); exact HO_6.out) hb)
                              have n1_ := Aside0.mk (Kd.N_below (by (with_reducible repeat (first | apply Kd.N_alloc | apply Kd.N_drewN | apply Kd.N_drew)); exact HO_7.out) hb)
                              have n2_ := Aside0.mk (Kd.V_below (by (with_reducible repeat (first | apply Kd.V_alloc | apply Kd.V_drewN | apply Kd.V_drew)); exact HL158_3.out) hb)
                              have n3_ := Aside0.mk (Kd.V_below (by (with_reducible repeat (first | apply Kd.V_alloc | apply Kd.V_drewN | apply Kd.V_drew)); exact HL158_4.out) hb)
                              have n4_ := Aside0.mk (Kd.V_below (by (with_reducible repeat (first | apply Kd.V_alloc | apply Kd.V_drewN | apply Kd.V_drew)); exact HL159_3.out) hb)
                              have n5_ := Aside0.mk (Kd.V_below (by (with_reducible repeat (first | apply Kd.V_alloc | apply Kd.V_drewN | apply Kd.V_drew)); exact HL159_4.out) hb)
                              have n6_ := Aside0.mk (blk_below (g := gb148) (o := .cells #[.int .i64 a0_0, .string a0_1, .string a0_2, .slice A0_3 l0_3.length c0_3, .slice A0_4 l0_4.length c0_4] 25 (0, 0)) (by (with_reducible repeat (first | refine blk_drewN ?_ _ | refine blk_drew ?_ | refine blk_alloc ?_ _)); exact BK148.out) hb)
                              have n7_ := Aside0.mk (blk_below (g := gb149) (o := .cells #[.int .i64 a1_0, .string a1_1, .string a1_2, .slice A1_3 l1_3.length c1_3, .slice A1_4 l1_4.length c1_4] 25 (0, 0)) (by (with_reducible repeat (first | refine blk_drewN ?_ _ | refine blk_drew ?_ | refine blk_alloc ?_ _)); exact BK149.out) hb)
                              have n8_ := Aside0.mk (Kd.C_below (by repeat (first | (with_reducible exact HR158_3.out) | (with_reducible refine Kd.C_alloc ?_ _) | (with_reducible refine Kd.C_drewN ?_ _) | (with_reducible refine Kd.C_drew ?_) | exact HR158_3.out)) hb)
                              have n9_ := Aside0.mk (Kd.C_below (by repeat (first | (with_reducible exact HR158_4.out) | (with_reducible refine Kd.C_alloc ?_ _) | (with_reducible refine Kd.C_drewN ?_ _) | (with_reducible refine Kd.C_drew ?_) | exact HR158_4.out)) hb)
                              have n10_ := Aside0.mk (Kd.C_below (by repeat (first | (with_reducible exact HR159_3.out) | (with_reducible refine Kd.C_alloc ?_ _) | (with_reducible refine Kd.C_drewN ?_ _) | (with_reducible refine Kd.C_drew ?_) | exact HR159_3.out)) hb)
                              have n11_ := Aside0.mk (Kd.C_below (by repeat (first | (with_reducible exact HR159_4.out) | (with_reducible refine Kd.C_alloc ?_ _) | (with_reducible refine Kd.C_drewN ?_ _) | (with_reducible refine Kd.C_drew ?_) | exact HR159_4.out)) hb)
                              have n12_ := Aside0.mk (below_step (by repeat (first | (with_reducible first | exact HB.out | apply below_alloc | apply pw_below_drewN | apply below_drew1 | refine below_set ?_ GE148.out | refine below_set ?_ GE149.out) | exact HB.out)) hb)
                              clear HO_6
                              clear HO_7
                              clear HL158_3
                              clear HL158_4
                              clear HL159_3
                              clear HL159_4
                              clear BK148
                              clear BK149
                              clear HR158_3
                              clear HR158_4
                              clear HR159_3
                              clear HR159_4
                              clear HB
                              have HO_6 := n0_
                              have HO_7 := n1_
                              have HL158_3 := n2_
                              have HL158_4 := n3_
                              have HL159_3 := n4_
                              have HL159_4 := n5_
                              have BK148 := n6_
                              have BK149 := n7_
                              have HR158_3 := n8_
                              have HR158_4 := n9_
                              have HR159_3 := n10_
                              have HR159_4 := n11_
                              have HB := n12_
                              clear n0_ n1_ n2_ n3_ n4_ n5_ n6_ n7_ n8_ n9_ n10_ n11_ n12_
                              (try clear hb)
                              (try clear hb2)
                              (try clear hk)
                              (try clear hi)
                              refine hK.out _ _ ⟨HS0_, HS1_, HS2_, HS3_, HS4_, HS5_, HS6_, HS7_, HS8_, HS9_⟩ (fun hHeld => ?_)
                              clear hK K
                              refine norm_ (a' := ?_) ?_ ?_
                              rotate_left
                              · show Act.put _ (some 79) _ = _
                                simp only [Act.put, List.setIfInBounds_toArray, List.set_cons_zero, List.set_cons_succ, i64_w, i32_w]
                                rfl
                              refine pure_ (i := 9) (N := some 80) (v := ?_) (a' := ?_) #[true, true, true, true, true, true, true, true, true, true] rfl rfl (any_of HT_.out (by kernel_rfl)) (fun _ _ _ h => h) (Or.inl ⟨by rfl, ?_⟩) ?_ ?_
                              rotate_left
                              · intro w'
                                go_simp
                                with_reducible rfl
                              rotate_left
                              · simp only [Act.put, List.setIfInBounds_toArray, List.set_cons_zero, List.set_cons_succ, i64_w, i32_w]
                                rfl
                              refine done_ (done_of HT_.out (by kernel_rfl)) ?_
                              try go_wp2
                              go_roundg k3
                              case measure => have := HJ2.out; have := HK2.out; have := HK3.out; omega
                              case rel => exact ⟨(wrap64 (x68_3 + 1)), (by first | rfl | (simp; done) | (simp [*]; done)), H', ⟨by have := HJ2.out; have := HK2.out; have := HK3.out; omega⟩, ⟨by (with_reducible repeat (first | apply Kd.N_alloc | apply Kd.N_drewN | apply Kd.N_drew)); exact HO_6.out⟩, ⟨by (with_reducible repeat (first | apply Kd.N_alloc | apply Kd.N_drewN | apply Kd.N_drew)); exact HO_7.out⟩, ⟨by (with_reducible repeat (first | refine blk_drewN ?_ _ | refine blk_drew ?_ | refine blk_alloc ?_ _)); exact BK148.out⟩, ⟨by (with_reducible repeat (first | refine blk_drewN ?_ _ | refine blk_drew ?_ | refine blk_alloc ?_ _)); exact BK149.out⟩, ⟨by repeat (first | (with_reducible first | exact HB.out | apply below_alloc | apply pw_below_drewN | apply below_drew1 | refine below_set ?_ GE148.out | refine below_set ?_ GE149.out) | exact HB.out)⟩⟩
                            · replace c44 := Bool.eq_false_iff.mpr c44
                              subst c44
                              have H1 : (some false) = some r := by rw [if_neg (show ¬ (false = true) by decide)] at H; exact H
                              clear H
                              have H := H1
                              clear H1
                              obtain rfl := Option.some.inj H
                              try go_wp2
                              have n0_ := Aside0.mk (Kd.N_drew HO_6.out)
                              have n1_ := Aside0.mk (Kd.N_drew HO_7.out)
                              have n2_ := Aside0.mk (blk_drew BK148.out)
                              have n3_ := Aside0.mk (blk_drew BK149.out)
                              have n4_ := Aside0.mk (below_drew1 HB.out)
                              clear HO_6
                              clear HO_7
                              clear BK148
                              clear BK149
                              clear HB
                              have HO_6 := n0_
                              have HO_7 := n1_
                              have BK148 := n2_
                              have BK149 := n3_
                              have HB := n4_
                              clear n0_ n1_ n2_ n3_ n4_
                              have p158 : 0 ≤ (x68_3 : Int) := of_decide_eq_true (by first | (with_reducible assumption) | assumption)
                              have q158 : x68_3 < (t152.length : Int) := of_decide_eq_true (by first | (with_reducible assumption) | assumption)
                              obtain ⟨ad158, A158_3, c158_3, A158_4, c158_4, e158, hx158_0, hx158_1, hx158_2, hx158_3, hx158_4, hl158_3, hi158_3, hl158_4, hi158_4⟩ := at_T25 (Kd.N_reads' HO_6.out).2.2 x68_3 p158 q158
                              cases e158
                              obtain ⟨ce158, hce158, hMe158, hcc158⟩ := Kd.N_get HO_6.out z25 x68_3 p158 (by first | exact q158 | exact of_decide_eq_true (by first | (with_reducible assumption) | assumption) | (have e_ := (Kd.N_reads' HO_6.out).1; omega))
                              obtain ⟨ua158_3, uc158_3, ua158_4, uc158_4, rfl, ul158_3, ge158_3, ul158_4, ge158_4⟩ := k25_openF hMe158
                              have hv158_3 := hcc158 3 _ rfl
                              rw [add_field _ _ 3 (by omega)] at hv158_3
                              replace hv158_3 := Option.some.inj (hv158_3.symm.trans hx158_3)
                              injection hv158_3 with hva_ hvn_ hvc_
                              rw [hva_] at ge158_3
                              rw [hvc_] at ul158_3
                              have HL158_3 := Aside0.mk (show Kd.V k29 29 _ w.heap.size _ _ ((rd_T25 t152 x68_3).f3) from Kd.V_mk ul158_3 ge158_3)
                              clear hva_ hvn_ hvc_ ge158_3 ul158_3
                              have hv158_4 := hcc158 4 _ rfl
                              rw [add_field _ _ 4 (by omega)] at hv158_4
                              replace hv158_4 := Option.some.inj (hv158_4.symm.trans hx158_4)
                              injection hv158_4 with hva_ hvn_ hvc_
                              rw [hva_] at ge158_4
                              rw [hvc_] at ul158_4
                              have HL158_4 := Aside0.mk (show Kd.V k25 25 _ w.heap.size _ _ ((rd_T25 t152 x68_3).f4) from Kd.V_mk ul158_4 ge158_4)
                              clear hva_ hvn_ hvc_ ge158_4 ul158_4
                              clear hcc158 hce158
                              have HR158_3 := Aside0.mk hi158_3
                              have HC158_3 := Aside0.mk hl158_3
                              clear hi158_3 hl158_3
                              have HR158_4 := Aside0.mk hi158_4
                              have HC158_4 := Aside0.mk hl158_4
                              clear hi158_4 hl158_4
                              replace p158 := eq_true p158
                              replace q158 := eq_true q158
                              have p159 : 0 ≤ (x68_3 : Int) := of_decide_eq_true (by first | (with_reducible assumption) | assumption)
                              have q159 : x68_3 < (t155.length : Int) := of_decide_eq_true (by first | (with_reducible assumption) | assumption)
                              obtain ⟨ad159, A159_3, c159_3, A159_4, c159_4, e159, hx159_0, hx159_1, hx159_2, hx159_3, hx159_4, hl159_3, hi159_3, hl159_4, hi159_4⟩ := at_T25 (Kd.N_reads' HO_7.out).2.2 x68_3 p159 q159
                              cases e159
                              obtain ⟨ce159, hce159, hMe159, hcc159⟩ := Kd.N_get HO_7.out z25 x68_3 p159 (by first | exact q159 | exact of_decide_eq_true (by first | (with_reducible assumption) | assumption) | (have e_ := (Kd.N_reads' HO_7.out).1; omega))
                              obtain ⟨ua159_3, uc159_3, ua159_4, uc159_4, rfl, ul159_3, ge159_3, ul159_4, ge159_4⟩ := k25_openF hMe159
                              have hv159_3 := hcc159 3 _ rfl
                              rw [add_field _ _ 3 (by omega)] at hv159_3
                              replace hv159_3 := Option.some.inj (hv159_3.symm.trans hx159_3)
                              injection hv159_3 with hva_ hvn_ hvc_
                              rw [hva_] at ge159_3
                              rw [hvc_] at ul159_3
                              have HL159_3 := Aside0.mk (show Kd.V k29 29 _ w.heap.size _ _ ((rd_T25 t155 x68_3).f3) from Kd.V_mk ul159_3 ge159_3)
                              clear hva_ hvn_ hvc_ ge159_3 ul159_3
                              have hv159_4 := hcc159 4 _ rfl
                              rw [add_field _ _ 4 (by omega)] at hv159_4
                              replace hv159_4 := Option.some.inj (hv159_4.symm.trans hx159_4)
                              injection hv159_4 with hva_ hvn_ hvc_
                              rw [hva_] at ge159_4
                              rw [hvc_] at ul159_4
                              have HL159_4 := Aside0.mk (show Kd.V k25 25 _ w.heap.size _ _ ((rd_T25 t155 x68_3).f4) from Kd.V_mk ul159_4 ge159_4)
                              clear hva_ hvn_ hvc_ ge159_4 ul159_4
                              clear hcc159 hce159
                              have HR159_3 := Aside0.mk hi159_3
                              have HC159_3 := Aside0.mk hl159_3
                              clear hi159_3 hl159_3
                              have HR159_4 := Aside0.mk hi159_4
                              have HC159_4 := Aside0.mk hl159_4
                              clear hi159_4 hl159_4
                              replace p159 := eq_true p159
                              replace q159 := eq_true q159
                              refine start_ (n := 10) (S := fun w' => w'.cell? (ad158.add ((x68_3).toNat * 5)) = some (.int .i64 ((rd_T25 t152 x68_3).f0)) ∧ w'.cell? ⟨(ad158.add ((x68_3).toNat * 5)).block, (ad158.add ((x68_3).toNat * 5)).off + 1, none⟩ = some (.string ((rd_T25 t152 x68_3).f1)) ∧ w'.cell? ⟨(ad158.add ((x68_3).toNat * 5)).block, (ad158.add ((x68_3).toNat * 5)).off + 2, none⟩ = some (.string ((rd_T25 t152 x68_3).f2)) ∧ w'.cell? ⟨(ad158.add ((x68_3).toNat * 5)).block, (ad158.add ((x68_3).toNat * 5)).off + 3, none⟩ = some (.slice A158_3 ((rd_T25 t152 x68_3).f3).length c158_3) ∧ w'.cell? ⟨(ad158.add ((x68_3).toNat * 5)).block, (ad158.add ((x68_3).toNat * 5)).off + 4, none⟩ = some (.slice A158_4 ((rd_T25 t152 x68_3).f4).length c158_4) ∧ w'.cell? (ad159.add ((x68_3).toNat * 5)) = some (.int .i64 ((rd_T25 t155 x68_3).f0)) ∧ w'.cell? ⟨(ad159.add ((x68_3).toNat * 5)).block, (ad159.add ((x68_3).toNat * 5)).off + 1, none⟩ = some (.string ((rd_T25 t155 x68_3).f1)) ∧ w'.cell? ⟨(ad159.add ((x68_3).toNat * 5)).block, (ad159.add ((x68_3).toNat * 5)).off + 2, none⟩ = some (.string ((rd_T25 t155 x68_3).f2)) ∧ w'.cell? ⟨(ad159.add ((x68_3).toNat * 5)).block, (ad159.add ((x68_3).toNat * 5)).off + 3, none⟩ = some (.slice A159_3 ((rd_T25 t155 x68_3).f3).length c159_3) ∧ w'.cell? ⟨(ad159.add ((x68_3).toNat * 5)).block, (ad159.add ((x68_3).toNat * 5)).off + 4, none⟩ = some (.slice A159_4 ((rd_T25 t155 x68_3).f4).length c159_4)) (ds := []) #[false, false, false, false, false, false, false, false, false, false] (by kernel_rfl) rfl rfl ⟨hx158_0, hx158_1, hx158_2, hx158_3, hx158_4, hx159_0, hx159_1, hx159_2, hx159_3, hx159_4⟩ (fun hHeld => ?_); refine with_tabW spec_Alike.tab15 spec_Alike.bits15 (fun HT_ HW_ => ?_)
                              generalize wr.drew = w47 at HO_6 HO_7 BK148 BK149 HB HL158_3 HL158_4 HL159_3 HL159_4 HR158_3 HR158_4 HR159_3 HR159_4 hx158_0 hx158_1 hx158_2 hx158_3 hx158_4 hx159_0 hx159_1 hx159_2 hx159_3 hx159_4 hHeld ⊢
                              refine pure_ (i := 0) (N := some 71) (v := ?_) (a' := ?_) #[true, false, false, false, false, false, false, false, false, false] rfl rfl (any_of HT_.out (by kernel_rfl)) (fun _ _ _ h => h) (Or.inl ⟨by rfl, ?_⟩) ?_ ?_
                              rotate_left
                              · intro w'
                                go_simp
                                with_reducible rfl
                              rotate_left
                              · simp only [Act.put, List.setIfInBounds_toArray, List.set_cons_zero, List.set_cons_succ, i64_w, i32_w]
                                rfl
                              refine pure_ (i := 1) (N := some 72) (v := ?_) (a' := ?_) #[true, true, false, false, false, false, false, false, false, false] rfl rfl (any_of HT_.out (by kernel_rfl)) (fun _ _ _ h => h) (Or.inl ⟨by rfl, ?_⟩) ?_ ?_
                              rotate_left
                              · intro w'
                                go_simp
                                with_reducible rfl
                              rotate_left
                              · simp only [Act.put, List.setIfInBounds_toArray, List.set_cons_zero, List.set_cons_succ, i64_w, i32_w]
                                rfl
                              refine pure_ (i := 2) (N := some 73) (v := ?_) (a' := ?_) #[true, true, true, false, false, false, false, false, false, false] rfl rfl (any_of HT_.out (by kernel_rfl)) (fun _ _ _ h => h) (Or.inl ⟨by rfl, ?_⟩) ?_ ?_
                              rotate_left
                              · intro w'
                                go_simp
                                with_reducible rfl
                              rotate_left
                              · simp only [Act.put, List.setIfInBounds_toArray, List.set_cons_zero, List.set_cons_succ, i64_w, i32_w]
                                rfl
                              refine pure_ (i := 4) (N := some 75) (v := ?_) (a' := ?_) #[true, true, true, false, true, false, false, false, false, false] rfl rfl (any_of HT_.out (by kernel_rfl)) (fun _ _ _ h => h) (Or.inl ⟨by rfl, ?_⟩) ?_ ?_
                              rotate_left
                              · intro w'
                                go_simp
                                with_reducible rfl
                              rotate_left
                              · simp only [Act.put, List.setIfInBounds_toArray, List.set_cons_zero, List.set_cons_succ, i64_w, i32_w]
                                rfl
                              refine pure_ (i := 5) (N := some 76) (v := ?_) (a' := ?_) #[true, true, true, false, true, true, false, false, false, false] rfl rfl (any_of HT_.out (by kernel_rfl)) (fun _ _ _ h => h) (Or.inl ⟨by rfl, ?_⟩) ?_ ?_
                              rotate_left
                              · intro w'
                                go_simp
                                with_reducible rfl
                              rotate_left
                              · simp only [Act.put, List.setIfInBounds_toArray, List.set_cons_zero, List.set_cons_succ, i64_w, i32_w]
                                rfl
                              refine pure_ (i := 6) (N := some 77) (v := ?_) (a' := ?_) #[true, true, true, false, true, true, true, false, false, false] rfl rfl (any_of HT_.out (by kernel_rfl)) (fun _ _ _ h => h) (Or.inl ⟨by rfl, ?_⟩) ?_ ?_
                              rotate_left
                              · intro w'
                                go_simp
                                with_reducible rfl
                              rotate_left
                              · simp only [Act.put, List.setIfInBounds_toArray, List.set_cons_zero, List.set_cons_succ, i64_w, i32_w]
                                rfl
                              refine take_ (i := 3) (N := some 74) (v := ?_) (a' := ?_) #[true, true, true, true, true, true, true, false, false, false] rfl rfl (take_ofW HT_.out HW_.out (by kernel_rfl)) (fun _ _ _ h => h) (Or.inl ⟨by rfl, ?_⟩) hHeld ?_ ?_
                              rotate_left
                              · rintro w' ⟨s0, s1, s2, s3, s4, s5, s6, s7, s8, s9⟩
                                go_simp
                                with_reducible rfl
                              rotate_left
                              · simp only [Act.put, List.setIfInBounds_toArray, List.set_cons_zero, List.set_cons_succ, i64_w, i32_w]
                                rfl
                              refine take_ (i := 7) (N := some 78) (v := ?_) (a' := ?_) #[true, true, true, true, true, true, true, true, false, false] rfl rfl (take_ofW HT_.out HW_.out (by kernel_rfl)) (fun _ _ _ h => h) (Or.inl ⟨by rfl, ?_⟩) hHeld ?_ ?_
                              rotate_left
                              · rintro w' ⟨s0, s1, s2, s3, s4, s5, s6, s7, s8, s9⟩
                                go_simp
                                with_reducible rfl
                              rotate_left
                              · simp only [Act.put, List.setIfInBounds_toArray, List.set_cons_zero, List.set_cons_succ, i64_w, i32_w]
                                rfl
                              refine one_ (i := 8) (N := some 79) #[true, true, true, true, true, true, true, true, true, false] rfl rfl (one_of HT_.out (by kernel_rfl)) (by decide) (fun K hK => ?_)
                              refine goes_ Tryd.func20 (by kernel_rfl) rfl #[.agg #[.int .i64 ((rd_T25 t152 x68_3).f0), .string ((rd_T25 t152 x68_3).f1), .string ((rd_T25 t152 x68_3).f2), .slice A158_3 ((rd_T25 t152 x68_3).f3).length c158_3, .slice A158_4 ((rd_T25 t152 x68_3).f4).length c158_4], .agg #[.int .i64 ((rd_T25 t155 x68_3).f0), .string ((rd_T25 t155 x68_3).f1), .string ((rd_T25 t155 x68_3).f2), .slice A159_3 ((rd_T25 t155 x68_3).f3).length c159_3, .slice A159_4 ((rd_T25 t155 x68_3).f4).length c159_4]] (by rfl) rfl rfl (by (try simp only [List.map_toArray, List.map_cons, List.map_nil]); first | done | rfl | (simp only [List.length_drop, List.length_take]; rfl)) ?_
                              with_reducible refine (ih k3 (by have := HJ2.out; have := HK2.out; have := HK3.out; omega) ((rd_T25 t152 x68_3).f0) ((rd_T25 t152 x68_3).f1) ((rd_T25 t152 x68_3).f2) _ _ ((rd_T25 t152 x68_3).f3) _ _ ((rd_T25 t152 x68_3).f4) ((rd_T25 t155 x68_3).f0) ((rd_T25 t155 x68_3).f1) ((rd_T25 t155 x68_3).f2) _ _ ((rd_T25 t155 x68_3).f3) _ _ ((rd_T25 t155 x68_3).f4) false _ ?side1 ?side2 ?side3 ?side4 ?side5 ?side6 ?side7 ?side8 A43.out).mono ?_
                              (case side1 => repeat (first | exact (by repeat (first | (with_reducible exact HR158_3.out) | (with_reducible refine Kd.C_alloc ?_ _) | (with_reducible refine Kd.C_drewN ?_ _) | (with_reducible refine Kd.C_drew ?_) | exact HR158_3.out)) | (with_reducible refine Kd.C_alloc ?_ _) | (with_reducible refine Kd.C_drewN ?_ _) | (with_reducible refine Kd.C_drew ?_)))
                              (case side2 => exact HC158_3.out)
                              (case side3 => repeat (first | exact (by repeat (first | (with_reducible exact HR158_4.out) | (with_reducible refine Kd.C_alloc ?_ _) | (with_reducible refine Kd.C_drewN ?_ _) | (with_reducible refine Kd.C_drew ?_) | exact HR158_4.out)) | (with_reducible refine Kd.C_alloc ?_ _) | (with_reducible refine Kd.C_drewN ?_ _) | (with_reducible refine Kd.C_drew ?_)))
                              (case side4 => exact HC158_4.out)
                              (case side5 => repeat (first | exact (by repeat (first | (with_reducible exact HR159_3.out) | (with_reducible refine Kd.C_alloc ?_ _) | (with_reducible refine Kd.C_drewN ?_ _) | (with_reducible refine Kd.C_drew ?_) | exact HR159_3.out)) | (with_reducible refine Kd.C_alloc ?_ _) | (with_reducible refine Kd.C_drewN ?_ _) | (with_reducible refine Kd.C_drew ?_)))
                              (case side6 => exact HC159_3.out)
                              (case side7 => repeat (first | exact (by repeat (first | (with_reducible exact HR159_4.out) | (with_reducible refine Kd.C_alloc ?_ _) | (with_reducible refine Kd.C_drewN ?_ _) | (with_reducible refine Kd.C_drew ?_) | exact HR159_4.out)) | (with_reducible refine Kd.C_alloc ?_ _) | (with_reducible refine Kd.C_drewN ?_ _) | (with_reducible refine Kd.C_drew ?_)))
                              (case side8 => exact HC159_4.out)
                              rintro e w48 ⟨rfl, hb⟩
                              have HS0_ := (hb.cell (World.block_lt_of_cell? _ _ (hHeld.1))).trans (hHeld.1)
                              have HS1_ := (hb.cell (World.block_lt_of_cell? _ _ (hHeld.2.1))).trans (hHeld.2.1)
                              have HS2_ := (hb.cell (World.block_lt_of_cell? _ _ (hHeld.2.2.1))).trans (hHeld.2.2.1)
                              have HS3_ := (hb.cell (World.block_lt_of_cell? _ _ (hHeld.2.2.2.1))).trans (hHeld.2.2.2.1)
                              have HS4_ := (hb.cell (World.block_lt_of_cell? _ _ (hHeld.2.2.2.2.1))).trans (hHeld.2.2.2.2.1)
                              have HS5_ := (hb.cell (World.block_lt_of_cell? _ _ (hHeld.2.2.2.2.2.1))).trans (hHeld.2.2.2.2.2.1)
                              have HS6_ := (hb.cell (World.block_lt_of_cell? _ _ (hHeld.2.2.2.2.2.2.1))).trans (hHeld.2.2.2.2.2.2.1)
                              have HS7_ := (hb.cell (World.block_lt_of_cell? _ _ (hHeld.2.2.2.2.2.2.2.1))).trans (hHeld.2.2.2.2.2.2.2.1)
                              have HS8_ := (hb.cell (World.block_lt_of_cell? _ _ (hHeld.2.2.2.2.2.2.2.2.1))).trans (hHeld.2.2.2.2.2.2.2.2.1)
                              have HS9_ := (hb.cell (World.block_lt_of_cell? _ _ (hHeld.2.2.2.2.2.2.2.2.2))).trans (hHeld.2.2.2.2.2.2.2.2.2)
                              refine ⟨_, rfl, ?_⟩
                              have n0_ := Aside0.mk (Kd.N_below (by (with_reducible repeat (first | apply Kd.N_alloc | apply Kd.N_drewN | apply Kd.N_drew)); exact HO_6.out) hb)
                              have n1_ := Aside0.mk (Kd.N_below (by (with_reducible repeat (first | apply Kd.N_alloc | apply Kd.N_drewN | apply Kd.N_drew)); exact HO_7.out) hb)
                              have n2_ := Aside0.mk (Kd.V_below (by (with_reducible repeat (first | apply Kd.V_alloc | apply Kd.V_drewN | apply Kd.V_drew)); exact HL158_3.out) hb)
                              have n3_ := Aside0.mk (Kd.V_below (by (with_reducible repeat (first | apply Kd.V_alloc | apply Kd.V_drewN | apply Kd.V_drew)); exact HL158_4.out) hb)
                              have n4_ := Aside0.mk (Kd.V_below (by (with_reducible repeat (first | apply Kd.V_alloc | apply Kd.V_drewN | apply Kd.V_drew)); exact HL159_3.out) hb)
                              have n5_ := Aside0.mk (Kd.V_below (by (with_reducible repeat (first | apply Kd.V_alloc | apply Kd.V_drewN | apply Kd.V_drew)); exact HL159_4.out) hb)
                              have n6_ := Aside0.mk (blk_below (g := gb148) (o := .cells #[.int .i64 a0_0, .string a0_1, .string a0_2, .slice A0_3 l0_3.length c0_3, .slice A0_4 l0_4.length c0_4] 25 (0, 0)) (by (with_reducible repeat (first | refine blk_drewN ?_ _ | refine blk_drew ?_ | refine blk_alloc ?_ _)); exact BK148.out) hb)
                              have n7_ := Aside0.mk (blk_below (g := gb149) (o := .cells #[.int .i64 a1_0, .string a1_1, .string a1_2, .slice A1_3 l1_3.length c1_3, .slice A1_4 l1_4.length c1_4] 25 (0, 0)) (by (with_reducible repeat (first | refine blk_drewN ?_ _ | refine blk_drew ?_ | refine blk_alloc ?_ _)); exact BK149.out) hb)
                              have n8_ := Aside0.mk (Kd.C_below (by repeat (first | (with_reducible exact HR158_3.out) | (with_reducible refine Kd.C_alloc ?_ _) | (with_reducible refine Kd.C_drewN ?_ _) | (with_reducible refine Kd.C_drew ?_) | exact HR158_3.out)) hb)
                              have n9_ := Aside0.mk (Kd.C_below (by repeat (first | (with_reducible exact HR158_4.out) | (with_reducible refine Kd.C_alloc ?_ _) | (with_reducible refine Kd.C_drewN ?_ _) | (with_reducible refine Kd.C_drew ?_) | exact HR158_4.out)) hb)
                              have n10_ := Aside0.mk (Kd.C_below (by repeat (first | (with_reducible exact HR159_3.out) | (with_reducible refine Kd.C_alloc ?_ _) | (with_reducible refine Kd.C_drewN ?_ _) | (with_reducible refine Kd.C_drew ?_) | exact HR159_3.out)) hb)
                              have n11_ := Aside0.mk (Kd.C_below (by repeat (first | (with_reducible exact HR159_4.out) | (with_reducible refine Kd.C_alloc ?_ _) | (with_reducible refine Kd.C_drewN ?_ _) | (with_reducible refine Kd.C_drew ?_) | exact HR159_4.out)) hb)
                              have n12_ := Aside0.mk (below_step (by repeat (first | (with_reducible first | exact HB.out | apply below_alloc | apply pw_below_drewN | apply below_drew1 | refine below_set ?_ GE148.out | refine below_set ?_ GE149.out) | exact HB.out)) hb)
                              clear HO_6
                              clear HO_7
                              clear HL158_3
                              clear HL158_4
                              clear HL159_3
                              clear HL159_4
                              clear BK148
                              clear BK149
                              clear HR158_3
                              clear HR158_4
                              clear HR159_3
                              clear HR159_4
                              clear HB
                              have HO_6 := n0_
                              have HO_7 := n1_
                              have HL158_3 := n2_
                              have HL158_4 := n3_
                              have HL159_3 := n4_
                              have HL159_4 := n5_
                              have BK148 := n6_
                              have BK149 := n7_
                              have HR158_3 := n8_
                              have HR158_4 := n9_
                              have HR159_3 := n10_
                              have HR159_4 := n11_
                              have HB := n12_
                              clear n0_ n1_ n2_ n3_ n4_ n5_ n6_ n7_ n8_ n9_ n10_ n11_ n12_
                              (try clear hb)
                              (try clear hb2)
                              (try clear hk)
                              (try clear hi)
                              refine hK.out _ _ ⟨HS0_, HS1_, HS2_, HS3_, HS4_, HS5_, HS6_, HS7_, HS8_, HS9_⟩ (fun hHeld => ?_)
                              clear hK K
                              refine norm_ (a' := ?_) ?_ ?_
                              rotate_left
                              · show Act.put _ (some 79) _ = _
                                simp only [Act.put, List.setIfInBounds_toArray, List.set_cons_zero, List.set_cons_succ, i64_w, i32_w]
                                rfl
                              refine pure_ (i := 9) (N := some 80) (v := ?_) (a' := ?_) #[true, true, true, true, true, true, true, true, true, true] rfl rfl (any_of HT_.out (by kernel_rfl)) (fun _ _ _ h => h) (Or.inl ⟨by rfl, ?_⟩) ?_ ?_
                              rotate_left
                              · intro w'
                                go_simp
                                with_reducible rfl
                              rotate_left
                              · simp only [Act.put, List.setIfInBounds_toArray, List.set_cons_zero, List.set_cons_succ, i64_w, i32_w]
                                rfl
                              refine done_ (done_of HT_.out (by kernel_rfl)) ?_
                              try go_wp2
                              go_ret
                              exact ⟨by first | rfl | (simp [errW_none, errW_some] <;> rfl) | (simp [*, errW_none, errW_some] <;> rfl), by repeat (first | (with_reducible first | exact HB.out | apply below_alloc | apply pw_below_drewN | apply below_drew1 | refine below_set ?_ GE148.out | refine below_set ?_ GE149.out) | exact HB.out)⟩
                          · rw [if_neg c42] at H
                            exact absurd H (by simp)
                        · rw [if_neg c41] at H
                          exact absurd H (by simp)
                      · rw [if_neg c40] at H
                        exact absurd H (by simp)
                    · rw [if_neg c39] at H
                      have c39b0 : decide (x68_3 < (t152.length : Int)) = false := decide_eq_false c39
                      clear c39
                      obtain rfl := Option.some.inj H
                      go_wp2
                      go_ret
                      exact ⟨by first | rfl | (simp [errW_none, errW_some] <;> rfl) | (simp [*, errW_none, errW_some] <;> rfl), by repeat (first | (with_reducible first | exact HB.out | apply below_alloc | apply pw_below_drewN | apply below_drew1 | refine below_set ?_ GE148.out | refine below_set ?_ GE149.out) | exact HB.out)⟩
              · rw [if_neg c33] at H
                have c33b0 : ((t152.length : Int) == (t155.length : Int)) = false := beq_eq_false_iff_ne.mpr c33
                have c33b1 : ((t152.length : Int) != (t155.length : Int)) = true := bne_iff_ne.mpr c33
                have c33b2 : (t152.length == t155.length) = false := by first | simpa using c33 | (simp at c33 ⊢; omega)
                obtain rfl := Option.some.inj H
                try go_wp2
                have n0_ := Aside0.mk (blk_drew BK148.out)
                have n1_ := Aside0.mk (blk_drew BK149.out)
                have n2_ := Aside0.mk (below_drew1 HB.out)
                clear BK148
                clear BK149
                clear HB
                have BK148 := n0_
                have BK149 := n1_
                have HB := n2_
                clear n0_ n1_ n2_
                refine start_ (n := 8) (S := fun w' => w'.cell? ⟨gb148, 0, none⟩ = some (.int .i64 a0_0) ∧ w'.cell? ⟨gb148, 1, none⟩ = some (.string a0_1) ∧ w'.cell? ⟨gb148, 2, none⟩ = some (.string a0_2) ∧ w'.cell? ⟨gb148, 3, none⟩ = some (.slice A0_3 l0_3.length c0_3) ∧ w'.cell? ⟨gb148, 4, none⟩ = some (.slice A0_4 l0_4.length c0_4) ∧ w'.cell? ⟨gb149, 0, none⟩ = some (.int .i64 a1_0) ∧ w'.cell? ⟨gb149, 1, none⟩ = some (.string a1_1) ∧ w'.cell? ⟨gb149, 2, none⟩ = some (.string a1_2) ∧ w'.cell? ⟨gb149, 3, none⟩ = some (.slice A1_3 l1_3.length c1_3) ∧ w'.cell? ⟨gb149, 4, none⟩ = some (.slice A1_4 l1_4.length c1_4)) (ds := []) #[false, false, false, false, false, false, false, false] (by kernel_rfl) rfl rfl ⟨(blk_cell BK148.out 0).trans rfl, (blk_cell BK148.out 1).trans rfl, (blk_cell BK148.out 2).trans rfl, (blk_cell BK148.out 3).trans rfl, (blk_cell BK148.out 4).trans rfl, (blk_cell BK149.out 0).trans rfl, (blk_cell BK149.out 1).trans rfl, (blk_cell BK149.out 2).trans rfl, (blk_cell BK149.out 3).trans rfl, (blk_cell BK149.out 4).trans rfl⟩ (fun hHeld => ?_); refine with_tabW spec_Alike.tab9 spec_Alike.bits9 (fun HT_ HW_ => ?_)
                generalize wr.drew = w49 at BK148 BK149 HB hHeld ⊢
                refine pure_ (i := 0) (N := some 55) (v := ?_) (a' := ?_) #[true, false, false, false, false, false, false, false] rfl rfl (any_of HT_.out (by kernel_rfl)) (fun _ _ _ h => h) (Or.inl ⟨by rfl, ?_⟩) ?_ ?_
                rotate_left
                · intro w'
                  go_simp
                  with_reducible rfl
                rotate_left
                · simp only [Act.put, List.setIfInBounds_toArray, List.set_cons_zero, List.set_cons_succ, i64_w, i32_w]
                  rfl
                refine pure_ (i := 3) (N := some 58) (v := ?_) (a' := ?_) #[true, false, false, true, false, false, false, false] rfl rfl (any_of HT_.out (by kernel_rfl)) (fun _ _ _ h => h) (Or.inl ⟨by rfl, ?_⟩) ?_ ?_
                rotate_left
                · intro w'
                  go_simp
                  with_reducible rfl
                rotate_left
                · simp only [Act.put, List.setIfInBounds_toArray, List.set_cons_zero, List.set_cons_succ, i64_w, i32_w]
                  rfl
                refine take_ (i := 1) (N := some 56) (v := ?_) (a' := ?_) #[true, true, false, true, false, false, false, false] rfl rfl (take_ofW HT_.out HW_.out (by kernel_rfl)) (fun _ _ _ h => h) (Or.inl ⟨by rfl, ?_⟩) hHeld ?_ ?_
                rotate_left
                · rintro w' ⟨s0, s1, s2, s3, s4, s5, s6, s7, s8, s9⟩
                  go_simp
                  with_reducible rfl
                rotate_left
                · simp only [Act.put, List.setIfInBounds_toArray, List.set_cons_zero, List.set_cons_succ, i64_w, i32_w]
                  rfl
                refine take_ (i := 4) (N := some 59) (v := ?_) (a' := ?_) #[true, true, false, true, true, false, false, false] rfl rfl (take_ofW HT_.out HW_.out (by kernel_rfl)) (fun _ _ _ h => h) (Or.inl ⟨by rfl, ?_⟩) hHeld ?_ ?_
                rotate_left
                · rintro w' ⟨s0, s1, s2, s3, s4, s5, s6, s7, s8, s9⟩
                  go_simp
                  with_reducible rfl
                rotate_left
                · simp only [Act.put, List.setIfInBounds_toArray, List.set_cons_zero, List.set_cons_succ, i64_w, i32_w]
                  rfl
                refine one_ (i := 2) (N := some 57) #[true, true, true, true, true, false, false, false] rfl rfl (one_of HT_.out (by kernel_rfl)) (by decide) (fun K hK => ?_)
                refine goes_ Tryd.func44 (by kernel_rfl) rfl #[.slice A0_4 l0_4.length c0_4] (by rfl) rfl rfl (by (try simp only [List.map_toArray, List.map_cons, List.map_nil]); first | done | rfl | (simp only [List.length_drop, List.length_take]; rfl)) ?_
                with_reducible refine (spec_merged.calls k2 (fun k_ => k_ < w.heap.size) _ _ l0_4 t152 _ ?side1 A31.out).mono ?_
                (case side1 => exact Kd.V_mk HC0_4.out (Kd.F_below (Kd.C_F k25_heap HR0_4.out) (by repeat (first | (with_reducible first | exact HB.out | apply below_alloc | apply pw_below_drewN | apply below_drew1 | refine below_set ?_ GE148.out | refine below_set ?_ GE149.out) | exact HB.out))))
                rintro e w50 ⟨v153, rfl, ho0, hb⟩
                refine ⟨_, rfl, ?_⟩
                have n0_ := Aside0.mk (Kd.N_lower (Kd.N_mono (ok' := fun k_ => k_ ≠ gb148 ∧ k_ ≠ gb149) ho0 (fun k_ hk_ => ⟨Or.elim hk_ (fun hs_ => fun e_ => Nat.not_le.2 hs_ (by rw [e_]; exact GW148.out)) (fun hn_ => (Kd.freshB (g := gb148) (o := .cells #[.int .i64 a0_0, .string a0_1, .string a0_2, .slice A0_3 l0_3.length c0_3, .slice A0_4 l0_4.length c0_4] 25 (0, 0)) (by (with_reducible repeat (first | refine blk_drewN ?_ _ | refine blk_drew ?_ | refine blk_alloc ?_ _)); exact BK148.out) k_ hn_)), Or.elim hk_ (fun hs_ => fun e_ => Nat.not_le.2 hs_ (by rw [e_]; exact GW149.out)) (fun hn_ => (Kd.freshB (g := gb149) (o := .cells #[.int .i64 a1_0, .string a1_1, .string a1_2, .slice A1_3 l1_3.length c1_3, .slice A1_4 l1_4.length c1_4] 25 (0, 0)) (by (with_reducible repeat (first | refine blk_drewN ?_ _ | refine blk_drew ?_ | refine blk_alloc ?_ _)); exact BK149.out) k_ hn_))⟩)) (below_size (by repeat (first | (with_reducible first | exact HB.out | apply below_alloc | apply pw_below_drewN | apply below_drew1 | refine below_set ?_ GE148.out | refine below_set ?_ GE149.out) | exact HB.out))))
                have n1_ := Aside0.mk (blk_below (g := gb148) (o := .cells #[.int .i64 a0_0, .string a0_1, .string a0_2, .slice A0_3 l0_3.length c0_3, .slice A0_4 l0_4.length c0_4] 25 (0, 0)) (by (with_reducible repeat (first | refine blk_drewN ?_ _ | refine blk_drew ?_ | refine blk_alloc ?_ _)); exact BK148.out) hb)
                have n2_ := Aside0.mk (blk_below (g := gb149) (o := .cells #[.int .i64 a1_0, .string a1_1, .string a1_2, .slice A1_3 l1_3.length c1_3, .slice A1_4 l1_4.length c1_4] 25 (0, 0)) (by (with_reducible repeat (first | refine blk_drewN ?_ _ | refine blk_drew ?_ | refine blk_alloc ?_ _)); exact BK149.out) hb)
                have n3_ := Aside0.mk (below_step (by repeat (first | (with_reducible first | exact HB.out | apply below_alloc | apply pw_below_drewN | apply below_drew1 | refine below_set ?_ GE148.out | refine below_set ?_ GE149.out) | exact HB.out)) hb)
                clear BK148
                clear BK149
                clear HB
                have HO154 := n0_
                have BK148 := n1_
                have BK149 := n2_
                have HB := n3_
                clear n0_ n1_ n2_ n3_
                (try clear hb)
                (try clear hb2)
                (try clear hk)
                (try clear hi)
                (try clear ho0)
                refine hK.out _ _ ⟨(blk_cell BK148.out 0).trans rfl, (blk_cell BK148.out 1).trans rfl, (blk_cell BK148.out 2).trans rfl, (blk_cell BK148.out 3).trans rfl, (blk_cell BK148.out 4).trans rfl, (blk_cell BK149.out 0).trans rfl, (blk_cell BK149.out 1).trans rfl, (blk_cell BK149.out 2).trans rfl, (blk_cell BK149.out 3).trans rfl, (blk_cell BK149.out 4).trans rfl⟩ (fun hHeld => ?_)
                clear hK K
                refine norm_ (a' := ?_) ?_ ?_
                rotate_left
                · show Act.put _ (some 57) _ = _
                  simp only [Act.put, List.setIfInBounds_toArray, List.set_cons_zero, List.set_cons_succ, i64_w, i32_w]
                  rfl
                refine one_ (i := 5) (N := some 60) #[true, true, true, true, true, true, false, false] rfl rfl (one_of HT_.out (by kernel_rfl)) (by decide) (fun K hK => ?_)
                refine goes_ Tryd.func44 (by kernel_rfl) rfl #[.slice A1_4 l1_4.length c1_4] (by rfl) rfl rfl (by (try simp only [List.map_toArray, List.map_cons, List.map_nil]); first | done | rfl | (simp only [List.length_drop, List.length_take]; rfl)) ?_
                with_reducible refine (spec_merged.calls k2 (fun k_ => k_ < w.heap.size) _ _ l1_4 t155 _ ?side1 A32.out).mono ?_
                (case side1 => exact Kd.V_mk HC1_4.out (Kd.F_below (Kd.C_F k25_heap HR1_4.out) (by repeat (first | (with_reducible first | exact HB.out | apply below_alloc | apply pw_below_drewN | apply below_drew1 | refine below_set ?_ GE148.out | refine below_set ?_ GE149.out) | exact HB.out))))
                rintro e w51 ⟨v156, rfl, ho0, hb⟩
                refine ⟨_, rfl, ?_⟩
                have n0_ := Aside0.mk (Kd.N_elder' (by (with_reducible repeat (first | apply Kd.N_alloc | apply Kd.N_drewN | apply Kd.N_drew)); exact HO154.out) (Kd.N_base ho0) hb)
                have n1_ := Aside0.mk (Kd.N_lower (Kd.N_mono (ok' := fun k_ => some k_ ≠ (v153 : Value).ownBlock ∧ k_ ≠ gb148 ∧ k_ ≠ gb149) ho0 (fun k_ hk_ => ⟨Or.elim hk_ (fun hs_ => fun e_ => Nat.not_le.2 hs_ (Kd.N_base HO154.out k_ e_.symm)) (fun hn_ => (Kd.fresh' (Kd.N_lt (by (with_reducible repeat (first | apply Kd.N_alloc | apply Kd.N_drewN | apply Kd.N_drew)); exact HO154.out)) k_ hn_)), Or.elim hk_ (fun hs_ => fun e_ => Nat.not_le.2 hs_ (by rw [e_]; exact GW148.out)) (fun hn_ => (Kd.freshB (g := gb148) (o := .cells #[.int .i64 a0_0, .string a0_1, .string a0_2, .slice A0_3 l0_3.length c0_3, .slice A0_4 l0_4.length c0_4] 25 (0, 0)) (by (with_reducible repeat (first | refine blk_drewN ?_ _ | refine blk_drew ?_ | refine blk_alloc ?_ _)); exact BK148.out) k_ hn_)), Or.elim hk_ (fun hs_ => fun e_ => Nat.not_le.2 hs_ (by rw [e_]; exact GW149.out)) (fun hn_ => (Kd.freshB (g := gb149) (o := .cells #[.int .i64 a1_0, .string a1_1, .string a1_2, .slice A1_3 l1_3.length c1_3, .slice A1_4 l1_4.length c1_4] 25 (0, 0)) (by (with_reducible repeat (first | refine blk_drewN ?_ _ | refine blk_drew ?_ | refine blk_alloc ?_ _)); exact BK149.out) k_ hn_))⟩)) (below_size (by repeat (first | (with_reducible first | exact HB.out | apply below_alloc | apply pw_below_drewN | apply below_drew1 | refine below_set ?_ GE148.out | refine below_set ?_ GE149.out) | exact HB.out))))
                have n2_ := Aside0.mk (blk_below (g := gb148) (o := .cells #[.int .i64 a0_0, .string a0_1, .string a0_2, .slice A0_3 l0_3.length c0_3, .slice A0_4 l0_4.length c0_4] 25 (0, 0)) (by (with_reducible repeat (first | refine blk_drewN ?_ _ | refine blk_drew ?_ | refine blk_alloc ?_ _)); exact BK148.out) hb)
                have n3_ := Aside0.mk (blk_below (g := gb149) (o := .cells #[.int .i64 a1_0, .string a1_1, .string a1_2, .slice A1_3 l1_3.length c1_3, .slice A1_4 l1_4.length c1_4] 25 (0, 0)) (by (with_reducible repeat (first | refine blk_drewN ?_ _ | refine blk_drew ?_ | refine blk_alloc ?_ _)); exact BK149.out) hb)
                have n4_ := Aside0.mk (below_step (by repeat (first | (with_reducible first | exact HB.out | apply below_alloc | apply pw_below_drewN | apply below_drew1 | refine below_set ?_ GE148.out | refine below_set ?_ GE149.out) | exact HB.out)) hb)
                clear HO154
                clear BK148
                clear BK149
                clear HB
                have HO154 := n0_
                have HO157 := n1_
                have BK148 := n2_
                have BK149 := n3_
                have HB := n4_
                clear n0_ n1_ n2_ n3_ n4_
                (try clear hb)
                (try clear hb2)
                (try clear hk)
                (try clear hi)
                (try clear ho0)
                refine hK.out _ _ ⟨(blk_cell BK148.out 0).trans rfl, (blk_cell BK148.out 1).trans rfl, (blk_cell BK148.out 2).trans rfl, (blk_cell BK148.out 3).trans rfl, (blk_cell BK148.out 4).trans rfl, (blk_cell BK149.out 0).trans rfl, (blk_cell BK149.out 1).trans rfl, (blk_cell BK149.out 2).trans rfl, (blk_cell BK149.out 3).trans rfl, (blk_cell BK149.out 4).trans rfl⟩ (fun hHeld => ?_)
                clear hK K
                refine norm_ (a' := ?_) ?_ ?_
                rotate_left
                · show Act.put _ (some 60) _ = _
                  simp only [Act.put, List.setIfInBounds_toArray, List.set_cons_zero, List.set_cons_succ, i64_w, i32_w]
                  rfl
                refine pure_ (i := 6) (N := some 6) (v := ?_) (a' := ?_) #[true, true, true, true, true, true, true, false] rfl rfl (any_of HT_.out (by kernel_rfl)) (fun _ _ _ h => h) (Or.inl ⟨by rfl, ?_⟩) ?_ ?_
                rotate_left
                · intro w'
                  go_simp
                  with_reducible rfl
                rotate_left
                · simp only [Act.put, List.setIfInBounds_toArray, List.set_cons_zero, List.set_cons_succ, i64_w, i32_w]
                  rfl
                refine pure_ (i := 7) (N := some 7) (v := ?_) (a' := ?_) #[true, true, true, true, true, true, true, true] rfl rfl (any_of HT_.out (by kernel_rfl)) (fun _ _ _ h => h) (Or.inl ⟨by rfl, ?_⟩) ?_ ?_
                rotate_left
                · intro w'
                  go_simp
                  with_reducible rfl
                rotate_left
                · simp only [Act.put, List.setIfInBounds_toArray, List.set_cons_zero, List.set_cons_succ, i64_w, i32_w]
                  rfl
                refine done_ (done_of HT_.out (by kernel_rfl)) ?_
                obtain ⟨Ao52, co52, eo52⟩ := Kd.N_slice HO154.out
                subst eo52
                obtain ⟨Ao53, co53, eo53⟩ := Kd.N_slice HO157.out
                subst eo53
                try go_wp2
                go_ret
                exact ⟨by first | rfl | (simp [errW_none, errW_some] <;> rfl) | (simp [*, errW_none, errW_some] <;> rfl), by repeat (first | (with_reducible first | exact HB.out | apply below_alloc | apply pw_below_drewN | apply below_drew1 | refine below_set ?_ GE148.out | refine below_set ?_ GE149.out) | exact HB.out)⟩

end Go.Proofs.YtlallihdiffheaaDoor.GT
