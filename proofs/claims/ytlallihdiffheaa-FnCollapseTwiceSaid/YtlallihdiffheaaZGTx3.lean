-- made by a program of this session, after the kit's print
import Derived.Test.YtlallihdiffheaaZGTx0
import Derived.Test.YtlallihdiffheaaZGTx1
namespace Go.Proofs.Ytlallihdiffheaa.GT
open Go.RowKit Go.Proofs.YtlallihdiffheaaW.PrintWords Go.Proofs.YtlallihdiffheaaW.PrintLast Go.Proofs.YtlallihdiffheaaW.PrintMore
attribute [local go_sem] max2_int min2_int max_two min_two max_three min_three max_four min_four   -- for this text's walks alone
set_option linter.unusedVariables false
set_option linter.unusedSimpArgs false

attribute [local go_sem high] eqA34
/-! ### spec_SameTree: function 32 -/
mutual
def spec_SameTree.j0 : Nat → Bool → Int → ByteArray → ByteArray → List (S34) → List (S25) → Int → ByteArray → ByteArray → List (S34) → List (S25) → Option (Bool)
  | 0, _, _, _, _, _, _, _, _, _, _, _ => none
  | k + 1, x43, x108000, x108001, x108002, x108003, x108004, x109000, x109001, x109002, x109003, x109004 => if x43 = true then (some false) else (spec_SameTree.l0 k (x108003.length : Int) 0 x108000 x108001 x108002 x108003 x108004 x109000 x109001 x109002 x109003 x109004)
def spec_SameTree.l0 : Nat → Int → Int → Int → ByteArray → ByteArray → List (S34) → List (S25) → Int → ByteArray → ByteArray → List (S34) → List (S25) → Option (Bool)
  | 0, _, _, _, _, _, _, _, _, _, _, _, _ => none
  | k + 1, x46, x47, x108000, x108001, x108002, x108003, x108004, x109000, x109001, x109002, x109003, x109004 => if x47 < x46 then (if 0 ≤ x47 then (if x47 < (x108003.length : Int) then (if x47 < (x109003.length : Int) then (if (!((((rd_T34 x108003 x47).f0).toList) == (((rd_T34 x109003 x47).f0).toList)) || (!((((rd_T34 x108003 x47).f1).toList) == (((rd_T34 x109003 x47).f1).toList)))) = true then (some false) else (spec_SameTree.l0 k x46 (wrap64 (x47 + 1)) x108000 x108001 x108002 x108003 x108004 x109000 x109001 x109002 x109003 x109004)) else (none)) else (none)) else (none)) else (spec_SameTree.l1 k (x108004.length : Int) 0 x108000 x108001 x108002 x108003 x108004 x109000 x109001 x109002 x109003 x109004)
def spec_SameTree.l1 : Nat → Int → Int → Int → ByteArray → ByteArray → List (S34) → List (S25) → Int → ByteArray → ByteArray → List (S34) → List (S25) → Option (Bool)
  | 0, _, _, _, _, _, _, _, _, _, _, _, _ => none
  | k + 1, x64, x65, x108000, x108001, x108002, x108003, x108004, x109000, x109001, x109002, x109003, x109004 => if x65 < x64 then (if 0 ≤ x65 then (if x65 < (x108004.length : Int) then (if x65 < (x109004.length : Int) then ((spec_SameTree.f k ((rd_T25 x108004 x65).f0) ((rd_T25 x108004 x65).f1) ((rd_T25 x108004 x65).f2) ((rd_T25 x108004 x65).f3) ((rd_T25 x108004 x65).f4) ((rd_T25 x109004 x65).f0) ((rd_T25 x109004 x65).f1) ((rd_T25 x109004 x65).f2) ((rd_T25 x109004 x65).f3) ((rd_T25 x109004 x65).f4)).bind fun t113 => (if t113 = true then (spec_SameTree.l1 k x64 (wrap64 (x65 + 1)) x108000 x108001 x108002 x108003 x108004 x109000 x109001 x109002 x109003 x109004) else (some false))) else (none)) else (none)) else (none)) else (some true)
def spec_SameTree.f : Nat → Int → ByteArray → ByteArray → List (S34) → List (S25) → Int → ByteArray → ByteArray → List (S34) → List (S25) → Option (Bool)
  | 0, _, _, _, _, _, _, _, _, _, _ => none
  | k + 1, a0_0, a0_1, a0_2, l0_3, l0_4, a1_0, a1_1, a1_2, l1_3, l1_4 => if a0_0 = a1_0 then (if a0_1.toList = a1_1.toList then (if a0_2.toList = a1_2.toList then (if (l0_3.length : Int) = (l1_3.length : Int) then (spec_SameTree.j0 k ((l0_4.length : Int) != (l1_4.length : Int)) a0_0 a0_1 a0_2 l0_3 l0_4 a1_0 a1_1 a1_2 l1_3 l1_4) else (spec_SameTree.j0 k true a0_0 a0_1 a0_2 l0_3 l0_4 a1_0 a1_1 a1_2 l1_3 l1_4)) else (spec_SameTree.j0 k true a0_0 a0_1 a0_2 l0_3 l0_4 a1_0 a1_1 a1_2 l1_3 l1_4)) else (spec_SameTree.j0 k true a0_0 a0_1 a0_2 l0_3 l0_4 a1_0 a1_1 a1_2 l1_3 l1_4)) else (spec_SameTree.j0 k true a0_0 a0_1 a0_2 l0_3 l0_4 a1_0 a1_1 a1_2 l1_3 l1_4)
end
theorem spec_SameTree.mono_l : ∀ k, (∀ y0 y1 y2 y3 y4 y5 y6 y7 y8 y9, LeO (spec_SameTree.f k y0 y1 y2 y3 y4 y5 y6 y7 y8 y9) (spec_SameTree.f (k + 1) y0 y1 y2 y3 y4 y5 y6 y7 y8 y9)) ∧ (∀ y0 y1 y2 y3 y4 y5 y6 y7 y8 y9 y10, LeO (spec_SameTree.j0 k y0 y1 y2 y3 y4 y5 y6 y7 y8 y9 y10) (spec_SameTree.j0 (k + 1) y0 y1 y2 y3 y4 y5 y6 y7 y8 y9 y10)) ∧ (∀ y0 y1 y2 y3 y4 y5 y6 y7 y8 y9 y10 y11, LeO (spec_SameTree.l0 k y0 y1 y2 y3 y4 y5 y6 y7 y8 y9 y10 y11) (spec_SameTree.l0 (k + 1) y0 y1 y2 y3 y4 y5 y6 y7 y8 y9 y10 y11)) ∧ (∀ y0 y1 y2 y3 y4 y5 y6 y7 y8 y9 y10 y11, LeO (spec_SameTree.l1 k y0 y1 y2 y3 y4 y5 y6 y7 y8 y9 y10 y11) (spec_SameTree.l1 (k + 1) y0 y1 y2 y3 y4 y5 y6 y7 y8 y9 y10 y11))
  | 0 => ⟨fun _ _ _ _ _ _ _ _ _ _ r h => by simp [spec_SameTree.f] at h, fun _ _ _ _ _ _ _ _ _ _ _ r h => by simp [spec_SameTree.j0] at h, fun _ _ _ _ _ _ _ _ _ _ _ _ r h => by simp [spec_SameTree.l0] at h, fun _ _ _ _ _ _ _ _ _ _ _ _ r h => by simp [spec_SameTree.l1] at h⟩
  | k + 1 => by
    obtain ⟨ih0, ih1, ih2, ih3⟩ := spec_SameTree.mono_l k
    refine ⟨?_, ?_, ?_, ?_⟩
    · intro y0 y1 y2 y3 y4 y5 y6 y7 y8 y9
      unfold spec_SameTree.f
      repeat' first
      | (with_reducible exact ih0 _ _ _ _ _ _ _ _ _ _)
      | (with_reducible exact ih1 _ _ _ _ _ _ _ _ _ _ _)
      | (with_reducible exact ih2 _ _ _ _ _ _ _ _ _ _ _ _)
      | (with_reducible exact ih3 _ _ _ _ _ _ _ _ _ _ _ _)
      | (with_reducible exact LeO.refl _)
      | (with_reducible exact LeO.none _)
      | (with_reducible refine LeO.ite ?_ ?_)
      | (with_reducible refine LeO.bind ?_ (fun _ => ?_))
      | exact ih0 _ _ _ _ _ _ _ _ _ _
      | exact ih1 _ _ _ _ _ _ _ _ _ _ _
      | exact ih2 _ _ _ _ _ _ _ _ _ _ _ _
      | exact ih3 _ _ _ _ _ _ _ _ _ _ _ _
      | exact LeO.none _
      | refine LeO.ite ?_ ?_
      | refine LeO.bind ?_ (fun _ => ?_)
    · intro y0 y1 y2 y3 y4 y5 y6 y7 y8 y9 y10
      unfold spec_SameTree.j0
      repeat' first
      | (with_reducible exact ih0 _ _ _ _ _ _ _ _ _ _)
      | (with_reducible exact ih1 _ _ _ _ _ _ _ _ _ _ _)
      | (with_reducible exact ih2 _ _ _ _ _ _ _ _ _ _ _ _)
      | (with_reducible exact ih3 _ _ _ _ _ _ _ _ _ _ _ _)
      | (with_reducible exact LeO.refl _)
      | (with_reducible exact LeO.none _)
      | (with_reducible refine LeO.ite ?_ ?_)
      | (with_reducible refine LeO.bind ?_ (fun _ => ?_))
      | exact ih0 _ _ _ _ _ _ _ _ _ _
      | exact ih1 _ _ _ _ _ _ _ _ _ _ _
      | exact ih2 _ _ _ _ _ _ _ _ _ _ _ _
      | exact ih3 _ _ _ _ _ _ _ _ _ _ _ _
      | exact LeO.none _
      | refine LeO.ite ?_ ?_
      | refine LeO.bind ?_ (fun _ => ?_)
    · intro y0 y1 y2 y3 y4 y5 y6 y7 y8 y9 y10 y11
      unfold spec_SameTree.l0
      repeat' first
      | (with_reducible exact ih0 _ _ _ _ _ _ _ _ _ _)
      | (with_reducible exact ih1 _ _ _ _ _ _ _ _ _ _ _)
      | (with_reducible exact ih2 _ _ _ _ _ _ _ _ _ _ _ _)
      | (with_reducible exact ih3 _ _ _ _ _ _ _ _ _ _ _ _)
      | (with_reducible exact LeO.refl _)
      | (with_reducible exact LeO.none _)
      | (with_reducible refine LeO.ite ?_ ?_)
      | (with_reducible refine LeO.bind ?_ (fun _ => ?_))
      | exact ih0 _ _ _ _ _ _ _ _ _ _
      | exact ih1 _ _ _ _ _ _ _ _ _ _ _
      | exact ih2 _ _ _ _ _ _ _ _ _ _ _ _
      | exact ih3 _ _ _ _ _ _ _ _ _ _ _ _
      | exact LeO.none _
      | refine LeO.ite ?_ ?_
      | refine LeO.bind ?_ (fun _ => ?_)
    · intro y0 y1 y2 y3 y4 y5 y6 y7 y8 y9 y10 y11
      unfold spec_SameTree.l1
      repeat' first
      | (with_reducible exact ih0 _ _ _ _ _ _ _ _ _ _)
      | (with_reducible exact ih1 _ _ _ _ _ _ _ _ _ _ _)
      | (with_reducible exact ih2 _ _ _ _ _ _ _ _ _ _ _ _)
      | (with_reducible exact ih3 _ _ _ _ _ _ _ _ _ _ _ _)
      | (with_reducible exact LeO.refl _)
      | (with_reducible exact LeO.none _)
      | (with_reducible refine LeO.ite ?_ ?_)
      | (with_reducible refine LeO.bind ?_ (fun _ => ?_))
      | exact ih0 _ _ _ _ _ _ _ _ _ _
      | exact ih1 _ _ _ _ _ _ _ _ _ _ _
      | exact ih2 _ _ _ _ _ _ _ _ _ _ _ _
      | exact ih3 _ _ _ _ _ _ _ _ _ _ _ _
      | exact LeO.none _
      | refine LeO.ite ?_ ?_
      | refine LeO.bind ?_ (fun _ => ?_)
theorem spec_SameTree.mono : ∀ a0 a1 a2 a3 a4 a5 a6 a7 a8 a9 k, LeO (spec_SameTree.f k a0 a1 a2 a3 a4 a5 a6 a7 a8 a9) (spec_SameTree.f (k + 1) a0 a1 a2 a3 a4 a5 a6 a7 a8 a9) := by
  intro a0 a1 a2 a3 a4 a5 a6 a7 a8 a9 k
  obtain ⟨ih0, ih1, ih2, ih3⟩ := spec_SameTree.mono_l k
  exact ih0 a0 a1 a2 a3 a4 a5 a6 a7 a8 a9
def spec_SameTree.T6 : Bool × List (List Nat × List Nat) := (true, [([], []), ([0], [0]), ([], []), ([1, 2], [1, 2]), ([3], [3]), ([], []), ([5], [5]), ([], []), ([6, 7], [6, 7]), ([8], [8]), ([4, 9], [4, 9])])
def spec_SameTree.B6 : List Nat := [0, 1, 0, 7, 15, 0, 32, 0, 224, 480, 1023]
theorem spec_SameTree.tab6 : rtab .any (opsOf Try.f32 6) = spec_SameTree.T6 := by kernel_rfl
theorem spec_SameTree.bits6 : waitsOk spec_SameTree.T6.2 spec_SameTree.B6 = true := by kernel_rfl
def spec_SameTree.T12 : Bool × List (List Nat × List Nat) := (true, [([], []), ([0], [0]), ([], []), ([1, 2], [1, 2]), ([3], [3]), ([], []), ([5], [5]), ([], []), ([6, 7], [6, 7]), ([8], [8]), ([4, 9], [4, 9]), ([10], [10])])
def spec_SameTree.B12 : List Nat := [0, 1, 0, 7, 15, 0, 32, 0, 224, 480, 1023, 2047]
theorem spec_SameTree.tab12 : rtab .any (opsOf Try.f32 12) = spec_SameTree.T12 := by kernel_rfl
theorem spec_SameTree.bits12 : waitsOk spec_SameTree.T12.2 spec_SameTree.B12 = true := by kernel_rfl
set_option maxHeartbeats 8000000 in
set_option maxRecDepth 100000 in
theorem spec_SameTree.calls (k : Nat) : ∀ (a0_0 : Int) (a0_1 : ByteArray) (a0_2 : ByteArray) (A0_3 : Option Addr) (c0_3 : Nat) (l0_3 : List (S34)) (A0_4 : Option Addr) (c0_4 : Nat) (l0_4 : List (S25)) (a1_0 : Int) (a1_1 : ByteArray) (a1_2 : ByteArray) (A1_3 : Option Addr) (c1_3 : Nat) (l1_3 : List (S34)) (A1_4 : Option Addr) (c1_4 : Nat) (l1_4 : List (S25)) (r : Bool) (w : World) (hr0_3 : Kd.C k34 w A0_3 l0_3.length l0_3) (hc0_3 : l0_3.length ≤ c0_3) (hr0_4 : Kd.C k25 w A0_4 l0_4.length l0_4) (hc0_4 : l0_4.length ≤ c0_4) (hr1_3 : Kd.C k34 w A1_3 l1_3.length l1_3) (hc1_3 : l1_3.length ≤ c1_3) (hr1_4 : Kd.C k25 w A1_4 l1_4.length l1_4) (hc1_4 : l1_4.length ≤ c1_4) (h : spec_SameTree.f k a0_0 a0_1 a0_2 l0_3 l0_4 a1_0 a1_1 a1_2 l1_3 l1_4 = some r),
    Calls Try.prog 32 #[.agg #[.int .i64 a0_0, .string a0_1, .string a0_2, .slice A0_3 l0_3.length c0_3, .slice A0_4 l0_4.length c0_4], .agg #[.int .i64 a1_0, .string a1_1, .string a1_2, .slice A1_3 l1_3.length c1_3, .slice A1_4 l1_4.length c1_4]] w fun e w' => e = .returned (.bool r) ∧ Below w.heap.size w w' := by
  induction k using Nat.strongRecOn with
  | _ k ih =>
  intro a0_0 a0_1 a0_2 A0_3 c0_3 l0_3 A0_4 c0_4 l0_4 a1_0 a1_1 a1_2 A1_3 c1_3 l1_3 A1_4 c1_4 l1_4 r w hr0_3 hc0_3 hr0_4 hc0_4 hr1_3 hc1_3 hr1_4 hc1_4 h
  cases k with
  | zero => exact absurd h (by simp [spec_SameTree.f])
  | succ k =>
  simp only [spec_SameTree.f] at h
  have hu25 := Try.underlying25
  have hu34 := Try.underlying34
  have HR0_3 := Aside0.mk hr0_3
  have HC0_3 := Aside0.mk hc0_3
  clear hr0_3 hc0_3
  have HR0_4 := Aside0.mk hr0_4
  have HC0_4 := Aside0.mk hc0_4
  clear hr0_4 hc0_4
  have HR1_3 := Aside0.mk hr1_3
  have HC1_3 := Aside0.mk hc1_3
  clear hr1_3 hc1_3
  have HR1_4 := Aside0.mk hr1_4
  have HC1_4 := Aside0.mk hc1_4
  clear hr1_4 hc1_4
  have HB := Aside0.mk (Below.refl w.heap.size w)
  have H : (if a0_0 = a1_0 then (if a0_1.toList = a1_1.toList then (if a0_2.toList = a1_2.toList then (if (l0_3.length : Int) = (l1_3.length : Int) then (spec_SameTree.j0 k ((l0_4.length : Int) != (l1_4.length : Int)) a0_0 a0_1 a0_2 l0_3 l0_4 a1_0 a1_1 a1_2 l1_3 l1_4) else (spec_SameTree.j0 k true a0_0 a0_1 a0_2 l0_3 l0_4 a1_0 a1_1 a1_2 l1_3 l1_4)) else (spec_SameTree.j0 k true a0_0 a0_1 a0_2 l0_3 l0_4 a1_0 a1_1 a1_2 l1_3 l1_4)) else (spec_SameTree.j0 k true a0_0 a0_1 a0_2 l0_3 l0_4 a1_0 a1_1 a1_2 l1_3 l1_4)) else (spec_SameTree.j0 k true a0_0 a0_1 a0_2 l0_3 l0_4 a1_0 a1_1 a1_2 l1_3 l1_4)) = some r := h
  clear h
  have HC3 := Aside0.mk H
  clear H
  go_enter Try.func32, Try.ntmps32
  go_upto_region 1 with (first | ((with_reducible refine gate_dst (N := 2) rfl ?_); (try (refine gate_guard (by rfl) ?_; dsimp only)); refine box_event ?hg (N := 2) ?hd (cs := #[.int .i64 a0_0, .string a0_1, .string a0_2, .slice A0_3 l0_3.length c0_3, .slice A0_4 l0_4.length c0_4]) (t := 25) ?hr ?_; (case hd => rfl); (case hg => rfl); (case hr => first | (go_simp; done) | (go_simp; rfl)); intro gb107 hg w4 hbox hb; have n0_ := Aside0.mk (below_step (by repeat (first | (with_reducible first | exact HB.out | apply below_alloc | apply pw_below_drewN | apply below_drew1) | exact HB.out)) hb); have n1_ := Aside0.mk (hbox); have n2_ := Aside0.mk ((by rw [hg]; exact (below_size (by repeat (first | (with_reducible first | exact HB.out | apply below_alloc | apply pw_below_drewN | apply below_drew1) | exact HB.out))) : w.heap.size ≤ gb107)); have n3_ := Aside0.mk ((by rw [hg]; exact (below_size (by repeat (first | (with_reducible first | exact HB.out | apply below_alloc | apply pw_below_drewN | apply below_drew1) | exact HB.out))) : w.heap.size ≤ gb107)); clear HB; have HB := n0_; have BK107 := n1_; have GW107 := n2_; have GE107 := n3_; clear n0_ n1_ n2_ n3_; clear hb hbox hg) | ((with_reducible refine gate_dst (N := 3) rfl ?_); (try (refine gate_guard (by rfl) ?_; dsimp only)); refine box_event ?hg (N := 3) ?hd (cs := #[.int .i64 a1_0, .string a1_1, .string a1_2, .slice A1_3 l1_3.length c1_3, .slice A1_4 l1_4.length c1_4]) (t := 25) ?hr ?_; (case hd => rfl); (case hg => rfl); (case hr => first | (go_simp; done) | (go_simp; rfl)); intro gb108 hg w5 hbox hb; have n0_ := Aside0.mk (blk_below (g := gb107) (o := .cells #[.int .i64 a0_0, .string a0_1, .string a0_2, .slice A0_3 l0_3.length c0_3, .slice A0_4 l0_4.length c0_4] 25 (0, 0)) (by (with_reducible repeat (first | refine blk_drewN ?_ _ | refine blk_drew ?_ | refine blk_alloc ?_ _)); exact BK107.out) hb); have n1_ := Aside0.mk (below_step (by repeat (first | (with_reducible first | exact HB.out | apply below_alloc | apply pw_below_drewN | apply below_drew1 | refine below_set ?_ GE107.out) | exact HB.out)) hb); have n2_ := Aside0.mk (hbox); have n3_ := Aside0.mk ((by rw [hg]; exact (below_size (by repeat (first | (with_reducible first | exact HB.out | apply below_alloc | apply pw_below_drewN | apply below_drew1 | refine below_set ?_ GE107.out) | exact HB.out))) : w.heap.size ≤ gb108)); have n4_ := Aside0.mk ((by rw [hg]; exact (below_size (by repeat (first | (with_reducible first | exact HB.out | apply below_alloc | apply pw_below_drewN | apply below_drew1 | refine below_set ?_ GE107.out) | exact HB.out))) : w.heap.size ≤ gb108)); have n5_ := Aside0.mk ((by rw [hg]; exact Nat.ne_of_lt (blk_lt (g := gb107) (o := .cells #[.int .i64 a0_0, .string a0_1, .string a0_2, .slice A0_3 l0_3.length c0_3, .slice A0_4 l0_4.length c0_4] 25 (0, 0)) (by (with_reducible repeat (first | refine blk_drewN ?_ _ | refine blk_drew ?_ | refine blk_alloc ?_ _)); exact BK107.out)) : gb107 ≠ gb108)); have n6_ := Aside0.mk ((by rw [hg]; exact Nat.ne_of_gt (blk_lt (g := gb107) (o := .cells #[.int .i64 a0_0, .string a0_1, .string a0_2, .slice A0_3 l0_3.length c0_3, .slice A0_4 l0_4.length c0_4] 25 (0, 0)) (by (with_reducible repeat (first | refine blk_drewN ?_ _ | refine blk_drew ?_ | refine blk_alloc ?_ _)); exact BK107.out)) : gb108 ≠ gb107)); clear BK107; clear HB; have BK107 := n0_; have HB := n1_; have BK108 := n2_; have GW108 := n3_; have GE108 := n4_; have NB107_108 := n5_; have NB108_107 := n6_; clear n0_ n1_ n2_ n3_ n4_ n5_ n6_; clear hb hbox hg))
  (try simp only [Act.put, List.setIfInBounds_toArray, List.set_cons_zero, List.set_cons_succ])
  go_cut [43] (fun v43 wc => ∃ (kq : Nat) (x43_2 : Bool), v43 = .bool x43_2 ∧ Aside0 (spec_SameTree.j0 kq x43_2 a0_0 a0_1 a0_2 l0_3 l0_4 a1_0 a1_1 a1_2 l1_3 l1_4 = some r) ∧ Aside0 (kq ≤ k) ∧ Aside0 (wc.heap[gb107]? = some (.cells #[.int .i64 a0_0, .string a0_1, .string a0_2, (.slice A0_3 l0_3.length c0_3), (.slice A0_4 l0_4.length c0_4)] 25 (0, 0))) ∧ Aside0 (wc.heap[gb108]? = some (.cells #[.int .i64 a1_0, .string a1_1, .string a1_2, (.slice A1_3 l1_3.length c1_3), (.slice A1_4 l1_4.length c1_4)] 25 (0, 0))) ∧ Aside0 (Below w.heap.size w wc))
  case first =>
    have H := HC3.out
    clear HC3
    by_cases c6 : a0_0 = a1_0
    · rw [if_pos c6] at H
      have c6b0 : (a0_0 == a1_0) = true := beq_iff_eq.mpr c6
      have c6b1 : (a0_0 != a1_0) = false := bne_eq_false_iff_eq.mpr c6
      clear c6
      (first | rw [c6b0] | (simp only [i64_w, i32_w]; rw [c6b0]) | skip)
      by_cases c7 : a0_1.toList = a1_1.toList
      · rw [if_pos c7] at H
        have c7b0 : (a0_1.toList == a1_1.toList) = true := beq_iff_eq.mpr c7
        have c7b1 : (a0_1.toList != a1_1.toList) = false := bne_eq_false_iff_eq.mpr c7
        clear c7
        by_cases c8 : a0_2.toList = a1_2.toList
        · rw [if_pos c8] at H
          have c8b0 : (a0_2.toList == a1_2.toList) = true := beq_iff_eq.mpr c8
          have c8b1 : (a0_2.toList != a1_2.toList) = false := bne_eq_false_iff_eq.mpr c8
          clear c8
          by_cases c9 : (l0_3.length : Int) = (l1_3.length : Int)
          · rw [if_pos c9] at H
            have c9b0 : ((l0_3.length : Int) == (l1_3.length : Int)) = true := beq_iff_eq.mpr c9
            have c9b1 : ((l0_3.length : Int) != (l1_3.length : Int)) = false := bne_eq_false_iff_eq.mpr c9
            have c9b2 : (l0_3.length == l1_3.length) = true := by first | simpa using c9 | (simp at c9 ⊢; omega)
            clear c9
            have H' := Aside0.mk H
            clear H
            have hnb10 := NB107_108.out
            have hnc10 := NB108_107.out
            have hcz11_0 : w5.cell? ⟨gb107, 0, none⟩ = some (.int .i64 a0_0) := (blk_cell BK107.out 0).trans rfl
            have hcz11_1 : w5.cell? ⟨gb107, 1, none⟩ = some (.string a0_1) := (blk_cell BK107.out 1).trans rfl
            have hcz11_2 : w5.cell? ⟨gb107, 2, none⟩ = some (.string a0_2) := (blk_cell BK107.out 2).trans rfl
            have hcz11_3 : w5.cell? ⟨gb107, 3, none⟩ = some (.slice A0_3 l0_3.length c0_3) := (blk_cell BK107.out 3).trans rfl
            have hcz11_4 : w5.cell? ⟨gb107, 4, none⟩ = some (.slice A0_4 l0_4.length c0_4) := (blk_cell BK107.out 4).trans rfl
            have hfz11_0 := blk_frozen BK107.out 0
            have hfz11_1 := blk_frozen BK107.out 1
            have hfz11_2 := blk_frozen BK107.out 2
            have hfz11_3 := blk_frozen BK107.out 3
            have hfz11_4 := blk_frozen BK107.out 4
            have hcz12_0 : w5.cell? ⟨gb108, 0, none⟩ = some (.int .i64 a1_0) := (blk_cell BK108.out 0).trans rfl
            have hcz12_1 : w5.cell? ⟨gb108, 1, none⟩ = some (.string a1_1) := (blk_cell BK108.out 1).trans rfl
            have hcz12_2 : w5.cell? ⟨gb108, 2, none⟩ = some (.string a1_2) := (blk_cell BK108.out 2).trans rfl
            have hcz12_3 : w5.cell? ⟨gb108, 3, none⟩ = some (.slice A1_3 l1_3.length c1_3) := (blk_cell BK108.out 3).trans rfl
            have hcz12_4 : w5.cell? ⟨gb108, 4, none⟩ = some (.slice A1_4 l1_4.length c1_4) := (blk_cell BK108.out 4).trans rfl
            have hfz12_0 := blk_frozen BK108.out 0
            have hfz12_1 := blk_frozen BK108.out 1
            have hfz12_2 := blk_frozen BK108.out 2
            have hfz12_3 := blk_frozen BK108.out 3
            have hfz12_4 := blk_frozen BK108.out 4
            go_wp2
            go_meet
            case rel => exact ⟨_, (((l0_4.length : Int) != (l1_4.length : Int))), (by first | rfl | (simp; done) | (simp [*]; done)), H', ⟨by first | omega | exact Nat.le_refl _⟩, ⟨by (with_reducible repeat (first | refine blk_drewN ?_ _ | refine blk_drew ?_ | refine blk_alloc ?_ _)); exact BK107.out⟩, ⟨by (with_reducible repeat (first | refine blk_drewN ?_ _ | refine blk_drew ?_ | refine blk_alloc ?_ _)); exact BK108.out⟩, ⟨by repeat (first | (with_reducible first | exact HB.out | apply below_alloc | apply pw_below_drewN | apply below_drew1 | refine below_set ?_ GE107.out | refine below_set ?_ GE108.out) | exact HB.out)⟩⟩
          · rw [if_neg c9] at H
            have c9b0 : ((l0_3.length : Int) == (l1_3.length : Int)) = false := beq_eq_false_iff_ne.mpr c9
            have c9b1 : ((l0_3.length : Int) != (l1_3.length : Int)) = true := bne_iff_ne.mpr c9
            have c9b2 : (l0_3.length == l1_3.length) = false := by first | simpa using c9 | (simp at c9 ⊢; omega)
            have H' := Aside0.mk H
            clear H
            have hnb13 := NB107_108.out
            have hnc13 := NB108_107.out
            have hcz14_0 : w5.cell? ⟨gb107, 0, none⟩ = some (.int .i64 a0_0) := (blk_cell BK107.out 0).trans rfl
            have hcz14_1 : w5.cell? ⟨gb107, 1, none⟩ = some (.string a0_1) := (blk_cell BK107.out 1).trans rfl
            have hcz14_2 : w5.cell? ⟨gb107, 2, none⟩ = some (.string a0_2) := (blk_cell BK107.out 2).trans rfl
            have hcz14_3 : w5.cell? ⟨gb107, 3, none⟩ = some (.slice A0_3 l0_3.length c0_3) := (blk_cell BK107.out 3).trans rfl
            have hcz14_4 : w5.cell? ⟨gb107, 4, none⟩ = some (.slice A0_4 l0_4.length c0_4) := (blk_cell BK107.out 4).trans rfl
            have hfz14_0 := blk_frozen BK107.out 0
            have hfz14_1 := blk_frozen BK107.out 1
            have hfz14_2 := blk_frozen BK107.out 2
            have hfz14_3 := blk_frozen BK107.out 3
            have hfz14_4 := blk_frozen BK107.out 4
            have hcz15_0 : w5.cell? ⟨gb108, 0, none⟩ = some (.int .i64 a1_0) := (blk_cell BK108.out 0).trans rfl
            have hcz15_1 : w5.cell? ⟨gb108, 1, none⟩ = some (.string a1_1) := (blk_cell BK108.out 1).trans rfl
            have hcz15_2 : w5.cell? ⟨gb108, 2, none⟩ = some (.string a1_2) := (blk_cell BK108.out 2).trans rfl
            have hcz15_3 : w5.cell? ⟨gb108, 3, none⟩ = some (.slice A1_3 l1_3.length c1_3) := (blk_cell BK108.out 3).trans rfl
            have hcz15_4 : w5.cell? ⟨gb108, 4, none⟩ = some (.slice A1_4 l1_4.length c1_4) := (blk_cell BK108.out 4).trans rfl
            have hfz15_0 := blk_frozen BK108.out 0
            have hfz15_1 := blk_frozen BK108.out 1
            have hfz15_2 := blk_frozen BK108.out 2
            have hfz15_3 := blk_frozen BK108.out 3
            have hfz15_4 := blk_frozen BK108.out 4
            go_wp2
            go_meet
            case rel => exact ⟨_, (true), (by first | rfl | (simp; done) | (simp [*]; done)), H', ⟨by first | omega | exact Nat.le_refl _⟩, ⟨by (with_reducible repeat (first | refine blk_drewN ?_ _ | refine blk_drew ?_ | refine blk_alloc ?_ _)); exact BK107.out⟩, ⟨by (with_reducible repeat (first | refine blk_drewN ?_ _ | refine blk_drew ?_ | refine blk_alloc ?_ _)); exact BK108.out⟩, ⟨by repeat (first | (with_reducible first | exact HB.out | apply below_alloc | apply pw_below_drewN | apply below_drew1 | refine below_set ?_ GE107.out | refine below_set ?_ GE108.out) | exact HB.out)⟩⟩
        · rw [if_neg c8] at H
          have c8b0 : (a0_2.toList == a1_2.toList) = false := beq_eq_false_iff_ne.mpr c8
          have c8b1 : (a0_2.toList != a1_2.toList) = true := bne_iff_ne.mpr c8
          have H' := Aside0.mk H
          clear H
          have hnb16 := NB107_108.out
          have hnc16 := NB108_107.out
          have hcz17_0 : w5.cell? ⟨gb107, 0, none⟩ = some (.int .i64 a0_0) := (blk_cell BK107.out 0).trans rfl
          have hcz17_1 : w5.cell? ⟨gb107, 1, none⟩ = some (.string a0_1) := (blk_cell BK107.out 1).trans rfl
          have hcz17_2 : w5.cell? ⟨gb107, 2, none⟩ = some (.string a0_2) := (blk_cell BK107.out 2).trans rfl
          have hcz17_3 : w5.cell? ⟨gb107, 3, none⟩ = some (.slice A0_3 l0_3.length c0_3) := (blk_cell BK107.out 3).trans rfl
          have hcz17_4 : w5.cell? ⟨gb107, 4, none⟩ = some (.slice A0_4 l0_4.length c0_4) := (blk_cell BK107.out 4).trans rfl
          have hfz17_0 := blk_frozen BK107.out 0
          have hfz17_1 := blk_frozen BK107.out 1
          have hfz17_2 := blk_frozen BK107.out 2
          have hfz17_3 := blk_frozen BK107.out 3
          have hfz17_4 := blk_frozen BK107.out 4
          have hcz18_0 : w5.cell? ⟨gb108, 0, none⟩ = some (.int .i64 a1_0) := (blk_cell BK108.out 0).trans rfl
          have hcz18_1 : w5.cell? ⟨gb108, 1, none⟩ = some (.string a1_1) := (blk_cell BK108.out 1).trans rfl
          have hcz18_2 : w5.cell? ⟨gb108, 2, none⟩ = some (.string a1_2) := (blk_cell BK108.out 2).trans rfl
          have hcz18_3 : w5.cell? ⟨gb108, 3, none⟩ = some (.slice A1_3 l1_3.length c1_3) := (blk_cell BK108.out 3).trans rfl
          have hcz18_4 : w5.cell? ⟨gb108, 4, none⟩ = some (.slice A1_4 l1_4.length c1_4) := (blk_cell BK108.out 4).trans rfl
          have hfz18_0 := blk_frozen BK108.out 0
          have hfz18_1 := blk_frozen BK108.out 1
          have hfz18_2 := blk_frozen BK108.out 2
          have hfz18_3 := blk_frozen BK108.out 3
          have hfz18_4 := blk_frozen BK108.out 4
          go_wp2
          go_meet
          case rel => exact ⟨_, (true), (by first | rfl | (simp; done) | (simp [*]; done)), H', ⟨by first | omega | exact Nat.le_refl _⟩, ⟨by (with_reducible repeat (first | refine blk_drewN ?_ _ | refine blk_drew ?_ | refine blk_alloc ?_ _)); exact BK107.out⟩, ⟨by (with_reducible repeat (first | refine blk_drewN ?_ _ | refine blk_drew ?_ | refine blk_alloc ?_ _)); exact BK108.out⟩, ⟨by repeat (first | (with_reducible first | exact HB.out | apply below_alloc | apply pw_below_drewN | apply below_drew1 | refine below_set ?_ GE107.out | refine below_set ?_ GE108.out) | exact HB.out)⟩⟩
      · rw [if_neg c7] at H
        have c7b0 : (a0_1.toList == a1_1.toList) = false := beq_eq_false_iff_ne.mpr c7
        have c7b1 : (a0_1.toList != a1_1.toList) = true := bne_iff_ne.mpr c7
        have H' := Aside0.mk H
        clear H
        have hnb19 := NB107_108.out
        have hnc19 := NB108_107.out
        have hcz20_0 : w5.cell? ⟨gb107, 0, none⟩ = some (.int .i64 a0_0) := (blk_cell BK107.out 0).trans rfl
        have hcz20_1 : w5.cell? ⟨gb107, 1, none⟩ = some (.string a0_1) := (blk_cell BK107.out 1).trans rfl
        have hcz20_2 : w5.cell? ⟨gb107, 2, none⟩ = some (.string a0_2) := (blk_cell BK107.out 2).trans rfl
        have hcz20_3 : w5.cell? ⟨gb107, 3, none⟩ = some (.slice A0_3 l0_3.length c0_3) := (blk_cell BK107.out 3).trans rfl
        have hcz20_4 : w5.cell? ⟨gb107, 4, none⟩ = some (.slice A0_4 l0_4.length c0_4) := (blk_cell BK107.out 4).trans rfl
        have hfz20_0 := blk_frozen BK107.out 0
        have hfz20_1 := blk_frozen BK107.out 1
        have hfz20_2 := blk_frozen BK107.out 2
        have hfz20_3 := blk_frozen BK107.out 3
        have hfz20_4 := blk_frozen BK107.out 4
        have hcz21_0 : w5.cell? ⟨gb108, 0, none⟩ = some (.int .i64 a1_0) := (blk_cell BK108.out 0).trans rfl
        have hcz21_1 : w5.cell? ⟨gb108, 1, none⟩ = some (.string a1_1) := (blk_cell BK108.out 1).trans rfl
        have hcz21_2 : w5.cell? ⟨gb108, 2, none⟩ = some (.string a1_2) := (blk_cell BK108.out 2).trans rfl
        have hcz21_3 : w5.cell? ⟨gb108, 3, none⟩ = some (.slice A1_3 l1_3.length c1_3) := (blk_cell BK108.out 3).trans rfl
        have hcz21_4 : w5.cell? ⟨gb108, 4, none⟩ = some (.slice A1_4 l1_4.length c1_4) := (blk_cell BK108.out 4).trans rfl
        have hfz21_0 := blk_frozen BK108.out 0
        have hfz21_1 := blk_frozen BK108.out 1
        have hfz21_2 := blk_frozen BK108.out 2
        have hfz21_3 := blk_frozen BK108.out 3
        have hfz21_4 := blk_frozen BK108.out 4
        go_wp2
        go_meet
        case rel => exact ⟨_, (true), (by first | rfl | (simp; done) | (simp [*]; done)), H', ⟨by first | omega | exact Nat.le_refl _⟩, ⟨by (with_reducible repeat (first | refine blk_drewN ?_ _ | refine blk_drew ?_ | refine blk_alloc ?_ _)); exact BK107.out⟩, ⟨by (with_reducible repeat (first | refine blk_drewN ?_ _ | refine blk_drew ?_ | refine blk_alloc ?_ _)); exact BK108.out⟩, ⟨by repeat (first | (with_reducible first | exact HB.out | apply below_alloc | apply pw_below_drewN | apply below_drew1 | refine below_set ?_ GE107.out | refine below_set ?_ GE108.out) | exact HB.out)⟩⟩
    · rw [if_neg c6] at H
      have c6b0 : (a0_0 == a1_0) = false := beq_eq_false_iff_ne.mpr c6
      have c6b1 : (a0_0 != a1_0) = true := bne_iff_ne.mpr c6
      (first | rw [c6b0] | (simp only [i64_w, i32_w]; rw [c6b0]) | skip)
      have H' := Aside0.mk H
      clear H
      have hnb22 := NB107_108.out
      have hnc22 := NB108_107.out
      have hcz23_0 : w5.cell? ⟨gb107, 0, none⟩ = some (.int .i64 a0_0) := (blk_cell BK107.out 0).trans rfl
      have hcz23_1 : w5.cell? ⟨gb107, 1, none⟩ = some (.string a0_1) := (blk_cell BK107.out 1).trans rfl
      have hcz23_2 : w5.cell? ⟨gb107, 2, none⟩ = some (.string a0_2) := (blk_cell BK107.out 2).trans rfl
      have hcz23_3 : w5.cell? ⟨gb107, 3, none⟩ = some (.slice A0_3 l0_3.length c0_3) := (blk_cell BK107.out 3).trans rfl
      have hcz23_4 : w5.cell? ⟨gb107, 4, none⟩ = some (.slice A0_4 l0_4.length c0_4) := (blk_cell BK107.out 4).trans rfl
      have hfz23_0 := blk_frozen BK107.out 0
      have hfz23_1 := blk_frozen BK107.out 1
      have hfz23_2 := blk_frozen BK107.out 2
      have hfz23_3 := blk_frozen BK107.out 3
      have hfz23_4 := blk_frozen BK107.out 4
      have hcz24_0 : w5.cell? ⟨gb108, 0, none⟩ = some (.int .i64 a1_0) := (blk_cell BK108.out 0).trans rfl
      have hcz24_1 : w5.cell? ⟨gb108, 1, none⟩ = some (.string a1_1) := (blk_cell BK108.out 1).trans rfl
      have hcz24_2 : w5.cell? ⟨gb108, 2, none⟩ = some (.string a1_2) := (blk_cell BK108.out 2).trans rfl
      have hcz24_3 : w5.cell? ⟨gb108, 3, none⟩ = some (.slice A1_3 l1_3.length c1_3) := (blk_cell BK108.out 3).trans rfl
      have hcz24_4 : w5.cell? ⟨gb108, 4, none⟩ = some (.slice A1_4 l1_4.length c1_4) := (blk_cell BK108.out 4).trans rfl
      have hfz24_0 := blk_frozen BK108.out 0
      have hfz24_1 := blk_frozen BK108.out 1
      have hfz24_2 := blk_frozen BK108.out 2
      have hfz24_3 := blk_frozen BK108.out 3
      have hfz24_4 := blk_frozen BK108.out 4
      go_wp2
      go_meet
      case rel => exact ⟨_, (true), (by first | rfl | (simp; done) | (simp [*]; done)), H', ⟨by first | omega | exact Nat.le_refl _⟩, ⟨by (with_reducible repeat (first | refine blk_drewN ?_ _ | refine blk_drew ?_ | refine blk_alloc ?_ _)); exact BK107.out⟩, ⟨by (with_reducible repeat (first | refine blk_drewN ?_ _ | refine blk_drew ?_ | refine blk_alloc ?_ _)); exact BK108.out⟩, ⟨by repeat (first | (with_reducible first | exact HB.out | apply below_alloc | apply pw_below_drewN | apply below_drew1 | refine below_set ?_ GE107.out | refine below_set ?_ GE108.out) | exact HB.out)⟩⟩
  case rest =>
    clear HC3
    try clear c1
    try clear c2
    try clear p2
    try clear c3
    try clear c6
    try clear c6b0
    try clear c6b1
    try clear c7
    try clear c7b0
    try clear c7b1
    try clear c8
    try clear c8b0
    try clear c8b1
    try clear c9
    try clear c9b0
    try clear c9b1
    try clear c9b2
    try clear c10
    try clear c13
    try clear c16
    try clear c19
    try clear c22
    try clear hcz11_0
    try clear hcz11_1
    try clear hcz11_2
    try clear hcz11_3
    try clear hcz11_4
    try clear hcz12_0
    try clear hcz12_1
    try clear hcz12_2
    try clear hcz12_3
    try clear hcz12_4
    try clear hcz14_0
    try clear hcz14_1
    try clear hcz14_2
    try clear hcz14_3
    try clear hcz14_4
    try clear hcz15_0
    try clear hcz15_1
    try clear hcz15_2
    try clear hcz15_3
    try clear hcz15_4
    try clear hcz17_0
    try clear hcz17_1
    try clear hcz17_2
    try clear hcz17_3
    try clear hcz17_4
    try clear hcz18_0
    try clear hcz18_1
    try clear hcz18_2
    try clear hcz18_3
    try clear hcz18_4
    try clear hcz20_0
    try clear hcz20_1
    try clear hcz20_2
    try clear hcz20_3
    try clear hcz20_4
    try clear hcz21_0
    try clear hcz21_1
    try clear hcz21_2
    try clear hcz21_3
    try clear hcz21_4
    try clear hcz23_0
    try clear hcz23_1
    try clear hcz23_2
    try clear hcz23_3
    try clear hcz23_4
    try clear hcz24_0
    try clear hcz24_1
    try clear hcz24_2
    try clear hcz24_3
    try clear hcz24_4
    try clear hfz11_0
    try clear hfz11_1
    try clear hfz11_2
    try clear hfz11_3
    try clear hfz11_4
    try clear hfz12_0
    try clear hfz12_1
    try clear hfz12_2
    try clear hfz12_3
    try clear hfz12_4
    try clear hfz14_0
    try clear hfz14_1
    try clear hfz14_2
    try clear hfz14_3
    try clear hfz14_4
    try clear hfz15_0
    try clear hfz15_1
    try clear hfz15_2
    try clear hfz15_3
    try clear hfz15_4
    try clear hfz17_0
    try clear hfz17_1
    try clear hfz17_2
    try clear hfz17_3
    try clear hfz17_4
    try clear hfz18_0
    try clear hfz18_1
    try clear hfz18_2
    try clear hfz18_3
    try clear hfz18_4
    try clear hfz20_0
    try clear hfz20_1
    try clear hfz20_2
    try clear hfz20_3
    try clear hfz20_4
    try clear hfz21_0
    try clear hfz21_1
    try clear hfz21_2
    try clear hfz21_3
    try clear hfz21_4
    try clear hfz23_0
    try clear hfz23_1
    try clear hfz23_2
    try clear hfz23_3
    try clear hfz23_4
    try clear hfz24_0
    try clear hfz24_1
    try clear hfz24_2
    try clear hfz24_3
    try clear hfz24_4
    obtain ⟨kq, x43_2, rfl, HA, HJ2, BK107, BK108, HB⟩ := hcut
    cases kq with
    | zero => exact absurd HA.out (by simp [spec_SameTree.j0])
    | succ kj2 =>
      have H := HA.out
      clear HA
      simp only [spec_SameTree.j0] at H
      by_cases c25 : x43_2 = true
      · subst c25
        have H1 : (some false) = some r := by rw [if_pos rfl] at H; exact H
        clear H
        have H := H1
        clear H1
        obtain rfl := Option.some.inj H
        go_wp2
        go_ret
        exact ⟨by first | rfl | (simp [errW_none, errW_some] <;> rfl) | (simp [*, errW_none, errW_some] <;> rfl), by repeat (first | (with_reducible first | exact HB.out | apply below_alloc | apply pw_below_drewN | apply below_drew1 | refine below_set ?_ GE107.out | refine below_set ?_ GE108.out) | exact HB.out)⟩
      · replace c25 := Bool.eq_false_iff.mpr c25
        subst c25
        have H1 : (spec_SameTree.l0 kj2 (l0_3.length : Int) 0 a0_0 a0_1 a0_2 l0_3 l0_4 a1_0 a1_1 a1_2 l1_3 l1_4) = some r := by rw [if_neg (show ¬ (false = true) by decide)] at H; exact H
        clear H
        have H := H1
        clear H1
        have H' := Aside0.mk H
        clear H
        have hnb26 := NB107_108.out
        have hnc26 := NB108_107.out
        have hcz27_0 : wc.cell? ⟨gb107, 0, none⟩ = some (.int .i64 a0_0) := (blk_cell BK107.out 0).trans rfl
        have hcz27_1 : wc.cell? ⟨gb107, 1, none⟩ = some (.string a0_1) := (blk_cell BK107.out 1).trans rfl
        have hcz27_2 : wc.cell? ⟨gb107, 2, none⟩ = some (.string a0_2) := (blk_cell BK107.out 2).trans rfl
        have hcz27_3 : wc.cell? ⟨gb107, 3, none⟩ = some (.slice A0_3 l0_3.length c0_3) := (blk_cell BK107.out 3).trans rfl
        have hcz27_4 : wc.cell? ⟨gb107, 4, none⟩ = some (.slice A0_4 l0_4.length c0_4) := (blk_cell BK107.out 4).trans rfl
        have hfz27_0 := blk_frozen BK107.out 0
        have hfz27_1 := blk_frozen BK107.out 1
        have hfz27_2 := blk_frozen BK107.out 2
        have hfz27_3 := blk_frozen BK107.out 3
        have hfz27_4 := blk_frozen BK107.out 4
        go_wp2
        go_loopg [47] kj2 (fun kq v47 w' => ∃ (x47_2 : Int), v47 = .int .i64 x47_2 ∧ Aside0 (spec_SameTree.l0 kq (l0_3.length : Int) x47_2 a0_0 a0_1 a0_2 l0_3 l0_4 a1_0 a1_1 a1_2 l1_3 l1_4 = some r) ∧ Aside0 (kq ≤ kj2) ∧ Aside0 (w'.heap[gb107]? = some (.cells #[.int .i64 a0_0, .string a0_1, .string a0_2, (.slice A0_3 l0_3.length c0_3), (.slice A0_4 l0_4.length c0_4)] 25 (0, 0))) ∧ Aside0 (w'.heap[gb108]? = some (.cells #[.int .i64 a1_0, .string a1_1, .string a1_2, (.slice A1_3 l1_3.length c1_3), (.slice A1_4 l1_4.length c1_4)] 25 (0, 0))) ∧ Aside0 (Below w.heap.size w w'))
        case atStart => exact ⟨(0), (by first | rfl | (simp; done) | (simp [*]; done)), H', ⟨Nat.le_refl _⟩, ⟨by (with_reducible repeat (first | refine blk_drewN ?_ _ | refine blk_drew ?_ | refine blk_alloc ?_ _)); exact BK107.out⟩, ⟨by (with_reducible repeat (first | refine blk_drewN ?_ _ | refine blk_drew ?_ | refine blk_alloc ?_ _)); exact BK108.out⟩, ⟨by repeat (first | (with_reducible first | exact HB.out | apply below_alloc | apply pw_below_drewN | apply below_drew1 | refine below_set ?_ GE107.out | refine below_set ?_ GE108.out) | exact HB.out)⟩⟩
        case round =>
          clear H'
          try clear c1
          try clear c2
          try clear p2
          try clear c3
          try clear c6
          try clear c6b0
          try clear c6b1
          try clear c7
          try clear c7b0
          try clear c7b1
          try clear c8
          try clear c8b0
          try clear c8b1
          try clear c9
          try clear c9b0
          try clear c9b1
          try clear c9b2
          try clear c10
          try clear c13
          try clear c16
          try clear c19
          try clear c22
          try clear c25
          try clear c26
          try clear hcz11_0
          try clear hcz11_1
          try clear hcz11_2
          try clear hcz11_3
          try clear hcz11_4
          try clear hcz12_0
          try clear hcz12_1
          try clear hcz12_2
          try clear hcz12_3
          try clear hcz12_4
          try clear hcz14_0
          try clear hcz14_1
          try clear hcz14_2
          try clear hcz14_3
          try clear hcz14_4
          try clear hcz15_0
          try clear hcz15_1
          try clear hcz15_2
          try clear hcz15_3
          try clear hcz15_4
          try clear hcz17_0
          try clear hcz17_1
          try clear hcz17_2
          try clear hcz17_3
          try clear hcz17_4
          try clear hcz18_0
          try clear hcz18_1
          try clear hcz18_2
          try clear hcz18_3
          try clear hcz18_4
          try clear hcz20_0
          try clear hcz20_1
          try clear hcz20_2
          try clear hcz20_3
          try clear hcz20_4
          try clear hcz21_0
          try clear hcz21_1
          try clear hcz21_2
          try clear hcz21_3
          try clear hcz21_4
          try clear hcz23_0
          try clear hcz23_1
          try clear hcz23_2
          try clear hcz23_3
          try clear hcz23_4
          try clear hcz24_0
          try clear hcz24_1
          try clear hcz24_2
          try clear hcz24_3
          try clear hcz24_4
          try clear hcz27_0
          try clear hcz27_1
          try clear hcz27_2
          try clear hcz27_3
          try clear hcz27_4
          try clear hfz11_0
          try clear hfz11_1
          try clear hfz11_2
          try clear hfz11_3
          try clear hfz11_4
          try clear hfz12_0
          try clear hfz12_1
          try clear hfz12_2
          try clear hfz12_3
          try clear hfz12_4
          try clear hfz14_0
          try clear hfz14_1
          try clear hfz14_2
          try clear hfz14_3
          try clear hfz14_4
          try clear hfz15_0
          try clear hfz15_1
          try clear hfz15_2
          try clear hfz15_3
          try clear hfz15_4
          try clear hfz17_0
          try clear hfz17_1
          try clear hfz17_2
          try clear hfz17_3
          try clear hfz17_4
          try clear hfz18_0
          try clear hfz18_1
          try clear hfz18_2
          try clear hfz18_3
          try clear hfz18_4
          try clear hfz20_0
          try clear hfz20_1
          try clear hfz20_2
          try clear hfz20_3
          try clear hfz20_4
          try clear hfz21_0
          try clear hfz21_1
          try clear hfz21_2
          try clear hfz21_3
          try clear hfz21_4
          try clear hfz23_0
          try clear hfz23_1
          try clear hfz23_2
          try clear hfz23_3
          try clear hfz23_4
          try clear hfz24_0
          try clear hfz24_1
          try clear hfz24_2
          try clear hfz24_3
          try clear hfz24_4
          try clear hfz27_0
          try clear hfz27_1
          try clear hfz27_2
          try clear hfz27_3
          try clear hfz27_4
          try clear p2
          obtain ⟨x47_2, rfl, HA, HK2, BK107, BK108, HB⟩ := hrel
          cases gk with
          | zero => exact absurd HA.out (by simp [spec_SameTree.l0])
          | succ k2 =>
            have H := HA.out
            clear HA
            simp only [spec_SameTree.l0] at H
            by_cases c28 : x47_2 < (l0_3.length : Int)
            · rw [if_pos c28] at H
              have c28b0 : decide (x47_2 < (l0_3.length : Int)) = true := decide_eq_true c28
              clear c28
              by_cases c29 : 0 ≤ x47_2
              · rw [if_pos c29] at H
                have c29b0 : decide (0 ≤ x47_2) = true := decide_eq_true c29
                clear c29
                by_cases c30 : x47_2 < (l0_3.length : Int)
                · rw [if_pos c30] at H
                  have c30b0 : decide (x47_2 < (l0_3.length : Int)) = true := decide_eq_true c30
                  clear c30
                  by_cases c31 : x47_2 < (l1_3.length : Int)
                  · rw [if_pos c31] at H
                    have c31b0 : decide (x47_2 < (l1_3.length : Int)) = true := decide_eq_true c31
                    clear c31
                    by_cases c32 : (!((((rd_T34 l0_3 x47_2).f0).toList) == (((rd_T34 l1_3 x47_2).f0).toList)) || (!((((rd_T34 l0_3 x47_2).f1).toList) == (((rd_T34 l1_3 x47_2).f1).toList)))) = true
                    · rw [if_pos c32] at H
                      have c32b0 : (!((((rd_T34 l0_3 x47_2).f0).toList) == (((rd_T34 l1_3 x47_2).f0).toList)) || (!((((rd_T34 l0_3 x47_2).f1).toList) == (((rd_T34 l1_3 x47_2).f1).toList)))) = true := c32
                      clear c32
                      obtain rfl := Option.some.inj H
                      try go_wp2
                      have n0_ := Aside0.mk (blk_drew BK107.out)
                      have n1_ := Aside0.mk (blk_drew BK108.out)
                      have n2_ := Aside0.mk (below_drew1 HB.out)
                      clear BK107
                      clear BK108
                      clear HB
                      have BK107 := n0_
                      have BK108 := n1_
                      have HB := n2_
                      clear n0_ n1_ n2_
                      have p109 : 0 ≤ (x47_2 : Int) := of_decide_eq_true (by first | (with_reducible assumption) | assumption)
                      have q109 : x47_2 < (l0_3.length : Int) := of_decide_eq_true (by first | (with_reducible assumption) | assumption)
                      obtain ⟨ad109, e109, hx109_0, hx109_1⟩ := at_T34 HR0_3.out x47_2 p109 q109
                      have hw109_1 := hx109_1
                      have hw109_0 := hx109_0
                      cases e109
                      replace hx109_0 := (HB.out.cell (World.block_lt_of_cell? w _ hx109_0)).trans hx109_0
                      replace hx109_1 := (HB.out.cell (World.block_lt_of_cell? w _ hx109_1)).trans hx109_1
                      replace p109 := eq_true p109
                      replace q109 := eq_true q109
                      have p110 : 0 ≤ (x47_2 : Int) := of_decide_eq_true (by first | (with_reducible assumption) | assumption)
                      have q110 : x47_2 < (l1_3.length : Int) := of_decide_eq_true (by first | (with_reducible assumption) | assumption)
                      obtain ⟨ad110, e110, hx110_0, hx110_1⟩ := at_T34 HR1_3.out x47_2 p110 q110
                      have hw110_1 := hx110_1
                      have hw110_0 := hx110_0
                      cases e110
                      replace hx110_0 := (HB.out.cell (World.block_lt_of_cell? w _ hx110_0)).trans hx110_0
                      replace hx110_1 := (HB.out.cell (World.block_lt_of_cell? w _ hx110_1)).trans hx110_1
                      replace p110 := eq_true p110
                      replace q110 := eq_true q110
                      refine start_ (n := 11) (S := fun w' => w'.cell? ⟨gb107, 0, none⟩ = some (.int .i64 a0_0) ∧ w'.cell? ⟨gb107, 1, none⟩ = some (.string a0_1) ∧ w'.cell? ⟨gb107, 2, none⟩ = some (.string a0_2) ∧ w'.cell? ⟨gb107, 3, none⟩ = some (.slice (some ad109) l0_3.length c0_3) ∧ w'.cell? ⟨gb107, 4, none⟩ = some (.slice A0_4 l0_4.length c0_4) ∧ w'.cell? ⟨gb108, 0, none⟩ = some (.int .i64 a1_0) ∧ w'.cell? ⟨gb108, 1, none⟩ = some (.string a1_1) ∧ w'.cell? ⟨gb108, 2, none⟩ = some (.string a1_2) ∧ w'.cell? ⟨gb108, 3, none⟩ = some (.slice (some ad110) l1_3.length c1_3) ∧ w'.cell? ⟨gb108, 4, none⟩ = some (.slice A1_4 l1_4.length c1_4) ∧ w'.cell? (ad109.add ((x47_2).toNat * 2)) = some (.string ((rd_T34 l0_3 x47_2).f0)) ∧ w'.cell? ⟨(ad109.add ((x47_2).toNat * 2)).block, (ad109.add ((x47_2).toNat * 2)).off + 1, none⟩ = some (.string ((rd_T34 l0_3 x47_2).f1)) ∧ w'.cell? (ad110.add ((x47_2).toNat * 2)) = some (.string ((rd_T34 l1_3 x47_2).f0)) ∧ w'.cell? ⟨(ad110.add ((x47_2).toNat * 2)).block, (ad110.add ((x47_2).toNat * 2)).off + 1, none⟩ = some (.string ((rd_T34 l1_3 x47_2).f1))) (ds := []) #[false, false, false, false, false, false, false, false, false, false, false] (by kernel_rfl) rfl rfl ⟨(blk_cell BK107.out 0).trans rfl, (blk_cell BK107.out 1).trans rfl, (blk_cell BK107.out 2).trans rfl, (blk_cell BK107.out 3).trans rfl, (blk_cell BK107.out 4).trans rfl, (blk_cell BK108.out 0).trans rfl, (blk_cell BK108.out 1).trans rfl, (blk_cell BK108.out 2).trans rfl, (blk_cell BK108.out 3).trans rfl, (blk_cell BK108.out 4).trans rfl, ((HB.out.cell (World.block_lt_of_cell? w _ hw109_0)).trans hw109_0), ((HB.out.cell (World.block_lt_of_cell? w _ hw109_1)).trans hw109_1), ((HB.out.cell (World.block_lt_of_cell? w _ hw110_0)).trans hw110_0), ((HB.out.cell (World.block_lt_of_cell? w _ hw110_1)).trans hw110_1)⟩ (fun hHeld => ?_); refine with_tabW spec_SameTree.tab6 spec_SameTree.bits6 (fun HT_ HW_ => ?_)
                      generalize wr.drew = w33 at BK107 BK108 HB hx109_0 hx109_1 hx110_0 hx110_1 hHeld ⊢
                      refine pure_ (i := 0) (N := some 50) (v := ?_) (a' := ?_) #[true, false, false, false, false, false, false, false, false, false, false] rfl rfl (any_of HT_.out (by kernel_rfl)) (fun _ _ _ h => h) (Or.inl ⟨by rfl, ?_⟩) ?_ ?_
                      rotate_left
                      · intro w'
                        go_simp
                        with_reducible rfl
                      rotate_left
                      · simp only [Act.put, List.setIfInBounds_toArray, List.set_cons_zero, List.set_cons_succ, i64_w, i32_w]
                        rfl
                      refine pure_ (i := 2) (N := some 52) (v := ?_) (a' := ?_) #[true, false, true, false, false, false, false, false, false, false, false] rfl rfl (any_of HT_.out (by kernel_rfl)) (fun _ _ _ h => h) (Or.inl ⟨by rfl, ?_⟩) ?_ ?_
                      rotate_left
                      · intro w'
                        go_simp
                        with_reducible rfl
                      rotate_left
                      · simp only [Act.put, List.setIfInBounds_toArray, List.set_cons_zero, List.set_cons_succ, i64_w, i32_w]
                        rfl
                      refine pure_ (i := 5) (N := some 55) (v := ?_) (a' := ?_) #[true, false, true, false, false, true, false, false, false, false, false] rfl rfl (any_of HT_.out (by kernel_rfl)) (fun _ _ _ h => h) (Or.inl ⟨by rfl, ?_⟩) ?_ ?_
                      rotate_left
                      · intro w'
                        go_simp
                        with_reducible rfl
                      rotate_left
                      · simp only [Act.put, List.setIfInBounds_toArray, List.set_cons_zero, List.set_cons_succ, i64_w, i32_w]
                        rfl
                      refine pure_ (i := 7) (N := some 57) (v := ?_) (a' := ?_) #[true, false, true, false, false, true, false, true, false, false, false] rfl rfl (any_of HT_.out (by kernel_rfl)) (fun _ _ _ h => h) (Or.inl ⟨by rfl, ?_⟩) ?_ ?_
                      rotate_left
                      · intro w'
                        go_simp
                        with_reducible rfl
                      rotate_left
                      · simp only [Act.put, List.setIfInBounds_toArray, List.set_cons_zero, List.set_cons_succ, i64_w, i32_w]
                        rfl
                      refine take_ (i := 1) (N := some 51) (v := ?_) (a' := ?_) #[true, true, true, false, false, true, false, true, false, false, false] rfl rfl (take_ofW HT_.out HW_.out (by kernel_rfl)) (fun _ _ _ h => h) (Or.inl ⟨by rfl, ?_⟩) hHeld ?_ ?_
                      rotate_left
                      · rintro w' ⟨s0, s1, s2, s3, s4, s5, s6, s7, s8, s9, s10, s11, s12, s13⟩
                        go_simp
                        with_reducible rfl
                      rotate_left
                      · simp only [Act.put, List.setIfInBounds_toArray, List.set_cons_zero, List.set_cons_succ, i64_w, i32_w]
                        rfl
                      refine pure_ (i := 3) (N := some 53) (v := ?_) (a' := ?_) #[true, true, true, true, false, true, false, true, false, false, false] rfl rfl (any_of HT_.out (by kernel_rfl)) (fun _ _ _ h => h) (Or.inl ⟨by rfl, ?_⟩) ?_ ?_
                      rotate_left
                      · intro w'
                        go_simp
                        with_reducible rfl
                      rotate_left
                      · simp only [Act.put, List.setIfInBounds_toArray, List.set_cons_zero, List.set_cons_succ, i64_w, i32_w]
                        rfl
                      refine take_ (i := 4) (N := some 54) (v := ?_) (a' := ?_) #[true, true, true, true, true, true, false, true, false, false, false] rfl rfl (take_ofW HT_.out HW_.out (by kernel_rfl)) (fun _ _ _ h => h) (Or.inl ⟨by rfl, ?_⟩) hHeld ?_ ?_
                      rotate_left
                      · rintro w' ⟨s0, s1, s2, s3, s4, s5, s6, s7, s8, s9, s10, s11, s12, s13⟩
                        go_simp
                        with_reducible rfl
                      rotate_left
                      · simp only [Act.put, List.setIfInBounds_toArray, List.set_cons_zero, List.set_cons_succ, i64_w, i32_w]
                        rfl
                      refine take_ (i := 6) (N := some 56) (v := ?_) (a' := ?_) #[true, true, true, true, true, true, true, true, false, false, false] rfl rfl (take_ofW HT_.out HW_.out (by kernel_rfl)) (fun _ _ _ h => h) (Or.inl ⟨by rfl, ?_⟩) hHeld ?_ ?_
                      rotate_left
                      · rintro w' ⟨s0, s1, s2, s3, s4, s5, s6, s7, s8, s9, s10, s11, s12, s13⟩
                        go_simp
                        with_reducible rfl
                      rotate_left
                      · simp only [Act.put, List.setIfInBounds_toArray, List.set_cons_zero, List.set_cons_succ, i64_w, i32_w]
                        rfl
                      refine pure_ (i := 8) (N := some 58) (v := ?_) (a' := ?_) #[true, true, true, true, true, true, true, true, true, false, false] rfl rfl (any_of HT_.out (by kernel_rfl)) (fun _ _ _ h => h) (Or.inl ⟨by rfl, ?_⟩) ?_ ?_
                      rotate_left
                      · intro w'
                        go_simp
                        with_reducible rfl
                      rotate_left
                      · simp only [Act.put, List.setIfInBounds_toArray, List.set_cons_zero, List.set_cons_succ, i64_w, i32_w]
                        rfl
                      refine take_ (i := 9) (N := some 59) (v := ?_) (a' := ?_) #[true, true, true, true, true, true, true, true, true, true, false] rfl rfl (take_ofW HT_.out HW_.out (by kernel_rfl)) (fun _ _ _ h => h) (Or.inl ⟨by rfl, ?_⟩) hHeld ?_ ?_
                      rotate_left
                      · rintro w' ⟨s0, s1, s2, s3, s4, s5, s6, s7, s8, s9, s10, s11, s12, s13⟩
                        go_simp
                        with_reducible rfl
                      rotate_left
                      · simp only [Act.put, List.setIfInBounds_toArray, List.set_cons_zero, List.set_cons_succ, i64_w, i32_w]
                        rfl
                      refine pure_ (i := 10) (N := some 60) (v := ?_) (a' := ?_) #[true, true, true, true, true, true, true, true, true, true, true] rfl rfl (any_of HT_.out (by kernel_rfl)) (fun _ _ _ h => h) (Or.inl ⟨by rfl, ?_⟩) ?_ ?_
                      rotate_left
                      · intro w'
                        go_simp
                        with_reducible rfl
                      rotate_left
                      · simp only [Act.put, List.setIfInBounds_toArray, List.set_cons_zero, List.set_cons_succ, i64_w, i32_w]
                        rfl
                      refine done_ (done_of HT_.out (by kernel_rfl)) ?_
                      try go_wp2
                      go_ret
                      exact ⟨by first | rfl | (simp [errW_none, errW_some] <;> rfl) | (simp [*, errW_none, errW_some] <;> rfl), by repeat (first | (with_reducible first | exact HB.out | apply below_alloc | apply pw_below_drewN | apply below_drew1 | refine below_set ?_ GE107.out | refine below_set ?_ GE108.out) | exact HB.out)⟩
                    · rw [if_neg c32] at H
                      have c32b0 : (!((((rd_T34 l0_3 x47_2).f0).toList) == (((rd_T34 l1_3 x47_2).f0).toList)) || (!((((rd_T34 l0_3 x47_2).f1).toList) == (((rd_T34 l1_3 x47_2).f1).toList)))) = false := by simpa using c32
                      clear c32
                      have H' := Aside0.mk H
                      clear H
                      try go_wp2
                      have n0_ := Aside0.mk (blk_drew BK107.out)
                      have n1_ := Aside0.mk (blk_drew BK108.out)
                      have n2_ := Aside0.mk (below_drew1 HB.out)
                      clear BK107
                      clear BK108
                      clear HB
                      have BK107 := n0_
                      have BK108 := n1_
                      have HB := n2_
                      clear n0_ n1_ n2_
                      have p109 : 0 ≤ (x47_2 : Int) := of_decide_eq_true (by first | (with_reducible assumption) | assumption)
                      have q109 : x47_2 < (l0_3.length : Int) := of_decide_eq_true (by first | (with_reducible assumption) | assumption)
                      obtain ⟨ad109, e109, hx109_0, hx109_1⟩ := at_T34 HR0_3.out x47_2 p109 q109
                      have hw109_1 := hx109_1
                      have hw109_0 := hx109_0
                      cases e109
                      replace hx109_0 := (HB.out.cell (World.block_lt_of_cell? w _ hx109_0)).trans hx109_0
                      replace hx109_1 := (HB.out.cell (World.block_lt_of_cell? w _ hx109_1)).trans hx109_1
                      replace p109 := eq_true p109
                      replace q109 := eq_true q109
                      have p110 : 0 ≤ (x47_2 : Int) := of_decide_eq_true (by first | (with_reducible assumption) | assumption)
                      have q110 : x47_2 < (l1_3.length : Int) := of_decide_eq_true (by first | (with_reducible assumption) | assumption)
                      obtain ⟨ad110, e110, hx110_0, hx110_1⟩ := at_T34 HR1_3.out x47_2 p110 q110
                      have hw110_1 := hx110_1
                      have hw110_0 := hx110_0
                      cases e110
                      replace hx110_0 := (HB.out.cell (World.block_lt_of_cell? w _ hx110_0)).trans hx110_0
                      replace hx110_1 := (HB.out.cell (World.block_lt_of_cell? w _ hx110_1)).trans hx110_1
                      replace p110 := eq_true p110
                      replace q110 := eq_true q110
                      refine start_ (n := 11) (S := fun w' => w'.cell? ⟨gb107, 0, none⟩ = some (.int .i64 a0_0) ∧ w'.cell? ⟨gb107, 1, none⟩ = some (.string a0_1) ∧ w'.cell? ⟨gb107, 2, none⟩ = some (.string a0_2) ∧ w'.cell? ⟨gb107, 3, none⟩ = some (.slice (some ad109) l0_3.length c0_3) ∧ w'.cell? ⟨gb107, 4, none⟩ = some (.slice A0_4 l0_4.length c0_4) ∧ w'.cell? ⟨gb108, 0, none⟩ = some (.int .i64 a1_0) ∧ w'.cell? ⟨gb108, 1, none⟩ = some (.string a1_1) ∧ w'.cell? ⟨gb108, 2, none⟩ = some (.string a1_2) ∧ w'.cell? ⟨gb108, 3, none⟩ = some (.slice (some ad110) l1_3.length c1_3) ∧ w'.cell? ⟨gb108, 4, none⟩ = some (.slice A1_4 l1_4.length c1_4) ∧ w'.cell? (ad109.add ((x47_2).toNat * 2)) = some (.string ((rd_T34 l0_3 x47_2).f0)) ∧ w'.cell? ⟨(ad109.add ((x47_2).toNat * 2)).block, (ad109.add ((x47_2).toNat * 2)).off + 1, none⟩ = some (.string ((rd_T34 l0_3 x47_2).f1)) ∧ w'.cell? (ad110.add ((x47_2).toNat * 2)) = some (.string ((rd_T34 l1_3 x47_2).f0)) ∧ w'.cell? ⟨(ad110.add ((x47_2).toNat * 2)).block, (ad110.add ((x47_2).toNat * 2)).off + 1, none⟩ = some (.string ((rd_T34 l1_3 x47_2).f1))) (ds := []) #[false, false, false, false, false, false, false, false, false, false, false] (by kernel_rfl) rfl rfl ⟨(blk_cell BK107.out 0).trans rfl, (blk_cell BK107.out 1).trans rfl, (blk_cell BK107.out 2).trans rfl, (blk_cell BK107.out 3).trans rfl, (blk_cell BK107.out 4).trans rfl, (blk_cell BK108.out 0).trans rfl, (blk_cell BK108.out 1).trans rfl, (blk_cell BK108.out 2).trans rfl, (blk_cell BK108.out 3).trans rfl, (blk_cell BK108.out 4).trans rfl, ((HB.out.cell (World.block_lt_of_cell? w _ hw109_0)).trans hw109_0), ((HB.out.cell (World.block_lt_of_cell? w _ hw109_1)).trans hw109_1), ((HB.out.cell (World.block_lt_of_cell? w _ hw110_0)).trans hw110_0), ((HB.out.cell (World.block_lt_of_cell? w _ hw110_1)).trans hw110_1)⟩ (fun hHeld => ?_); refine with_tabW spec_SameTree.tab6 spec_SameTree.bits6 (fun HT_ HW_ => ?_)
                      generalize wr.drew = w34 at BK107 BK108 HB hx109_0 hx109_1 hx110_0 hx110_1 hHeld ⊢
                      refine pure_ (i := 0) (N := some 50) (v := ?_) (a' := ?_) #[true, false, false, false, false, false, false, false, false, false, false] rfl rfl (any_of HT_.out (by kernel_rfl)) (fun _ _ _ h => h) (Or.inl ⟨by rfl, ?_⟩) ?_ ?_
                      rotate_left
                      · intro w'
                        go_simp
                        with_reducible rfl
                      rotate_left
                      · simp only [Act.put, List.setIfInBounds_toArray, List.set_cons_zero, List.set_cons_succ, i64_w, i32_w]
                        rfl
                      refine pure_ (i := 2) (N := some 52) (v := ?_) (a' := ?_) #[true, false, true, false, false, false, false, false, false, false, false] rfl rfl (any_of HT_.out (by kernel_rfl)) (fun _ _ _ h => h) (Or.inl ⟨by rfl, ?_⟩) ?_ ?_
                      rotate_left
                      · intro w'
                        go_simp
                        with_reducible rfl
                      rotate_left
                      · simp only [Act.put, List.setIfInBounds_toArray, List.set_cons_zero, List.set_cons_succ, i64_w, i32_w]
                        rfl
                      refine pure_ (i := 5) (N := some 55) (v := ?_) (a' := ?_) #[true, false, true, false, false, true, false, false, false, false, false] rfl rfl (any_of HT_.out (by kernel_rfl)) (fun _ _ _ h => h) (Or.inl ⟨by rfl, ?_⟩) ?_ ?_
                      rotate_left
                      · intro w'
                        go_simp
                        with_reducible rfl
                      rotate_left
                      · simp only [Act.put, List.setIfInBounds_toArray, List.set_cons_zero, List.set_cons_succ, i64_w, i32_w]
                        rfl
                      refine pure_ (i := 7) (N := some 57) (v := ?_) (a' := ?_) #[true, false, true, false, false, true, false, true, false, false, false] rfl rfl (any_of HT_.out (by kernel_rfl)) (fun _ _ _ h => h) (Or.inl ⟨by rfl, ?_⟩) ?_ ?_
                      rotate_left
                      · intro w'
                        go_simp
                        with_reducible rfl
                      rotate_left
                      · simp only [Act.put, List.setIfInBounds_toArray, List.set_cons_zero, List.set_cons_succ, i64_w, i32_w]
                        rfl
                      refine take_ (i := 1) (N := some 51) (v := ?_) (a' := ?_) #[true, true, true, false, false, true, false, true, false, false, false] rfl rfl (take_ofW HT_.out HW_.out (by kernel_rfl)) (fun _ _ _ h => h) (Or.inl ⟨by rfl, ?_⟩) hHeld ?_ ?_
                      rotate_left
                      · rintro w' ⟨s0, s1, s2, s3, s4, s5, s6, s7, s8, s9, s10, s11, s12, s13⟩
                        go_simp
                        with_reducible rfl
                      rotate_left
                      · simp only [Act.put, List.setIfInBounds_toArray, List.set_cons_zero, List.set_cons_succ, i64_w, i32_w]
                        rfl
                      refine pure_ (i := 3) (N := some 53) (v := ?_) (a' := ?_) #[true, true, true, true, false, true, false, true, false, false, false] rfl rfl (any_of HT_.out (by kernel_rfl)) (fun _ _ _ h => h) (Or.inl ⟨by rfl, ?_⟩) ?_ ?_
                      rotate_left
                      · intro w'
                        go_simp
                        with_reducible rfl
                      rotate_left
                      · simp only [Act.put, List.setIfInBounds_toArray, List.set_cons_zero, List.set_cons_succ, i64_w, i32_w]
                        rfl
                      refine take_ (i := 4) (N := some 54) (v := ?_) (a' := ?_) #[true, true, true, true, true, true, false, true, false, false, false] rfl rfl (take_ofW HT_.out HW_.out (by kernel_rfl)) (fun _ _ _ h => h) (Or.inl ⟨by rfl, ?_⟩) hHeld ?_ ?_
                      rotate_left
                      · rintro w' ⟨s0, s1, s2, s3, s4, s5, s6, s7, s8, s9, s10, s11, s12, s13⟩
                        go_simp
                        with_reducible rfl
                      rotate_left
                      · simp only [Act.put, List.setIfInBounds_toArray, List.set_cons_zero, List.set_cons_succ, i64_w, i32_w]
                        rfl
                      refine take_ (i := 6) (N := some 56) (v := ?_) (a' := ?_) #[true, true, true, true, true, true, true, true, false, false, false] rfl rfl (take_ofW HT_.out HW_.out (by kernel_rfl)) (fun _ _ _ h => h) (Or.inl ⟨by rfl, ?_⟩) hHeld ?_ ?_
                      rotate_left
                      · rintro w' ⟨s0, s1, s2, s3, s4, s5, s6, s7, s8, s9, s10, s11, s12, s13⟩
                        go_simp
                        with_reducible rfl
                      rotate_left
                      · simp only [Act.put, List.setIfInBounds_toArray, List.set_cons_zero, List.set_cons_succ, i64_w, i32_w]
                        rfl
                      refine pure_ (i := 8) (N := some 58) (v := ?_) (a' := ?_) #[true, true, true, true, true, true, true, true, true, false, false] rfl rfl (any_of HT_.out (by kernel_rfl)) (fun _ _ _ h => h) (Or.inl ⟨by rfl, ?_⟩) ?_ ?_
                      rotate_left
                      · intro w'
                        go_simp
                        with_reducible rfl
                      rotate_left
                      · simp only [Act.put, List.setIfInBounds_toArray, List.set_cons_zero, List.set_cons_succ, i64_w, i32_w]
                        rfl
                      refine take_ (i := 9) (N := some 59) (v := ?_) (a' := ?_) #[true, true, true, true, true, true, true, true, true, true, false] rfl rfl (take_ofW HT_.out HW_.out (by kernel_rfl)) (fun _ _ _ h => h) (Or.inl ⟨by rfl, ?_⟩) hHeld ?_ ?_
                      rotate_left
                      · rintro w' ⟨s0, s1, s2, s3, s4, s5, s6, s7, s8, s9, s10, s11, s12, s13⟩
                        go_simp
                        with_reducible rfl
                      rotate_left
                      · simp only [Act.put, List.setIfInBounds_toArray, List.set_cons_zero, List.set_cons_succ, i64_w, i32_w]
                        rfl
                      refine pure_ (i := 10) (N := some 60) (v := ?_) (a' := ?_) #[true, true, true, true, true, true, true, true, true, true, true] rfl rfl (any_of HT_.out (by kernel_rfl)) (fun _ _ _ h => h) (Or.inl ⟨by rfl, ?_⟩) ?_ ?_
                      rotate_left
                      · intro w'
                        go_simp
                        with_reducible rfl
                      rotate_left
                      · simp only [Act.put, List.setIfInBounds_toArray, List.set_cons_zero, List.set_cons_succ, i64_w, i32_w]
                        rfl
                      refine done_ (done_of HT_.out (by kernel_rfl)) ?_
                      try go_wp2
                      go_roundg k2
                      case measure => have := HJ2.out; have := HK2.out; omega
                      case rel => exact ⟨(wrap64 (x47_2 + 1)), (by first | rfl | (simp; done) | (simp [*]; done)), H', ⟨by have := HJ2.out; have := HK2.out; omega⟩, ⟨by (with_reducible repeat (first | refine blk_drewN ?_ _ | refine blk_drew ?_ | refine blk_alloc ?_ _)); exact BK107.out⟩, ⟨by (with_reducible repeat (first | refine blk_drewN ?_ _ | refine blk_drew ?_ | refine blk_alloc ?_ _)); exact BK108.out⟩, ⟨by repeat (first | (with_reducible first | exact HB.out | apply below_alloc | apply pw_below_drewN | apply below_drew1 | refine below_set ?_ GE107.out | refine below_set ?_ GE108.out) | exact HB.out)⟩⟩
                  · rw [if_neg c31] at H
                    exact absurd H (by simp)
                · rw [if_neg c30] at H
                  exact absurd H (by simp)
              · rw [if_neg c29] at H
                exact absurd H (by simp)
            · rw [if_neg c28] at H
              have c28b0 : decide (x47_2 < (l0_3.length : Int)) = false := decide_eq_false c28
              clear c28
              have H' := Aside0.mk H
              clear H
              have hnb35 := NB107_108.out
              have hnc35 := NB108_107.out
              have hcz36_0 : wr.cell? ⟨gb107, 0, none⟩ = some (.int .i64 a0_0) := (blk_cell BK107.out 0).trans rfl
              have hcz36_1 : wr.cell? ⟨gb107, 1, none⟩ = some (.string a0_1) := (blk_cell BK107.out 1).trans rfl
              have hcz36_2 : wr.cell? ⟨gb107, 2, none⟩ = some (.string a0_2) := (blk_cell BK107.out 2).trans rfl
              have hcz36_3 : wr.cell? ⟨gb107, 3, none⟩ = some (.slice A0_3 l0_3.length c0_3) := (blk_cell BK107.out 3).trans rfl
              have hcz36_4 : wr.cell? ⟨gb107, 4, none⟩ = some (.slice A0_4 l0_4.length c0_4) := (blk_cell BK107.out 4).trans rfl
              have hfz36_0 := blk_frozen BK107.out 0
              have hfz36_1 := blk_frozen BK107.out 1
              have hfz36_2 := blk_frozen BK107.out 2
              have hfz36_3 := blk_frozen BK107.out 3
              have hfz36_4 := blk_frozen BK107.out 4
              go_wp2
              go_loopg [65] k2 (fun kq v65 w' => ∃ (x65_3 : Int), v65 = .int .i64 x65_3 ∧ Aside0 (spec_SameTree.l1 kq (l0_4.length : Int) x65_3 a0_0 a0_1 a0_2 l0_3 l0_4 a1_0 a1_1 a1_2 l1_3 l1_4 = some r) ∧ Aside0 (kq ≤ k2) ∧ Aside0 (w'.heap[gb107]? = some (.cells #[.int .i64 a0_0, .string a0_1, .string a0_2, (.slice A0_3 l0_3.length c0_3), (.slice A0_4 l0_4.length c0_4)] 25 (0, 0))) ∧ Aside0 (w'.heap[gb108]? = some (.cells #[.int .i64 a1_0, .string a1_1, .string a1_2, (.slice A1_3 l1_3.length c1_3), (.slice A1_4 l1_4.length c1_4)] 25 (0, 0))) ∧ Aside0 (Below w.heap.size w w'))
              case atStart => exact ⟨(0), (by first | rfl | (simp; done) | (simp [*]; done)), H', ⟨Nat.le_refl _⟩, ⟨by (with_reducible repeat (first | refine blk_drewN ?_ _ | refine blk_drew ?_ | refine blk_alloc ?_ _)); exact BK107.out⟩, ⟨by (with_reducible repeat (first | refine blk_drewN ?_ _ | refine blk_drew ?_ | refine blk_alloc ?_ _)); exact BK108.out⟩, ⟨by repeat (first | (with_reducible first | exact HB.out | apply below_alloc | apply pw_below_drewN | apply below_drew1 | refine below_set ?_ GE107.out | refine below_set ?_ GE108.out) | exact HB.out)⟩⟩
              case round =>
                clear H'
                try clear c1
                try clear p1
                try clear q1
                try clear hx1
                try clear c2
                try clear p2
                try clear c3
                try clear c6
                try clear c6b0
                try clear c6b1
                try clear p6
                try clear c7
                try clear c7b0
                try clear c7b1
                try clear c8
                try clear c8b0
                try clear c8b1
                try clear c9
                try clear c9b0
                try clear c9b1
                try clear c9b2
                try clear c10
                try clear p10
                try clear q10
                try clear hx10
                try clear p11
                try clear q11
                try clear hx11
                try clear c13
                try clear c16
                try clear c19
                try clear c22
                try clear c25
                try clear c26
                try clear c28
                try clear c28b0
                try clear c29
                try clear c29b0
                try clear c30
                try clear c30b0
                try clear c31
                try clear c31b0
                try clear c32
                try clear c32b0
                try clear c35
                try clear hcz11_0
                try clear hcz11_1
                try clear hcz11_2
                try clear hcz11_3
                try clear hcz11_4
                try clear hcz12_0
                try clear hcz12_1
                try clear hcz12_2
                try clear hcz12_3
                try clear hcz12_4
                try clear hcz14_0
                try clear hcz14_1
                try clear hcz14_2
                try clear hcz14_3
                try clear hcz14_4
                try clear hcz15_0
                try clear hcz15_1
                try clear hcz15_2
                try clear hcz15_3
                try clear hcz15_4
                try clear hcz17_0
                try clear hcz17_1
                try clear hcz17_2
                try clear hcz17_3
                try clear hcz17_4
                try clear hcz18_0
                try clear hcz18_1
                try clear hcz18_2
                try clear hcz18_3
                try clear hcz18_4
                try clear hcz20_0
                try clear hcz20_1
                try clear hcz20_2
                try clear hcz20_3
                try clear hcz20_4
                try clear hcz21_0
                try clear hcz21_1
                try clear hcz21_2
                try clear hcz21_3
                try clear hcz21_4
                try clear hcz23_0
                try clear hcz23_1
                try clear hcz23_2
                try clear hcz23_3
                try clear hcz23_4
                try clear hcz24_0
                try clear hcz24_1
                try clear hcz24_2
                try clear hcz24_3
                try clear hcz24_4
                try clear hcz27_0
                try clear hcz27_1
                try clear hcz27_2
                try clear hcz27_3
                try clear hcz27_4
                try clear hcz36_0
                try clear hcz36_1
                try clear hcz36_2
                try clear hcz36_3
                try clear hcz36_4
                try clear hfz11_0
                try clear hfz11_1
                try clear hfz11_2
                try clear hfz11_3
                try clear hfz11_4
                try clear hfz12_0
                try clear hfz12_1
                try clear hfz12_2
                try clear hfz12_3
                try clear hfz12_4
                try clear hfz14_0
                try clear hfz14_1
                try clear hfz14_2
                try clear hfz14_3
                try clear hfz14_4
                try clear hfz15_0
                try clear hfz15_1
                try clear hfz15_2
                try clear hfz15_3
                try clear hfz15_4
                try clear hfz17_0
                try clear hfz17_1
                try clear hfz17_2
                try clear hfz17_3
                try clear hfz17_4
                try clear hfz18_0
                try clear hfz18_1
                try clear hfz18_2
                try clear hfz18_3
                try clear hfz18_4
                try clear hfz20_0
                try clear hfz20_1
                try clear hfz20_2
                try clear hfz20_3
                try clear hfz20_4
                try clear hfz21_0
                try clear hfz21_1
                try clear hfz21_2
                try clear hfz21_3
                try clear hfz21_4
                try clear hfz23_0
                try clear hfz23_1
                try clear hfz23_2
                try clear hfz23_3
                try clear hfz23_4
                try clear hfz24_0
                try clear hfz24_1
                try clear hfz24_2
                try clear hfz24_3
                try clear hfz24_4
                try clear hfz27_0
                try clear hfz27_1
                try clear hfz27_2
                try clear hfz27_3
                try clear hfz27_4
                try clear hfz36_0
                try clear hfz36_1
                try clear hfz36_2
                try clear hfz36_3
                try clear hfz36_4
                try clear hx109_0
                try clear hx109_1
                try clear hx110_0
                try clear hx110_1
                try clear p109
                try clear p110
                try clear p2
                try clear q109
                try clear q110
                obtain ⟨x65_3, rfl, HA, HK3, BK107, BK108, HB⟩ := hrel
                cases gk with
                | zero => exact absurd HA.out (by simp [spec_SameTree.l1])
                | succ k3 =>
                  have H := HA.out
                  clear HA
                  simp only [spec_SameTree.l1] at H
                  by_cases c37 : x65_3 < (l0_4.length : Int)
                  · rw [if_pos c37] at H
                    have c37b0 : decide (x65_3 < (l0_4.length : Int)) = true := decide_eq_true c37
                    clear c37
                    by_cases c38 : 0 ≤ x65_3
                    · rw [if_pos c38] at H
                      have c38b0 : decide (0 ≤ x65_3) = true := decide_eq_true c38
                      clear c38
                      by_cases c39 : x65_3 < (l0_4.length : Int)
                      · rw [if_pos c39] at H
                        have c39b0 : decide (x65_3 < (l0_4.length : Int)) = true := decide_eq_true c39
                        clear c39
                        by_cases c40 : x65_3 < (l1_4.length : Int)
                        · rw [if_pos c40] at H
                          have c40b0 : decide (x65_3 < (l1_4.length : Int)) = true := decide_eq_true c40
                          clear c40
                          replace H := Option.bind_eq_some_iff.mp H
                          obtain ⟨t113, A410, H⟩ := H
                          replace H : (if t113 = true then (spec_SameTree.l1 k3 (l0_4.length : Int) (wrap64 (x65_3 + 1)) a0_0 a0_1 a0_2 l0_3 l0_4 a1_0 a1_1 a1_2 l1_3 l1_4) else (some false)) = some r := H
                          have A41 := Aside0.mk A410
                          clear A410
                          by_cases c42 : t113 = true
                          · subst c42
                            have H1 : (spec_SameTree.l1 k3 (l0_4.length : Int) (wrap64 (x65_3 + 1)) a0_0 a0_1 a0_2 l0_3 l0_4 a1_0 a1_1 a1_2 l1_3 l1_4) = some r := by rw [if_pos rfl] at H; exact H
                            clear H
                            have H := H1
                            clear H1
                            have H' := Aside0.mk H
                            clear H
                            try go_wp2
                            have n0_ := Aside0.mk (blk_drew BK107.out)
                            have n1_ := Aside0.mk (blk_drew BK108.out)
                            have n2_ := Aside0.mk (below_drew1 HB.out)
                            clear BK107
                            clear BK108
                            clear HB
                            have BK107 := n0_
                            have BK108 := n1_
                            have HB := n2_
                            clear n0_ n1_ n2_
                            have p111 : 0 ≤ (x65_3 : Int) := of_decide_eq_true (by first | (with_reducible assumption) | assumption)
                            have q111 : x65_3 < (l0_4.length : Int) := of_decide_eq_true (by first | (with_reducible assumption) | assumption)
                            obtain ⟨ad111, A111_3, c111_3, A111_4, c111_4, e111, hx111_0, hx111_1, hx111_2, hx111_3, hx111_4, hl111_3, hi111_3, hl111_4, hi111_4⟩ := at_T25 HR0_4.out x65_3 p111 q111
                            have hw111_4 := hx111_4
                            have hw111_3 := hx111_3
                            have hw111_2 := hx111_2
                            have hw111_1 := hx111_1
                            have hw111_0 := hx111_0
                            cases e111
                            replace hx111_0 := (HB.out.cell (World.block_lt_of_cell? w _ hx111_0)).trans hx111_0
                            replace hx111_1 := (HB.out.cell (World.block_lt_of_cell? w _ hx111_1)).trans hx111_1
                            replace hx111_2 := (HB.out.cell (World.block_lt_of_cell? w _ hx111_2)).trans hx111_2
                            replace hx111_3 := (HB.out.cell (World.block_lt_of_cell? w _ hx111_3)).trans hx111_3
                            replace hx111_4 := (HB.out.cell (World.block_lt_of_cell? w _ hx111_4)).trans hx111_4
                            have HR111_3 := Aside0.mk hi111_3
                            have HC111_3 := Aside0.mk hl111_3
                            clear hi111_3 hl111_3
                            have HR111_4 := Aside0.mk hi111_4
                            have HC111_4 := Aside0.mk hl111_4
                            clear hi111_4 hl111_4
                            replace p111 := eq_true p111
                            replace q111 := eq_true q111
                            have p112 : 0 ≤ (x65_3 : Int) := of_decide_eq_true (by first | (with_reducible assumption) | assumption)
                            have q112 : x65_3 < (l1_4.length : Int) := of_decide_eq_true (by first | (with_reducible assumption) | assumption)
                            obtain ⟨ad112, A112_3, c112_3, A112_4, c112_4, e112, hx112_0, hx112_1, hx112_2, hx112_3, hx112_4, hl112_3, hi112_3, hl112_4, hi112_4⟩ := at_T25 HR1_4.out x65_3 p112 q112
                            have hw112_4 := hx112_4
                            have hw112_3 := hx112_3
                            have hw112_2 := hx112_2
                            have hw112_1 := hx112_1
                            have hw112_0 := hx112_0
                            cases e112
                            replace hx112_0 := (HB.out.cell (World.block_lt_of_cell? w _ hx112_0)).trans hx112_0
                            replace hx112_1 := (HB.out.cell (World.block_lt_of_cell? w _ hx112_1)).trans hx112_1
                            replace hx112_2 := (HB.out.cell (World.block_lt_of_cell? w _ hx112_2)).trans hx112_2
                            replace hx112_3 := (HB.out.cell (World.block_lt_of_cell? w _ hx112_3)).trans hx112_3
                            replace hx112_4 := (HB.out.cell (World.block_lt_of_cell? w _ hx112_4)).trans hx112_4
                            have HR112_3 := Aside0.mk hi112_3
                            have HC112_3 := Aside0.mk hl112_3
                            clear hi112_3 hl112_3
                            have HR112_4 := Aside0.mk hi112_4
                            have HC112_4 := Aside0.mk hl112_4
                            clear hi112_4 hl112_4
                            replace p112 := eq_true p112
                            replace q112 := eq_true q112
                            refine start_ (n := 12) (S := fun w' => w'.cell? ⟨gb107, 0, none⟩ = some (.int .i64 a0_0) ∧ w'.cell? ⟨gb107, 1, none⟩ = some (.string a0_1) ∧ w'.cell? ⟨gb107, 2, none⟩ = some (.string a0_2) ∧ w'.cell? ⟨gb107, 3, none⟩ = some (.slice A0_3 l0_3.length c0_3) ∧ w'.cell? ⟨gb107, 4, none⟩ = some (.slice (some ad111) l0_4.length c0_4) ∧ w'.cell? ⟨gb108, 0, none⟩ = some (.int .i64 a1_0) ∧ w'.cell? ⟨gb108, 1, none⟩ = some (.string a1_1) ∧ w'.cell? ⟨gb108, 2, none⟩ = some (.string a1_2) ∧ w'.cell? ⟨gb108, 3, none⟩ = some (.slice A1_3 l1_3.length c1_3) ∧ w'.cell? ⟨gb108, 4, none⟩ = some (.slice (some ad112) l1_4.length c1_4) ∧ w'.cell? (ad111.add ((x65_3).toNat * 5)) = some (.int .i64 ((rd_T25 l0_4 x65_3).f0)) ∧ w'.cell? ⟨(ad111.add ((x65_3).toNat * 5)).block, (ad111.add ((x65_3).toNat * 5)).off + 1, none⟩ = some (.string ((rd_T25 l0_4 x65_3).f1)) ∧ w'.cell? ⟨(ad111.add ((x65_3).toNat * 5)).block, (ad111.add ((x65_3).toNat * 5)).off + 2, none⟩ = some (.string ((rd_T25 l0_4 x65_3).f2)) ∧ w'.cell? ⟨(ad111.add ((x65_3).toNat * 5)).block, (ad111.add ((x65_3).toNat * 5)).off + 3, none⟩ = some (.slice A111_3 ((rd_T25 l0_4 x65_3).f3).length c111_3) ∧ w'.cell? ⟨(ad111.add ((x65_3).toNat * 5)).block, (ad111.add ((x65_3).toNat * 5)).off + 4, none⟩ = some (.slice A111_4 ((rd_T25 l0_4 x65_3).f4).length c111_4) ∧ w'.cell? (ad112.add ((x65_3).toNat * 5)) = some (.int .i64 ((rd_T25 l1_4 x65_3).f0)) ∧ w'.cell? ⟨(ad112.add ((x65_3).toNat * 5)).block, (ad112.add ((x65_3).toNat * 5)).off + 1, none⟩ = some (.string ((rd_T25 l1_4 x65_3).f1)) ∧ w'.cell? ⟨(ad112.add ((x65_3).toNat * 5)).block, (ad112.add ((x65_3).toNat * 5)).off + 2, none⟩ = some (.string ((rd_T25 l1_4 x65_3).f2)) ∧ w'.cell? ⟨(ad112.add ((x65_3).toNat * 5)).block, (ad112.add ((x65_3).toNat * 5)).off + 3, none⟩ = some (.slice A112_3 ((rd_T25 l1_4 x65_3).f3).length c112_3) ∧ w'.cell? ⟨(ad112.add ((x65_3).toNat * 5)).block, (ad112.add ((x65_3).toNat * 5)).off + 4, none⟩ = some (.slice A112_4 ((rd_T25 l1_4 x65_3).f4).length c112_4)) (ds := []) #[false, false, false, false, false, false, false, false, false, false, false, false] (by kernel_rfl) rfl rfl ⟨(blk_cell BK107.out 0).trans rfl, (blk_cell BK107.out 1).trans rfl, (blk_cell BK107.out 2).trans rfl, (blk_cell BK107.out 3).trans rfl, (blk_cell BK107.out 4).trans rfl, (blk_cell BK108.out 0).trans rfl, (blk_cell BK108.out 1).trans rfl, (blk_cell BK108.out 2).trans rfl, (blk_cell BK108.out 3).trans rfl, (blk_cell BK108.out 4).trans rfl, ((HB.out.cell (World.block_lt_of_cell? w _ hw111_0)).trans hw111_0), ((HB.out.cell (World.block_lt_of_cell? w _ hw111_1)).trans hw111_1), ((HB.out.cell (World.block_lt_of_cell? w _ hw111_2)).trans hw111_2), ((HB.out.cell (World.block_lt_of_cell? w _ hw111_3)).trans hw111_3), ((HB.out.cell (World.block_lt_of_cell? w _ hw111_4)).trans hw111_4), ((HB.out.cell (World.block_lt_of_cell? w _ hw112_0)).trans hw112_0), ((HB.out.cell (World.block_lt_of_cell? w _ hw112_1)).trans hw112_1), ((HB.out.cell (World.block_lt_of_cell? w _ hw112_2)).trans hw112_2), ((HB.out.cell (World.block_lt_of_cell? w _ hw112_3)).trans hw112_3), ((HB.out.cell (World.block_lt_of_cell? w _ hw112_4)).trans hw112_4)⟩ (fun hHeld => ?_); refine with_tabW spec_SameTree.tab12 spec_SameTree.bits12 (fun HT_ HW_ => ?_)
                            generalize wr.drew = w43 at BK107 BK108 HB HR111_3 HR111_4 HR112_3 HR112_4 hx111_0 hx111_1 hx111_2 hx111_3 hx111_4 hx112_0 hx112_1 hx112_2 hx112_3 hx112_4 hHeld ⊢
                            refine pure_ (i := 0) (N := some 68) (v := ?_) (a' := ?_) #[true, false, false, false, false, false, false, false, false, false, false, false] rfl rfl (any_of HT_.out (by kernel_rfl)) (fun _ _ _ h => h) (Or.inl ⟨by rfl, ?_⟩) ?_ ?_
                            rotate_left
                            · intro w'
                              go_simp
                              with_reducible rfl
                            rotate_left
                            · simp only [Act.put, List.setIfInBounds_toArray, List.set_cons_zero, List.set_cons_succ, i64_w, i32_w]
                              rfl
                            refine pure_ (i := 2) (N := some 70) (v := ?_) (a' := ?_) #[true, false, true, false, false, false, false, false, false, false, false, false] rfl rfl (any_of HT_.out (by kernel_rfl)) (fun _ _ _ h => h) (Or.inl ⟨by rfl, ?_⟩) ?_ ?_
                            rotate_left
                            · intro w'
                              go_simp
                              with_reducible rfl
                            rotate_left
                            · simp only [Act.put, List.setIfInBounds_toArray, List.set_cons_zero, List.set_cons_succ, i64_w, i32_w]
                              rfl
                            refine pure_ (i := 5) (N := some 73) (v := ?_) (a' := ?_) #[true, false, true, false, false, true, false, false, false, false, false, false] rfl rfl (any_of HT_.out (by kernel_rfl)) (fun _ _ _ h => h) (Or.inl ⟨by rfl, ?_⟩) ?_ ?_
                            rotate_left
                            · intro w'
                              go_simp
                              with_reducible rfl
                            rotate_left
                            · simp only [Act.put, List.setIfInBounds_toArray, List.set_cons_zero, List.set_cons_succ, i64_w, i32_w]
                              rfl
                            refine pure_ (i := 7) (N := some 75) (v := ?_) (a' := ?_) #[true, false, true, false, false, true, false, true, false, false, false, false] rfl rfl (any_of HT_.out (by kernel_rfl)) (fun _ _ _ h => h) (Or.inl ⟨by rfl, ?_⟩) ?_ ?_
                            rotate_left
                            · intro w'
                              go_simp
                              with_reducible rfl
                            rotate_left
                            · simp only [Act.put, List.setIfInBounds_toArray, List.set_cons_zero, List.set_cons_succ, i64_w, i32_w]
                              rfl
                            refine take_ (i := 1) (N := some 69) (v := ?_) (a' := ?_) #[true, true, true, false, false, true, false, true, false, false, false, false] rfl rfl (take_ofW HT_.out HW_.out (by kernel_rfl)) (fun _ _ _ h => h) (Or.inl ⟨by rfl, ?_⟩) hHeld ?_ ?_
                            rotate_left
                            · rintro w' ⟨s0, s1, s2, s3, s4, s5, s6, s7, s8, s9, s10, s11, s12, s13, s14, s15, s16, s17, s18, s19⟩
                              go_simp
                              with_reducible rfl
                            rotate_left
                            · simp only [Act.put, List.setIfInBounds_toArray, List.set_cons_zero, List.set_cons_succ, i64_w, i32_w]
                              rfl
                            refine pure_ (i := 3) (N := some 71) (v := ?_) (a' := ?_) #[true, true, true, true, false, true, false, true, false, false, false, false] rfl rfl (any_of HT_.out (by kernel_rfl)) (fun _ _ _ h => h) (Or.inl ⟨by rfl, ?_⟩) ?_ ?_
                            rotate_left
                            · intro w'
                              go_simp
                              with_reducible rfl
                            rotate_left
                            · simp only [Act.put, List.setIfInBounds_toArray, List.set_cons_zero, List.set_cons_succ, i64_w, i32_w]
                              rfl
                            refine take_ (i := 4) (N := some 72) (v := ?_) (a' := ?_) #[true, true, true, true, true, true, false, true, false, false, false, false] rfl rfl (take_ofW HT_.out HW_.out (by kernel_rfl)) (fun _ _ _ h => h) (Or.inl ⟨by rfl, ?_⟩) hHeld ?_ ?_
                            rotate_left
                            · rintro w' ⟨s0, s1, s2, s3, s4, s5, s6, s7, s8, s9, s10, s11, s12, s13, s14, s15, s16, s17, s18, s19⟩
                              go_simp
                              with_reducible rfl
                            rotate_left
                            · simp only [Act.put, List.setIfInBounds_toArray, List.set_cons_zero, List.set_cons_succ, i64_w, i32_w]
                              rfl
                            refine take_ (i := 6) (N := some 74) (v := ?_) (a' := ?_) #[true, true, true, true, true, true, true, true, false, false, false, false] rfl rfl (take_ofW HT_.out HW_.out (by kernel_rfl)) (fun _ _ _ h => h) (Or.inl ⟨by rfl, ?_⟩) hHeld ?_ ?_
                            rotate_left
                            · rintro w' ⟨s0, s1, s2, s3, s4, s5, s6, s7, s8, s9, s10, s11, s12, s13, s14, s15, s16, s17, s18, s19⟩
                              go_simp
                              with_reducible rfl
                            rotate_left
                            · simp only [Act.put, List.setIfInBounds_toArray, List.set_cons_zero, List.set_cons_succ, i64_w, i32_w]
                              rfl
                            refine pure_ (i := 8) (N := some 76) (v := ?_) (a' := ?_) #[true, true, true, true, true, true, true, true, true, false, false, false] rfl rfl (any_of HT_.out (by kernel_rfl)) (fun _ _ _ h => h) (Or.inl ⟨by rfl, ?_⟩) ?_ ?_
                            rotate_left
                            · intro w'
                              go_simp
                              with_reducible rfl
                            rotate_left
                            · simp only [Act.put, List.setIfInBounds_toArray, List.set_cons_zero, List.set_cons_succ, i64_w, i32_w]
                              rfl
                            refine take_ (i := 9) (N := some 77) (v := ?_) (a' := ?_) #[true, true, true, true, true, true, true, true, true, true, false, false] rfl rfl (take_ofW HT_.out HW_.out (by kernel_rfl)) (fun _ _ _ h => h) (Or.inl ⟨by rfl, ?_⟩) hHeld ?_ ?_
                            rotate_left
                            · rintro w' ⟨s0, s1, s2, s3, s4, s5, s6, s7, s8, s9, s10, s11, s12, s13, s14, s15, s16, s17, s18, s19⟩
                              go_simp
                              with_reducible rfl
                            rotate_left
                            · simp only [Act.put, List.setIfInBounds_toArray, List.set_cons_zero, List.set_cons_succ, i64_w, i32_w]
                              rfl
                            refine one_ (i := 10) (N := some 78) #[true, true, true, true, true, true, true, true, true, true, true, false] rfl rfl (one_of HT_.out (by kernel_rfl)) (by decide) (fun K hK => ?_)
                            refine goes_ Try.func32 (by kernel_rfl) rfl #[.agg #[.int .i64 ((rd_T25 l0_4 x65_3).f0), .string ((rd_T25 l0_4 x65_3).f1), .string ((rd_T25 l0_4 x65_3).f2), .slice A111_3 ((rd_T25 l0_4 x65_3).f3).length c111_3, .slice A111_4 ((rd_T25 l0_4 x65_3).f4).length c111_4], .agg #[.int .i64 ((rd_T25 l1_4 x65_3).f0), .string ((rd_T25 l1_4 x65_3).f1), .string ((rd_T25 l1_4 x65_3).f2), .slice A112_3 ((rd_T25 l1_4 x65_3).f3).length c112_3, .slice A112_4 ((rd_T25 l1_4 x65_3).f4).length c112_4]] (by rfl) rfl rfl (by (try simp only [List.map_toArray, List.map_cons, List.map_nil]); first | done | rfl | (simp only [List.length_drop, List.length_take]; rfl)) ?_
                            with_reducible refine (ih k3 (by have := HJ2.out; have := HK2.out; have := HK3.out; omega) ((rd_T25 l0_4 x65_3).f0) ((rd_T25 l0_4 x65_3).f1) ((rd_T25 l0_4 x65_3).f2) _ _ ((rd_T25 l0_4 x65_3).f3) _ _ ((rd_T25 l0_4 x65_3).f4) ((rd_T25 l1_4 x65_3).f0) ((rd_T25 l1_4 x65_3).f1) ((rd_T25 l1_4 x65_3).f2) _ _ ((rd_T25 l1_4 x65_3).f3) _ _ ((rd_T25 l1_4 x65_3).f4) true _ ?side1 ?side2 ?side3 ?side4 ?side5 ?side6 ?side7 ?side8 A41.out).mono ?_
                            (case side1 => repeat (first | exact (Kd.C_below HR111_3.out HB.out) | (with_reducible refine Kd.C_alloc ?_ _) | (with_reducible refine Kd.C_drewN ?_ _) | (with_reducible refine Kd.C_drew ?_)))
                            (case side2 => exact HC111_3.out)
                            (case side3 => repeat (first | exact (Kd.C_below HR111_4.out HB.out) | (with_reducible refine Kd.C_alloc ?_ _) | (with_reducible refine Kd.C_drewN ?_ _) | (with_reducible refine Kd.C_drew ?_)))
                            (case side4 => exact HC111_4.out)
                            (case side5 => repeat (first | exact (Kd.C_below HR112_3.out HB.out) | (with_reducible refine Kd.C_alloc ?_ _) | (with_reducible refine Kd.C_drewN ?_ _) | (with_reducible refine Kd.C_drew ?_)))
                            (case side6 => exact HC112_3.out)
                            (case side7 => repeat (first | exact (Kd.C_below HR112_4.out HB.out) | (with_reducible refine Kd.C_alloc ?_ _) | (with_reducible refine Kd.C_drewN ?_ _) | (with_reducible refine Kd.C_drew ?_)))
                            (case side8 => exact HC112_4.out)
                            rintro e w44 ⟨rfl, hb⟩
                            refine ⟨_, rfl, ?_⟩
                            have n0_ := Aside0.mk (blk_below (g := gb107) (o := .cells #[.int .i64 a0_0, .string a0_1, .string a0_2, .slice A0_3 l0_3.length c0_3, .slice (some ad111) l0_4.length c0_4] 25 (0, 0)) (by (with_reducible repeat (first | refine blk_drewN ?_ _ | refine blk_drew ?_ | refine blk_alloc ?_ _)); exact BK107.out) hb)
                            have n1_ := Aside0.mk (blk_below (g := gb108) (o := .cells #[.int .i64 a1_0, .string a1_1, .string a1_2, .slice A1_3 l1_3.length c1_3, .slice (some ad112) l1_4.length c1_4] 25 (0, 0)) (by (with_reducible repeat (first | refine blk_drewN ?_ _ | refine blk_drew ?_ | refine blk_alloc ?_ _)); exact BK108.out) hb)
                            have n2_ := Aside0.mk (below_step (by repeat (first | (with_reducible first | exact HB.out | apply below_alloc | apply pw_below_drewN | apply below_drew1 | refine below_set ?_ GE107.out | refine below_set ?_ GE108.out) | exact HB.out)) hb)
                            clear BK107
                            clear BK108
                            clear HB
                            have BK107 := n0_
                            have BK108 := n1_
                            have HB := n2_
                            clear n0_ n1_ n2_
                            (try clear hb)
                            (try clear hb2)
                            (try clear hk)
                            (try clear hi)
                            refine hK.out _ _ ⟨(blk_cell BK107.out 0).trans rfl, (blk_cell BK107.out 1).trans rfl, (blk_cell BK107.out 2).trans rfl, (blk_cell BK107.out 3).trans rfl, (blk_cell BK107.out 4).trans rfl, (blk_cell BK108.out 0).trans rfl, (blk_cell BK108.out 1).trans rfl, (blk_cell BK108.out 2).trans rfl, (blk_cell BK108.out 3).trans rfl, (blk_cell BK108.out 4).trans rfl, ((HB.out.cell (World.block_lt_of_cell? w _ hw111_0)).trans hw111_0), ((HB.out.cell (World.block_lt_of_cell? w _ hw111_1)).trans hw111_1), ((HB.out.cell (World.block_lt_of_cell? w _ hw111_2)).trans hw111_2), ((HB.out.cell (World.block_lt_of_cell? w _ hw111_3)).trans hw111_3), ((HB.out.cell (World.block_lt_of_cell? w _ hw111_4)).trans hw111_4), ((HB.out.cell (World.block_lt_of_cell? w _ hw112_0)).trans hw112_0), ((HB.out.cell (World.block_lt_of_cell? w _ hw112_1)).trans hw112_1), ((HB.out.cell (World.block_lt_of_cell? w _ hw112_2)).trans hw112_2), ((HB.out.cell (World.block_lt_of_cell? w _ hw112_3)).trans hw112_3), ((HB.out.cell (World.block_lt_of_cell? w _ hw112_4)).trans hw112_4)⟩ (fun hHeld => ?_)
                            clear hK K
                            refine norm_ (a' := ?_) ?_ ?_
                            rotate_left
                            · show Act.put _ (some 78) _ = _
                              simp only [Act.put, List.setIfInBounds_toArray, List.set_cons_zero, List.set_cons_succ, i64_w, i32_w]
                              rfl
                            refine pure_ (i := 11) (N := some 79) (v := ?_) (a' := ?_) #[true, true, true, true, true, true, true, true, true, true, true, true] rfl rfl (any_of HT_.out (by kernel_rfl)) (fun _ _ _ h => h) (Or.inl ⟨by rfl, ?_⟩) ?_ ?_
                            rotate_left
                            · intro w'
                              go_simp
                              with_reducible rfl
                            rotate_left
                            · simp only [Act.put, List.setIfInBounds_toArray, List.set_cons_zero, List.set_cons_succ, i64_w, i32_w]
                              rfl
                            refine done_ (done_of HT_.out (by kernel_rfl)) ?_
                            try go_wp2
                            go_roundg k3
                            case measure => have := HJ2.out; have := HK2.out; have := HK3.out; omega
                            case rel => exact ⟨(wrap64 (x65_3 + 1)), (by first | rfl | (simp; done) | (simp [*]; done)), H', ⟨by have := HJ2.out; have := HK2.out; have := HK3.out; omega⟩, ⟨by (with_reducible repeat (first | refine blk_drewN ?_ _ | refine blk_drew ?_ | refine blk_alloc ?_ _)); exact BK107.out⟩, ⟨by (with_reducible repeat (first | refine blk_drewN ?_ _ | refine blk_drew ?_ | refine blk_alloc ?_ _)); exact BK108.out⟩, ⟨by repeat (first | (with_reducible first | exact HB.out | apply below_alloc | apply pw_below_drewN | apply below_drew1 | refine below_set ?_ GE107.out | refine below_set ?_ GE108.out) | exact HB.out)⟩⟩
                          · replace c42 := Bool.eq_false_iff.mpr c42
                            subst c42
                            have H1 : (some false) = some r := by rw [if_neg (show ¬ (false = true) by decide)] at H; exact H
                            clear H
                            have H := H1
                            clear H1
                            obtain rfl := Option.some.inj H
                            try go_wp2
                            have n0_ := Aside0.mk (blk_drew BK107.out)
                            have n1_ := Aside0.mk (blk_drew BK108.out)
                            have n2_ := Aside0.mk (below_drew1 HB.out)
                            clear BK107
                            clear BK108
                            clear HB
                            have BK107 := n0_
                            have BK108 := n1_
                            have HB := n2_
                            clear n0_ n1_ n2_
                            have p111 : 0 ≤ (x65_3 : Int) := of_decide_eq_true (by first | (with_reducible assumption) | assumption)
                            have q111 : x65_3 < (l0_4.length : Int) := of_decide_eq_true (by first | (with_reducible assumption) | assumption)
                            obtain ⟨ad111, A111_3, c111_3, A111_4, c111_4, e111, hx111_0, hx111_1, hx111_2, hx111_3, hx111_4, hl111_3, hi111_3, hl111_4, hi111_4⟩ := at_T25 HR0_4.out x65_3 p111 q111
                            have hw111_4 := hx111_4
                            have hw111_3 := hx111_3
                            have hw111_2 := hx111_2
                            have hw111_1 := hx111_1
                            have hw111_0 := hx111_0
                            cases e111
                            replace hx111_0 := (HB.out.cell (World.block_lt_of_cell? w _ hx111_0)).trans hx111_0
                            replace hx111_1 := (HB.out.cell (World.block_lt_of_cell? w _ hx111_1)).trans hx111_1
                            replace hx111_2 := (HB.out.cell (World.block_lt_of_cell? w _ hx111_2)).trans hx111_2
                            replace hx111_3 := (HB.out.cell (World.block_lt_of_cell? w _ hx111_3)).trans hx111_3
                            replace hx111_4 := (HB.out.cell (World.block_lt_of_cell? w _ hx111_4)).trans hx111_4
                            have HR111_3 := Aside0.mk hi111_3
                            have HC111_3 := Aside0.mk hl111_3
                            clear hi111_3 hl111_3
                            have HR111_4 := Aside0.mk hi111_4
                            have HC111_4 := Aside0.mk hl111_4
                            clear hi111_4 hl111_4
                            replace p111 := eq_true p111
                            replace q111 := eq_true q111
                            have p112 : 0 ≤ (x65_3 : Int) := of_decide_eq_true (by first | (with_reducible assumption) | assumption)
                            have q112 : x65_3 < (l1_4.length : Int) := of_decide_eq_true (by first | (with_reducible assumption) | assumption)
                            obtain ⟨ad112, A112_3, c112_3, A112_4, c112_4, e112, hx112_0, hx112_1, hx112_2, hx112_3, hx112_4, hl112_3, hi112_3, hl112_4, hi112_4⟩ := at_T25 HR1_4.out x65_3 p112 q112
                            have hw112_4 := hx112_4
                            have hw112_3 := hx112_3
                            have hw112_2 := hx112_2
                            have hw112_1 := hx112_1
                            have hw112_0 := hx112_0
                            cases e112
                            replace hx112_0 := (HB.out.cell (World.block_lt_of_cell? w _ hx112_0)).trans hx112_0
                            replace hx112_1 := (HB.out.cell (World.block_lt_of_cell? w _ hx112_1)).trans hx112_1
                            replace hx112_2 := (HB.out.cell (World.block_lt_of_cell? w _ hx112_2)).trans hx112_2
                            replace hx112_3 := (HB.out.cell (World.block_lt_of_cell? w _ hx112_3)).trans hx112_3
                            replace hx112_4 := (HB.out.cell (World.block_lt_of_cell? w _ hx112_4)).trans hx112_4
                            have HR112_3 := Aside0.mk hi112_3
                            have HC112_3 := Aside0.mk hl112_3
                            clear hi112_3 hl112_3
                            have HR112_4 := Aside0.mk hi112_4
                            have HC112_4 := Aside0.mk hl112_4
                            clear hi112_4 hl112_4
                            replace p112 := eq_true p112
                            replace q112 := eq_true q112
                            refine start_ (n := 12) (S := fun w' => w'.cell? ⟨gb107, 0, none⟩ = some (.int .i64 a0_0) ∧ w'.cell? ⟨gb107, 1, none⟩ = some (.string a0_1) ∧ w'.cell? ⟨gb107, 2, none⟩ = some (.string a0_2) ∧ w'.cell? ⟨gb107, 3, none⟩ = some (.slice A0_3 l0_3.length c0_3) ∧ w'.cell? ⟨gb107, 4, none⟩ = some (.slice (some ad111) l0_4.length c0_4) ∧ w'.cell? ⟨gb108, 0, none⟩ = some (.int .i64 a1_0) ∧ w'.cell? ⟨gb108, 1, none⟩ = some (.string a1_1) ∧ w'.cell? ⟨gb108, 2, none⟩ = some (.string a1_2) ∧ w'.cell? ⟨gb108, 3, none⟩ = some (.slice A1_3 l1_3.length c1_3) ∧ w'.cell? ⟨gb108, 4, none⟩ = some (.slice (some ad112) l1_4.length c1_4) ∧ w'.cell? (ad111.add ((x65_3).toNat * 5)) = some (.int .i64 ((rd_T25 l0_4 x65_3).f0)) ∧ w'.cell? ⟨(ad111.add ((x65_3).toNat * 5)).block, (ad111.add ((x65_3).toNat * 5)).off + 1, none⟩ = some (.string ((rd_T25 l0_4 x65_3).f1)) ∧ w'.cell? ⟨(ad111.add ((x65_3).toNat * 5)).block, (ad111.add ((x65_3).toNat * 5)).off + 2, none⟩ = some (.string ((rd_T25 l0_4 x65_3).f2)) ∧ w'.cell? ⟨(ad111.add ((x65_3).toNat * 5)).block, (ad111.add ((x65_3).toNat * 5)).off + 3, none⟩ = some (.slice A111_3 ((rd_T25 l0_4 x65_3).f3).length c111_3) ∧ w'.cell? ⟨(ad111.add ((x65_3).toNat * 5)).block, (ad111.add ((x65_3).toNat * 5)).off + 4, none⟩ = some (.slice A111_4 ((rd_T25 l0_4 x65_3).f4).length c111_4) ∧ w'.cell? (ad112.add ((x65_3).toNat * 5)) = some (.int .i64 ((rd_T25 l1_4 x65_3).f0)) ∧ w'.cell? ⟨(ad112.add ((x65_3).toNat * 5)).block, (ad112.add ((x65_3).toNat * 5)).off + 1, none⟩ = some (.string ((rd_T25 l1_4 x65_3).f1)) ∧ w'.cell? ⟨(ad112.add ((x65_3).toNat * 5)).block, (ad112.add ((x65_3).toNat * 5)).off + 2, none⟩ = some (.string ((rd_T25 l1_4 x65_3).f2)) ∧ w'.cell? ⟨(ad112.add ((x65_3).toNat * 5)).block, (ad112.add ((x65_3).toNat * 5)).off + 3, none⟩ = some (.slice A112_3 ((rd_T25 l1_4 x65_3).f3).length c112_3) ∧ w'.cell? ⟨(ad112.add ((x65_3).toNat * 5)).block, (ad112.add ((x65_3).toNat * 5)).off + 4, none⟩ = some (.slice A112_4 ((rd_T25 l1_4 x65_3).f4).length c112_4)) (ds := []) #[false, false, false, false, false, false, false, false, false, false, false, false] (by kernel_rfl) rfl rfl ⟨(blk_cell BK107.out 0).trans rfl, (blk_cell BK107.out 1).trans rfl, (blk_cell BK107.out 2).trans rfl, (blk_cell BK107.out 3).trans rfl, (blk_cell BK107.out 4).trans rfl, (blk_cell BK108.out 0).trans rfl, (blk_cell BK108.out 1).trans rfl, (blk_cell BK108.out 2).trans rfl, (blk_cell BK108.out 3).trans rfl, (blk_cell BK108.out 4).trans rfl, ((HB.out.cell (World.block_lt_of_cell? w _ hw111_0)).trans hw111_0), ((HB.out.cell (World.block_lt_of_cell? w _ hw111_1)).trans hw111_1), ((HB.out.cell (World.block_lt_of_cell? w _ hw111_2)).trans hw111_2), ((HB.out.cell (World.block_lt_of_cell? w _ hw111_3)).trans hw111_3), ((HB.out.cell (World.block_lt_of_cell? w _ hw111_4)).trans hw111_4), ((HB.out.cell (World.block_lt_of_cell? w _ hw112_0)).trans hw112_0), ((HB.out.cell (World.block_lt_of_cell? w _ hw112_1)).trans hw112_1), ((HB.out.cell (World.block_lt_of_cell? w _ hw112_2)).trans hw112_2), ((HB.out.cell (World.block_lt_of_cell? w _ hw112_3)).trans hw112_3), ((HB.out.cell (World.block_lt_of_cell? w _ hw112_4)).trans hw112_4)⟩ (fun hHeld => ?_); refine with_tabW spec_SameTree.tab12 spec_SameTree.bits12 (fun HT_ HW_ => ?_)
                            generalize wr.drew = w45 at BK107 BK108 HB HR111_3 HR111_4 HR112_3 HR112_4 hx111_0 hx111_1 hx111_2 hx111_3 hx111_4 hx112_0 hx112_1 hx112_2 hx112_3 hx112_4 hHeld ⊢
                            refine pure_ (i := 0) (N := some 68) (v := ?_) (a' := ?_) #[true, false, false, false, false, false, false, false, false, false, false, false] rfl rfl (any_of HT_.out (by kernel_rfl)) (fun _ _ _ h => h) (Or.inl ⟨by rfl, ?_⟩) ?_ ?_
                            rotate_left
                            · intro w'
                              go_simp
                              with_reducible rfl
                            rotate_left
                            · simp only [Act.put, List.setIfInBounds_toArray, List.set_cons_zero, List.set_cons_succ, i64_w, i32_w]
                              rfl
                            refine pure_ (i := 2) (N := some 70) (v := ?_) (a' := ?_) #[true, false, true, false, false, false, false, false, false, false, false, false] rfl rfl (any_of HT_.out (by kernel_rfl)) (fun _ _ _ h => h) (Or.inl ⟨by rfl, ?_⟩) ?_ ?_
                            rotate_left
                            · intro w'
                              go_simp
                              with_reducible rfl
                            rotate_left
                            · simp only [Act.put, List.setIfInBounds_toArray, List.set_cons_zero, List.set_cons_succ, i64_w, i32_w]
                              rfl
                            refine pure_ (i := 5) (N := some 73) (v := ?_) (a' := ?_) #[true, false, true, false, false, true, false, false, false, false, false, false] rfl rfl (any_of HT_.out (by kernel_rfl)) (fun _ _ _ h => h) (Or.inl ⟨by rfl, ?_⟩) ?_ ?_
                            rotate_left
                            · intro w'
                              go_simp
                              with_reducible rfl
                            rotate_left
                            · simp only [Act.put, List.setIfInBounds_toArray, List.set_cons_zero, List.set_cons_succ, i64_w, i32_w]
                              rfl
                            refine pure_ (i := 7) (N := some 75) (v := ?_) (a' := ?_) #[true, false, true, false, false, true, false, true, false, false, false, false] rfl rfl (any_of HT_.out (by kernel_rfl)) (fun _ _ _ h => h) (Or.inl ⟨by rfl, ?_⟩) ?_ ?_
                            rotate_left
                            · intro w'
                              go_simp
                              with_reducible rfl
                            rotate_left
                            · simp only [Act.put, List.setIfInBounds_toArray, List.set_cons_zero, List.set_cons_succ, i64_w, i32_w]
                              rfl
                            refine take_ (i := 1) (N := some 69) (v := ?_) (a' := ?_) #[true, true, true, false, false, true, false, true, false, false, false, false] rfl rfl (take_ofW HT_.out HW_.out (by kernel_rfl)) (fun _ _ _ h => h) (Or.inl ⟨by rfl, ?_⟩) hHeld ?_ ?_
                            rotate_left
                            · rintro w' ⟨s0, s1, s2, s3, s4, s5, s6, s7, s8, s9, s10, s11, s12, s13, s14, s15, s16, s17, s18, s19⟩
                              go_simp
                              with_reducible rfl
                            rotate_left
                            · simp only [Act.put, List.setIfInBounds_toArray, List.set_cons_zero, List.set_cons_succ, i64_w, i32_w]
                              rfl
                            refine pure_ (i := 3) (N := some 71) (v := ?_) (a' := ?_) #[true, true, true, true, false, true, false, true, false, false, false, false] rfl rfl (any_of HT_.out (by kernel_rfl)) (fun _ _ _ h => h) (Or.inl ⟨by rfl, ?_⟩) ?_ ?_
                            rotate_left
                            · intro w'
                              go_simp
                              with_reducible rfl
                            rotate_left
                            · simp only [Act.put, List.setIfInBounds_toArray, List.set_cons_zero, List.set_cons_succ, i64_w, i32_w]
                              rfl
                            refine take_ (i := 4) (N := some 72) (v := ?_) (a' := ?_) #[true, true, true, true, true, true, false, true, false, false, false, false] rfl rfl (take_ofW HT_.out HW_.out (by kernel_rfl)) (fun _ _ _ h => h) (Or.inl ⟨by rfl, ?_⟩) hHeld ?_ ?_
                            rotate_left
                            · rintro w' ⟨s0, s1, s2, s3, s4, s5, s6, s7, s8, s9, s10, s11, s12, s13, s14, s15, s16, s17, s18, s19⟩
                              go_simp
                              with_reducible rfl
                            rotate_left
                            · simp only [Act.put, List.setIfInBounds_toArray, List.set_cons_zero, List.set_cons_succ, i64_w, i32_w]
                              rfl
                            refine take_ (i := 6) (N := some 74) (v := ?_) (a' := ?_) #[true, true, true, true, true, true, true, true, false, false, false, false] rfl rfl (take_ofW HT_.out HW_.out (by kernel_rfl)) (fun _ _ _ h => h) (Or.inl ⟨by rfl, ?_⟩) hHeld ?_ ?_
                            rotate_left
                            · rintro w' ⟨s0, s1, s2, s3, s4, s5, s6, s7, s8, s9, s10, s11, s12, s13, s14, s15, s16, s17, s18, s19⟩
                              go_simp
                              with_reducible rfl
                            rotate_left
                            · simp only [Act.put, List.setIfInBounds_toArray, List.set_cons_zero, List.set_cons_succ, i64_w, i32_w]
                              rfl
                            refine pure_ (i := 8) (N := some 76) (v := ?_) (a' := ?_) #[true, true, true, true, true, true, true, true, true, false, false, false] rfl rfl (any_of HT_.out (by kernel_rfl)) (fun _ _ _ h => h) (Or.inl ⟨by rfl, ?_⟩) ?_ ?_
                            rotate_left
                            · intro w'
                              go_simp
                              with_reducible rfl
                            rotate_left
                            · simp only [Act.put, List.setIfInBounds_toArray, List.set_cons_zero, List.set_cons_succ, i64_w, i32_w]
                              rfl
                            refine take_ (i := 9) (N := some 77) (v := ?_) (a' := ?_) #[true, true, true, true, true, true, true, true, true, true, false, false] rfl rfl (take_ofW HT_.out HW_.out (by kernel_rfl)) (fun _ _ _ h => h) (Or.inl ⟨by rfl, ?_⟩) hHeld ?_ ?_
                            rotate_left
                            · rintro w' ⟨s0, s1, s2, s3, s4, s5, s6, s7, s8, s9, s10, s11, s12, s13, s14, s15, s16, s17, s18, s19⟩
                              go_simp
                              with_reducible rfl
                            rotate_left
                            · simp only [Act.put, List.setIfInBounds_toArray, List.set_cons_zero, List.set_cons_succ, i64_w, i32_w]
                              rfl
                            refine one_ (i := 10) (N := some 78) #[true, true, true, true, true, true, true, true, true, true, true, false] rfl rfl (one_of HT_.out (by kernel_rfl)) (by decide) (fun K hK => ?_)
                            refine goes_ Try.func32 (by kernel_rfl) rfl #[.agg #[.int .i64 ((rd_T25 l0_4 x65_3).f0), .string ((rd_T25 l0_4 x65_3).f1), .string ((rd_T25 l0_4 x65_3).f2), .slice A111_3 ((rd_T25 l0_4 x65_3).f3).length c111_3, .slice A111_4 ((rd_T25 l0_4 x65_3).f4).length c111_4], .agg #[.int .i64 ((rd_T25 l1_4 x65_3).f0), .string ((rd_T25 l1_4 x65_3).f1), .string ((rd_T25 l1_4 x65_3).f2), .slice A112_3 ((rd_T25 l1_4 x65_3).f3).length c112_3, .slice A112_4 ((rd_T25 l1_4 x65_3).f4).length c112_4]] (by rfl) rfl rfl (by (try simp only [List.map_toArray, List.map_cons, List.map_nil]); first | done | rfl | (simp only [List.length_drop, List.length_take]; rfl)) ?_
                            with_reducible refine (ih k3 (by have := HJ2.out; have := HK2.out; have := HK3.out; omega) ((rd_T25 l0_4 x65_3).f0) ((rd_T25 l0_4 x65_3).f1) ((rd_T25 l0_4 x65_3).f2) _ _ ((rd_T25 l0_4 x65_3).f3) _ _ ((rd_T25 l0_4 x65_3).f4) ((rd_T25 l1_4 x65_3).f0) ((rd_T25 l1_4 x65_3).f1) ((rd_T25 l1_4 x65_3).f2) _ _ ((rd_T25 l1_4 x65_3).f3) _ _ ((rd_T25 l1_4 x65_3).f4) false _ ?side1 ?side2 ?side3 ?side4 ?side5 ?side6 ?side7 ?side8 A41.out).mono ?_
                            (case side1 => repeat (first | exact (Kd.C_below HR111_3.out HB.out) | (with_reducible refine Kd.C_alloc ?_ _) | (with_reducible refine Kd.C_drewN ?_ _) | (with_reducible refine Kd.C_drew ?_)))
                            (case side2 => exact HC111_3.out)
                            (case side3 => repeat (first | exact (Kd.C_below HR111_4.out HB.out) | (with_reducible refine Kd.C_alloc ?_ _) | (with_reducible refine Kd.C_drewN ?_ _) | (with_reducible refine Kd.C_drew ?_)))
                            (case side4 => exact HC111_4.out)
                            (case side5 => repeat (first | exact (Kd.C_below HR112_3.out HB.out) | (with_reducible refine Kd.C_alloc ?_ _) | (with_reducible refine Kd.C_drewN ?_ _) | (with_reducible refine Kd.C_drew ?_)))
                            (case side6 => exact HC112_3.out)
                            (case side7 => repeat (first | exact (Kd.C_below HR112_4.out HB.out) | (with_reducible refine Kd.C_alloc ?_ _) | (with_reducible refine Kd.C_drewN ?_ _) | (with_reducible refine Kd.C_drew ?_)))
                            (case side8 => exact HC112_4.out)
                            rintro e w46 ⟨rfl, hb⟩
                            refine ⟨_, rfl, ?_⟩
                            have n0_ := Aside0.mk (blk_below (g := gb107) (o := .cells #[.int .i64 a0_0, .string a0_1, .string a0_2, .slice A0_3 l0_3.length c0_3, .slice (some ad111) l0_4.length c0_4] 25 (0, 0)) (by (with_reducible repeat (first | refine blk_drewN ?_ _ | refine blk_drew ?_ | refine blk_alloc ?_ _)); exact BK107.out) hb)
                            have n1_ := Aside0.mk (blk_below (g := gb108) (o := .cells #[.int .i64 a1_0, .string a1_1, .string a1_2, .slice A1_3 l1_3.length c1_3, .slice (some ad112) l1_4.length c1_4] 25 (0, 0)) (by (with_reducible repeat (first | refine blk_drewN ?_ _ | refine blk_drew ?_ | refine blk_alloc ?_ _)); exact BK108.out) hb)
                            have n2_ := Aside0.mk (below_step (by repeat (first | (with_reducible first | exact HB.out | apply below_alloc | apply pw_below_drewN | apply below_drew1 | refine below_set ?_ GE107.out | refine below_set ?_ GE108.out) | exact HB.out)) hb)
                            clear BK107
                            clear BK108
                            clear HB
                            have BK107 := n0_
                            have BK108 := n1_
                            have HB := n2_
                            clear n0_ n1_ n2_
                            (try clear hb)
                            (try clear hb2)
                            (try clear hk)
                            (try clear hi)
                            refine hK.out _ _ ⟨(blk_cell BK107.out 0).trans rfl, (blk_cell BK107.out 1).trans rfl, (blk_cell BK107.out 2).trans rfl, (blk_cell BK107.out 3).trans rfl, (blk_cell BK107.out 4).trans rfl, (blk_cell BK108.out 0).trans rfl, (blk_cell BK108.out 1).trans rfl, (blk_cell BK108.out 2).trans rfl, (blk_cell BK108.out 3).trans rfl, (blk_cell BK108.out 4).trans rfl, ((HB.out.cell (World.block_lt_of_cell? w _ hw111_0)).trans hw111_0), ((HB.out.cell (World.block_lt_of_cell? w _ hw111_1)).trans hw111_1), ((HB.out.cell (World.block_lt_of_cell? w _ hw111_2)).trans hw111_2), ((HB.out.cell (World.block_lt_of_cell? w _ hw111_3)).trans hw111_3), ((HB.out.cell (World.block_lt_of_cell? w _ hw111_4)).trans hw111_4), ((HB.out.cell (World.block_lt_of_cell? w _ hw112_0)).trans hw112_0), ((HB.out.cell (World.block_lt_of_cell? w _ hw112_1)).trans hw112_1), ((HB.out.cell (World.block_lt_of_cell? w _ hw112_2)).trans hw112_2), ((HB.out.cell (World.block_lt_of_cell? w _ hw112_3)).trans hw112_3), ((HB.out.cell (World.block_lt_of_cell? w _ hw112_4)).trans hw112_4)⟩ (fun hHeld => ?_)
                            clear hK K
                            refine norm_ (a' := ?_) ?_ ?_
                            rotate_left
                            · show Act.put _ (some 78) _ = _
                              simp only [Act.put, List.setIfInBounds_toArray, List.set_cons_zero, List.set_cons_succ, i64_w, i32_w]
                              rfl
                            refine pure_ (i := 11) (N := some 79) (v := ?_) (a' := ?_) #[true, true, true, true, true, true, true, true, true, true, true, true] rfl rfl (any_of HT_.out (by kernel_rfl)) (fun _ _ _ h => h) (Or.inl ⟨by rfl, ?_⟩) ?_ ?_
                            rotate_left
                            · intro w'
                              go_simp
                              with_reducible rfl
                            rotate_left
                            · simp only [Act.put, List.setIfInBounds_toArray, List.set_cons_zero, List.set_cons_succ, i64_w, i32_w]
                              rfl
                            refine done_ (done_of HT_.out (by kernel_rfl)) ?_
                            try go_wp2
                            go_ret
                            exact ⟨by first | rfl | (simp [errW_none, errW_some] <;> rfl) | (simp [*, errW_none, errW_some] <;> rfl), by repeat (first | (with_reducible first | exact HB.out | apply below_alloc | apply pw_below_drewN | apply below_drew1 | refine below_set ?_ GE107.out | refine below_set ?_ GE108.out) | exact HB.out)⟩
                        · rw [if_neg c40] at H
                          exact absurd H (by simp)
                      · rw [if_neg c39] at H
                        exact absurd H (by simp)
                    · rw [if_neg c38] at H
                      exact absurd H (by simp)
                  · rw [if_neg c37] at H
                    have c37b0 : decide (x65_3 < (l0_4.length : Int)) = false := decide_eq_false c37
                    clear c37
                    obtain rfl := Option.some.inj H
                    go_wp2
                    go_ret
                    exact ⟨by first | rfl | (simp [errW_none, errW_some] <;> rfl) | (simp [*, errW_none, errW_some] <;> rfl), by repeat (first | (with_reducible first | exact HB.out | apply below_alloc | apply pw_below_drewN | apply below_drew1 | refine below_set ?_ GE107.out | refine below_set ?_ GE108.out) | exact HB.out)⟩

end Go.Proofs.Ytlallihdiffheaa.GT
