-- made by a program of this session, after the kit's print
import Derived.Test.YtlallihdiffheaaDoorGTx0
import Derived.Test.YtlallihdiffheaaDoorGTx2
namespace Go.Proofs.YtlallihdiffheaaDoor.GT
open Go.RowKit Go.Proofs.YtlallihdiffheaaDoorW.PrintWords Go.Proofs.YtlallihdiffheaaDoorW.PrintLast Go.Proofs.YtlallihdiffheaaDoorW.PrintMore
attribute [local go_sem] max2_int min2_int max_two min_two max_three min_three max_four min_four   -- for this text's walks alone
set_option linter.unusedVariables false
set_option linter.unusedSimpArgs false

/-! ### spec_Tree: function 18 -/
mutual
def spec_Tree.j0 : Nat → Int → Bool → Int → ByteArray → ByteArray → List (S29) → List (S25) → Option (Bool)
  | 0, _, _, _, _, _, _, _ => none
  | k + 1, x1, x18, x118000, x118001, x118002, x118003, x118004 => if x18 = true then (some false) else (if x118000 = 0 then ((spec_one.f k x118001 (([(⟨#[98, 111, 100, 121]⟩ : ByteArray), (⟨#[100, 105, 118]⟩ : ByteArray), (⟨#[112]⟩ : ByteArray), (⟨#[117, 108]⟩ : ByteArray), (⟨#[111, 108]⟩ : ByteArray), (⟨#[108, 105]⟩ : ByteArray), (⟨#[98, 108, 111, 99, 107, 113, 117, 111, 116, 101]⟩ : ByteArray), (⟨#[112, 114, 101]⟩ : ByteArray), (⟨#[99, 111, 100, 101]⟩ : ByteArray), (⟨#[104, 49]⟩ : ByteArray), (⟨#[104, 50]⟩ : ByteArray), (⟨#[104, 51]⟩ : ByteArray), (⟨#[104, 54]⟩ : ByteArray), (⟨#[104, 114]⟩ : ByteArray), (⟨#[98, 114]⟩ : ByteArray), (⟨#[97]⟩ : ByteArray), (⟨#[115, 112, 97, 110]⟩ : ByteArray), (⟨#[115, 116, 114, 111, 110, 103]⟩ : ByteArray), (⟨#[101, 109]⟩ : ByteArray), (⟨#[115, 101, 99, 116, 105, 111, 110]⟩ : ByteArray)] : List ByteArray))).bind fun t122 => (if t122 = true then (if x118002.toList = ([] : List UInt8) then ((spec_named.f k x118000 x118001 x118002 x118003 x118004 (([(⟨#[104, 114]⟩ : ByteArray), (⟨#[98, 114]⟩ : ByteArray)] : List ByteArray))).bind fun t126 => (if t126 = true then (spec_Tree.j1 k x1 (decide ((x118004.length : Int) > 0)) x118000 x118001 x118002 x118003 x118004) else (spec_Tree.j1 k x1 false x118000 x118001 x118002 x118003 x118004))) else (spec_Tree.j1 k x1 true x118000 x118001 x118002 x118003 x118004)) else (spec_Tree.j1 k x1 true x118000 x118001 x118002 x118003 x118004))) else (if (wrap64 ((x118004.length : Int) + (x118003.length : Int))) = 0 then (if x118001.toList = ([] : List UInt8) then (if x118002.toList = ([] : List UInt8) then (some false) else (if x118000 = 2 then (some true) else ((spec_solid.f k x118000 x118001 x118002 x118003 x118004).bind fun t118 => (some t118)))) else (some false)) else (some false)))
def spec_Tree.j1 : Nat → Int → Bool → Int → ByteArray → ByteArray → List (S29) → List (S25) → Option (Bool)
  | 0, _, _, _, _, _, _, _ => none
  | k + 1, x1, x69, x118000, x118001, x118002, x118003, x118004 => if x69 = true then (some false) else (spec_Tree.l0 k x1 x118004 (x118004.length : Int) 0)
def spec_Tree.l0 : Nat → Int → List (S25) → Int → Int → Option (Bool)
  | 0, _, _, _, _ => none
  | k + 1, x1, x71, x72, x73 => if x73 < x72 then (if 0 ≤ x73 then (if x73 < (x71.length : Int) then ((spec_named.f k ((rd_T25 x71 x73).f0) ((rd_T25 x71 x73).f1) ((rd_T25 x71 x73).f2) ((rd_T25 x71 x73).f3) ((rd_T25 x71 x73).f4) (([(⟨#[98, 111, 100, 121]⟩ : ByteArray)] : List ByteArray))).bind fun t132 => (if t132 = true then (some false) else ((spec_Tree.f k ((rd_T25 x71 x73).f0) ((rd_T25 x71 x73).f1) ((rd_T25 x71 x73).f2) ((rd_T25 x71 x73).f3) ((rd_T25 x71 x73).f4) (wrap64 (x1 - 1))).bind fun t133 => (if t133 = true then (spec_Tree.l0 k x1 x71 x72 (wrap64 (x73 + 1))) else (some false))))) else (none)) else (none)) else (some true)
def spec_Tree.f : Nat → Int → ByteArray → ByteArray → List (S29) → List (S25) → Int → Option (Bool)
  | 0, _, _, _, _, _, _ => none
  | k + 1, a0_0, a0_1, a0_2, l0_3, l0_4, a1 => if a1 < 0 then (spec_Tree.j0 k a1 true a0_0 a0_1 a0_2 l0_3 l0_4) else (if a0_0 < 0 then (spec_Tree.j0 k a1 true a0_0 a0_1 a0_2 l0_3 l0_4) else (spec_Tree.j0 k a1 (decide (a0_0 > 2)) a0_0 a0_1 a0_2 l0_3 l0_4))
end
theorem spec_Tree.mono_l : ∀ k, (∀ y0 y1 y2 y3 y4 y5, LeO (spec_Tree.f k y0 y1 y2 y3 y4 y5) (spec_Tree.f (k + 1) y0 y1 y2 y3 y4 y5)) ∧ (∀ y0 y1 y2 y3 y4 y5 y6, LeO (spec_Tree.j0 k y0 y1 y2 y3 y4 y5 y6) (spec_Tree.j0 (k + 1) y0 y1 y2 y3 y4 y5 y6)) ∧ (∀ y0 y1 y2 y3 y4 y5 y6, LeO (spec_Tree.j1 k y0 y1 y2 y3 y4 y5 y6) (spec_Tree.j1 (k + 1) y0 y1 y2 y3 y4 y5 y6)) ∧ (∀ y0 y1 y2 y3, LeO (spec_Tree.l0 k y0 y1 y2 y3) (spec_Tree.l0 (k + 1) y0 y1 y2 y3))
  | 0 => ⟨fun _ _ _ _ _ _ r h => by simp [spec_Tree.f] at h, fun _ _ _ _ _ _ _ r h => by simp [spec_Tree.j0] at h, fun _ _ _ _ _ _ _ r h => by simp [spec_Tree.j1] at h, fun _ _ _ _ r h => by simp [spec_Tree.l0] at h⟩
  | k + 1 => by
    obtain ⟨ih0, ih1, ih2, ih3⟩ := spec_Tree.mono_l k
    refine ⟨?_, ?_, ?_, ?_⟩
    · intro y0 y1 y2 y3 y4 y5
      unfold spec_Tree.f
      repeat' first
      | (with_reducible exact ih0 _ _ _ _ _ _)
      | (with_reducible exact ih1 _ _ _ _ _ _ _)
      | (with_reducible exact ih2 _ _ _ _ _ _ _)
      | (with_reducible exact ih3 _ _ _ _)
      | (with_reducible exact spec_named.mono _ _ _ _ _ _ _)
      | (with_reducible exact spec_one.mono _ _ _)
      | (with_reducible exact spec_solid.mono _ _ _ _ _ _)
      | (with_reducible exact LeO.refl _)
      | (with_reducible exact LeO.none _)
      | (with_reducible refine LeO.ite ?_ ?_)
      | (with_reducible refine LeO.bind ?_ (fun _ => ?_))
      | exact ih0 _ _ _ _ _ _
      | exact ih1 _ _ _ _ _ _ _
      | exact ih2 _ _ _ _ _ _ _
      | exact ih3 _ _ _ _
      | exact spec_named.mono _ _ _ _ _ _ _
      | exact spec_one.mono _ _ _
      | exact spec_solid.mono _ _ _ _ _ _
      | exact LeO.none _
      | refine LeO.ite ?_ ?_
      | refine LeO.bind ?_ (fun _ => ?_)
    · intro y0 y1 y2 y3 y4 y5 y6
      unfold spec_Tree.j0
      repeat' first
      | (with_reducible exact ih0 _ _ _ _ _ _)
      | (with_reducible exact ih1 _ _ _ _ _ _ _)
      | (with_reducible exact ih2 _ _ _ _ _ _ _)
      | (with_reducible exact ih3 _ _ _ _)
      | (with_reducible exact spec_named.mono _ _ _ _ _ _ _)
      | (with_reducible exact spec_one.mono _ _ _)
      | (with_reducible exact spec_solid.mono _ _ _ _ _ _)
      | (with_reducible exact LeO.refl _)
      | (with_reducible exact LeO.none _)
      | (with_reducible refine LeO.ite ?_ ?_)
      | (with_reducible refine LeO.bind ?_ (fun _ => ?_))
      | exact ih0 _ _ _ _ _ _
      | exact ih1 _ _ _ _ _ _ _
      | exact ih2 _ _ _ _ _ _ _
      | exact ih3 _ _ _ _
      | exact spec_named.mono _ _ _ _ _ _ _
      | exact spec_one.mono _ _ _
      | exact spec_solid.mono _ _ _ _ _ _
      | exact LeO.none _
      | refine LeO.ite ?_ ?_
      | refine LeO.bind ?_ (fun _ => ?_)
    · intro y0 y1 y2 y3 y4 y5 y6
      unfold spec_Tree.j1
      repeat' first
      | (with_reducible exact ih0 _ _ _ _ _ _)
      | (with_reducible exact ih1 _ _ _ _ _ _ _)
      | (with_reducible exact ih2 _ _ _ _ _ _ _)
      | (with_reducible exact ih3 _ _ _ _)
      | (with_reducible exact spec_named.mono _ _ _ _ _ _ _)
      | (with_reducible exact spec_one.mono _ _ _)
      | (with_reducible exact spec_solid.mono _ _ _ _ _ _)
      | (with_reducible exact LeO.refl _)
      | (with_reducible exact LeO.none _)
      | (with_reducible refine LeO.ite ?_ ?_)
      | (with_reducible refine LeO.bind ?_ (fun _ => ?_))
      | exact ih0 _ _ _ _ _ _
      | exact ih1 _ _ _ _ _ _ _
      | exact ih2 _ _ _ _ _ _ _
      | exact ih3 _ _ _ _
      | exact spec_named.mono _ _ _ _ _ _ _
      | exact spec_one.mono _ _ _
      | exact spec_solid.mono _ _ _ _ _ _
      | exact LeO.none _
      | refine LeO.ite ?_ ?_
      | refine LeO.bind ?_ (fun _ => ?_)
    · intro y0 y1 y2 y3
      unfold spec_Tree.l0
      repeat' first
      | (with_reducible exact ih0 _ _ _ _ _ _)
      | (with_reducible exact ih1 _ _ _ _ _ _ _)
      | (with_reducible exact ih2 _ _ _ _ _ _ _)
      | (with_reducible exact ih3 _ _ _ _)
      | (with_reducible exact spec_named.mono _ _ _ _ _ _ _)
      | (with_reducible exact spec_one.mono _ _ _)
      | (with_reducible exact spec_solid.mono _ _ _ _ _ _)
      | (with_reducible exact LeO.refl _)
      | (with_reducible exact LeO.none _)
      | (with_reducible refine LeO.ite ?_ ?_)
      | (with_reducible refine LeO.bind ?_ (fun _ => ?_))
      | exact ih0 _ _ _ _ _ _
      | exact ih1 _ _ _ _ _ _ _
      | exact ih2 _ _ _ _ _ _ _
      | exact ih3 _ _ _ _
      | exact spec_named.mono _ _ _ _ _ _ _
      | exact spec_one.mono _ _ _
      | exact spec_solid.mono _ _ _ _ _ _
      | exact LeO.none _
      | refine LeO.ite ?_ ?_
      | refine LeO.bind ?_ (fun _ => ?_)
theorem spec_Tree.mono : ∀ a0 a1 a2 a3 a4 a5 k, LeO (spec_Tree.f k a0 a1 a2 a3 a4 a5) (spec_Tree.f (k + 1) a0 a1 a2 a3 a4 a5) := by
  intro a0 a1 a2 a3 a4 a5 k
  obtain ⟨ih0, ih1, ih2, ih3⟩ := spec_Tree.mono_l k
  exact ih0 a0 a1 a2 a3 a4 a5
set_option maxHeartbeats 8000000 in
set_option maxRecDepth 100000 in
theorem spec_Tree.calls (k : Nat) : ∀ (a0_0 : Int) (a0_1 : ByteArray) (a0_2 : ByteArray) (A0_3 : Option Addr) (c0_3 : Nat) (l0_3 : List (S29)) (A0_4 : Option Addr) (c0_4 : Nat) (l0_4 : List (S25)) (a1 : Int) (r : Bool) (w : World) (hr0_3 : Kd.C k29 w A0_3 l0_3.length l0_3) (hc0_3 : l0_3.length ≤ c0_3) (hr0_4 : Kd.C k25 w A0_4 l0_4.length l0_4) (hc0_4 : l0_4.length ≤ c0_4) (h : spec_Tree.f k a0_0 a0_1 a0_2 l0_3 l0_4 a1 = some r),
    Calls Tryd.prog 18 #[.agg #[.int .i64 a0_0, .string a0_1, .string a0_2, .slice A0_3 l0_3.length c0_3, .slice A0_4 l0_4.length c0_4], .int .i64 a1] w fun e w' => e = .returned (.bool r) ∧ Below w.heap.size w w' := by
  induction k using Nat.strongRecOn with
  | _ k ih =>
  intro a0_0 a0_1 a0_2 A0_3 c0_3 l0_3 A0_4 c0_4 l0_4 a1 r w hr0_3 hc0_3 hr0_4 hc0_4 h
  cases k with
  | zero => exact absurd h (by simp [spec_Tree.f])
  | succ k =>
  simp only [spec_Tree.f] at h
  have hu25 := Tryd.underlying25
  have HR0_3 := Aside0.mk hr0_3
  have HC0_3 := Aside0.mk hc0_3
  clear hr0_3 hc0_3
  have HR0_4 := Aside0.mk hr0_4
  have HC0_4 := Aside0.mk hc0_4
  clear hr0_4 hc0_4
  have HB := Aside0.mk (Below.refl w.heap.size w)
  have H : (if a1 < 0 then (spec_Tree.j0 k a1 true a0_0 a0_1 a0_2 l0_3 l0_4) else (if a0_0 < 0 then (spec_Tree.j0 k a1 true a0_0 a0_1 a0_2 l0_3 l0_4) else (spec_Tree.j0 k a1 (decide (a0_0 > 2)) a0_0 a0_1 a0_2 l0_3 l0_4))) = some r := h
  clear h
  have HC3 := Aside0.mk H
  clear H
  go_enter Tryd.func18, Tryd.ntmps18
  go_upto_region 1 with (first | ((with_reducible refine gate_dst (N := 2) rfl ?_); (try (refine gate_guard (by rfl) ?_; dsimp only)); refine box_event ?hg (N := 2) ?hd (cs := #[.int .i64 a0_0, .string a0_1, .string a0_2, .slice A0_3 l0_3.length c0_3, .slice A0_4 l0_4.length c0_4]) (t := 25) ?hr ?_; (case hd => rfl); (case hg => rfl); (case hr => first | (go_simp; done) | (go_simp; rfl)); intro gb117 hg w4 hbox hb; have n0_ := Aside0.mk (below_step (by repeat (first | (with_reducible first | exact HB.out | apply below_alloc | apply pw_below_drewN | apply below_drew1) | exact HB.out)) hb); have n1_ := Aside0.mk (hbox); have n2_ := Aside0.mk ((by rw [hg]; exact (below_size (by repeat (first | (with_reducible first | exact HB.out | apply below_alloc | apply pw_below_drewN | apply below_drew1) | exact HB.out))) : w.heap.size ≤ gb117)); have n3_ := Aside0.mk ((by rw [hg]; exact (below_size (by repeat (first | (with_reducible first | exact HB.out | apply below_alloc | apply pw_below_drewN | apply below_drew1) | exact HB.out))) : w.heap.size ≤ gb117)); clear HB; have HB := n0_; have BK117 := n1_; have GW117 := n2_; have GE117 := n3_; clear n0_ n1_ n2_ n3_; clear hb hbox hg))
  (try simp only [Act.put, List.setIfInBounds_toArray, List.set_cons_zero, List.set_cons_succ])
  go_cut [18] (fun v18 wc => ∃ (kq : Nat) (x18_2 : Bool), v18 = .bool x18_2 ∧ Aside0 (spec_Tree.j0 kq a1 x18_2 a0_0 a0_1 a0_2 l0_3 l0_4 = some r) ∧ Aside0 (kq ≤ k) ∧ Aside0 (wc.heap[gb117]? = some (.cells #[.int .i64 a0_0, .string a0_1, .string a0_2, (.slice A0_3 l0_3.length c0_3), (.slice A0_4 l0_4.length c0_4)] 25 (0, 0))) ∧ Aside0 (Below w.heap.size w wc))
  case first =>
    have H := HC3.out
    clear HC3
    by_cases c5 : a1 < 0
    · rw [if_pos c5] at H
      have c5b0 : decide (a1 < 0) = true := decide_eq_true c5
      clear c5
      (first | rw [c5b0] | (simp only [i64_w, i32_w]; rw [c5b0]) | skip)
      have H' := Aside0.mk H
      clear H
      go_wp2
      go_meet
      case rel => exact ⟨_, (true), (by first | rfl | (simp; done) | (simp [*]; done)), H', ⟨by first | omega | exact Nat.le_refl _⟩, ⟨by (with_reducible repeat (first | refine blk_drewN ?_ _ | refine blk_drew ?_ | refine blk_alloc ?_ _)); exact BK117.out⟩, ⟨by repeat (first | (with_reducible first | exact HB.out | apply below_alloc | apply pw_below_drewN | apply below_drew1 | refine below_set ?_ GE117.out) | exact HB.out)⟩⟩
    · rw [if_neg c5] at H
      have c5b0 : decide (a1 < 0) = false := decide_eq_false c5
      clear c5
      (first | rw [c5b0] | (simp only [i64_w, i32_w]; rw [c5b0]) | skip)
      by_cases c6 : a0_0 < 0
      · rw [if_pos c6] at H
        have c6b0 : decide (a0_0 < 0) = true := decide_eq_true c6
        clear c6
        have H' := Aside0.mk H
        clear H
        have hcz7_0 : w4.cell? ⟨gb117, 0, none⟩ = some (.int .i64 a0_0) := (blk_cell BK117.out 0).trans rfl
        have hcz7_1 : w4.cell? ⟨gb117, 1, none⟩ = some (.string a0_1) := (blk_cell BK117.out 1).trans rfl
        have hcz7_2 : w4.cell? ⟨gb117, 2, none⟩ = some (.string a0_2) := (blk_cell BK117.out 2).trans rfl
        have hcz7_3 : w4.cell? ⟨gb117, 3, none⟩ = some (.slice A0_3 l0_3.length c0_3) := (blk_cell BK117.out 3).trans rfl
        have hcz7_4 : w4.cell? ⟨gb117, 4, none⟩ = some (.slice A0_4 l0_4.length c0_4) := (blk_cell BK117.out 4).trans rfl
        have hfz7_0 := blk_frozen BK117.out 0
        have hfz7_1 := blk_frozen BK117.out 1
        have hfz7_2 := blk_frozen BK117.out 2
        have hfz7_3 := blk_frozen BK117.out 3
        have hfz7_4 := blk_frozen BK117.out 4
        go_wp2
        go_meet
        case rel => exact ⟨_, (true), (by first | rfl | (simp; done) | (simp [*]; done)), H', ⟨by first | omega | exact Nat.le_refl _⟩, ⟨by (with_reducible repeat (first | refine blk_drewN ?_ _ | refine blk_drew ?_ | refine blk_alloc ?_ _)); exact BK117.out⟩, ⟨by repeat (first | (with_reducible first | exact HB.out | apply below_alloc | apply pw_below_drewN | apply below_drew1 | refine below_set ?_ GE117.out) | exact HB.out)⟩⟩
      · rw [if_neg c6] at H
        have c6b0 : decide (a0_0 < 0) = false := decide_eq_false c6
        clear c6
        have H' := Aside0.mk H
        clear H
        have hcz8_0 : w4.cell? ⟨gb117, 0, none⟩ = some (.int .i64 a0_0) := (blk_cell BK117.out 0).trans rfl
        have hcz8_1 : w4.cell? ⟨gb117, 1, none⟩ = some (.string a0_1) := (blk_cell BK117.out 1).trans rfl
        have hcz8_2 : w4.cell? ⟨gb117, 2, none⟩ = some (.string a0_2) := (blk_cell BK117.out 2).trans rfl
        have hcz8_3 : w4.cell? ⟨gb117, 3, none⟩ = some (.slice A0_3 l0_3.length c0_3) := (blk_cell BK117.out 3).trans rfl
        have hcz8_4 : w4.cell? ⟨gb117, 4, none⟩ = some (.slice A0_4 l0_4.length c0_4) := (blk_cell BK117.out 4).trans rfl
        have hfz8_0 := blk_frozen BK117.out 0
        have hfz8_1 := blk_frozen BK117.out 1
        have hfz8_2 := blk_frozen BK117.out 2
        have hfz8_3 := blk_frozen BK117.out 3
        have hfz8_4 := blk_frozen BK117.out 4
        go_wp2
        go_meet
        case rel => exact ⟨_, (decide (a0_0 > 2)), (by first | rfl | (simp; done) | (simp [*]; done)), H', ⟨by first | omega | exact Nat.le_refl _⟩, ⟨by (with_reducible repeat (first | refine blk_drewN ?_ _ | refine blk_drew ?_ | refine blk_alloc ?_ _)); exact BK117.out⟩, ⟨by repeat (first | (with_reducible first | exact HB.out | apply below_alloc | apply pw_below_drewN | apply below_drew1 | refine below_set ?_ GE117.out) | exact HB.out)⟩⟩
  case rest =>
    clear HC3
    try clear c1
    try clear p2
    try clear c5
    try clear c5b0
    try clear c6
    try clear c6b0
    try clear hcz7_0
    try clear hcz7_1
    try clear hcz7_2
    try clear hcz7_3
    try clear hcz7_4
    try clear hcz8_0
    try clear hcz8_1
    try clear hcz8_2
    try clear hcz8_3
    try clear hcz8_4
    try clear hfz7_0
    try clear hfz7_1
    try clear hfz7_2
    try clear hfz7_3
    try clear hfz7_4
    try clear hfz8_0
    try clear hfz8_1
    try clear hfz8_2
    try clear hfz8_3
    try clear hfz8_4
    obtain ⟨kq, x18_2, rfl, HA, HJ2, BK117, HB⟩ := hcut
    cases kq with
    | zero => exact absurd HA.out (by simp [spec_Tree.j0])
    | succ kj2 =>
      have H := HA.out
      clear HA
      simp only [spec_Tree.j0] at H
      by_cases c9 : x18_2 = true
      · subst c9
        have H1 : (some false) = some r := by rw [if_pos rfl] at H; exact H
        clear H
        have H := H1
        clear H1
        obtain rfl := Option.some.inj H
        go_wp2
        go_ret
        exact ⟨by first | rfl | (simp [errW_none, errW_some] <;> rfl) | (simp [*, errW_none, errW_some] <;> rfl), by repeat (first | (with_reducible first | exact HB.out | apply below_alloc | apply pw_below_drewN | apply below_drew1 | refine below_set ?_ GE117.out) | exact HB.out)⟩
      · replace c9 := Bool.eq_false_iff.mpr c9
        subst c9
        have H1 : (if a0_0 = 0 then ((spec_one.f kj2 a0_1 (([(⟨#[98, 111, 100, 121]⟩ : ByteArray), (⟨#[100, 105, 118]⟩ : ByteArray), (⟨#[112]⟩ : ByteArray), (⟨#[117, 108]⟩ : ByteArray), (⟨#[111, 108]⟩ : ByteArray), (⟨#[108, 105]⟩ : ByteArray), (⟨#[98, 108, 111, 99, 107, 113, 117, 111, 116, 101]⟩ : ByteArray), (⟨#[112, 114, 101]⟩ : ByteArray), (⟨#[99, 111, 100, 101]⟩ : ByteArray), (⟨#[104, 49]⟩ : ByteArray), (⟨#[104, 50]⟩ : ByteArray), (⟨#[104, 51]⟩ : ByteArray), (⟨#[104, 54]⟩ : ByteArray), (⟨#[104, 114]⟩ : ByteArray), (⟨#[98, 114]⟩ : ByteArray), (⟨#[97]⟩ : ByteArray), (⟨#[115, 112, 97, 110]⟩ : ByteArray), (⟨#[115, 116, 114, 111, 110, 103]⟩ : ByteArray), (⟨#[101, 109]⟩ : ByteArray), (⟨#[115, 101, 99, 116, 105, 111, 110]⟩ : ByteArray)] : List ByteArray))).bind fun t122 => (if t122 = true then (if a0_2.toList = ([] : List UInt8) then ((spec_named.f kj2 a0_0 a0_1 a0_2 l0_3 l0_4 (([(⟨#[104, 114]⟩ : ByteArray), (⟨#[98, 114]⟩ : ByteArray)] : List ByteArray))).bind fun t126 => (if t126 = true then (spec_Tree.j1 kj2 a1 (decide ((l0_4.length : Int) > 0)) a0_0 a0_1 a0_2 l0_3 l0_4) else (spec_Tree.j1 kj2 a1 false a0_0 a0_1 a0_2 l0_3 l0_4))) else (spec_Tree.j1 kj2 a1 true a0_0 a0_1 a0_2 l0_3 l0_4)) else (spec_Tree.j1 kj2 a1 true a0_0 a0_1 a0_2 l0_3 l0_4))) else (if (wrap64 ((l0_4.length : Int) + (l0_3.length : Int))) = 0 then (if a0_1.toList = ([] : List UInt8) then (if a0_2.toList = ([] : List UInt8) then (some false) else (if a0_0 = 2 then (some true) else ((spec_solid.f kj2 a0_0 a0_1 a0_2 l0_3 l0_4).bind fun t118 => (some t118)))) else (some false)) else (some false))) = some r := by rw [if_neg (show ¬ (false = true) by decide)] at H; exact H
        clear H
        have H := H1
        clear H1
        by_cases c10 : a0_0 = 0
        · rw [if_pos c10] at H
          have c10b0 : (a0_0 == 0) = true := beq_iff_eq.mpr c10
          have c10b1 : (a0_0 != 0) = false := bne_eq_false_iff_eq.mpr c10
          clear c10
          have HC11 := Aside0.mk H
          clear H
          have hcz12_0 : wc.cell? ⟨gb117, 0, none⟩ = some (.int .i64 a0_0) := (blk_cell BK117.out 0).trans rfl
          have hcz12_1 : wc.cell? ⟨gb117, 1, none⟩ = some (.string a0_1) := (blk_cell BK117.out 1).trans rfl
          have hcz12_2 : wc.cell? ⟨gb117, 2, none⟩ = some (.string a0_2) := (blk_cell BK117.out 2).trans rfl
          have hcz12_3 : wc.cell? ⟨gb117, 3, none⟩ = some (.slice A0_3 l0_3.length c0_3) := (blk_cell BK117.out 3).trans rfl
          have hcz12_4 : wc.cell? ⟨gb117, 4, none⟩ = some (.slice A0_4 l0_4.length c0_4) := (blk_cell BK117.out 4).trans rfl
          have hfz12_0 := blk_frozen BK117.out 0
          have hfz12_1 := blk_frozen BK117.out 1
          have hfz12_2 := blk_frozen BK117.out 2
          have hfz12_3 := blk_frozen BK117.out 3
          have hfz12_4 := blk_frozen BK117.out 4
          go_upto_region 5 with (fail)
          go_cut [69] (fun v69 wc => ∃ (kq : Nat) (x69_10 : Bool), v69 = .bool x69_10 ∧ Aside0 (spec_Tree.j1 kq a1 x69_10 a0_0 a0_1 a0_2 l0_3 l0_4 = some r) ∧ Aside0 (kq ≤ kj2) ∧ Aside0 (wc.heap[gb117]? = some (.cells #[.int .i64 a0_0, .string a0_1, .string a0_2, (.slice A0_3 l0_3.length c0_3), (.slice A0_4 l0_4.length c0_4)] 25 (0, 0))) ∧ Aside0 (Below w.heap.size w wc))
          case first =>
            have H := HC11.out
            clear HC11
            obtain ⟨y119, hy119⟩ : ∃ y_ : List ByteArray, y_ = (([(⟨#[98, 111, 100, 121]⟩ : ByteArray), (⟨#[100, 105, 118]⟩ : ByteArray), (⟨#[112]⟩ : ByteArray), (⟨#[117, 108]⟩ : ByteArray), (⟨#[111, 108]⟩ : ByteArray), (⟨#[108, 105]⟩ : ByteArray), (⟨#[98, 108, 111, 99, 107, 113, 117, 111, 116, 101]⟩ : ByteArray), (⟨#[112, 114, 101]⟩ : ByteArray), (⟨#[99, 111, 100, 101]⟩ : ByteArray), (⟨#[104, 49]⟩ : ByteArray), (⟨#[104, 50]⟩ : ByteArray), (⟨#[104, 51]⟩ : ByteArray), (⟨#[104, 54]⟩ : ByteArray), (⟨#[104, 114]⟩ : ByteArray), (⟨#[98, 114]⟩ : ByteArray), (⟨#[97]⟩ : ByteArray), (⟨#[115, 112, 97, 110]⟩ : ByteArray), (⟨#[115, 116, 114, 111, 110, 103]⟩ : ByteArray), (⟨#[101, 109]⟩ : ByteArray), (⟨#[115, 101, 99, 116, 105, 111, 110]⟩ : ByteArray)] : List ByteArray)) := ⟨_, rfl⟩
            replace H : ((spec_one.f kj2 a0_1 y119).bind fun t122 => (if t122 = true then (if a0_2.toList = ([] : List UInt8) then ((spec_named.f kj2 a0_0 a0_1 a0_2 l0_3 l0_4 (([(⟨#[104, 114]⟩ : ByteArray), (⟨#[98, 114]⟩ : ByteArray)] : List ByteArray))).bind fun t126 => (if t126 = true then (spec_Tree.j1 kj2 a1 (decide ((l0_4.length : Int) > 0)) a0_0 a0_1 a0_2 l0_3 l0_4) else (spec_Tree.j1 kj2 a1 false a0_0 a0_1 a0_2 l0_3 l0_4))) else (spec_Tree.j1 kj2 a1 true a0_0 a0_1 a0_2 l0_3 l0_4)) else (spec_Tree.j1 kj2 a1 true a0_0 a0_1 a0_2 l0_3 l0_4))) = some r := by first | (rw [hy119]; with_reducible exact H) | (have H2_ := (Option.bind_some _ _).symm.trans H; rw [hy119]; with_reducible exact H2_) | (have H2_ := (Option.bind_some _ _).symm.trans H; with_reducible exact H2_) | with_reducible exact H | (rw [hy119]; exact H) | exact H
            have Ny119 := Aside0.mk hy119
            clear hy119
            replace H := Option.bind_eq_some_iff.mp H
            obtain ⟨t122, A130, H⟩ := H
            replace H : (if t122 = true then (if a0_2.toList = ([] : List UInt8) then ((spec_named.f kj2 a0_0 a0_1 a0_2 l0_3 l0_4 (([(⟨#[104, 114]⟩ : ByteArray), (⟨#[98, 114]⟩ : ByteArray)] : List ByteArray))).bind fun t126 => (if t126 = true then (spec_Tree.j1 kj2 a1 (decide ((l0_4.length : Int) > 0)) a0_0 a0_1 a0_2 l0_3 l0_4) else (spec_Tree.j1 kj2 a1 false a0_0 a0_1 a0_2 l0_3 l0_4))) else (spec_Tree.j1 kj2 a1 true a0_0 a0_1 a0_2 l0_3 l0_4)) else (spec_Tree.j1 kj2 a1 true a0_0 a0_1 a0_2 l0_3 l0_4)) = some r := H
            have A13 := Aside0.mk A130
            clear A130
            by_cases c14 : t122 = true
            · subst c14
              have H1 : (if a0_2.toList = ([] : List UInt8) then ((spec_named.f kj2 a0_0 a0_1 a0_2 l0_3 l0_4 (([(⟨#[104, 114]⟩ : ByteArray), (⟨#[98, 114]⟩ : ByteArray)] : List ByteArray))).bind fun t126 => (if t126 = true then (spec_Tree.j1 kj2 a1 (decide ((l0_4.length : Int) > 0)) a0_0 a0_1 a0_2 l0_3 l0_4) else (spec_Tree.j1 kj2 a1 false a0_0 a0_1 a0_2 l0_3 l0_4))) else (spec_Tree.j1 kj2 a1 true a0_0 a0_1 a0_2 l0_3 l0_4)) = some r := by rw [if_pos rfl] at H; exact H
              clear H
              have H := H1
              clear H1
              by_cases c15 : a0_2.toList = ([] : List UInt8)
              · rw [if_pos c15] at H
                have c15b0 : (a0_2.toList == ([] : List UInt8)) = true := beq_iff_eq.mpr c15
                have c15b1 : (a0_2.toList != ([] : List UInt8)) = false := bne_eq_false_iff_eq.mpr c15
                clear c15
                (first | rw [c15b0] | (simp only [i64_w, i32_w]; rw [c15b0]) | skip)
                obtain ⟨y123, hy123⟩ : ∃ y_ : List ByteArray, y_ = (([(⟨#[104, 114]⟩ : ByteArray), (⟨#[98, 114]⟩ : ByteArray)] : List ByteArray)) := ⟨_, rfl⟩
                replace H : ((spec_named.f kj2 a0_0 a0_1 a0_2 l0_3 l0_4 y123).bind fun t126 => (if t126 = true then (spec_Tree.j1 kj2 a1 (decide ((l0_4.length : Int) > 0)) a0_0 a0_1 a0_2 l0_3 l0_4) else (spec_Tree.j1 kj2 a1 false a0_0 a0_1 a0_2 l0_3 l0_4))) = some r := by first | (rw [hy123]; with_reducible exact H) | (have H2_ := (Option.bind_some _ _).symm.trans H; rw [hy123]; with_reducible exact H2_) | (have H2_ := (Option.bind_some _ _).symm.trans H; with_reducible exact H2_) | with_reducible exact H | (rw [hy123]; exact H) | exact H
                have Ny123 := Aside0.mk hy123
                clear hy123
                replace H := Option.bind_eq_some_iff.mp H
                obtain ⟨t126, A160, H⟩ := H
                replace H : (if t126 = true then (spec_Tree.j1 kj2 a1 (decide ((l0_4.length : Int) > 0)) a0_0 a0_1 a0_2 l0_3 l0_4) else (spec_Tree.j1 kj2 a1 false a0_0 a0_1 a0_2 l0_3 l0_4)) = some r := H
                have A16 := Aside0.mk A160
                clear A160
                by_cases c17 : t126 = true
                · subst c17
                  have H1 : (spec_Tree.j1 kj2 a1 (decide ((l0_4.length : Int) > 0)) a0_0 a0_1 a0_2 l0_3 l0_4) = some r := by rw [if_pos rfl] at H; exact H
                  clear H
                  have H := H1
                  clear H1
                  have H' := Aside0.mk H
                  clear H
                  have hcz18_0 : wc.cell? ⟨gb117, 0, none⟩ = some (.int .i64 a0_0) := (blk_cell BK117.out 0).trans rfl
                  have hcz18_1 : wc.cell? ⟨gb117, 1, none⟩ = some (.string a0_1) := (blk_cell BK117.out 1).trans rfl
                  have hcz18_2 : wc.cell? ⟨gb117, 2, none⟩ = some (.string a0_2) := (blk_cell BK117.out 2).trans rfl
                  have hcz18_3 : wc.cell? ⟨gb117, 3, none⟩ = some (.slice A0_3 l0_3.length c0_3) := (blk_cell BK117.out 3).trans rfl
                  have hcz18_4 : wc.cell? ⟨gb117, 4, none⟩ = some (.slice A0_4 l0_4.length c0_4) := (blk_cell BK117.out 4).trans rfl
                  have hfz18_0 := blk_frozen BK117.out 0
                  have hfz18_1 := blk_frozen BK117.out 1
                  have hfz18_2 := blk_frozen BK117.out 2
                  have hfz18_3 := blk_frozen BK117.out 3
                  have hfz18_4 := blk_frozen BK117.out 4
                  go_wp2_with (first | ((with_reducible refine gate_dst (N := 51) rfl ?_); (try (refine gate_guard (by rfl) ?_; dsimp only)); refine Kd.R_lit Kd.string _ 9 ?hg (N := 51) ?hd (xs := ([(⟨#[98, 111, 100, 121]⟩ : ByteArray), (⟨#[100, 105, 118]⟩ : ByteArray), (⟨#[112]⟩ : ByteArray), (⟨#[117, 108]⟩ : ByteArray), (⟨#[111, 108]⟩ : ByteArray), (⟨#[108, 105]⟩ : ByteArray), (⟨#[98, 108, 111, 99, 107, 113, 117, 111, 116, 101]⟩ : ByteArray), (⟨#[112, 114, 101]⟩ : ByteArray), (⟨#[99, 111, 100, 101]⟩ : ByteArray), (⟨#[104, 49]⟩ : ByteArray), (⟨#[104, 50]⟩ : ByteArray), (⟨#[104, 51]⟩ : ByteArray), (⟨#[104, 54]⟩ : ByteArray), (⟨#[104, 114]⟩ : ByteArray), (⟨#[98, 114]⟩ : ByteArray), (⟨#[97]⟩ : ByteArray), (⟨#[115, 112, 97, 110]⟩ : ByteArray), (⟨#[115, 116, 114, 111, 110, 103]⟩ : ByteArray), (⟨#[101, 109]⟩ : ByteArray), (⟨#[115, 101, 99, 116, 105, 111, 110]⟩ : ByteArray)] : List ByteArray)) (inner := [.string (⟨#[98, 111, 100, 121]⟩ : ByteArray), .string (⟨#[100, 105, 118]⟩ : ByteArray), .string (⟨#[112]⟩ : ByteArray), .string (⟨#[117, 108]⟩ : ByteArray), .string (⟨#[111, 108]⟩ : ByteArray), .string (⟨#[108, 105]⟩ : ByteArray), .string (⟨#[98, 108, 111, 99, 107, 113, 117, 111, 116, 101]⟩ : ByteArray), .string (⟨#[112, 114, 101]⟩ : ByteArray), .string (⟨#[99, 111, 100, 101]⟩ : ByteArray), .string (⟨#[104, 49]⟩ : ByteArray), .string (⟨#[104, 50]⟩ : ByteArray), .string (⟨#[104, 51]⟩ : ByteArray), .string (⟨#[104, 54]⟩ : ByteArray), .string (⟨#[104, 114]⟩ : ByteArray), .string (⟨#[98, 114]⟩ : ByteArray), .string (⟨#[97]⟩ : ByteArray), .string (⟨#[115, 112, 97, 110]⟩ : ByteArray), .string (⟨#[115, 116, 114, 111, 110, 103]⟩ : ByteArray), .string (⟨#[101, 109]⟩ : ByteArray), .string (⟨#[115, 101, 99, 116, 105, 111, 110]⟩ : ByteArray)]) (ok := fun _ => True) (okp := fun _ => True) ?hr ?hp (fun _ hk => hk) trivial (Below.refl _ _) (Nat.le_refl _) (by simp) ?_; (case hd => rfl); (case hg => rfl); (case hr => first | (go_simp; done) | (go_simp; rfl)); (case hp => exact (Reps.one (show Kd.M Kd.string _ _ _ (⟨#[98, 111, 100, 121]⟩ : ByteArray) [.string (⟨#[98, 111, 100, 121]⟩ : ByteArray)] from rfl) (Reps.one (show Kd.M Kd.string _ _ _ (⟨#[100, 105, 118]⟩ : ByteArray) [.string (⟨#[100, 105, 118]⟩ : ByteArray)] from rfl) (Reps.one (show Kd.M Kd.string _ _ _ (⟨#[112]⟩ : ByteArray) [.string (⟨#[112]⟩ : ByteArray)] from rfl) (Reps.one (show Kd.M Kd.string _ _ _ (⟨#[117, 108]⟩ : ByteArray) [.string (⟨#[117, 108]⟩ : ByteArray)] from rfl) (Reps.one (show Kd.M Kd.string _ _ _ (⟨#[111, 108]⟩ : ByteArray) [.string (⟨#[111, 108]⟩ : ByteArray)] from rfl) (Reps.one (show Kd.M Kd.string _ _ _ (⟨#[108, 105]⟩ : ByteArray) [.string (⟨#[108, 105]⟩ : ByteArray)] from rfl) (Reps.one (show Kd.M Kd.string _ _ _ (⟨#[98, 108, 111, 99, 107, 113, 117, 111, 116, 101]⟩ : ByteArray) [.string (⟨#[98, 108, 111, 99, 107, 113, 117, 111, 116, 101]⟩ : ByteArray)] from rfl) (Reps.one (show Kd.M Kd.string _ _ _ (⟨#[112, 114, 101]⟩ : ByteArray) [.string (⟨#[112, 114, 101]⟩ : ByteArray)] from rfl) (Reps.one (show Kd.M Kd.string _ _ _ (⟨#[99, 111, 100, 101]⟩ : ByteArray) [.string (⟨#[99, 111, 100, 101]⟩ : ByteArray)] from rfl) (Reps.one (show Kd.M Kd.string _ _ _ (⟨#[104, 49]⟩ : ByteArray) [.string (⟨#[104, 49]⟩ : ByteArray)] from rfl) (Reps.one (show Kd.M Kd.string _ _ _ (⟨#[104, 50]⟩ : ByteArray) [.string (⟨#[104, 50]⟩ : ByteArray)] from rfl) (Reps.one (show Kd.M Kd.string _ _ _ (⟨#[104, 51]⟩ : ByteArray) [.string (⟨#[104, 51]⟩ : ByteArray)] from rfl) (Reps.one (show Kd.M Kd.string _ _ _ (⟨#[104, 54]⟩ : ByteArray) [.string (⟨#[104, 54]⟩ : ByteArray)] from rfl) (Reps.one (show Kd.M Kd.string _ _ _ (⟨#[104, 114]⟩ : ByteArray) [.string (⟨#[104, 114]⟩ : ByteArray)] from rfl) (Reps.one (show Kd.M Kd.string _ _ _ (⟨#[98, 114]⟩ : ByteArray) [.string (⟨#[98, 114]⟩ : ByteArray)] from rfl) (Reps.one (show Kd.M Kd.string _ _ _ (⟨#[97]⟩ : ByteArray) [.string (⟨#[97]⟩ : ByteArray)] from rfl) (Reps.one (show Kd.M Kd.string _ _ _ (⟨#[115, 112, 97, 110]⟩ : ByteArray) [.string (⟨#[115, 112, 97, 110]⟩ : ByteArray)] from rfl) (Reps.one (show Kd.M Kd.string _ _ _ (⟨#[115, 116, 114, 111, 110, 103]⟩ : ByteArray) [.string (⟨#[115, 116, 114, 111, 110, 103]⟩ : ByteArray)] from rfl) (Reps.one (show Kd.M Kd.string _ _ _ (⟨#[101, 109]⟩ : ByteArray) [.string (⟨#[101, 109]⟩ : ByteArray)] from rfl) (Reps.one (show Kd.M Kd.string _ _ _ (⟨#[115, 101, 99, 116, 105, 111, 110]⟩ : ByteArray) [.string (⟨#[115, 101, 99, 116, 105, 111, 110]⟩ : ByteArray)] from rfl) (Reps.none _ _)))))))))))))))))))))); intro v120 w19 ho20 hb hg_ hnew_; clear hg_ hnew_; (first | rw [← Ny119.out] at ho20 | (simp only [Int.reduceToNat] at ho20; rw [← Ny119.out] at ho20)); have n0_ := Aside0.mk (Kd.R_lower ho20 (below_size (by repeat (first | (with_reducible first | exact HB.out | apply below_alloc | apply pw_below_drewN | apply below_drew1 | refine below_set ?_ GE117.out) | exact HB.out)))); have n1_ := Aside0.mk (blk_below (g := gb117) (o := .cells #[.int .i64 a0_0, .string a0_1, .string a0_2, .slice A0_3 l0_3.length c0_3, .slice A0_4 l0_4.length c0_4] 25 (0, 0)) (by (with_reducible repeat (first | refine blk_drewN ?_ _ | refine blk_drew ?_ | refine blk_alloc ?_ _)); exact BK117.out) hb); have n2_ := Aside0.mk (below_step (by repeat (first | (with_reducible first | exact HB.out | apply below_alloc | apply pw_below_drewN | apply below_drew1 | refine below_set ?_ GE117.out) | exact HB.out)) hb); clear BK117; clear HB; have HO121 := n0_; have BK117 := n1_; have HB := n2_; clear n0_ n1_ n2_; clear hb ho20; obtain ⟨Ao21, co21, eo21⟩ := Kd.R_slice HO121.out; subst eo21) | ((with_reducible refine gate_callee (f := 38) rfl ?_); refine goesL_ (some 52) rfl rfl Tryd.func38 (by kernel_rfl) rfl #[.string a0_1, .slice Ao21 y119.length co21] rfl (by (try simp only [List.map_toArray, List.map_cons, List.map_nil]); first | done | rfl | (simp only [List.length_drop, List.length_take]; rfl)) ?_; (with_reducible refine (spec_one.calls kj2 a0_1 _ _ y119 true _ ?side1 ?side2 A13.out).mono ?_); (case side1 => repeat (first | exact (Kd.R_reads' HO121.out).2.2 | (with_reducible refine Kd.C_alloc ?_ _) | (with_reducible refine Kd.C_drewN ?_ _) | (with_reducible refine Kd.C_drew ?_))); (case side2 => exact (Kd.R_reads' HO121.out).2.1); rintro e w' ⟨rfl, ⟨nd, rfl⟩⟩; refine ⟨_, rfl, ?_⟩; have hcz22_0 : w19.cell? ⟨gb117, 0, none⟩ = some (.int .i64 a0_0) := (blk_cell BK117.out 0).trans rfl; have hcz22_1 : w19.cell? ⟨gb117, 1, none⟩ = some (.string a0_1) := (blk_cell BK117.out 1).trans rfl; have hcz22_2 : w19.cell? ⟨gb117, 2, none⟩ = some (.string a0_2) := (blk_cell BK117.out 2).trans rfl; have hcz22_3 : w19.cell? ⟨gb117, 3, none⟩ = some (.slice A0_3 l0_3.length c0_3) := (blk_cell BK117.out 3).trans rfl; have hcz22_4 : w19.cell? ⟨gb117, 4, none⟩ = some (.slice A0_4 l0_4.length c0_4) := (blk_cell BK117.out 4).trans rfl; have hfz22_0 := blk_frozen BK117.out 0; have hfz22_1 := blk_frozen BK117.out 1; have hfz22_2 := blk_frozen BK117.out 2; have hfz22_3 := blk_frozen BK117.out 3; have hfz22_4 := blk_frozen BK117.out 4) | ((with_reducible refine gate_dst (N := 61) rfl ?_); (try (refine gate_guard (by rfl) ?_; dsimp only)); refine Kd.R_lit Kd.string _ 9 ?hg (N := 61) ?hd (xs := ([(⟨#[104, 114]⟩ : ByteArray), (⟨#[98, 114]⟩ : ByteArray)] : List ByteArray)) (inner := [.string (⟨#[104, 114]⟩ : ByteArray), .string (⟨#[98, 114]⟩ : ByteArray)]) (ok := fun _ => True) (okp := fun _ => True) ?hr ?hp (fun _ hk => hk) trivial (Below.refl _ _) (Nat.le_refl _) (by simp) ?_; (case hd => rfl); (case hg => rfl); (case hr => first | (go_simp; done) | (go_simp; rfl)); (case hp => exact (Reps.one (show Kd.M Kd.string _ _ _ (⟨#[104, 114]⟩ : ByteArray) [.string (⟨#[104, 114]⟩ : ByteArray)] from rfl) (Reps.one (show Kd.M Kd.string _ _ _ (⟨#[98, 114]⟩ : ByteArray) [.string (⟨#[98, 114]⟩ : ByteArray)] from rfl) (Reps.none _ _)))); intro v124 w23 ho24 hb hg_ hnew_; clear hg_ hnew_; (first | rw [← Ny123.out] at ho24 | (simp only [Int.reduceToNat] at ho24; rw [← Ny123.out] at ho24)); have n0_ := Aside0.mk (Kd.R_elder' (by (with_reducible repeat (first | apply Kd.R_alloc | apply Kd.R_drewN | apply Kd.R_drew)); exact HO121.out) (Kd.R_base ho24) hb); have n1_ := Aside0.mk (Kd.R_lower (Kd.R_new' ho24 (Kd.R_lt (by (with_reducible repeat (first | apply Kd.R_alloc | apply Kd.R_drewN | apply Kd.R_drew)); exact HO121.out))) (below_size (by repeat (first | (with_reducible first | exact HB.out | apply below_alloc | apply pw_below_drewN | apply below_drew1 | refine below_set ?_ GE117.out) | exact HB.out)))); have n2_ := Aside0.mk (blk_below (g := gb117) (o := .cells #[.int .i64 a0_0, .string a0_1, .string a0_2, .slice A0_3 l0_3.length c0_3, .slice A0_4 l0_4.length c0_4] 25 (0, 0)) (by (with_reducible repeat (first | refine blk_drewN ?_ _ | refine blk_drew ?_ | refine blk_alloc ?_ _)); exact BK117.out) hb); have n3_ := Aside0.mk (below_step (by repeat (first | (with_reducible first | exact HB.out | apply below_alloc | apply pw_below_drewN | apply below_drew1 | refine below_set ?_ GE117.out) | exact HB.out)) hb); clear HO121; clear BK117; clear HB; have HO121 := n0_; have HO125 := n1_; have BK117 := n2_; have HB := n3_; clear n0_ n1_ n2_ n3_; clear hb ho24; obtain ⟨Ao25, co25, eo25⟩ := Kd.R_slice HO125.out; subst eo25) | (go_at_call 39; (with_reducible refine (spec_named.calls kj2 a0_0 a0_1 a0_2 _ _ l0_3 _ _ l0_4 _ _ y123 true _ ?side1 ?side2 ?side3 ?side4 ?side5 ?side6 A16.out).mono ?_); (case side1 => repeat (first | exact (Kd.C_below HR0_3.out HB.out) | (with_reducible refine Kd.C_alloc ?_ _) | (with_reducible refine Kd.C_drewN ?_ _) | (with_reducible refine Kd.C_drew ?_))); (case side2 => exact HC0_3.out); (case side3 => repeat (first | exact (Kd.C_below HR0_4.out HB.out) | (with_reducible refine Kd.C_alloc ?_ _) | (with_reducible refine Kd.C_drewN ?_ _) | (with_reducible refine Kd.C_drew ?_))); (case side4 => exact HC0_4.out); (case side5 => repeat (first | exact (Kd.R_reads' HO125.out).2.2 | (with_reducible refine Kd.C_alloc ?_ _) | (with_reducible refine Kd.C_drewN ?_ _) | (with_reducible refine Kd.C_drew ?_))); (case side6 => exact (Kd.R_reads' HO125.out).2.1); rintro e w26 ⟨rfl, hb⟩; have n0_ := Aside0.mk (Kd.R_below (by (with_reducible repeat (first | apply Kd.R_alloc | apply Kd.R_drewN | apply Kd.R_drew)); exact HO121.out) hb); have n1_ := Aside0.mk (Kd.R_below (by (with_reducible repeat (first | apply Kd.R_alloc | apply Kd.R_drewN | apply Kd.R_drew)); exact HO125.out) hb); have n2_ := Aside0.mk (blk_below (g := gb117) (o := .cells #[.int .i64 a0_0, .string a0_1, .string a0_2, .slice A0_3 l0_3.length c0_3, .slice A0_4 l0_4.length c0_4] 25 (0, 0)) (by (with_reducible repeat (first | refine blk_drewN ?_ _ | refine blk_drew ?_ | refine blk_alloc ?_ _)); exact BK117.out) hb); have n3_ := Aside0.mk (below_step (by repeat (first | (with_reducible first | exact HB.out | apply below_alloc | apply pw_below_drewN | apply below_drew1 | refine below_set ?_ GE117.out) | exact HB.out)) hb); clear HO121; clear HO125; clear BK117; clear HB; have HO121 := n0_; have HO125 := n1_; have BK117 := n2_; have HB := n3_; clear n0_ n1_ n2_ n3_; (try clear hb); (try clear hb2); (try clear hk); (try clear hi); have hcz27_0 : w26.cell? ⟨gb117, 0, none⟩ = some (.int .i64 a0_0) := (blk_cell BK117.out 0).trans rfl; have hcz27_1 : w26.cell? ⟨gb117, 1, none⟩ = some (.string a0_1) := (blk_cell BK117.out 1).trans rfl; have hcz27_2 : w26.cell? ⟨gb117, 2, none⟩ = some (.string a0_2) := (blk_cell BK117.out 2).trans rfl; have hcz27_3 : w26.cell? ⟨gb117, 3, none⟩ = some (.slice A0_3 l0_3.length c0_3) := (blk_cell BK117.out 3).trans rfl; have hcz27_4 : w26.cell? ⟨gb117, 4, none⟩ = some (.slice A0_4 l0_4.length c0_4) := (blk_cell BK117.out 4).trans rfl; have hfz27_0 := blk_frozen BK117.out 0; have hfz27_1 := blk_frozen BK117.out 1; have hfz27_2 := blk_frozen BK117.out 2; have hfz27_3 := blk_frozen BK117.out 3; have hfz27_4 := blk_frozen BK117.out 4))
                  go_meet
                  case rel => exact ⟨_, (decide ((l0_4.length : Int) > 0)), (by first | rfl | (simp; done) | (simp [*]; done)), H', ⟨by have := HJ2.out; first | omega | exact Nat.le_refl _⟩, ⟨by (with_reducible repeat (first | refine blk_drewN ?_ _ | refine blk_drew ?_ | refine blk_alloc ?_ _)); exact BK117.out⟩, ⟨by repeat (first | (with_reducible first | exact HB.out | apply below_alloc | apply pw_below_drewN | apply below_drew1 | refine below_set ?_ GE117.out) | exact HB.out)⟩⟩
                · replace c17 := Bool.eq_false_iff.mpr c17
                  subst c17
                  have H1 : (spec_Tree.j1 kj2 a1 false a0_0 a0_1 a0_2 l0_3 l0_4) = some r := by rw [if_neg (show ¬ (false = true) by decide)] at H; exact H
                  clear H
                  have H := H1
                  clear H1
                  have H' := Aside0.mk H
                  clear H
                  have hcz28_0 : wc.cell? ⟨gb117, 0, none⟩ = some (.int .i64 a0_0) := (blk_cell BK117.out 0).trans rfl
                  have hcz28_1 : wc.cell? ⟨gb117, 1, none⟩ = some (.string a0_1) := (blk_cell BK117.out 1).trans rfl
                  have hcz28_2 : wc.cell? ⟨gb117, 2, none⟩ = some (.string a0_2) := (blk_cell BK117.out 2).trans rfl
                  have hcz28_3 : wc.cell? ⟨gb117, 3, none⟩ = some (.slice A0_3 l0_3.length c0_3) := (blk_cell BK117.out 3).trans rfl
                  have hcz28_4 : wc.cell? ⟨gb117, 4, none⟩ = some (.slice A0_4 l0_4.length c0_4) := (blk_cell BK117.out 4).trans rfl
                  have hfz28_0 := blk_frozen BK117.out 0
                  have hfz28_1 := blk_frozen BK117.out 1
                  have hfz28_2 := blk_frozen BK117.out 2
                  have hfz28_3 := blk_frozen BK117.out 3
                  have hfz28_4 := blk_frozen BK117.out 4
                  go_wp2_with (first | ((with_reducible refine gate_dst (N := 51) rfl ?_); (try (refine gate_guard (by rfl) ?_; dsimp only)); refine Kd.R_lit Kd.string _ 9 ?hg (N := 51) ?hd (xs := ([(⟨#[98, 111, 100, 121]⟩ : ByteArray), (⟨#[100, 105, 118]⟩ : ByteArray), (⟨#[112]⟩ : ByteArray), (⟨#[117, 108]⟩ : ByteArray), (⟨#[111, 108]⟩ : ByteArray), (⟨#[108, 105]⟩ : ByteArray), (⟨#[98, 108, 111, 99, 107, 113, 117, 111, 116, 101]⟩ : ByteArray), (⟨#[112, 114, 101]⟩ : ByteArray), (⟨#[99, 111, 100, 101]⟩ : ByteArray), (⟨#[104, 49]⟩ : ByteArray), (⟨#[104, 50]⟩ : ByteArray), (⟨#[104, 51]⟩ : ByteArray), (⟨#[104, 54]⟩ : ByteArray), (⟨#[104, 114]⟩ : ByteArray), (⟨#[98, 114]⟩ : ByteArray), (⟨#[97]⟩ : ByteArray), (⟨#[115, 112, 97, 110]⟩ : ByteArray), (⟨#[115, 116, 114, 111, 110, 103]⟩ : ByteArray), (⟨#[101, 109]⟩ : ByteArray), (⟨#[115, 101, 99, 116, 105, 111, 110]⟩ : ByteArray)] : List ByteArray)) (inner := [.string (⟨#[98, 111, 100, 121]⟩ : ByteArray), .string (⟨#[100, 105, 118]⟩ : ByteArray), .string (⟨#[112]⟩ : ByteArray), .string (⟨#[117, 108]⟩ : ByteArray), .string (⟨#[111, 108]⟩ : ByteArray), .string (⟨#[108, 105]⟩ : ByteArray), .string (⟨#[98, 108, 111, 99, 107, 113, 117, 111, 116, 101]⟩ : ByteArray), .string (⟨#[112, 114, 101]⟩ : ByteArray), .string (⟨#[99, 111, 100, 101]⟩ : ByteArray), .string (⟨#[104, 49]⟩ : ByteArray), .string (⟨#[104, 50]⟩ : ByteArray), .string (⟨#[104, 51]⟩ : ByteArray), .string (⟨#[104, 54]⟩ : ByteArray), .string (⟨#[104, 114]⟩ : ByteArray), .string (⟨#[98, 114]⟩ : ByteArray), .string (⟨#[97]⟩ : ByteArray), .string (⟨#[115, 112, 97, 110]⟩ : ByteArray), .string (⟨#[115, 116, 114, 111, 110, 103]⟩ : ByteArray), .string (⟨#[101, 109]⟩ : ByteArray), .string (⟨#[115, 101, 99, 116, 105, 111, 110]⟩ : ByteArray)]) (ok := fun _ => True) (okp := fun _ => True) ?hr ?hp (fun _ hk => hk) trivial (Below.refl _ _) (Nat.le_refl _) (by simp) ?_; (case hd => rfl); (case hg => rfl); (case hr => first | (go_simp; done) | (go_simp; rfl)); (case hp => exact (Reps.one (show Kd.M Kd.string _ _ _ (⟨#[98, 111, 100, 121]⟩ : ByteArray) [.string (⟨#[98, 111, 100, 121]⟩ : ByteArray)] from rfl) (Reps.one (show Kd.M Kd.string _ _ _ (⟨#[100, 105, 118]⟩ : ByteArray) [.string (⟨#[100, 105, 118]⟩ : ByteArray)] from rfl) (Reps.one (show Kd.M Kd.string _ _ _ (⟨#[112]⟩ : ByteArray) [.string (⟨#[112]⟩ : ByteArray)] from rfl) (Reps.one (show Kd.M Kd.string _ _ _ (⟨#[117, 108]⟩ : ByteArray) [.string (⟨#[117, 108]⟩ : ByteArray)] from rfl) (Reps.one (show Kd.M Kd.string _ _ _ (⟨#[111, 108]⟩ : ByteArray) [.string (⟨#[111, 108]⟩ : ByteArray)] from rfl) (Reps.one (show Kd.M Kd.string _ _ _ (⟨#[108, 105]⟩ : ByteArray) [.string (⟨#[108, 105]⟩ : ByteArray)] from rfl) (Reps.one (show Kd.M Kd.string _ _ _ (⟨#[98, 108, 111, 99, 107, 113, 117, 111, 116, 101]⟩ : ByteArray) [.string (⟨#[98, 108, 111, 99, 107, 113, 117, 111, 116, 101]⟩ : ByteArray)] from rfl) (Reps.one (show Kd.M Kd.string _ _ _ (⟨#[112, 114, 101]⟩ : ByteArray) [.string (⟨#[112, 114, 101]⟩ : ByteArray)] from rfl) (Reps.one (show Kd.M Kd.string _ _ _ (⟨#[99, 111, 100, 101]⟩ : ByteArray) [.string (⟨#[99, 111, 100, 101]⟩ : ByteArray)] from rfl) (Reps.one (show Kd.M Kd.string _ _ _ (⟨#[104, 49]⟩ : ByteArray) [.string (⟨#[104, 49]⟩ : ByteArray)] from rfl) (Reps.one (show Kd.M Kd.string _ _ _ (⟨#[104, 50]⟩ : ByteArray) [.string (⟨#[104, 50]⟩ : ByteArray)] from rfl) (Reps.one (show Kd.M Kd.string _ _ _ (⟨#[104, 51]⟩ : ByteArray) [.string (⟨#[104, 51]⟩ : ByteArray)] from rfl) (Reps.one (show Kd.M Kd.string _ _ _ (⟨#[104, 54]⟩ : ByteArray) [.string (⟨#[104, 54]⟩ : ByteArray)] from rfl) (Reps.one (show Kd.M Kd.string _ _ _ (⟨#[104, 114]⟩ : ByteArray) [.string (⟨#[104, 114]⟩ : ByteArray)] from rfl) (Reps.one (show Kd.M Kd.string _ _ _ (⟨#[98, 114]⟩ : ByteArray) [.string (⟨#[98, 114]⟩ : ByteArray)] from rfl) (Reps.one (show Kd.M Kd.string _ _ _ (⟨#[97]⟩ : ByteArray) [.string (⟨#[97]⟩ : ByteArray)] from rfl) (Reps.one (show Kd.M Kd.string _ _ _ (⟨#[115, 112, 97, 110]⟩ : ByteArray) [.string (⟨#[115, 112, 97, 110]⟩ : ByteArray)] from rfl) (Reps.one (show Kd.M Kd.string _ _ _ (⟨#[115, 116, 114, 111, 110, 103]⟩ : ByteArray) [.string (⟨#[115, 116, 114, 111, 110, 103]⟩ : ByteArray)] from rfl) (Reps.one (show Kd.M Kd.string _ _ _ (⟨#[101, 109]⟩ : ByteArray) [.string (⟨#[101, 109]⟩ : ByteArray)] from rfl) (Reps.one (show Kd.M Kd.string _ _ _ (⟨#[115, 101, 99, 116, 105, 111, 110]⟩ : ByteArray) [.string (⟨#[115, 101, 99, 116, 105, 111, 110]⟩ : ByteArray)] from rfl) (Reps.none _ _)))))))))))))))))))))); intro v120 w29 ho30 hb hg_ hnew_; clear hg_ hnew_; (first | rw [← Ny119.out] at ho30 | (simp only [Int.reduceToNat] at ho30; rw [← Ny119.out] at ho30)); have n0_ := Aside0.mk (Kd.R_lower ho30 (below_size (by repeat (first | (with_reducible first | exact HB.out | apply below_alloc | apply pw_below_drewN | apply below_drew1 | refine below_set ?_ GE117.out) | exact HB.out)))); have n1_ := Aside0.mk (blk_below (g := gb117) (o := .cells #[.int .i64 a0_0, .string a0_1, .string a0_2, .slice A0_3 l0_3.length c0_3, .slice A0_4 l0_4.length c0_4] 25 (0, 0)) (by (with_reducible repeat (first | refine blk_drewN ?_ _ | refine blk_drew ?_ | refine blk_alloc ?_ _)); exact BK117.out) hb); have n2_ := Aside0.mk (below_step (by repeat (first | (with_reducible first | exact HB.out | apply below_alloc | apply pw_below_drewN | apply below_drew1 | refine below_set ?_ GE117.out) | exact HB.out)) hb); clear BK117; clear HB; have HO121 := n0_; have BK117 := n1_; have HB := n2_; clear n0_ n1_ n2_; clear hb ho30; obtain ⟨Ao31, co31, eo31⟩ := Kd.R_slice HO121.out; subst eo31) | ((with_reducible refine gate_callee (f := 38) rfl ?_); refine goesL_ (some 52) rfl rfl Tryd.func38 (by kernel_rfl) rfl #[.string a0_1, .slice Ao31 y119.length co31] rfl (by (try simp only [List.map_toArray, List.map_cons, List.map_nil]); first | done | rfl | (simp only [List.length_drop, List.length_take]; rfl)) ?_; (with_reducible refine (spec_one.calls kj2 a0_1 _ _ y119 true _ ?side1 ?side2 A13.out).mono ?_); (case side1 => repeat (first | exact (Kd.R_reads' HO121.out).2.2 | (with_reducible refine Kd.C_alloc ?_ _) | (with_reducible refine Kd.C_drewN ?_ _) | (with_reducible refine Kd.C_drew ?_))); (case side2 => exact (Kd.R_reads' HO121.out).2.1); rintro e w' ⟨rfl, ⟨nd, rfl⟩⟩; refine ⟨_, rfl, ?_⟩; have hcz32_0 : w29.cell? ⟨gb117, 0, none⟩ = some (.int .i64 a0_0) := (blk_cell BK117.out 0).trans rfl; have hcz32_1 : w29.cell? ⟨gb117, 1, none⟩ = some (.string a0_1) := (blk_cell BK117.out 1).trans rfl; have hcz32_2 : w29.cell? ⟨gb117, 2, none⟩ = some (.string a0_2) := (blk_cell BK117.out 2).trans rfl; have hcz32_3 : w29.cell? ⟨gb117, 3, none⟩ = some (.slice A0_3 l0_3.length c0_3) := (blk_cell BK117.out 3).trans rfl; have hcz32_4 : w29.cell? ⟨gb117, 4, none⟩ = some (.slice A0_4 l0_4.length c0_4) := (blk_cell BK117.out 4).trans rfl; have hfz32_0 := blk_frozen BK117.out 0; have hfz32_1 := blk_frozen BK117.out 1; have hfz32_2 := blk_frozen BK117.out 2; have hfz32_3 := blk_frozen BK117.out 3; have hfz32_4 := blk_frozen BK117.out 4) | ((with_reducible refine gate_dst (N := 61) rfl ?_); (try (refine gate_guard (by rfl) ?_; dsimp only)); refine Kd.R_lit Kd.string _ 9 ?hg (N := 61) ?hd (xs := ([(⟨#[104, 114]⟩ : ByteArray), (⟨#[98, 114]⟩ : ByteArray)] : List ByteArray)) (inner := [.string (⟨#[104, 114]⟩ : ByteArray), .string (⟨#[98, 114]⟩ : ByteArray)]) (ok := fun _ => True) (okp := fun _ => True) ?hr ?hp (fun _ hk => hk) trivial (Below.refl _ _) (Nat.le_refl _) (by simp) ?_; (case hd => rfl); (case hg => rfl); (case hr => first | (go_simp; done) | (go_simp; rfl)); (case hp => exact (Reps.one (show Kd.M Kd.string _ _ _ (⟨#[104, 114]⟩ : ByteArray) [.string (⟨#[104, 114]⟩ : ByteArray)] from rfl) (Reps.one (show Kd.M Kd.string _ _ _ (⟨#[98, 114]⟩ : ByteArray) [.string (⟨#[98, 114]⟩ : ByteArray)] from rfl) (Reps.none _ _)))); intro v124 w33 ho34 hb hg_ hnew_; clear hg_ hnew_; (first | rw [← Ny123.out] at ho34 | (simp only [Int.reduceToNat] at ho34; rw [← Ny123.out] at ho34)); have n0_ := Aside0.mk (Kd.R_elder' (by (with_reducible repeat (first | apply Kd.R_alloc | apply Kd.R_drewN | apply Kd.R_drew)); exact HO121.out) (Kd.R_base ho34) hb); have n1_ := Aside0.mk (Kd.R_lower (Kd.R_new' ho34 (Kd.R_lt (by (with_reducible repeat (first | apply Kd.R_alloc | apply Kd.R_drewN | apply Kd.R_drew)); exact HO121.out))) (below_size (by repeat (first | (with_reducible first | exact HB.out | apply below_alloc | apply pw_below_drewN | apply below_drew1 | refine below_set ?_ GE117.out) | exact HB.out)))); have n2_ := Aside0.mk (blk_below (g := gb117) (o := .cells #[.int .i64 a0_0, .string a0_1, .string a0_2, .slice A0_3 l0_3.length c0_3, .slice A0_4 l0_4.length c0_4] 25 (0, 0)) (by (with_reducible repeat (first | refine blk_drewN ?_ _ | refine blk_drew ?_ | refine blk_alloc ?_ _)); exact BK117.out) hb); have n3_ := Aside0.mk (below_step (by repeat (first | (with_reducible first | exact HB.out | apply below_alloc | apply pw_below_drewN | apply below_drew1 | refine below_set ?_ GE117.out) | exact HB.out)) hb); clear HO121; clear BK117; clear HB; have HO121 := n0_; have HO125 := n1_; have BK117 := n2_; have HB := n3_; clear n0_ n1_ n2_ n3_; clear hb ho34; obtain ⟨Ao35, co35, eo35⟩ := Kd.R_slice HO125.out; subst eo35) | (go_at_call 39; (with_reducible refine (spec_named.calls kj2 a0_0 a0_1 a0_2 _ _ l0_3 _ _ l0_4 _ _ y123 false _ ?side1 ?side2 ?side3 ?side4 ?side5 ?side6 A16.out).mono ?_); (case side1 => repeat (first | exact (Kd.C_below HR0_3.out HB.out) | (with_reducible refine Kd.C_alloc ?_ _) | (with_reducible refine Kd.C_drewN ?_ _) | (with_reducible refine Kd.C_drew ?_))); (case side2 => exact HC0_3.out); (case side3 => repeat (first | exact (Kd.C_below HR0_4.out HB.out) | (with_reducible refine Kd.C_alloc ?_ _) | (with_reducible refine Kd.C_drewN ?_ _) | (with_reducible refine Kd.C_drew ?_))); (case side4 => exact HC0_4.out); (case side5 => repeat (first | exact (Kd.R_reads' HO125.out).2.2 | (with_reducible refine Kd.C_alloc ?_ _) | (with_reducible refine Kd.C_drewN ?_ _) | (with_reducible refine Kd.C_drew ?_))); (case side6 => exact (Kd.R_reads' HO125.out).2.1); rintro e w36 ⟨rfl, hb⟩; have n0_ := Aside0.mk (Kd.R_below (by (with_reducible repeat (first | apply Kd.R_alloc | apply Kd.R_drewN | apply Kd.R_drew)); exact HO121.out) hb); have n1_ := Aside0.mk (Kd.R_below (by (with_reducible repeat (first | apply Kd.R_alloc | apply Kd.R_drewN | apply Kd.R_drew)); exact HO125.out) hb); have n2_ := Aside0.mk (blk_below (g := gb117) (o := .cells #[.int .i64 a0_0, .string a0_1, .string a0_2, .slice A0_3 l0_3.length c0_3, .slice A0_4 l0_4.length c0_4] 25 (0, 0)) (by (with_reducible repeat (first | refine blk_drewN ?_ _ | refine blk_drew ?_ | refine blk_alloc ?_ _)); exact BK117.out) hb); have n3_ := Aside0.mk (below_step (by repeat (first | (with_reducible first | exact HB.out | apply below_alloc | apply pw_below_drewN | apply below_drew1 | refine below_set ?_ GE117.out) | exact HB.out)) hb); clear HO121; clear HO125; clear BK117; clear HB; have HO121 := n0_; have HO125 := n1_; have BK117 := n2_; have HB := n3_; clear n0_ n1_ n2_ n3_; (try clear hb); (try clear hb2); (try clear hk); (try clear hi)))
                  go_meet
                  case rel => exact ⟨_, (false), (by first | rfl | (simp; done) | (simp [*]; done)), H', ⟨by have := HJ2.out; first | omega | exact Nat.le_refl _⟩, ⟨by (with_reducible repeat (first | refine blk_drewN ?_ _ | refine blk_drew ?_ | refine blk_alloc ?_ _)); exact BK117.out⟩, ⟨by repeat (first | (with_reducible first | exact HB.out | apply below_alloc | apply pw_below_drewN | apply below_drew1 | refine below_set ?_ GE117.out) | exact HB.out)⟩⟩
              · rw [if_neg c15] at H
                have c15b0 : (a0_2.toList == ([] : List UInt8)) = false := beq_eq_false_iff_ne.mpr c15
                have c15b1 : (a0_2.toList != ([] : List UInt8)) = true := bne_iff_ne.mpr c15
                (first | rw [c15b0] | (simp only [i64_w, i32_w]; rw [c15b0]) | skip)
                have H' := Aside0.mk H
                clear H
                have hcz37_0 : wc.cell? ⟨gb117, 0, none⟩ = some (.int .i64 a0_0) := (blk_cell BK117.out 0).trans rfl
                have hcz37_1 : wc.cell? ⟨gb117, 1, none⟩ = some (.string a0_1) := (blk_cell BK117.out 1).trans rfl
                have hcz37_2 : wc.cell? ⟨gb117, 2, none⟩ = some (.string a0_2) := (blk_cell BK117.out 2).trans rfl
                have hcz37_3 : wc.cell? ⟨gb117, 3, none⟩ = some (.slice A0_3 l0_3.length c0_3) := (blk_cell BK117.out 3).trans rfl
                have hcz37_4 : wc.cell? ⟨gb117, 4, none⟩ = some (.slice A0_4 l0_4.length c0_4) := (blk_cell BK117.out 4).trans rfl
                have hfz37_0 := blk_frozen BK117.out 0
                have hfz37_1 := blk_frozen BK117.out 1
                have hfz37_2 := blk_frozen BK117.out 2
                have hfz37_3 := blk_frozen BK117.out 3
                have hfz37_4 := blk_frozen BK117.out 4
                go_wp2_with (first | ((with_reducible refine gate_dst (N := 51) rfl ?_); (try (refine gate_guard (by rfl) ?_; dsimp only)); refine Kd.R_lit Kd.string _ 9 ?hg (N := 51) ?hd (xs := ([(⟨#[98, 111, 100, 121]⟩ : ByteArray), (⟨#[100, 105, 118]⟩ : ByteArray), (⟨#[112]⟩ : ByteArray), (⟨#[117, 108]⟩ : ByteArray), (⟨#[111, 108]⟩ : ByteArray), (⟨#[108, 105]⟩ : ByteArray), (⟨#[98, 108, 111, 99, 107, 113, 117, 111, 116, 101]⟩ : ByteArray), (⟨#[112, 114, 101]⟩ : ByteArray), (⟨#[99, 111, 100, 101]⟩ : ByteArray), (⟨#[104, 49]⟩ : ByteArray), (⟨#[104, 50]⟩ : ByteArray), (⟨#[104, 51]⟩ : ByteArray), (⟨#[104, 54]⟩ : ByteArray), (⟨#[104, 114]⟩ : ByteArray), (⟨#[98, 114]⟩ : ByteArray), (⟨#[97]⟩ : ByteArray), (⟨#[115, 112, 97, 110]⟩ : ByteArray), (⟨#[115, 116, 114, 111, 110, 103]⟩ : ByteArray), (⟨#[101, 109]⟩ : ByteArray), (⟨#[115, 101, 99, 116, 105, 111, 110]⟩ : ByteArray)] : List ByteArray)) (inner := [.string (⟨#[98, 111, 100, 121]⟩ : ByteArray), .string (⟨#[100, 105, 118]⟩ : ByteArray), .string (⟨#[112]⟩ : ByteArray), .string (⟨#[117, 108]⟩ : ByteArray), .string (⟨#[111, 108]⟩ : ByteArray), .string (⟨#[108, 105]⟩ : ByteArray), .string (⟨#[98, 108, 111, 99, 107, 113, 117, 111, 116, 101]⟩ : ByteArray), .string (⟨#[112, 114, 101]⟩ : ByteArray), .string (⟨#[99, 111, 100, 101]⟩ : ByteArray), .string (⟨#[104, 49]⟩ : ByteArray), .string (⟨#[104, 50]⟩ : ByteArray), .string (⟨#[104, 51]⟩ : ByteArray), .string (⟨#[104, 54]⟩ : ByteArray), .string (⟨#[104, 114]⟩ : ByteArray), .string (⟨#[98, 114]⟩ : ByteArray), .string (⟨#[97]⟩ : ByteArray), .string (⟨#[115, 112, 97, 110]⟩ : ByteArray), .string (⟨#[115, 116, 114, 111, 110, 103]⟩ : ByteArray), .string (⟨#[101, 109]⟩ : ByteArray), .string (⟨#[115, 101, 99, 116, 105, 111, 110]⟩ : ByteArray)]) (ok := fun _ => True) (okp := fun _ => True) ?hr ?hp (fun _ hk => hk) trivial (Below.refl _ _) (Nat.le_refl _) (by simp) ?_; (case hd => rfl); (case hg => rfl); (case hr => first | (go_simp; done) | (go_simp; rfl)); (case hp => exact (Reps.one (show Kd.M Kd.string _ _ _ (⟨#[98, 111, 100, 121]⟩ : ByteArray) [.string (⟨#[98, 111, 100, 121]⟩ : ByteArray)] from rfl) (Reps.one (show Kd.M Kd.string _ _ _ (⟨#[100, 105, 118]⟩ : ByteArray) [.string (⟨#[100, 105, 118]⟩ : ByteArray)] from rfl) (Reps.one (show Kd.M Kd.string _ _ _ (⟨#[112]⟩ : ByteArray) [.string (⟨#[112]⟩ : ByteArray)] from rfl) (Reps.one (show Kd.M Kd.string _ _ _ (⟨#[117, 108]⟩ : ByteArray) [.string (⟨#[117, 108]⟩ : ByteArray)] from rfl) (Reps.one (show Kd.M Kd.string _ _ _ (⟨#[111, 108]⟩ : ByteArray) [.string (⟨#[111, 108]⟩ : ByteArray)] from rfl) (Reps.one (show Kd.M Kd.string _ _ _ (⟨#[108, 105]⟩ : ByteArray) [.string (⟨#[108, 105]⟩ : ByteArray)] from rfl) (Reps.one (show Kd.M Kd.string _ _ _ (⟨#[98, 108, 111, 99, 107, 113, 117, 111, 116, 101]⟩ : ByteArray) [.string (⟨#[98, 108, 111, 99, 107, 113, 117, 111, 116, 101]⟩ : ByteArray)] from rfl) (Reps.one (show Kd.M Kd.string _ _ _ (⟨#[112, 114, 101]⟩ : ByteArray) [.string (⟨#[112, 114, 101]⟩ : ByteArray)] from rfl) (Reps.one (show Kd.M Kd.string _ _ _ (⟨#[99, 111, 100, 101]⟩ : ByteArray) [.string (⟨#[99, 111, 100, 101]⟩ : ByteArray)] from rfl) (Reps.one (show Kd.M Kd.string _ _ _ (⟨#[104, 49]⟩ : ByteArray) [.string (⟨#[104, 49]⟩ : ByteArray)] from rfl) (Reps.one (show Kd.M Kd.string _ _ _ (⟨#[104, 50]⟩ : ByteArray) [.string (⟨#[104, 50]⟩ : ByteArray)] from rfl) (Reps.one (show Kd.M Kd.string _ _ _ (⟨#[104, 51]⟩ : ByteArray) [.string (⟨#[104, 51]⟩ : ByteArray)] from rfl) (Reps.one (show Kd.M Kd.string _ _ _ (⟨#[104, 54]⟩ : ByteArray) [.string (⟨#[104, 54]⟩ : ByteArray)] from rfl) (Reps.one (show Kd.M Kd.string _ _ _ (⟨#[104, 114]⟩ : ByteArray) [.string (⟨#[104, 114]⟩ : ByteArray)] from rfl) (Reps.one (show Kd.M Kd.string _ _ _ (⟨#[98, 114]⟩ : ByteArray) [.string (⟨#[98, 114]⟩ : ByteArray)] from rfl) (Reps.one (show Kd.M Kd.string _ _ _ (⟨#[97]⟩ : ByteArray) [.string (⟨#[97]⟩ : ByteArray)] from rfl) (Reps.one (show Kd.M Kd.string _ _ _ (⟨#[115, 112, 97, 110]⟩ : ByteArray) [.string (⟨#[115, 112, 97, 110]⟩ : ByteArray)] from rfl) (Reps.one (show Kd.M Kd.string _ _ _ (⟨#[115, 116, 114, 111, 110, 103]⟩ : ByteArray) [.string (⟨#[115, 116, 114, 111, 110, 103]⟩ : ByteArray)] from rfl) (Reps.one (show Kd.M Kd.string _ _ _ (⟨#[101, 109]⟩ : ByteArray) [.string (⟨#[101, 109]⟩ : ByteArray)] from rfl) (Reps.one (show Kd.M Kd.string _ _ _ (⟨#[115, 101, 99, 116, 105, 111, 110]⟩ : ByteArray) [.string (⟨#[115, 101, 99, 116, 105, 111, 110]⟩ : ByteArray)] from rfl) (Reps.none _ _)))))))))))))))))))))); intro v120 w38 ho39 hb hg_ hnew_; clear hg_ hnew_; (first | rw [← Ny119.out] at ho39 | (simp only [Int.reduceToNat] at ho39; rw [← Ny119.out] at ho39)); have n0_ := Aside0.mk (Kd.R_lower ho39 (below_size (by repeat (first | (with_reducible first | exact HB.out | apply below_alloc | apply pw_below_drewN | apply below_drew1 | refine below_set ?_ GE117.out) | exact HB.out)))); have n1_ := Aside0.mk (blk_below (g := gb117) (o := .cells #[.int .i64 a0_0, .string a0_1, .string a0_2, .slice A0_3 l0_3.length c0_3, .slice A0_4 l0_4.length c0_4] 25 (0, 0)) (by (with_reducible repeat (first | refine blk_drewN ?_ _ | refine blk_drew ?_ | refine blk_alloc ?_ _)); exact BK117.out) hb); have n2_ := Aside0.mk (below_step (by repeat (first | (with_reducible first | exact HB.out | apply below_alloc | apply pw_below_drewN | apply below_drew1 | refine below_set ?_ GE117.out) | exact HB.out)) hb); clear BK117; clear HB; have HO121 := n0_; have BK117 := n1_; have HB := n2_; clear n0_ n1_ n2_; clear hb ho39; obtain ⟨Ao40, co40, eo40⟩ := Kd.R_slice HO121.out; subst eo40) | ((with_reducible refine gate_callee (f := 38) rfl ?_); refine goesL_ (some 52) rfl rfl Tryd.func38 (by kernel_rfl) rfl #[.string a0_1, .slice Ao40 y119.length co40] rfl (by (try simp only [List.map_toArray, List.map_cons, List.map_nil]); first | done | rfl | (simp only [List.length_drop, List.length_take]; rfl)) ?_; (with_reducible refine (spec_one.calls kj2 a0_1 _ _ y119 true _ ?side1 ?side2 A13.out).mono ?_); (case side1 => repeat (first | exact (Kd.R_reads' HO121.out).2.2 | (with_reducible refine Kd.C_alloc ?_ _) | (with_reducible refine Kd.C_drewN ?_ _) | (with_reducible refine Kd.C_drew ?_))); (case side2 => exact (Kd.R_reads' HO121.out).2.1); rintro e w' ⟨rfl, ⟨nd, rfl⟩⟩; refine ⟨_, rfl, ?_⟩; have hcz41_0 : w38.cell? ⟨gb117, 0, none⟩ = some (.int .i64 a0_0) := (blk_cell BK117.out 0).trans rfl; have hcz41_1 : w38.cell? ⟨gb117, 1, none⟩ = some (.string a0_1) := (blk_cell BK117.out 1).trans rfl; have hcz41_2 : w38.cell? ⟨gb117, 2, none⟩ = some (.string a0_2) := (blk_cell BK117.out 2).trans rfl; have hcz41_3 : w38.cell? ⟨gb117, 3, none⟩ = some (.slice A0_3 l0_3.length c0_3) := (blk_cell BK117.out 3).trans rfl; have hcz41_4 : w38.cell? ⟨gb117, 4, none⟩ = some (.slice A0_4 l0_4.length c0_4) := (blk_cell BK117.out 4).trans rfl; have hfz41_0 := blk_frozen BK117.out 0; have hfz41_1 := blk_frozen BK117.out 1; have hfz41_2 := blk_frozen BK117.out 2; have hfz41_3 := blk_frozen BK117.out 3; have hfz41_4 := blk_frozen BK117.out 4))
                go_meet
                case rel => exact ⟨_, (true), (by first | rfl | (simp; done) | (simp [*]; done)), H', ⟨by have := HJ2.out; first | omega | exact Nat.le_refl _⟩, ⟨by (with_reducible repeat (first | refine blk_drewN ?_ _ | refine blk_drew ?_ | refine blk_alloc ?_ _)); exact BK117.out⟩, ⟨by repeat (first | (with_reducible first | exact HB.out | apply below_alloc | apply pw_below_drewN | apply below_drew1 | refine below_set ?_ GE117.out) | exact HB.out)⟩⟩
            · replace c14 := Bool.eq_false_iff.mpr c14
              subst c14
              have H1 : (spec_Tree.j1 kj2 a1 true a0_0 a0_1 a0_2 l0_3 l0_4) = some r := by rw [if_neg (show ¬ (false = true) by decide)] at H; exact H
              clear H
              have H := H1
              clear H1
              have H' := Aside0.mk H
              clear H
              have hcz42_0 : wc.cell? ⟨gb117, 0, none⟩ = some (.int .i64 a0_0) := (blk_cell BK117.out 0).trans rfl
              have hcz42_1 : wc.cell? ⟨gb117, 1, none⟩ = some (.string a0_1) := (blk_cell BK117.out 1).trans rfl
              have hcz42_2 : wc.cell? ⟨gb117, 2, none⟩ = some (.string a0_2) := (blk_cell BK117.out 2).trans rfl
              have hcz42_3 : wc.cell? ⟨gb117, 3, none⟩ = some (.slice A0_3 l0_3.length c0_3) := (blk_cell BK117.out 3).trans rfl
              have hcz42_4 : wc.cell? ⟨gb117, 4, none⟩ = some (.slice A0_4 l0_4.length c0_4) := (blk_cell BK117.out 4).trans rfl
              have hfz42_0 := blk_frozen BK117.out 0
              have hfz42_1 := blk_frozen BK117.out 1
              have hfz42_2 := blk_frozen BK117.out 2
              have hfz42_3 := blk_frozen BK117.out 3
              have hfz42_4 := blk_frozen BK117.out 4
              go_wp2_with (first | ((with_reducible refine gate_dst (N := 51) rfl ?_); (try (refine gate_guard (by rfl) ?_; dsimp only)); refine Kd.R_lit Kd.string _ 9 ?hg (N := 51) ?hd (xs := ([(⟨#[98, 111, 100, 121]⟩ : ByteArray), (⟨#[100, 105, 118]⟩ : ByteArray), (⟨#[112]⟩ : ByteArray), (⟨#[117, 108]⟩ : ByteArray), (⟨#[111, 108]⟩ : ByteArray), (⟨#[108, 105]⟩ : ByteArray), (⟨#[98, 108, 111, 99, 107, 113, 117, 111, 116, 101]⟩ : ByteArray), (⟨#[112, 114, 101]⟩ : ByteArray), (⟨#[99, 111, 100, 101]⟩ : ByteArray), (⟨#[104, 49]⟩ : ByteArray), (⟨#[104, 50]⟩ : ByteArray), (⟨#[104, 51]⟩ : ByteArray), (⟨#[104, 54]⟩ : ByteArray), (⟨#[104, 114]⟩ : ByteArray), (⟨#[98, 114]⟩ : ByteArray), (⟨#[97]⟩ : ByteArray), (⟨#[115, 112, 97, 110]⟩ : ByteArray), (⟨#[115, 116, 114, 111, 110, 103]⟩ : ByteArray), (⟨#[101, 109]⟩ : ByteArray), (⟨#[115, 101, 99, 116, 105, 111, 110]⟩ : ByteArray)] : List ByteArray)) (inner := [.string (⟨#[98, 111, 100, 121]⟩ : ByteArray), .string (⟨#[100, 105, 118]⟩ : ByteArray), .string (⟨#[112]⟩ : ByteArray), .string (⟨#[117, 108]⟩ : ByteArray), .string (⟨#[111, 108]⟩ : ByteArray), .string (⟨#[108, 105]⟩ : ByteArray), .string (⟨#[98, 108, 111, 99, 107, 113, 117, 111, 116, 101]⟩ : ByteArray), .string (⟨#[112, 114, 101]⟩ : ByteArray), .string (⟨#[99, 111, 100, 101]⟩ : ByteArray), .string (⟨#[104, 49]⟩ : ByteArray), .string (⟨#[104, 50]⟩ : ByteArray), .string (⟨#[104, 51]⟩ : ByteArray), .string (⟨#[104, 54]⟩ : ByteArray), .string (⟨#[104, 114]⟩ : ByteArray), .string (⟨#[98, 114]⟩ : ByteArray), .string (⟨#[97]⟩ : ByteArray), .string (⟨#[115, 112, 97, 110]⟩ : ByteArray), .string (⟨#[115, 116, 114, 111, 110, 103]⟩ : ByteArray), .string (⟨#[101, 109]⟩ : ByteArray), .string (⟨#[115, 101, 99, 116, 105, 111, 110]⟩ : ByteArray)]) (ok := fun _ => True) (okp := fun _ => True) ?hr ?hp (fun _ hk => hk) trivial (Below.refl _ _) (Nat.le_refl _) (by simp) ?_; (case hd => rfl); (case hg => rfl); (case hr => first | (go_simp; done) | (go_simp; rfl)); (case hp => exact (Reps.one (show Kd.M Kd.string _ _ _ (⟨#[98, 111, 100, 121]⟩ : ByteArray) [.string (⟨#[98, 111, 100, 121]⟩ : ByteArray)] from rfl) (Reps.one (show Kd.M Kd.string _ _ _ (⟨#[100, 105, 118]⟩ : ByteArray) [.string (⟨#[100, 105, 118]⟩ : ByteArray)] from rfl) (Reps.one (show Kd.M Kd.string _ _ _ (⟨#[112]⟩ : ByteArray) [.string (⟨#[112]⟩ : ByteArray)] from rfl) (Reps.one (show Kd.M Kd.string _ _ _ (⟨#[117, 108]⟩ : ByteArray) [.string (⟨#[117, 108]⟩ : ByteArray)] from rfl) (Reps.one (show Kd.M Kd.string _ _ _ (⟨#[111, 108]⟩ : ByteArray) [.string (⟨#[111, 108]⟩ : ByteArray)] from rfl) (Reps.one (show Kd.M Kd.string _ _ _ (⟨#[108, 105]⟩ : ByteArray) [.string (⟨#[108, 105]⟩ : ByteArray)] from rfl) (Reps.one (show Kd.M Kd.string _ _ _ (⟨#[98, 108, 111, 99, 107, 113, 117, 111, 116, 101]⟩ : ByteArray) [.string (⟨#[98, 108, 111, 99, 107, 113, 117, 111, 116, 101]⟩ : ByteArray)] from rfl) (Reps.one (show Kd.M Kd.string _ _ _ (⟨#[112, 114, 101]⟩ : ByteArray) [.string (⟨#[112, 114, 101]⟩ : ByteArray)] from rfl) (Reps.one (show Kd.M Kd.string _ _ _ (⟨#[99, 111, 100, 101]⟩ : ByteArray) [.string (⟨#[99, 111, 100, 101]⟩ : ByteArray)] from rfl) (Reps.one (show Kd.M Kd.string _ _ _ (⟨#[104, 49]⟩ : ByteArray) [.string (⟨#[104, 49]⟩ : ByteArray)] from rfl) (Reps.one (show Kd.M Kd.string _ _ _ (⟨#[104, 50]⟩ : ByteArray) [.string (⟨#[104, 50]⟩ : ByteArray)] from rfl) (Reps.one (show Kd.M Kd.string _ _ _ (⟨#[104, 51]⟩ : ByteArray) [.string (⟨#[104, 51]⟩ : ByteArray)] from rfl) (Reps.one (show Kd.M Kd.string _ _ _ (⟨#[104, 54]⟩ : ByteArray) [.string (⟨#[104, 54]⟩ : ByteArray)] from rfl) (Reps.one (show Kd.M Kd.string _ _ _ (⟨#[104, 114]⟩ : ByteArray) [.string (⟨#[104, 114]⟩ : ByteArray)] from rfl) (Reps.one (show Kd.M Kd.string _ _ _ (⟨#[98, 114]⟩ : ByteArray) [.string (⟨#[98, 114]⟩ : ByteArray)] from rfl) (Reps.one (show Kd.M Kd.string _ _ _ (⟨#[97]⟩ : ByteArray) [.string (⟨#[97]⟩ : ByteArray)] from rfl) (Reps.one (show Kd.M Kd.string _ _ _ (⟨#[115, 112, 97, 110]⟩ : ByteArray) [.string (⟨#[115, 112, 97, 110]⟩ : ByteArray)] from rfl) (Reps.one (show Kd.M Kd.string _ _ _ (⟨#[115, 116, 114, 111, 110, 103]⟩ : ByteArray) [.string (⟨#[115, 116, 114, 111, 110, 103]⟩ : ByteArray)] from rfl) (Reps.one (show Kd.M Kd.string _ _ _ (⟨#[101, 109]⟩ : ByteArray) [.string (⟨#[101, 109]⟩ : ByteArray)] from rfl) (Reps.one (show Kd.M Kd.string _ _ _ (⟨#[115, 101, 99, 116, 105, 111, 110]⟩ : ByteArray) [.string (⟨#[115, 101, 99, 116, 105, 111, 110]⟩ : ByteArray)] from rfl) (Reps.none _ _)))))))))))))))))))))); intro v120 w43 ho44 hb hg_ hnew_; clear hg_ hnew_; (first | rw [← Ny119.out] at ho44 | (simp only [Int.reduceToNat] at ho44; rw [← Ny119.out] at ho44)); have n0_ := Aside0.mk (Kd.R_lower ho44 (below_size (by repeat (first | (with_reducible first | exact HB.out | apply below_alloc | apply pw_below_drewN | apply below_drew1 | refine below_set ?_ GE117.out) | exact HB.out)))); have n1_ := Aside0.mk (blk_below (g := gb117) (o := .cells #[.int .i64 a0_0, .string a0_1, .string a0_2, .slice A0_3 l0_3.length c0_3, .slice A0_4 l0_4.length c0_4] 25 (0, 0)) (by (with_reducible repeat (first | refine blk_drewN ?_ _ | refine blk_drew ?_ | refine blk_alloc ?_ _)); exact BK117.out) hb); have n2_ := Aside0.mk (below_step (by repeat (first | (with_reducible first | exact HB.out | apply below_alloc | apply pw_below_drewN | apply below_drew1 | refine below_set ?_ GE117.out) | exact HB.out)) hb); clear BK117; clear HB; have HO121 := n0_; have BK117 := n1_; have HB := n2_; clear n0_ n1_ n2_; clear hb ho44; obtain ⟨Ao45, co45, eo45⟩ := Kd.R_slice HO121.out; subst eo45) | ((with_reducible refine gate_callee (f := 38) rfl ?_); refine goesL_ (some 52) rfl rfl Tryd.func38 (by kernel_rfl) rfl #[.string a0_1, .slice Ao45 y119.length co45] rfl (by (try simp only [List.map_toArray, List.map_cons, List.map_nil]); first | done | rfl | (simp only [List.length_drop, List.length_take]; rfl)) ?_; (with_reducible refine (spec_one.calls kj2 a0_1 _ _ y119 false _ ?side1 ?side2 A13.out).mono ?_); (case side1 => repeat (first | exact (Kd.R_reads' HO121.out).2.2 | (with_reducible refine Kd.C_alloc ?_ _) | (with_reducible refine Kd.C_drewN ?_ _) | (with_reducible refine Kd.C_drew ?_))); (case side2 => exact (Kd.R_reads' HO121.out).2.1); rintro e w' ⟨rfl, ⟨nd, rfl⟩⟩; refine ⟨_, rfl, ?_⟩))
              go_meet
              case rel => exact ⟨_, (true), (by first | rfl | (simp; done) | (simp [*]; done)), H', ⟨by have := HJ2.out; first | omega | exact Nat.le_refl _⟩, ⟨by (with_reducible repeat (first | refine blk_drewN ?_ _ | refine blk_drew ?_ | refine blk_alloc ?_ _)); exact BK117.out⟩, ⟨by repeat (first | (with_reducible first | exact HB.out | apply below_alloc | apply pw_below_drewN | apply below_drew1 | refine below_set ?_ GE117.out) | exact HB.out)⟩⟩
          case rest =>
            clear HC11
            try clear c1
            try clear p2
            try clear c3
            try clear c5
            try clear c5b0
            try clear c6
            try clear c6b0
            try clear p6
            try clear c9
            try clear c10
            try clear c10b0
            try clear c10b1
            try clear c14
            try clear c15
            try clear c15b0
            try clear c15b1
            try clear c17
            try clear c18
            try clear c38
            try clear hcz12_0
            try clear hcz12_1
            try clear hcz12_2
            try clear hcz12_3
            try clear hcz12_4
            try clear hcz18_0
            try clear hcz18_1
            try clear hcz18_2
            try clear hcz18_3
            try clear hcz18_4
            try clear hcz22_0
            try clear hcz22_1
            try clear hcz22_2
            try clear hcz22_3
            try clear hcz22_4
            try clear hcz27_0
            try clear hcz27_1
            try clear hcz27_2
            try clear hcz27_3
            try clear hcz27_4
            try clear hcz28_0
            try clear hcz28_1
            try clear hcz28_2
            try clear hcz28_3
            try clear hcz28_4
            try clear hcz32_0
            try clear hcz32_1
            try clear hcz32_2
            try clear hcz32_3
            try clear hcz32_4
            try clear hcz37_0
            try clear hcz37_1
            try clear hcz37_2
            try clear hcz37_3
            try clear hcz37_4
            try clear hcz41_0
            try clear hcz41_1
            try clear hcz41_2
            try clear hcz41_3
            try clear hcz41_4
            try clear hcz42_0
            try clear hcz42_1
            try clear hcz42_2
            try clear hcz42_3
            try clear hcz42_4
            try clear hcz7_0
            try clear hcz7_1
            try clear hcz7_2
            try clear hcz7_3
            try clear hcz7_4
            try clear hcz8_0
            try clear hcz8_1
            try clear hcz8_2
            try clear hcz8_3
            try clear hcz8_4
            try clear hfz12_0
            try clear hfz12_1
            try clear hfz12_2
            try clear hfz12_3
            try clear hfz12_4
            try clear hfz18_0
            try clear hfz18_1
            try clear hfz18_2
            try clear hfz18_3
            try clear hfz18_4
            try clear hfz22_0
            try clear hfz22_1
            try clear hfz22_2
            try clear hfz22_3
            try clear hfz22_4
            try clear hfz27_0
            try clear hfz27_1
            try clear hfz27_2
            try clear hfz27_3
            try clear hfz27_4
            try clear hfz28_0
            try clear hfz28_1
            try clear hfz28_2
            try clear hfz28_3
            try clear hfz28_4
            try clear hfz32_0
            try clear hfz32_1
            try clear hfz32_2
            try clear hfz32_3
            try clear hfz32_4
            try clear hfz37_0
            try clear hfz37_1
            try clear hfz37_2
            try clear hfz37_3
            try clear hfz37_4
            try clear hfz41_0
            try clear hfz41_1
            try clear hfz41_2
            try clear hfz41_3
            try clear hfz41_4
            try clear hfz42_0
            try clear hfz42_1
            try clear hfz42_2
            try clear hfz42_3
            try clear hfz42_4
            try clear hfz7_0
            try clear hfz7_1
            try clear hfz7_2
            try clear hfz7_3
            try clear hfz7_4
            try clear hfz8_0
            try clear hfz8_1
            try clear hfz8_2
            try clear hfz8_3
            try clear hfz8_4
            try clear p2
            obtain ⟨kq, x69_10, rfl, HA, HJ10, BK117, HB⟩ := hcut
            cases kq with
            | zero => exact absurd HA.out (by simp [spec_Tree.j1])
            | succ kj10 =>
              have H := HA.out
              clear HA
              simp only [spec_Tree.j1] at H
              by_cases c46 : x69_10 = true
              · subst c46
                have H1 : (some false) = some r := by rw [if_pos rfl] at H; exact H
                clear H
                have H := H1
                clear H1
                obtain rfl := Option.some.inj H
                go_wp2
                go_ret
                exact ⟨by first | rfl | (simp [errW_none, errW_some] <;> rfl) | (simp [*, errW_none, errW_some] <;> rfl), by repeat (first | (with_reducible first | exact HB.out | apply below_alloc | apply pw_below_drewN | apply below_drew1 | refine below_set ?_ GE117.out) | exact HB.out)⟩
              · replace c46 := Bool.eq_false_iff.mpr c46
                subst c46
                have H1 : (spec_Tree.l0 kj10 a1 l0_4 (l0_4.length : Int) 0) = some r := by rw [if_neg (show ¬ (false = true) by decide)] at H; exact H
                clear H
                have H := H1
                clear H1
                have H' := Aside0.mk H
                clear H
                have hcz47_0 : wc.cell? ⟨gb117, 0, none⟩ = some (.int .i64 a0_0) := (blk_cell BK117.out 0).trans rfl
                have hcz47_1 : wc.cell? ⟨gb117, 1, none⟩ = some (.string a0_1) := (blk_cell BK117.out 1).trans rfl
                have hcz47_2 : wc.cell? ⟨gb117, 2, none⟩ = some (.string a0_2) := (blk_cell BK117.out 2).trans rfl
                have hcz47_3 : wc.cell? ⟨gb117, 3, none⟩ = some (.slice A0_3 l0_3.length c0_3) := (blk_cell BK117.out 3).trans rfl
                have hcz47_4 : wc.cell? ⟨gb117, 4, none⟩ = some (.slice A0_4 l0_4.length c0_4) := (blk_cell BK117.out 4).trans rfl
                have hfz47_0 := blk_frozen BK117.out 0
                have hfz47_1 := blk_frozen BK117.out 1
                have hfz47_2 := blk_frozen BK117.out 2
                have hfz47_3 := blk_frozen BK117.out 3
                have hfz47_4 := blk_frozen BK117.out 4
                go_wp2
                go_loopg [73] kj10 (fun kq v73 w' => ∃ (x73_3 : Int), v73 = .int .i64 x73_3 ∧ Aside0 (spec_Tree.l0 kq a1 l0_4 (l0_4.length : Int) x73_3 = some r) ∧ Aside0 (kq ≤ kj10) ∧ Aside0 (w'.heap[gb117]? = some (.cells #[.int .i64 a0_0, .string a0_1, .string a0_2, (.slice A0_3 l0_3.length c0_3), (.slice A0_4 l0_4.length c0_4)] 25 (0, 0))) ∧ Aside0 (Below w.heap.size w w'))
                case atStart => exact ⟨(0), (by first | rfl | (simp; done) | (simp [*]; done)), H', ⟨Nat.le_refl _⟩, ⟨by (with_reducible repeat (first | refine blk_drewN ?_ _ | refine blk_drew ?_ | refine blk_alloc ?_ _)); exact BK117.out⟩, ⟨by repeat (first | (with_reducible first | exact HB.out | apply below_alloc | apply pw_below_drewN | apply below_drew1 | refine below_set ?_ GE117.out) | exact HB.out)⟩⟩
                case round =>
                  clear H'
                  try clear c1
                  try clear p2
                  try clear c3
                  try clear c4
                  try clear c5
                  try clear c5b0
                  try clear c6
                  try clear c6b0
                  try clear p6
                  try clear c9
                  try clear c10
                  try clear c10b0
                  try clear c10b1
                  try clear c14
                  try clear c15
                  try clear c15b0
                  try clear c15b1
                  try clear c17
                  try clear c18
                  try clear c38
                  try clear c46
                  try clear hcz12_0
                  try clear hcz12_1
                  try clear hcz12_2
                  try clear hcz12_3
                  try clear hcz12_4
                  try clear hcz18_0
                  try clear hcz18_1
                  try clear hcz18_2
                  try clear hcz18_3
                  try clear hcz18_4
                  try clear hcz22_0
                  try clear hcz22_1
                  try clear hcz22_2
                  try clear hcz22_3
                  try clear hcz22_4
                  try clear hcz27_0
                  try clear hcz27_1
                  try clear hcz27_2
                  try clear hcz27_3
                  try clear hcz27_4
                  try clear hcz28_0
                  try clear hcz28_1
                  try clear hcz28_2
                  try clear hcz28_3
                  try clear hcz28_4
                  try clear hcz32_0
                  try clear hcz32_1
                  try clear hcz32_2
                  try clear hcz32_3
                  try clear hcz32_4
                  try clear hcz37_0
                  try clear hcz37_1
                  try clear hcz37_2
                  try clear hcz37_3
                  try clear hcz37_4
                  try clear hcz41_0
                  try clear hcz41_1
                  try clear hcz41_2
                  try clear hcz41_3
                  try clear hcz41_4
                  try clear hcz42_0
                  try clear hcz42_1
                  try clear hcz42_2
                  try clear hcz42_3
                  try clear hcz42_4
                  try clear hcz47_0
                  try clear hcz47_1
                  try clear hcz47_2
                  try clear hcz47_3
                  try clear hcz47_4
                  try clear hcz7_0
                  try clear hcz7_1
                  try clear hcz7_2
                  try clear hcz7_3
                  try clear hcz7_4
                  try clear hcz8_0
                  try clear hcz8_1
                  try clear hcz8_2
                  try clear hcz8_3
                  try clear hcz8_4
                  try clear hfz12_0
                  try clear hfz12_1
                  try clear hfz12_2
                  try clear hfz12_3
                  try clear hfz12_4
                  try clear hfz18_0
                  try clear hfz18_1
                  try clear hfz18_2
                  try clear hfz18_3
                  try clear hfz18_4
                  try clear hfz22_0
                  try clear hfz22_1
                  try clear hfz22_2
                  try clear hfz22_3
                  try clear hfz22_4
                  try clear hfz27_0
                  try clear hfz27_1
                  try clear hfz27_2
                  try clear hfz27_3
                  try clear hfz27_4
                  try clear hfz28_0
                  try clear hfz28_1
                  try clear hfz28_2
                  try clear hfz28_3
                  try clear hfz28_4
                  try clear hfz32_0
                  try clear hfz32_1
                  try clear hfz32_2
                  try clear hfz32_3
                  try clear hfz32_4
                  try clear hfz37_0
                  try clear hfz37_1
                  try clear hfz37_2
                  try clear hfz37_3
                  try clear hfz37_4
                  try clear hfz41_0
                  try clear hfz41_1
                  try clear hfz41_2
                  try clear hfz41_3
                  try clear hfz41_4
                  try clear hfz42_0
                  try clear hfz42_1
                  try clear hfz42_2
                  try clear hfz42_3
                  try clear hfz42_4
                  try clear hfz47_0
                  try clear hfz47_1
                  try clear hfz47_2
                  try clear hfz47_3
                  try clear hfz47_4
                  try clear hfz7_0
                  try clear hfz7_1
                  try clear hfz7_2
                  try clear hfz7_3
                  try clear hfz7_4
                  try clear hfz8_0
                  try clear hfz8_1
                  try clear hfz8_2
                  try clear hfz8_3
                  try clear hfz8_4
                  try clear p2
                  try clear p6
                  obtain ⟨x73_3, rfl, HA, HK3, BK117, HB⟩ := hrel
                  cases gk with
                  | zero => exact absurd HA.out (by simp [spec_Tree.l0])
                  | succ k3 =>
                    have H := HA.out
                    clear HA
                    simp only [spec_Tree.l0] at H
                    by_cases c48 : x73_3 < (l0_4.length : Int)
                    · rw [if_pos c48] at H
                      have c48b0 : decide (x73_3 < (l0_4.length : Int)) = true := decide_eq_true c48
                      clear c48
                      by_cases c49 : 0 ≤ x73_3
                      · rw [if_pos c49] at H
                        have c49b0 : decide (0 ≤ x73_3) = true := decide_eq_true c49
                        clear c49
                        by_cases c50 : x73_3 < (l0_4.length : Int)
                        · rw [if_pos c50] at H
                          have c50b0 : decide (x73_3 < (l0_4.length : Int)) = true := decide_eq_true c50
                          clear c50
                          obtain ⟨y129, hy129⟩ : ∃ y_ : List ByteArray, y_ = (([(⟨#[98, 111, 100, 121]⟩ : ByteArray)] : List ByteArray)) := ⟨_, rfl⟩
                          replace H : ((spec_named.f k3 ((rd_T25 l0_4 x73_3).f0) ((rd_T25 l0_4 x73_3).f1) ((rd_T25 l0_4 x73_3).f2) ((rd_T25 l0_4 x73_3).f3) ((rd_T25 l0_4 x73_3).f4) y129).bind fun t132 => (if t132 = true then (some false) else ((spec_Tree.f k3 ((rd_T25 l0_4 x73_3).f0) ((rd_T25 l0_4 x73_3).f1) ((rd_T25 l0_4 x73_3).f2) ((rd_T25 l0_4 x73_3).f3) ((rd_T25 l0_4 x73_3).f4) (wrap64 (a1 - 1))).bind fun t133 => (if t133 = true then (spec_Tree.l0 k3 a1 l0_4 (l0_4.length : Int) (wrap64 (x73_3 + 1))) else (some false))))) = some r := by first | (rw [hy129]; with_reducible exact H) | (have H2_ := (Option.bind_some _ _).symm.trans H; rw [hy129]; with_reducible exact H2_) | (have H2_ := (Option.bind_some _ _).symm.trans H; with_reducible exact H2_) | with_reducible exact H | (rw [hy129]; exact H) | exact H
                          have Ny129 := Aside0.mk hy129
                          clear hy129
                          replace H := Option.bind_eq_some_iff.mp H
                          obtain ⟨t132, A510, H⟩ := H
                          replace H : (if t132 = true then (some false) else ((spec_Tree.f k3 ((rd_T25 l0_4 x73_3).f0) ((rd_T25 l0_4 x73_3).f1) ((rd_T25 l0_4 x73_3).f2) ((rd_T25 l0_4 x73_3).f3) ((rd_T25 l0_4 x73_3).f4) (wrap64 (a1 - 1))).bind fun t133 => (if t133 = true then (spec_Tree.l0 k3 a1 l0_4 (l0_4.length : Int) (wrap64 (x73_3 + 1))) else (some false)))) = some r := H
                          have A51 := Aside0.mk A510
                          clear A510
                          by_cases c52 : t132 = true
                          · subst c52
                            have H1 : (some false) = some r := by rw [if_pos rfl] at H; exact H
                            clear H
                            have H := H1
                            clear H1
                            obtain rfl := Option.some.inj H
                            have p127 : 0 ≤ (x73_3 : Int) := of_decide_eq_true (by first | (with_reducible assumption) | assumption)
                            have q127 : x73_3 < (l0_4.length : Int) := of_decide_eq_true (by first | (with_reducible assumption) | assumption)
                            obtain ⟨ad127, A127_3, c127_3, A127_4, c127_4, e127, hx127_0, hx127_1, hx127_2, hx127_3, hx127_4, hl127_3, hi127_3, hl127_4, hi127_4⟩ := at_T25 HR0_4.out x73_3 p127 q127
                            cases e127
                            replace hx127_0 := (HB.out.cell (World.block_lt_of_cell? w _ hx127_0)).trans hx127_0
                            replace hx127_1 := (HB.out.cell (World.block_lt_of_cell? w _ hx127_1)).trans hx127_1
                            replace hx127_2 := (HB.out.cell (World.block_lt_of_cell? w _ hx127_2)).trans hx127_2
                            replace hx127_3 := (HB.out.cell (World.block_lt_of_cell? w _ hx127_3)).trans hx127_3
                            replace hx127_4 := (HB.out.cell (World.block_lt_of_cell? w _ hx127_4)).trans hx127_4
                            have HR127_3 := Aside0.mk hi127_3
                            have HC127_3 := Aside0.mk hl127_3
                            clear hi127_3 hl127_3
                            have HR127_4 := Aside0.mk hi127_4
                            have HC127_4 := Aside0.mk hl127_4
                            clear hi127_4 hl127_4
                            replace p127 := eq_true p127
                            replace q127 := eq_true q127
                            go_wp2_with (first | ((with_reducible refine gate_dst (N := 6) rfl ?_); (try (refine gate_guard (by rfl) ?_; dsimp only)); refine box_event ?hg (N := 6) ?hd (cs := #[.int .i64 0, .string (⟨#[]⟩ : ByteArray), .string (⟨#[]⟩ : ByteArray), .slice none 0 0, .slice none 0 0]) (t := 25) ?hr ?_; (case hd => rfl); (case hg => rfl); (case hr => first | (go_simp; done) | (go_simp; rfl)); intro gb128 hg w53 hbox hb; have n0_ := Aside0.mk (blk_below (g := gb117) (o := .cells #[.int .i64 a0_0, .string a0_1, .string a0_2, .slice A0_3 l0_3.length c0_3, .slice (some ad127) l0_4.length c0_4] 25 (0, 0)) (by (with_reducible repeat (first | refine blk_drewN ?_ _ | refine blk_drew ?_ | refine blk_alloc ?_ _)); exact BK117.out) hb); have n1_ := Aside0.mk (below_step (by repeat (first | (with_reducible first | exact HB.out | apply below_alloc | apply pw_below_drewN | apply below_drew1 | refine below_set ?_ GE117.out) | exact HB.out)) hb); have n2_ := Aside0.mk (hbox); have n3_ := Aside0.mk ((by rw [hg]; exact (below_size (by repeat (first | (with_reducible first | exact HB.out | apply below_alloc | apply pw_below_drewN | apply below_drew1 | refine below_set ?_ GE117.out) | exact HB.out))) : w.heap.size ≤ gb128)); have n4_ := Aside0.mk ((by rw [hg]; exact (below_size (by repeat (first | (with_reducible first | exact HB.out | apply below_alloc | apply pw_below_drewN | apply below_drew1 | refine below_set ?_ GE117.out) | exact HB.out))) : w.heap.size ≤ gb128)); have n5_ := Aside0.mk ((by rw [hg]; exact Nat.ne_of_lt (blk_lt (g := gb117) (o := .cells #[.int .i64 a0_0, .string a0_1, .string a0_2, .slice A0_3 l0_3.length c0_3, .slice (some ad127) l0_4.length c0_4] 25 (0, 0)) (by (with_reducible repeat (first | refine blk_drewN ?_ _ | refine blk_drew ?_ | refine blk_alloc ?_ _)); exact BK117.out)) : gb117 ≠ gb128)); have n6_ := Aside0.mk ((by rw [hg]; exact Nat.ne_of_gt (blk_lt (g := gb117) (o := .cells #[.int .i64 a0_0, .string a0_1, .string a0_2, .slice A0_3 l0_3.length c0_3, .slice (some ad127) l0_4.length c0_4] 25 (0, 0)) (by (with_reducible repeat (first | refine blk_drewN ?_ _ | refine blk_drew ?_ | refine blk_alloc ?_ _)); exact BK117.out)) : gb128 ≠ gb117)); clear BK117; clear HB; have BK117 := n0_; have HB := n1_; have BK128 := n2_; have GW128 := n3_; have GE128 := n4_; have NB117_128 := n5_; have NB128_117 := n6_; clear n0_ n1_ n2_ n3_ n4_ n5_ n6_; clear hb hbox hg; have hnb54 := NB128_117.out; have hnc54 := NB117_128.out; have hcz55_0 : w53.cell? ⟨gb128, 0, none⟩ = some (.int .i64 0) := (blk_cell BK128.out 0).trans rfl; have hcz55_1 : w53.cell? ⟨gb128, 1, none⟩ = some (.string (⟨#[]⟩ : ByteArray)) := (blk_cell BK128.out 1).trans rfl; have hcz55_2 : w53.cell? ⟨gb128, 2, none⟩ = some (.string (⟨#[]⟩ : ByteArray)) := (blk_cell BK128.out 2).trans rfl; have hcz55_3 : w53.cell? ⟨gb128, 3, none⟩ = some (.slice none 0 0) := (blk_cell BK128.out 3).trans rfl; have hcz55_4 : w53.cell? ⟨gb128, 4, none⟩ = some (.slice none 0 0) := (blk_cell BK128.out 4).trans rfl; have hfz55_0 := blk_frozen BK128.out 0; have hfz55_1 := blk_frozen BK128.out 1; have hfz55_2 := blk_frozen BK128.out 2; have hfz55_3 := blk_frozen BK128.out 3; have hfz55_4 := blk_frozen BK128.out 4) | ((with_reducible refine gate_dst (N := 78) rfl ?_); (try (refine gate_guard (by rfl) ?_; dsimp only)); refine Kd.R_lit Kd.string _ 9 ?hg (N := 78) ?hd (xs := ([(⟨#[98, 111, 100, 121]⟩ : ByteArray)] : List ByteArray)) (inner := [.string (⟨#[98, 111, 100, 121]⟩ : ByteArray)]) (ok := fun _ => True) (okp := fun _ => True) ?hr ?hp (fun _ hk => hk) trivial (Below.refl _ _) (Nat.le_refl _) (by simp) ?_; (case hd => rfl); (case hg => rfl); (case hr => first | (go_simp; done) | (go_simp; rfl)); (case hp => exact (Reps.one (show Kd.M Kd.string _ _ _ (⟨#[98, 111, 100, 121]⟩ : ByteArray) [.string (⟨#[98, 111, 100, 121]⟩ : ByteArray)] from rfl) (Reps.none _ _))); intro v130 w56 ho57 hb hg_ hnew_; clear hg_ hnew_; (first | rw [← Ny129.out] at ho57 | (simp only [Int.reduceToNat] at ho57; rw [← Ny129.out] at ho57)); have n0_ := Aside0.mk (Kd.R_lower ho57 (below_size (by repeat (first | (with_reducible first | exact HB.out | apply below_alloc | apply pw_below_drewN | apply below_drew1 | refine below_set ?_ GE117.out | refine below_set ?_ GE128.out) | exact HB.out)))); have n1_ := Aside0.mk (blk_below (g := gb117) (o := .cells #[.int .i64 a0_0, .string a0_1, .string a0_2, .slice A0_3 l0_3.length c0_3, .slice (some ad127) l0_4.length c0_4] 25 (0, 0)) (by (with_reducible repeat (first | refine blk_drewN ?_ _ | refine blk_drew ?_ | refine blk_alloc ?_ _)); refine blk_far ?_ NB117_128.out _; (with_reducible repeat (first | refine blk_drewN ?_ _ | refine blk_drew ?_ | refine blk_alloc ?_ _)); refine blk_far ?_ NB117_128.out _; (with_reducible repeat (first | refine blk_drewN ?_ _ | refine blk_drew ?_ | refine blk_alloc ?_ _)); refine blk_far ?_ NB117_128.out _; (with_reducible repeat (first | refine blk_drewN ?_ _ | refine blk_drew ?_ | refine blk_alloc ?_ _)); refine blk_far ?_ NB117_128.out _; (with_reducible repeat (first | refine blk_drewN ?_ _ | refine blk_drew ?_ | refine blk_alloc ?_ _)); refine blk_far ?_ NB117_128.out _; (with_reducible repeat (first | refine blk_drewN ?_ _ | refine blk_drew ?_ | refine blk_alloc ?_ _)); exact BK117.out) hb); have n2_ := Aside0.mk (blk_below (g := gb128) (o := .cells #[.int .i64 ((rd_T25 l0_4 x73_3).f0), .string ((rd_T25 l0_4 x73_3).f1), .string ((rd_T25 l0_4 x73_3).f2), .slice A127_3 ((rd_T25 l0_4 x73_3).f3).length c127_3, .slice A127_4 ((rd_T25 l0_4 x73_3).f4).length c127_4] 25 (0, 0)) (by (with_reducible repeat (first | refine blk_drewN ?_ _ | refine blk_drew ?_ | refine blk_alloc ?_ _)); refine blk_put (cs := #[.int .i64 ((rd_T25 l0_4 x73_3).f0), .string ((rd_T25 l0_4 x73_3).f1), .string ((rd_T25 l0_4 x73_3).f2), .slice A127_3 ((rd_T25 l0_4 x73_3).f3).length c127_3, .slice none 0 0]) ?_ 4 _ rfl; (with_reducible repeat (first | refine blk_drewN ?_ _ | refine blk_drew ?_ | refine blk_alloc ?_ _)); refine blk_put (cs := #[.int .i64 ((rd_T25 l0_4 x73_3).f0), .string ((rd_T25 l0_4 x73_3).f1), .string ((rd_T25 l0_4 x73_3).f2), .slice none 0 0, .slice none 0 0]) ?_ 3 _ rfl; (with_reducible repeat (first | refine blk_drewN ?_ _ | refine blk_drew ?_ | refine blk_alloc ?_ _)); refine blk_put (cs := #[.int .i64 ((rd_T25 l0_4 x73_3).f0), .string ((rd_T25 l0_4 x73_3).f1), .string (⟨#[]⟩ : ByteArray), .slice none 0 0, .slice none 0 0]) ?_ 2 _ rfl; (with_reducible repeat (first | refine blk_drewN ?_ _ | refine blk_drew ?_ | refine blk_alloc ?_ _)); refine blk_put (cs := #[.int .i64 ((rd_T25 l0_4 x73_3).f0), .string (⟨#[]⟩ : ByteArray), .string (⟨#[]⟩ : ByteArray), .slice none 0 0, .slice none 0 0]) ?_ 1 _ rfl; (with_reducible repeat (first | refine blk_drewN ?_ _ | refine blk_drew ?_ | refine blk_alloc ?_ _)); refine blk_put (cs := #[.int .i64 0, .string (⟨#[]⟩ : ByteArray), .string (⟨#[]⟩ : ByteArray), .slice none 0 0, .slice none 0 0]) ?_ 0 _ rfl; (with_reducible repeat (first | refine blk_drewN ?_ _ | refine blk_drew ?_ | refine blk_alloc ?_ _)); exact BK128.out) hb); have n3_ := Aside0.mk (below_step (by repeat (first | (with_reducible first | exact HB.out | apply below_alloc | apply pw_below_drewN | apply below_drew1 | refine below_set ?_ GE117.out | refine below_set ?_ GE128.out) | exact HB.out)) hb); clear BK117; clear BK128; clear HB; have HO131 := n0_; have BK117 := n1_; have BK128 := n2_; have HB := n3_; clear n0_ n1_ n2_ n3_; clear hb ho57; obtain ⟨Ao58, co58, eo58⟩ := Kd.R_slice HO131.out; subst eo58) | ((with_reducible refine gate_callee (f := 39) rfl ?_); refine goesL_ (some 79) rfl rfl Tryd.func39 (by kernel_rfl) rfl #[.agg #[.int .i64 ((rd_T25 l0_4 x73_3).f0), .string ((rd_T25 l0_4 x73_3).f1), .string ((rd_T25 l0_4 x73_3).f2), .slice A127_3 ((rd_T25 l0_4 x73_3).f3).length c127_3, .slice A127_4 ((rd_T25 l0_4 x73_3).f4).length c127_4], .slice Ao58 y129.length co58] rfl (by (try simp only [List.map_toArray, List.map_cons, List.map_nil]); first | done | rfl | (simp only [List.length_drop, List.length_take]; rfl)) ?_; (with_reducible refine (spec_named.calls k3 ((rd_T25 l0_4 x73_3).f0) ((rd_T25 l0_4 x73_3).f1) ((rd_T25 l0_4 x73_3).f2) _ _ ((rd_T25 l0_4 x73_3).f3) _ _ ((rd_T25 l0_4 x73_3).f4) _ _ y129 true _ ?side1 ?side2 ?side3 ?side4 ?side5 ?side6 A51.out).mono ?_); (case side1 => repeat (first | exact (Kd.C_below HR127_3.out HB.out) | (with_reducible refine Kd.C_alloc ?_ _) | (with_reducible refine Kd.C_drewN ?_ _) | (with_reducible refine Kd.C_drew ?_))); (case side2 => exact HC127_3.out); (case side3 => repeat (first | exact (Kd.C_below HR127_4.out HB.out) | (with_reducible refine Kd.C_alloc ?_ _) | (with_reducible refine Kd.C_drewN ?_ _) | (with_reducible refine Kd.C_drew ?_))); (case side4 => exact HC127_4.out); (case side5 => repeat (first | exact (Kd.R_reads' HO131.out).2.2 | (with_reducible refine Kd.C_alloc ?_ _) | (with_reducible refine Kd.C_drewN ?_ _) | (with_reducible refine Kd.C_drew ?_))); (case side6 => exact (Kd.R_reads' HO131.out).2.1); rintro e w59 ⟨rfl, hb⟩; refine ⟨_, rfl, ?_⟩; have n0_ := Aside0.mk (Kd.R_below (by (with_reducible repeat (first | apply Kd.R_alloc | apply Kd.R_drewN | apply Kd.R_drew)); exact HO131.out) hb); have n1_ := Aside0.mk (blk_below (g := gb117) (o := .cells #[.int .i64 a0_0, .string a0_1, .string a0_2, .slice A0_3 l0_3.length c0_3, .slice (some ad127) l0_4.length c0_4] 25 (0, 0)) (by (with_reducible repeat (first | refine blk_drewN ?_ _ | refine blk_drew ?_ | refine blk_alloc ?_ _)); exact BK117.out) hb); have n2_ := Aside0.mk (blk_below (g := gb128) (o := .cells #[.int .i64 ((rd_T25 l0_4 x73_3).f0), .string ((rd_T25 l0_4 x73_3).f1), .string ((rd_T25 l0_4 x73_3).f2), .slice A127_3 ((rd_T25 l0_4 x73_3).f3).length c127_3, .slice A127_4 ((rd_T25 l0_4 x73_3).f4).length c127_4] 25 (0, 0)) (by (with_reducible repeat (first | refine blk_drewN ?_ _ | refine blk_drew ?_ | refine blk_alloc ?_ _)); exact BK128.out) hb); have n3_ := Aside0.mk (below_step (by repeat (first | (with_reducible first | exact HB.out | apply below_alloc | apply pw_below_drewN | apply below_drew1 | refine below_set ?_ GE117.out | refine below_set ?_ GE128.out) | exact HB.out)) hb); clear HO131; clear BK117; clear BK128; clear HB; have HO131 := n0_; have BK117 := n1_; have BK128 := n2_; have HB := n3_; clear n0_ n1_ n2_ n3_; (try clear hb); (try clear hb2); (try clear hk); (try clear hi)))
                            go_ret
                            exact ⟨by first | rfl | (simp [errW_none, errW_some] <;> rfl) | (simp [*, errW_none, errW_some] <;> rfl), by repeat (first | (with_reducible first | exact HB.out | apply below_alloc | apply pw_below_drewN | apply below_drew1 | refine below_set ?_ GE117.out | refine below_set ?_ GE128.out) | exact HB.out)⟩
                          · replace c52 := Bool.eq_false_iff.mpr c52
                            subst c52
                            have H1 : ((spec_Tree.f k3 ((rd_T25 l0_4 x73_3).f0) ((rd_T25 l0_4 x73_3).f1) ((rd_T25 l0_4 x73_3).f2) ((rd_T25 l0_4 x73_3).f3) ((rd_T25 l0_4 x73_3).f4) (wrap64 (a1 - 1))).bind fun t133 => (if t133 = true then (spec_Tree.l0 k3 a1 l0_4 (l0_4.length : Int) (wrap64 (x73_3 + 1))) else (some false))) = some r := by rw [if_neg (show ¬ (false = true) by decide)] at H; exact H
                            clear H
                            have H := H1
                            clear H1
                            replace H := Option.bind_eq_some_iff.mp H
                            obtain ⟨t133, A600, H⟩ := H
                            replace H : (if t133 = true then (spec_Tree.l0 k3 a1 l0_4 (l0_4.length : Int) (wrap64 (x73_3 + 1))) else (some false)) = some r := H
                            have A60 := Aside0.mk A600
                            clear A600
                            by_cases c61 : t133 = true
                            · subst c61
                              have H1 : (spec_Tree.l0 k3 a1 l0_4 (l0_4.length : Int) (wrap64 (x73_3 + 1))) = some r := by rw [if_pos rfl] at H; exact H
                              clear H
                              have H := H1
                              clear H1
                              have H' := Aside0.mk H
                              clear H
                              have p127 : 0 ≤ (x73_3 : Int) := of_decide_eq_true (by first | (with_reducible assumption) | assumption)
                              have q127 : x73_3 < (l0_4.length : Int) := of_decide_eq_true (by first | (with_reducible assumption) | assumption)
                              obtain ⟨ad127, A127_3, c127_3, A127_4, c127_4, e127, hx127_0, hx127_1, hx127_2, hx127_3, hx127_4, hl127_3, hi127_3, hl127_4, hi127_4⟩ := at_T25 HR0_4.out x73_3 p127 q127
                              cases e127
                              replace hx127_0 := (HB.out.cell (World.block_lt_of_cell? w _ hx127_0)).trans hx127_0
                              replace hx127_1 := (HB.out.cell (World.block_lt_of_cell? w _ hx127_1)).trans hx127_1
                              replace hx127_2 := (HB.out.cell (World.block_lt_of_cell? w _ hx127_2)).trans hx127_2
                              replace hx127_3 := (HB.out.cell (World.block_lt_of_cell? w _ hx127_3)).trans hx127_3
                              replace hx127_4 := (HB.out.cell (World.block_lt_of_cell? w _ hx127_4)).trans hx127_4
                              have HR127_3 := Aside0.mk hi127_3
                              have HC127_3 := Aside0.mk hl127_3
                              clear hi127_3 hl127_3
                              have HR127_4 := Aside0.mk hi127_4
                              have HC127_4 := Aside0.mk hl127_4
                              clear hi127_4 hl127_4
                              replace p127 := eq_true p127
                              replace q127 := eq_true q127
                              go_wp2_with (first | ((with_reducible refine gate_dst (N := 6) rfl ?_); (try (refine gate_guard (by rfl) ?_; dsimp only)); refine box_event ?hg (N := 6) ?hd (cs := #[.int .i64 0, .string (⟨#[]⟩ : ByteArray), .string (⟨#[]⟩ : ByteArray), .slice none 0 0, .slice none 0 0]) (t := 25) ?hr ?_; (case hd => rfl); (case hg => rfl); (case hr => first | (go_simp; done) | (go_simp; rfl)); intro gb128 hg w62 hbox hb; have n0_ := Aside0.mk (blk_below (g := gb117) (o := .cells #[.int .i64 a0_0, .string a0_1, .string a0_2, .slice A0_3 l0_3.length c0_3, .slice (some ad127) l0_4.length c0_4] 25 (0, 0)) (by (with_reducible repeat (first | refine blk_drewN ?_ _ | refine blk_drew ?_ | refine blk_alloc ?_ _)); exact BK117.out) hb); have n1_ := Aside0.mk (below_step (by repeat (first | (with_reducible first | exact HB.out | apply below_alloc | apply pw_below_drewN | apply below_drew1 | refine below_set ?_ GE117.out) | exact HB.out)) hb); have n2_ := Aside0.mk (hbox); have n3_ := Aside0.mk ((by rw [hg]; exact (below_size (by repeat (first | (with_reducible first | exact HB.out | apply below_alloc | apply pw_below_drewN | apply below_drew1 | refine below_set ?_ GE117.out) | exact HB.out))) : w.heap.size ≤ gb128)); have n4_ := Aside0.mk ((by rw [hg]; exact (below_size (by repeat (first | (with_reducible first | exact HB.out | apply below_alloc | apply pw_below_drewN | apply below_drew1 | refine below_set ?_ GE117.out) | exact HB.out))) : w.heap.size ≤ gb128)); have n5_ := Aside0.mk ((by rw [hg]; exact Nat.ne_of_lt (blk_lt (g := gb117) (o := .cells #[.int .i64 a0_0, .string a0_1, .string a0_2, .slice A0_3 l0_3.length c0_3, .slice (some ad127) l0_4.length c0_4] 25 (0, 0)) (by (with_reducible repeat (first | refine blk_drewN ?_ _ | refine blk_drew ?_ | refine blk_alloc ?_ _)); exact BK117.out)) : gb117 ≠ gb128)); have n6_ := Aside0.mk ((by rw [hg]; exact Nat.ne_of_gt (blk_lt (g := gb117) (o := .cells #[.int .i64 a0_0, .string a0_1, .string a0_2, .slice A0_3 l0_3.length c0_3, .slice (some ad127) l0_4.length c0_4] 25 (0, 0)) (by (with_reducible repeat (first | refine blk_drewN ?_ _ | refine blk_drew ?_ | refine blk_alloc ?_ _)); exact BK117.out)) : gb128 ≠ gb117)); clear BK117; clear HB; have BK117 := n0_; have HB := n1_; have BK128 := n2_; have GW128 := n3_; have GE128 := n4_; have NB117_128 := n5_; have NB128_117 := n6_; clear n0_ n1_ n2_ n3_ n4_ n5_ n6_; clear hb hbox hg; have hnb63 := NB128_117.out; have hnc63 := NB117_128.out; have hcz64_0 : w62.cell? ⟨gb128, 0, none⟩ = some (.int .i64 0) := (blk_cell BK128.out 0).trans rfl; have hcz64_1 : w62.cell? ⟨gb128, 1, none⟩ = some (.string (⟨#[]⟩ : ByteArray)) := (blk_cell BK128.out 1).trans rfl; have hcz64_2 : w62.cell? ⟨gb128, 2, none⟩ = some (.string (⟨#[]⟩ : ByteArray)) := (blk_cell BK128.out 2).trans rfl; have hcz64_3 : w62.cell? ⟨gb128, 3, none⟩ = some (.slice none 0 0) := (blk_cell BK128.out 3).trans rfl; have hcz64_4 : w62.cell? ⟨gb128, 4, none⟩ = some (.slice none 0 0) := (blk_cell BK128.out 4).trans rfl; have hfz64_0 := blk_frozen BK128.out 0; have hfz64_1 := blk_frozen BK128.out 1; have hfz64_2 := blk_frozen BK128.out 2; have hfz64_3 := blk_frozen BK128.out 3; have hfz64_4 := blk_frozen BK128.out 4) | ((with_reducible refine gate_dst (N := 78) rfl ?_); (try (refine gate_guard (by rfl) ?_; dsimp only)); refine Kd.R_lit Kd.string _ 9 ?hg (N := 78) ?hd (xs := ([(⟨#[98, 111, 100, 121]⟩ : ByteArray)] : List ByteArray)) (inner := [.string (⟨#[98, 111, 100, 121]⟩ : ByteArray)]) (ok := fun _ => True) (okp := fun _ => True) ?hr ?hp (fun _ hk => hk) trivial (Below.refl _ _) (Nat.le_refl _) (by simp) ?_; (case hd => rfl); (case hg => rfl); (case hr => first | (go_simp; done) | (go_simp; rfl)); (case hp => exact (Reps.one (show Kd.M Kd.string _ _ _ (⟨#[98, 111, 100, 121]⟩ : ByteArray) [.string (⟨#[98, 111, 100, 121]⟩ : ByteArray)] from rfl) (Reps.none _ _))); intro v130 w65 ho66 hb hg_ hnew_; clear hg_ hnew_; (first | rw [← Ny129.out] at ho66 | (simp only [Int.reduceToNat] at ho66; rw [← Ny129.out] at ho66)); have n0_ := Aside0.mk (Kd.R_lower ho66 (below_size (by repeat (first | (with_reducible first | exact HB.out | apply below_alloc | apply pw_below_drewN | apply below_drew1 | refine below_set ?_ GE117.out | refine below_set ?_ GE128.out) | exact HB.out)))); have n1_ := Aside0.mk (blk_below (g := gb117) (o := .cells #[.int .i64 a0_0, .string a0_1, .string a0_2, .slice A0_3 l0_3.length c0_3, .slice (some ad127) l0_4.length c0_4] 25 (0, 0)) (by (with_reducible repeat (first | refine blk_drewN ?_ _ | refine blk_drew ?_ | refine blk_alloc ?_ _)); refine blk_far ?_ NB117_128.out _; (with_reducible repeat (first | refine blk_drewN ?_ _ | refine blk_drew ?_ | refine blk_alloc ?_ _)); refine blk_far ?_ NB117_128.out _; (with_reducible repeat (first | refine blk_drewN ?_ _ | refine blk_drew ?_ | refine blk_alloc ?_ _)); refine blk_far ?_ NB117_128.out _; (with_reducible repeat (first | refine blk_drewN ?_ _ | refine blk_drew ?_ | refine blk_alloc ?_ _)); refine blk_far ?_ NB117_128.out _; (with_reducible repeat (first | refine blk_drewN ?_ _ | refine blk_drew ?_ | refine blk_alloc ?_ _)); refine blk_far ?_ NB117_128.out _; (with_reducible repeat (first | refine blk_drewN ?_ _ | refine blk_drew ?_ | refine blk_alloc ?_ _)); exact BK117.out) hb); have n2_ := Aside0.mk (blk_below (g := gb128) (o := .cells #[.int .i64 ((rd_T25 l0_4 x73_3).f0), .string ((rd_T25 l0_4 x73_3).f1), .string ((rd_T25 l0_4 x73_3).f2), .slice A127_3 ((rd_T25 l0_4 x73_3).f3).length c127_3, .slice A127_4 ((rd_T25 l0_4 x73_3).f4).length c127_4] 25 (0, 0)) (by (with_reducible repeat (first | refine blk_drewN ?_ _ | refine blk_drew ?_ | refine blk_alloc ?_ _)); refine blk_put (cs := #[.int .i64 ((rd_T25 l0_4 x73_3).f0), .string ((rd_T25 l0_4 x73_3).f1), .string ((rd_T25 l0_4 x73_3).f2), .slice A127_3 ((rd_T25 l0_4 x73_3).f3).length c127_3, .slice none 0 0]) ?_ 4 _ rfl; (with_reducible repeat (first | refine blk_drewN ?_ _ | refine blk_drew ?_ | refine blk_alloc ?_ _)); refine blk_put (cs := #[.int .i64 ((rd_T25 l0_4 x73_3).f0), .string ((rd_T25 l0_4 x73_3).f1), .string ((rd_T25 l0_4 x73_3).f2), .slice none 0 0, .slice none 0 0]) ?_ 3 _ rfl; (with_reducible repeat (first | refine blk_drewN ?_ _ | refine blk_drew ?_ | refine blk_alloc ?_ _)); refine blk_put (cs := #[.int .i64 ((rd_T25 l0_4 x73_3).f0), .string ((rd_T25 l0_4 x73_3).f1), .string (⟨#[]⟩ : ByteArray), .slice none 0 0, .slice none 0 0]) ?_ 2 _ rfl; (with_reducible repeat (first | refine blk_drewN ?_ _ | refine blk_drew ?_ | refine blk_alloc ?_ _)); refine blk_put (cs := #[.int .i64 ((rd_T25 l0_4 x73_3).f0), .string (⟨#[]⟩ : ByteArray), .string (⟨#[]⟩ : ByteArray), .slice none 0 0, .slice none 0 0]) ?_ 1 _ rfl; (with_reducible repeat (first | refine blk_drewN ?_ _ | refine blk_drew ?_ | refine blk_alloc ?_ _)); refine blk_put (cs := #[.int .i64 0, .string (⟨#[]⟩ : ByteArray), .string (⟨#[]⟩ : ByteArray), .slice none 0 0, .slice none 0 0]) ?_ 0 _ rfl; (with_reducible repeat (first | refine blk_drewN ?_ _ | refine blk_drew ?_ | refine blk_alloc ?_ _)); exact BK128.out) hb); have n3_ := Aside0.mk (below_step (by repeat (first | (with_reducible first | exact HB.out | apply below_alloc | apply pw_below_drewN | apply below_drew1 | refine below_set ?_ GE117.out | refine below_set ?_ GE128.out) | exact HB.out)) hb); clear BK117; clear BK128; clear HB; have HO131 := n0_; have BK117 := n1_; have BK128 := n2_; have HB := n3_; clear n0_ n1_ n2_ n3_; clear hb ho66; obtain ⟨Ao67, co67, eo67⟩ := Kd.R_slice HO131.out; subst eo67) | ((with_reducible refine gate_callee (f := 39) rfl ?_); refine goesL_ (some 79) rfl rfl Tryd.func39 (by kernel_rfl) rfl #[.agg #[.int .i64 ((rd_T25 l0_4 x73_3).f0), .string ((rd_T25 l0_4 x73_3).f1), .string ((rd_T25 l0_4 x73_3).f2), .slice A127_3 ((rd_T25 l0_4 x73_3).f3).length c127_3, .slice A127_4 ((rd_T25 l0_4 x73_3).f4).length c127_4], .slice Ao67 y129.length co67] rfl (by (try simp only [List.map_toArray, List.map_cons, List.map_nil]); first | done | rfl | (simp only [List.length_drop, List.length_take]; rfl)) ?_; (with_reducible refine (spec_named.calls k3 ((rd_T25 l0_4 x73_3).f0) ((rd_T25 l0_4 x73_3).f1) ((rd_T25 l0_4 x73_3).f2) _ _ ((rd_T25 l0_4 x73_3).f3) _ _ ((rd_T25 l0_4 x73_3).f4) _ _ y129 false _ ?side1 ?side2 ?side3 ?side4 ?side5 ?side6 A51.out).mono ?_); (case side1 => repeat (first | exact (Kd.C_below HR127_3.out HB.out) | (with_reducible refine Kd.C_alloc ?_ _) | (with_reducible refine Kd.C_drewN ?_ _) | (with_reducible refine Kd.C_drew ?_))); (case side2 => exact HC127_3.out); (case side3 => repeat (first | exact (Kd.C_below HR127_4.out HB.out) | (with_reducible refine Kd.C_alloc ?_ _) | (with_reducible refine Kd.C_drewN ?_ _) | (with_reducible refine Kd.C_drew ?_))); (case side4 => exact HC127_4.out); (case side5 => repeat (first | exact (Kd.R_reads' HO131.out).2.2 | (with_reducible refine Kd.C_alloc ?_ _) | (with_reducible refine Kd.C_drewN ?_ _) | (with_reducible refine Kd.C_drew ?_))); (case side6 => exact (Kd.R_reads' HO131.out).2.1); rintro e w68 ⟨rfl, hb⟩; refine ⟨_, rfl, ?_⟩; have n0_ := Aside0.mk (Kd.R_below (by (with_reducible repeat (first | apply Kd.R_alloc | apply Kd.R_drewN | apply Kd.R_drew)); exact HO131.out) hb); have n1_ := Aside0.mk (blk_below (g := gb117) (o := .cells #[.int .i64 a0_0, .string a0_1, .string a0_2, .slice A0_3 l0_3.length c0_3, .slice (some ad127) l0_4.length c0_4] 25 (0, 0)) (by (with_reducible repeat (first | refine blk_drewN ?_ _ | refine blk_drew ?_ | refine blk_alloc ?_ _)); exact BK117.out) hb); have n2_ := Aside0.mk (blk_below (g := gb128) (o := .cells #[.int .i64 ((rd_T25 l0_4 x73_3).f0), .string ((rd_T25 l0_4 x73_3).f1), .string ((rd_T25 l0_4 x73_3).f2), .slice A127_3 ((rd_T25 l0_4 x73_3).f3).length c127_3, .slice A127_4 ((rd_T25 l0_4 x73_3).f4).length c127_4] 25 (0, 0)) (by (with_reducible repeat (first | refine blk_drewN ?_ _ | refine blk_drew ?_ | refine blk_alloc ?_ _)); exact BK128.out) hb); have n3_ := Aside0.mk (below_step (by repeat (first | (with_reducible first | exact HB.out | apply below_alloc | apply pw_below_drewN | apply below_drew1 | refine below_set ?_ GE117.out | refine below_set ?_ GE128.out) | exact HB.out)) hb); clear HO131; clear BK117; clear BK128; clear HB; have HO131 := n0_; have BK117 := n1_; have BK128 := n2_; have HB := n3_; clear n0_ n1_ n2_ n3_; (try clear hb); (try clear hb2); (try clear hk); (try clear hi); have hcz69_0 : w68.cell? ⟨gb128, 0, none⟩ = some (.int .i64 ((rd_T25 l0_4 x73_3).f0)) := (blk_cell BK128.out 0).trans rfl; have hcz69_1 : w68.cell? ⟨gb128, 1, none⟩ = some (.string ((rd_T25 l0_4 x73_3).f1)) := (blk_cell BK128.out 1).trans rfl; have hcz69_2 : w68.cell? ⟨gb128, 2, none⟩ = some (.string ((rd_T25 l0_4 x73_3).f2)) := (blk_cell BK128.out 2).trans rfl; have hcz69_3 : w68.cell? ⟨gb128, 3, none⟩ = some (.slice A127_3 ((rd_T25 l0_4 x73_3).f3).length c127_3) := (blk_cell BK128.out 3).trans rfl; have hcz69_4 : w68.cell? ⟨gb128, 4, none⟩ = some (.slice A127_4 ((rd_T25 l0_4 x73_3).f4).length c127_4) := (blk_cell BK128.out 4).trans rfl; have hfz69_0 := blk_frozen BK128.out 0; have hfz69_1 := blk_frozen BK128.out 1; have hfz69_2 := blk_frozen BK128.out 2; have hfz69_3 := blk_frozen BK128.out 3; have hfz69_4 := blk_frozen BK128.out 4) | (go_at_call 18; (with_reducible refine (ih k3 (by have := HJ2.out; have := HJ10.out; have := HK3.out; omega) ((rd_T25 l0_4 x73_3).f0) ((rd_T25 l0_4 x73_3).f1) ((rd_T25 l0_4 x73_3).f2) _ _ ((rd_T25 l0_4 x73_3).f3) _ _ ((rd_T25 l0_4 x73_3).f4) (wrap64 (a1 - 1)) true _ ?side1 ?side2 ?side3 ?side4 A60.out).mono ?_); (case side1 => repeat (first | exact (Kd.C_below HR127_3.out HB.out) | (with_reducible refine Kd.C_alloc ?_ _) | (with_reducible refine Kd.C_drewN ?_ _) | (with_reducible refine Kd.C_drew ?_))); (case side2 => exact HC127_3.out); (case side3 => repeat (first | exact (Kd.C_below HR127_4.out HB.out) | (with_reducible refine Kd.C_alloc ?_ _) | (with_reducible refine Kd.C_drewN ?_ _) | (with_reducible refine Kd.C_drew ?_))); (case side4 => exact HC127_4.out); rintro e w70 ⟨rfl, hb⟩; have n0_ := Aside0.mk (Kd.R_below (by (with_reducible repeat (first | apply Kd.R_alloc | apply Kd.R_drewN | apply Kd.R_drew)); exact HO131.out) hb); have n1_ := Aside0.mk (blk_below (g := gb117) (o := .cells #[.int .i64 a0_0, .string a0_1, .string a0_2, .slice A0_3 l0_3.length c0_3, .slice (some ad127) l0_4.length c0_4] 25 (0, 0)) (by (with_reducible repeat (first | refine blk_drewN ?_ _ | refine blk_drew ?_ | refine blk_alloc ?_ _)); exact BK117.out) hb); have n2_ := Aside0.mk (blk_below (g := gb128) (o := .cells #[.int .i64 ((rd_T25 l0_4 x73_3).f0), .string ((rd_T25 l0_4 x73_3).f1), .string ((rd_T25 l0_4 x73_3).f2), .slice A127_3 ((rd_T25 l0_4 x73_3).f3).length c127_3, .slice A127_4 ((rd_T25 l0_4 x73_3).f4).length c127_4] 25 (0, 0)) (by (with_reducible repeat (first | refine blk_drewN ?_ _ | refine blk_drew ?_ | refine blk_alloc ?_ _)); exact BK128.out) hb); have n3_ := Aside0.mk (below_step (by repeat (first | (with_reducible first | exact HB.out | apply below_alloc | apply pw_below_drewN | apply below_drew1 | refine below_set ?_ GE117.out | refine below_set ?_ GE128.out) | exact HB.out)) hb); clear HO131; clear BK117; clear BK128; clear HB; have HO131 := n0_; have BK117 := n1_; have BK128 := n2_; have HB := n3_; clear n0_ n1_ n2_ n3_; (try clear hb); (try clear hb2); (try clear hk); (try clear hi)))
                              go_roundg k3
                              case measure => have := HJ2.out; have := HJ10.out; have := HK3.out; omega
                              case rel => exact ⟨(wrap64 (x73_3 + 1)), (by first | rfl | (simp; done) | (simp [*]; done)), H', ⟨by have := HJ2.out; have := HJ10.out; have := HK3.out; omega⟩, ⟨by (with_reducible repeat (first | refine blk_drewN ?_ _ | refine blk_drew ?_ | refine blk_alloc ?_ _)); exact BK117.out⟩, ⟨by repeat (first | (with_reducible first | exact HB.out | apply below_alloc | apply pw_below_drewN | apply below_drew1 | refine below_set ?_ GE117.out | refine below_set ?_ GE128.out) | exact HB.out)⟩⟩
                            · replace c61 := Bool.eq_false_iff.mpr c61
                              subst c61
                              have H1 : (some false) = some r := by rw [if_neg (show ¬ (false = true) by decide)] at H; exact H
                              clear H
                              have H := H1
                              clear H1
                              obtain rfl := Option.some.inj H
                              have p127 : 0 ≤ (x73_3 : Int) := of_decide_eq_true (by first | (with_reducible assumption) | assumption)
                              have q127 : x73_3 < (l0_4.length : Int) := of_decide_eq_true (by first | (with_reducible assumption) | assumption)
                              obtain ⟨ad127, A127_3, c127_3, A127_4, c127_4, e127, hx127_0, hx127_1, hx127_2, hx127_3, hx127_4, hl127_3, hi127_3, hl127_4, hi127_4⟩ := at_T25 HR0_4.out x73_3 p127 q127
                              cases e127
                              replace hx127_0 := (HB.out.cell (World.block_lt_of_cell? w _ hx127_0)).trans hx127_0
                              replace hx127_1 := (HB.out.cell (World.block_lt_of_cell? w _ hx127_1)).trans hx127_1
                              replace hx127_2 := (HB.out.cell (World.block_lt_of_cell? w _ hx127_2)).trans hx127_2
                              replace hx127_3 := (HB.out.cell (World.block_lt_of_cell? w _ hx127_3)).trans hx127_3
                              replace hx127_4 := (HB.out.cell (World.block_lt_of_cell? w _ hx127_4)).trans hx127_4
                              have HR127_3 := Aside0.mk hi127_3
                              have HC127_3 := Aside0.mk hl127_3
                              clear hi127_3 hl127_3
                              have HR127_4 := Aside0.mk hi127_4
                              have HC127_4 := Aside0.mk hl127_4
                              clear hi127_4 hl127_4
                              replace p127 := eq_true p127
                              replace q127 := eq_true q127
                              go_wp2_with (first | ((with_reducible refine gate_dst (N := 6) rfl ?_); (try (refine gate_guard (by rfl) ?_; dsimp only)); refine box_event ?hg (N := 6) ?hd (cs := #[.int .i64 0, .string (⟨#[]⟩ : ByteArray), .string (⟨#[]⟩ : ByteArray), .slice none 0 0, .slice none 0 0]) (t := 25) ?hr ?_; (case hd => rfl); (case hg => rfl); (case hr => first | (go_simp; done) | (go_simp; rfl)); intro gb128 hg w71 hbox hb; have n0_ := Aside0.mk (blk_below (g := gb117) (o := .cells #[.int .i64 a0_0, .string a0_1, .string a0_2, .slice A0_3 l0_3.length c0_3, .slice (some ad127) l0_4.length c0_4] 25 (0, 0)) (by (with_reducible repeat (first | refine blk_drewN ?_ _ | refine blk_drew ?_ | refine blk_alloc ?_ _)); exact BK117.out) hb); have n1_ := Aside0.mk (below_step (by repeat (first | (with_reducible first | exact HB.out | apply below_alloc | apply pw_below_drewN | apply below_drew1 | refine below_set ?_ GE117.out) | exact HB.out)) hb); have n2_ := Aside0.mk (hbox); have n3_ := Aside0.mk ((by rw [hg]; exact (below_size (by repeat (first | (with_reducible first | exact HB.out | apply below_alloc | apply pw_below_drewN | apply below_drew1 | refine below_set ?_ GE117.out) | exact HB.out))) : w.heap.size ≤ gb128)); have n4_ := Aside0.mk ((by rw [hg]; exact (below_size (by repeat (first | (with_reducible first | exact HB.out | apply below_alloc | apply pw_below_drewN | apply below_drew1 | refine below_set ?_ GE117.out) | exact HB.out))) : w.heap.size ≤ gb128)); have n5_ := Aside0.mk ((by rw [hg]; exact Nat.ne_of_lt (blk_lt (g := gb117) (o := .cells #[.int .i64 a0_0, .string a0_1, .string a0_2, .slice A0_3 l0_3.length c0_3, .slice (some ad127) l0_4.length c0_4] 25 (0, 0)) (by (with_reducible repeat (first | refine blk_drewN ?_ _ | refine blk_drew ?_ | refine blk_alloc ?_ _)); exact BK117.out)) : gb117 ≠ gb128)); have n6_ := Aside0.mk ((by rw [hg]; exact Nat.ne_of_gt (blk_lt (g := gb117) (o := .cells #[.int .i64 a0_0, .string a0_1, .string a0_2, .slice A0_3 l0_3.length c0_3, .slice (some ad127) l0_4.length c0_4] 25 (0, 0)) (by (with_reducible repeat (first | refine blk_drewN ?_ _ | refine blk_drew ?_ | refine blk_alloc ?_ _)); exact BK117.out)) : gb128 ≠ gb117)); clear BK117; clear HB; have BK117 := n0_; have HB := n1_; have BK128 := n2_; have GW128 := n3_; have GE128 := n4_; have NB117_128 := n5_; have NB128_117 := n6_; clear n0_ n1_ n2_ n3_ n4_ n5_ n6_; clear hb hbox hg; have hnb72 := NB128_117.out; have hnc72 := NB117_128.out; have hcz73_0 : w71.cell? ⟨gb128, 0, none⟩ = some (.int .i64 0) := (blk_cell BK128.out 0).trans rfl; have hcz73_1 : w71.cell? ⟨gb128, 1, none⟩ = some (.string (⟨#[]⟩ : ByteArray)) := (blk_cell BK128.out 1).trans rfl; have hcz73_2 : w71.cell? ⟨gb128, 2, none⟩ = some (.string (⟨#[]⟩ : ByteArray)) := (blk_cell BK128.out 2).trans rfl; have hcz73_3 : w71.cell? ⟨gb128, 3, none⟩ = some (.slice none 0 0) := (blk_cell BK128.out 3).trans rfl; have hcz73_4 : w71.cell? ⟨gb128, 4, none⟩ = some (.slice none 0 0) := (blk_cell BK128.out 4).trans rfl; have hfz73_0 := blk_frozen BK128.out 0; have hfz73_1 := blk_frozen BK128.out 1; have hfz73_2 := blk_frozen BK128.out 2; have hfz73_3 := blk_frozen BK128.out 3; have hfz73_4 := blk_frozen BK128.out 4) | ((with_reducible refine gate_dst (N := 78) rfl ?_); (try (refine gate_guard (by rfl) ?_; dsimp only)); refine Kd.R_lit Kd.string _ 9 ?hg (N := 78) ?hd (xs := ([(⟨#[98, 111, 100, 121]⟩ : ByteArray)] : List ByteArray)) (inner := [.string (⟨#[98, 111, 100, 121]⟩ : ByteArray)]) (ok := fun _ => True) (okp := fun _ => True) ?hr ?hp (fun _ hk => hk) trivial (Below.refl _ _) (Nat.le_refl _) (by simp) ?_; (case hd => rfl); (case hg => rfl); (case hr => first | (go_simp; done) | (go_simp; rfl)); (case hp => exact (Reps.one (show Kd.M Kd.string _ _ _ (⟨#[98, 111, 100, 121]⟩ : ByteArray) [.string (⟨#[98, 111, 100, 121]⟩ : ByteArray)] from rfl) (Reps.none _ _))); intro v130 w74 ho75 hb hg_ hnew_; clear hg_ hnew_; (first | rw [← Ny129.out] at ho75 | (simp only [Int.reduceToNat] at ho75; rw [← Ny129.out] at ho75)); have n0_ := Aside0.mk (Kd.R_lower ho75 (below_size (by repeat (first | (with_reducible first | exact HB.out | apply below_alloc | apply pw_below_drewN | apply below_drew1 | refine below_set ?_ GE117.out | refine below_set ?_ GE128.out) | exact HB.out)))); have n1_ := Aside0.mk (blk_below (g := gb117) (o := .cells #[.int .i64 a0_0, .string a0_1, .string a0_2, .slice A0_3 l0_3.length c0_3, .slice (some ad127) l0_4.length c0_4] 25 (0, 0)) (by (with_reducible repeat (first | refine blk_drewN ?_ _ | refine blk_drew ?_ | refine blk_alloc ?_ _)); refine blk_far ?_ NB117_128.out _; (with_reducible repeat (first | refine blk_drewN ?_ _ | refine blk_drew ?_ | refine blk_alloc ?_ _)); refine blk_far ?_ NB117_128.out _; (with_reducible repeat (first | refine blk_drewN ?_ _ | refine blk_drew ?_ | refine blk_alloc ?_ _)); refine blk_far ?_ NB117_128.out _; (with_reducible repeat (first | refine blk_drewN ?_ _ | refine blk_drew ?_ | refine blk_alloc ?_ _)); refine blk_far ?_ NB117_128.out _; (with_reducible repeat (first | refine blk_drewN ?_ _ | refine blk_drew ?_ | refine blk_alloc ?_ _)); refine blk_far ?_ NB117_128.out _; (with_reducible repeat (first | refine blk_drewN ?_ _ | refine blk_drew ?_ | refine blk_alloc ?_ _)); exact BK117.out) hb); have n2_ := Aside0.mk (blk_below (g := gb128) (o := .cells #[.int .i64 ((rd_T25 l0_4 x73_3).f0), .string ((rd_T25 l0_4 x73_3).f1), .string ((rd_T25 l0_4 x73_3).f2), .slice A127_3 ((rd_T25 l0_4 x73_3).f3).length c127_3, .slice A127_4 ((rd_T25 l0_4 x73_3).f4).length c127_4] 25 (0, 0)) (by (with_reducible repeat (first | refine blk_drewN ?_ _ | refine blk_drew ?_ | refine blk_alloc ?_ _)); refine blk_put (cs := #[.int .i64 ((rd_T25 l0_4 x73_3).f0), .string ((rd_T25 l0_4 x73_3).f1), .string ((rd_T25 l0_4 x73_3).f2), .slice A127_3 ((rd_T25 l0_4 x73_3).f3).length c127_3, .slice none 0 0]) ?_ 4 _ rfl; (with_reducible repeat (first | refine blk_drewN ?_ _ | refine blk_drew ?_ | refine blk_alloc ?_ _)); refine blk_put (cs := #[.int .i64 ((rd_T25 l0_4 x73_3).f0), .string ((rd_T25 l0_4 x73_3).f1), .string ((rd_T25 l0_4 x73_3).f2), .slice none 0 0, .slice none 0 0]) ?_ 3 _ rfl; (with_reducible repeat (first | refine blk_drewN ?_ _ | refine blk_drew ?_ | refine blk_alloc ?_ _)); refine blk_put (cs := #[.int .i64 ((rd_T25 l0_4 x73_3).f0), .string ((rd_T25 l0_4 x73_3).f1), .string (⟨#[]⟩ : ByteArray), .slice none 0 0, .slice none 0 0]) ?_ 2 _ rfl; (with_reducible repeat (first | refine blk_drewN ?_ _ | refine blk_drew ?_ | refine blk_alloc ?_ _)); refine blk_put (cs := #[.int .i64 ((rd_T25 l0_4 x73_3).f0), .string (⟨#[]⟩ : ByteArray), .string (⟨#[]⟩ : ByteArray), .slice none 0 0, .slice none 0 0]) ?_ 1 _ rfl; (with_reducible repeat (first | refine blk_drewN ?_ _ | refine blk_drew ?_ | refine blk_alloc ?_ _)); refine blk_put (cs := #[.int .i64 0, .string (⟨#[]⟩ : ByteArray), .string (⟨#[]⟩ : ByteArray), .slice none 0 0, .slice none 0 0]) ?_ 0 _ rfl; (with_reducible repeat (first | refine blk_drewN ?_ _ | refine blk_drew ?_ | refine blk_alloc ?_ _)); exact BK128.out) hb); have n3_ := Aside0.mk (below_step (by repeat (first | (with_reducible first | exact HB.out | apply below_alloc | apply pw_below_drewN | apply below_drew1 | refine below_set ?_ GE117.out | refine below_set ?_ GE128.out) | exact HB.out)) hb); clear BK117; clear BK128; clear HB; have HO131 := n0_; have BK117 := n1_; have BK128 := n2_; have HB := n3_; clear n0_ n1_ n2_ n3_; clear hb ho75; obtain ⟨Ao76, co76, eo76⟩ := Kd.R_slice HO131.out; subst eo76) | ((with_reducible refine gate_callee (f := 39) rfl ?_); refine goesL_ (some 79) rfl rfl Tryd.func39 (by kernel_rfl) rfl #[.agg #[.int .i64 ((rd_T25 l0_4 x73_3).f0), .string ((rd_T25 l0_4 x73_3).f1), .string ((rd_T25 l0_4 x73_3).f2), .slice A127_3 ((rd_T25 l0_4 x73_3).f3).length c127_3, .slice A127_4 ((rd_T25 l0_4 x73_3).f4).length c127_4], .slice Ao76 y129.length co76] rfl (by (try simp only [List.map_toArray, List.map_cons, List.map_nil]); first | done | rfl | (simp only [List.length_drop, List.length_take]; rfl)) ?_; (with_reducible refine (spec_named.calls k3 ((rd_T25 l0_4 x73_3).f0) ((rd_T25 l0_4 x73_3).f1) ((rd_T25 l0_4 x73_3).f2) _ _ ((rd_T25 l0_4 x73_3).f3) _ _ ((rd_T25 l0_4 x73_3).f4) _ _ y129 false _ ?side1 ?side2 ?side3 ?side4 ?side5 ?side6 A51.out).mono ?_); (case side1 => repeat (first | exact (Kd.C_below HR127_3.out HB.out) | (with_reducible refine Kd.C_alloc ?_ _) | (with_reducible refine Kd.C_drewN ?_ _) | (with_reducible refine Kd.C_drew ?_))); (case side2 => exact HC127_3.out); (case side3 => repeat (first | exact (Kd.C_below HR127_4.out HB.out) | (with_reducible refine Kd.C_alloc ?_ _) | (with_reducible refine Kd.C_drewN ?_ _) | (with_reducible refine Kd.C_drew ?_))); (case side4 => exact HC127_4.out); (case side5 => repeat (first | exact (Kd.R_reads' HO131.out).2.2 | (with_reducible refine Kd.C_alloc ?_ _) | (with_reducible refine Kd.C_drewN ?_ _) | (with_reducible refine Kd.C_drew ?_))); (case side6 => exact (Kd.R_reads' HO131.out).2.1); rintro e w77 ⟨rfl, hb⟩; refine ⟨_, rfl, ?_⟩; have n0_ := Aside0.mk (Kd.R_below (by (with_reducible repeat (first | apply Kd.R_alloc | apply Kd.R_drewN | apply Kd.R_drew)); exact HO131.out) hb); have n1_ := Aside0.mk (blk_below (g := gb117) (o := .cells #[.int .i64 a0_0, .string a0_1, .string a0_2, .slice A0_3 l0_3.length c0_3, .slice (some ad127) l0_4.length c0_4] 25 (0, 0)) (by (with_reducible repeat (first | refine blk_drewN ?_ _ | refine blk_drew ?_ | refine blk_alloc ?_ _)); exact BK117.out) hb); have n2_ := Aside0.mk (blk_below (g := gb128) (o := .cells #[.int .i64 ((rd_T25 l0_4 x73_3).f0), .string ((rd_T25 l0_4 x73_3).f1), .string ((rd_T25 l0_4 x73_3).f2), .slice A127_3 ((rd_T25 l0_4 x73_3).f3).length c127_3, .slice A127_4 ((rd_T25 l0_4 x73_3).f4).length c127_4] 25 (0, 0)) (by (with_reducible repeat (first | refine blk_drewN ?_ _ | refine blk_drew ?_ | refine blk_alloc ?_ _)); exact BK128.out) hb); have n3_ := Aside0.mk (below_step (by repeat (first | (with_reducible first | exact HB.out | apply below_alloc | apply pw_below_drewN | apply below_drew1 | refine below_set ?_ GE117.out | refine below_set ?_ GE128.out) | exact HB.out)) hb); clear HO131; clear BK117; clear BK128; clear HB; have HO131 := n0_; have BK117 := n1_; have BK128 := n2_; have HB := n3_; clear n0_ n1_ n2_ n3_; (try clear hb); (try clear hb2); (try clear hk); (try clear hi); have hcz78_0 : w77.cell? ⟨gb128, 0, none⟩ = some (.int .i64 ((rd_T25 l0_4 x73_3).f0)) := (blk_cell BK128.out 0).trans rfl; have hcz78_1 : w77.cell? ⟨gb128, 1, none⟩ = some (.string ((rd_T25 l0_4 x73_3).f1)) := (blk_cell BK128.out 1).trans rfl; have hcz78_2 : w77.cell? ⟨gb128, 2, none⟩ = some (.string ((rd_T25 l0_4 x73_3).f2)) := (blk_cell BK128.out 2).trans rfl; have hcz78_3 : w77.cell? ⟨gb128, 3, none⟩ = some (.slice A127_3 ((rd_T25 l0_4 x73_3).f3).length c127_3) := (blk_cell BK128.out 3).trans rfl; have hcz78_4 : w77.cell? ⟨gb128, 4, none⟩ = some (.slice A127_4 ((rd_T25 l0_4 x73_3).f4).length c127_4) := (blk_cell BK128.out 4).trans rfl; have hfz78_0 := blk_frozen BK128.out 0; have hfz78_1 := blk_frozen BK128.out 1; have hfz78_2 := blk_frozen BK128.out 2; have hfz78_3 := blk_frozen BK128.out 3; have hfz78_4 := blk_frozen BK128.out 4) | (go_at_call 18; (with_reducible refine (ih k3 (by have := HJ2.out; have := HJ10.out; have := HK3.out; omega) ((rd_T25 l0_4 x73_3).f0) ((rd_T25 l0_4 x73_3).f1) ((rd_T25 l0_4 x73_3).f2) _ _ ((rd_T25 l0_4 x73_3).f3) _ _ ((rd_T25 l0_4 x73_3).f4) (wrap64 (a1 - 1)) false _ ?side1 ?side2 ?side3 ?side4 A60.out).mono ?_); (case side1 => repeat (first | exact (Kd.C_below HR127_3.out HB.out) | (with_reducible refine Kd.C_alloc ?_ _) | (with_reducible refine Kd.C_drewN ?_ _) | (with_reducible refine Kd.C_drew ?_))); (case side2 => exact HC127_3.out); (case side3 => repeat (first | exact (Kd.C_below HR127_4.out HB.out) | (with_reducible refine Kd.C_alloc ?_ _) | (with_reducible refine Kd.C_drewN ?_ _) | (with_reducible refine Kd.C_drew ?_))); (case side4 => exact HC127_4.out); rintro e w79 ⟨rfl, hb⟩; have n0_ := Aside0.mk (Kd.R_below (by (with_reducible repeat (first | apply Kd.R_alloc | apply Kd.R_drewN | apply Kd.R_drew)); exact HO131.out) hb); have n1_ := Aside0.mk (blk_below (g := gb117) (o := .cells #[.int .i64 a0_0, .string a0_1, .string a0_2, .slice A0_3 l0_3.length c0_3, .slice (some ad127) l0_4.length c0_4] 25 (0, 0)) (by (with_reducible repeat (first | refine blk_drewN ?_ _ | refine blk_drew ?_ | refine blk_alloc ?_ _)); exact BK117.out) hb); have n2_ := Aside0.mk (blk_below (g := gb128) (o := .cells #[.int .i64 ((rd_T25 l0_4 x73_3).f0), .string ((rd_T25 l0_4 x73_3).f1), .string ((rd_T25 l0_4 x73_3).f2), .slice A127_3 ((rd_T25 l0_4 x73_3).f3).length c127_3, .slice A127_4 ((rd_T25 l0_4 x73_3).f4).length c127_4] 25 (0, 0)) (by (with_reducible repeat (first | refine blk_drewN ?_ _ | refine blk_drew ?_ | refine blk_alloc ?_ _)); exact BK128.out) hb); have n3_ := Aside0.mk (below_step (by repeat (first | (with_reducible first | exact HB.out | apply below_alloc | apply pw_below_drewN | apply below_drew1 | refine below_set ?_ GE117.out | refine below_set ?_ GE128.out) | exact HB.out)) hb); clear HO131; clear BK117; clear BK128; clear HB; have HO131 := n0_; have BK117 := n1_; have BK128 := n2_; have HB := n3_; clear n0_ n1_ n2_ n3_; (try clear hb); (try clear hb2); (try clear hk); (try clear hi)))
                              go_ret
                              exact ⟨by first | rfl | (simp [errW_none, errW_some] <;> rfl) | (simp [*, errW_none, errW_some] <;> rfl), by repeat (first | (with_reducible first | exact HB.out | apply below_alloc | apply pw_below_drewN | apply below_drew1 | refine below_set ?_ GE117.out | refine below_set ?_ GE128.out) | exact HB.out)⟩
                        · rw [if_neg c50] at H
                          exact absurd H (by simp)
                      · rw [if_neg c49] at H
                        exact absurd H (by simp)
                    · rw [if_neg c48] at H
                      have c48b0 : decide (x73_3 < (l0_4.length : Int)) = false := decide_eq_false c48
                      clear c48
                      obtain rfl := Option.some.inj H
                      go_wp2
                      go_ret
                      exact ⟨by first | rfl | (simp [errW_none, errW_some] <;> rfl) | (simp [*, errW_none, errW_some] <;> rfl), by repeat (first | (with_reducible first | exact HB.out | apply below_alloc | apply pw_below_drewN | apply below_drew1 | refine below_set ?_ GE117.out) | exact HB.out)⟩
        · rw [if_neg c10] at H
          have c10b0 : (a0_0 == 0) = false := beq_eq_false_iff_ne.mpr c10
          have c10b1 : (a0_0 != 0) = true := bne_iff_ne.mpr c10
          by_cases c80 : (wrap64 ((l0_4.length : Int) + (l0_3.length : Int))) = 0
          · rw [if_pos c80] at H
            have c80b0 : ((wrap64 ((l0_4.length : Int) + (l0_3.length : Int))) == 0) = true := beq_iff_eq.mpr c80
            have c80b1 : ((wrap64 ((l0_4.length : Int) + (l0_3.length : Int))) != 0) = false := bne_eq_false_iff_eq.mpr c80
            clear c80
            by_cases c81 : a0_1.toList = ([] : List UInt8)
            · rw [if_pos c81] at H
              have c81b0 : (a0_1.toList == ([] : List UInt8)) = true := beq_iff_eq.mpr c81
              have c81b1 : (a0_1.toList != ([] : List UInt8)) = false := bne_eq_false_iff_eq.mpr c81
              clear c81
              by_cases c82 : a0_2.toList = ([] : List UInt8)
              · rw [if_pos c82] at H
                have c82b0 : (a0_2.toList == ([] : List UInt8)) = true := beq_iff_eq.mpr c82
                have c82b1 : (a0_2.toList != ([] : List UInt8)) = false := bne_eq_false_iff_eq.mpr c82
                clear c82
                obtain rfl := Option.some.inj H
                have hcz83_0 : wc.cell? ⟨gb117, 0, none⟩ = some (.int .i64 a0_0) := (blk_cell BK117.out 0).trans rfl
                have hcz83_1 : wc.cell? ⟨gb117, 1, none⟩ = some (.string a0_1) := (blk_cell BK117.out 1).trans rfl
                have hcz83_2 : wc.cell? ⟨gb117, 2, none⟩ = some (.string a0_2) := (blk_cell BK117.out 2).trans rfl
                have hcz83_3 : wc.cell? ⟨gb117, 3, none⟩ = some (.slice A0_3 l0_3.length c0_3) := (blk_cell BK117.out 3).trans rfl
                have hcz83_4 : wc.cell? ⟨gb117, 4, none⟩ = some (.slice A0_4 l0_4.length c0_4) := (blk_cell BK117.out 4).trans rfl
                have hfz83_0 := blk_frozen BK117.out 0
                have hfz83_1 := blk_frozen BK117.out 1
                have hfz83_2 := blk_frozen BK117.out 2
                have hfz83_3 := blk_frozen BK117.out 3
                have hfz83_4 := blk_frozen BK117.out 4
                go_wp2
                go_ret
                exact ⟨by first | rfl | (simp [errW_none, errW_some] <;> rfl) | (simp [*, errW_none, errW_some] <;> rfl), by repeat (first | (with_reducible first | exact HB.out | apply below_alloc | apply pw_below_drewN | apply below_drew1 | refine below_set ?_ GE117.out) | exact HB.out)⟩
              · rw [if_neg c82] at H
                have c82b0 : (a0_2.toList == ([] : List UInt8)) = false := beq_eq_false_iff_ne.mpr c82
                have c82b1 : (a0_2.toList != ([] : List UInt8)) = true := bne_iff_ne.mpr c82
                by_cases c84 : a0_0 = 2
                · rw [if_pos c84] at H
                  have c84b0 : (a0_0 == 2) = true := beq_iff_eq.mpr c84
                  have c84b1 : (a0_0 != 2) = false := bne_eq_false_iff_eq.mpr c84
                  clear c84
                  obtain rfl := Option.some.inj H
                  have hcz85_0 : wc.cell? ⟨gb117, 0, none⟩ = some (.int .i64 a0_0) := (blk_cell BK117.out 0).trans rfl
                  have hcz85_1 : wc.cell? ⟨gb117, 1, none⟩ = some (.string a0_1) := (blk_cell BK117.out 1).trans rfl
                  have hcz85_2 : wc.cell? ⟨gb117, 2, none⟩ = some (.string a0_2) := (blk_cell BK117.out 2).trans rfl
                  have hcz85_3 : wc.cell? ⟨gb117, 3, none⟩ = some (.slice A0_3 l0_3.length c0_3) := (blk_cell BK117.out 3).trans rfl
                  have hcz85_4 : wc.cell? ⟨gb117, 4, none⟩ = some (.slice A0_4 l0_4.length c0_4) := (blk_cell BK117.out 4).trans rfl
                  have hfz85_0 := blk_frozen BK117.out 0
                  have hfz85_1 := blk_frozen BK117.out 1
                  have hfz85_2 := blk_frozen BK117.out 2
                  have hfz85_3 := blk_frozen BK117.out 3
                  have hfz85_4 := blk_frozen BK117.out 4
                  go_wp2
                  go_ret
                  exact ⟨by first | rfl | (simp [errW_none, errW_some] <;> rfl) | (simp [*, errW_none, errW_some] <;> rfl), by repeat (first | (with_reducible first | exact HB.out | apply below_alloc | apply pw_below_drewN | apply below_drew1 | refine below_set ?_ GE117.out) | exact HB.out)⟩
                · rw [if_neg c84] at H
                  have c84b0 : (a0_0 == 2) = false := beq_eq_false_iff_ne.mpr c84
                  have c84b1 : (a0_0 != 2) = true := bne_iff_ne.mpr c84
                  replace H := Option.bind_eq_some_iff.mp H
                  obtain ⟨t118, A860, H⟩ := H
                  replace H : (some t118) = some r := H
                  have A86 := Aside0.mk A860
                  clear A860
                  obtain rfl := Option.some.inj H
                  have hcz87_0 : wc.cell? ⟨gb117, 0, none⟩ = some (.int .i64 a0_0) := (blk_cell BK117.out 0).trans rfl
                  have hcz87_1 : wc.cell? ⟨gb117, 1, none⟩ = some (.string a0_1) := (blk_cell BK117.out 1).trans rfl
                  have hcz87_2 : wc.cell? ⟨gb117, 2, none⟩ = some (.string a0_2) := (blk_cell BK117.out 2).trans rfl
                  have hcz87_3 : wc.cell? ⟨gb117, 3, none⟩ = some (.slice A0_3 l0_3.length c0_3) := (blk_cell BK117.out 3).trans rfl
                  have hcz87_4 : wc.cell? ⟨gb117, 4, none⟩ = some (.slice A0_4 l0_4.length c0_4) := (blk_cell BK117.out 4).trans rfl
                  have hfz87_0 := blk_frozen BK117.out 0
                  have hfz87_1 := blk_frozen BK117.out 1
                  have hfz87_2 := blk_frozen BK117.out 2
                  have hfz87_3 := blk_frozen BK117.out 3
                  have hfz87_4 := blk_frozen BK117.out 4
                  go_wp2_with (first | (go_at_call 37; (with_reducible refine (spec_solid.calls kj2 a0_0 a0_1 a0_2 _ _ l0_3 _ _ l0_4 t118 _ ?side1 ?side2 ?side3 ?side4 A86.out).mono ?_); (case side1 => repeat (first | exact (Kd.C_below HR0_3.out HB.out) | (with_reducible refine Kd.C_alloc ?_ _) | (with_reducible refine Kd.C_drewN ?_ _) | (with_reducible refine Kd.C_drew ?_))); (case side2 => exact HC0_3.out); (case side3 => repeat (first | exact (Kd.C_below HR0_4.out HB.out) | (with_reducible refine Kd.C_alloc ?_ _) | (with_reducible refine Kd.C_drewN ?_ _) | (with_reducible refine Kd.C_drew ?_))); (case side4 => exact HC0_4.out); rintro e w88 ⟨rfl, hb⟩; have n0_ := Aside0.mk (blk_below (g := gb117) (o := .cells #[.int .i64 a0_0, .string a0_1, .string a0_2, .slice A0_3 l0_3.length c0_3, .slice A0_4 l0_4.length c0_4] 25 (0, 0)) (by (with_reducible repeat (first | refine blk_drewN ?_ _ | refine blk_drew ?_ | refine blk_alloc ?_ _)); exact BK117.out) hb); have n1_ := Aside0.mk (below_step (by repeat (first | (with_reducible first | exact HB.out | apply below_alloc | apply pw_below_drewN | apply below_drew1 | refine below_set ?_ GE117.out) | exact HB.out)) hb); clear BK117; clear HB; have BK117 := n0_; have HB := n1_; clear n0_ n1_; (try clear hb); (try clear hb2); (try clear hk); (try clear hi)))
                  go_ret
                  exact ⟨by first | rfl | (simp [errW_none, errW_some] <;> rfl) | (simp [*, errW_none, errW_some] <;> rfl), by repeat (first | (with_reducible first | exact HB.out | apply below_alloc | apply pw_below_drewN | apply below_drew1 | refine below_set ?_ GE117.out) | exact HB.out)⟩
            · rw [if_neg c81] at H
              have c81b0 : (a0_1.toList == ([] : List UInt8)) = false := beq_eq_false_iff_ne.mpr c81
              have c81b1 : (a0_1.toList != ([] : List UInt8)) = true := bne_iff_ne.mpr c81
              obtain rfl := Option.some.inj H
              have hcz89_0 : wc.cell? ⟨gb117, 0, none⟩ = some (.int .i64 a0_0) := (blk_cell BK117.out 0).trans rfl
              have hcz89_1 : wc.cell? ⟨gb117, 1, none⟩ = some (.string a0_1) := (blk_cell BK117.out 1).trans rfl
              have hcz89_2 : wc.cell? ⟨gb117, 2, none⟩ = some (.string a0_2) := (blk_cell BK117.out 2).trans rfl
              have hcz89_3 : wc.cell? ⟨gb117, 3, none⟩ = some (.slice A0_3 l0_3.length c0_3) := (blk_cell BK117.out 3).trans rfl
              have hcz89_4 : wc.cell? ⟨gb117, 4, none⟩ = some (.slice A0_4 l0_4.length c0_4) := (blk_cell BK117.out 4).trans rfl
              have hfz89_0 := blk_frozen BK117.out 0
              have hfz89_1 := blk_frozen BK117.out 1
              have hfz89_2 := blk_frozen BK117.out 2
              have hfz89_3 := blk_frozen BK117.out 3
              have hfz89_4 := blk_frozen BK117.out 4
              go_wp2
              go_ret
              exact ⟨by first | rfl | (simp [errW_none, errW_some] <;> rfl) | (simp [*, errW_none, errW_some] <;> rfl), by repeat (first | (with_reducible first | exact HB.out | apply below_alloc | apply pw_below_drewN | apply below_drew1 | refine below_set ?_ GE117.out) | exact HB.out)⟩
          · rw [if_neg c80] at H
            have c80b0 : ((wrap64 ((l0_4.length : Int) + (l0_3.length : Int))) == 0) = false := beq_eq_false_iff_ne.mpr c80
            have c80b1 : ((wrap64 ((l0_4.length : Int) + (l0_3.length : Int))) != 0) = true := bne_iff_ne.mpr c80
            obtain rfl := Option.some.inj H
            have hcz90_0 : wc.cell? ⟨gb117, 0, none⟩ = some (.int .i64 a0_0) := (blk_cell BK117.out 0).trans rfl
            have hcz90_1 : wc.cell? ⟨gb117, 1, none⟩ = some (.string a0_1) := (blk_cell BK117.out 1).trans rfl
            have hcz90_2 : wc.cell? ⟨gb117, 2, none⟩ = some (.string a0_2) := (blk_cell BK117.out 2).trans rfl
            have hcz90_3 : wc.cell? ⟨gb117, 3, none⟩ = some (.slice A0_3 l0_3.length c0_3) := (blk_cell BK117.out 3).trans rfl
            have hcz90_4 : wc.cell? ⟨gb117, 4, none⟩ = some (.slice A0_4 l0_4.length c0_4) := (blk_cell BK117.out 4).trans rfl
            have hfz90_0 := blk_frozen BK117.out 0
            have hfz90_1 := blk_frozen BK117.out 1
            have hfz90_2 := blk_frozen BK117.out 2
            have hfz90_3 := blk_frozen BK117.out 3
            have hfz90_4 := blk_frozen BK117.out 4
            go_wp2
            go_ret
            exact ⟨by first | rfl | (simp [errW_none, errW_some] <;> rfl) | (simp [*, errW_none, errW_some] <;> rfl), by repeat (first | (with_reducible first | exact HB.out | apply below_alloc | apply pw_below_drewN | apply below_drew1 | refine below_set ?_ GE117.out) | exact HB.out)⟩

end Go.Proofs.YtlallihdiffheaaDoor.GT
