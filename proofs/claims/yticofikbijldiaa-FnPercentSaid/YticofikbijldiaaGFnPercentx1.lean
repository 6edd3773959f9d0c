-- made by a program of this session, after the kit's print
import Derived.Test.YticofikbijldiaaGFnPercentx0
import Derived.Test.YticofikbijldiaaGivFnPercent
namespace Go.Proofs.Yticofikbijldiaa.GFnPercent
open Go.RowKit Go.Proofs.YticofikbijldiaaW.PrintWords Go.Proofs.YticofikbijldiaaW.PrintLast Go.Proofs.YticofikbijldiaaW.PrintMore
attribute [local go_sem] max2_int min2_int max_two min_two max_three min_three max_four min_four   -- for this text's walks alone
set_option linter.unusedVariables false
set_option linter.unusedSimpArgs false

/-! ### laws_inlineASCII: function 32 -/
def laws_inlineASCII.l0 : Nat → ByteArray → List Int → Int → Int → Option (ByteArray)
  | 0, _, _, _, _ => none
  | k + 1, x0, x3, x9, x10 => if x10 < x9 then (if 0 ≤ x10 then (if x10 < (x0.size : Int) then (if (bt x0 x10) ≥ 32 then (if (bt x0 x10) ≤ 126 then (if x3.length < 140737488355328 then (laws_inlineASCII.l0 k x0 (x3 ++ [bt x0 x10]) x9 (wrap64 (x10 + 1))) else (none)) else (if (bt x0 x10) = 9 then (if x3.length < 140737488355328 then (laws_inlineASCII.l0 k x0 (x3 ++ [bt x0 x10]) x9 (wrap64 (x10 + 1))) else (none)) else (if (bt x0 x10) = 10 then (if x3.length < 140737488355328 then (laws_inlineASCII.l0 k x0 (x3 ++ [bt x0 x10]) x9 (wrap64 (x10 + 1))) else (none)) else (laws_inlineASCII.l0 k x0 x3 x9 (wrap64 (x10 + 1)))))) else (if (bt x0 x10) = 9 then (if x3.length < 140737488355328 then (laws_inlineASCII.l0 k x0 (x3 ++ [bt x0 x10]) x9 (wrap64 (x10 + 1))) else (none)) else (if (bt x0 x10) = 10 then (if x3.length < 140737488355328 then (laws_inlineASCII.l0 k x0 (x3 ++ [bt x0 x10]) x9 (wrap64 (x10 + 1))) else (none)) else (laws_inlineASCII.l0 k x0 x3 x9 (wrap64 (x10 + 1)))))) else (none)) else (none)) else (some (strOfNums x3))
def laws_inlineASCII.f (k : Nat) (a0 : ByteArray) : Option (ByteArray) := laws_inlineASCII.l0 k a0 (([] : List Int)) (mn (a0.size : Int) 300) 0
theorem laws_inlineASCII.mono_l : ∀ k, (∀ y0 y1 y2 y3, LeO (laws_inlineASCII.l0 k y0 y1 y2 y3) (laws_inlineASCII.l0 (k + 1) y0 y1 y2 y3))
  | 0 => fun _ _ _ _ r h => by simp [laws_inlineASCII.l0] at h
  | k + 1 => by
    have ih0 := laws_inlineASCII.mono_l k
    · intro y0 y1 y2 y3
      unfold laws_inlineASCII.l0
      repeat' first
      | (with_reducible exact ih0 _ _ _ _)
      | (with_reducible exact LeO.refl _)
      | (with_reducible exact LeO.none _)
      | (with_reducible refine LeO.ite ?_ ?_)
      | (with_reducible refine LeO.bind ?_ (fun _ => ?_))
      | exact ih0 _ _ _ _
      | exact LeO.none _
      | refine LeO.ite ?_ ?_
      | refine LeO.bind ?_ (fun _ => ?_)
theorem laws_inlineASCII.mono : ∀ a0 k, LeO (laws_inlineASCII.f k a0) (laws_inlineASCII.f (k + 1) a0) := by
  intro a0 k
  have ih0 := laws_inlineASCII.mono_l k
  unfold laws_inlineASCII.f
  repeat' first
      | (with_reducible exact ih0 _ _ _ _)
      | (with_reducible exact LeO.refl _)
      | (with_reducible exact LeO.none _)
      | (with_reducible refine LeO.ite ?_ ?_)
      | (with_reducible refine LeO.bind ?_ (fun _ => ?_))
      | exact ih0 _ _ _ _
      | exact LeO.none _
      | refine LeO.ite ?_ ?_
      | refine LeO.bind ?_ (fun _ => ?_)
set_option maxHeartbeats 8000000 in
set_option maxRecDepth 100000 in
theorem laws_inlineASCII.calls (k : Nat) (a0 : ByteArray) (r : ByteArray) (w : World) (h : laws_inlineASCII.f k a0 = some r) :
    Calls Try.prog 32 #[.string a0] w fun e w' => e = .returned (.string r) ∧ Below w.heap.size w w' := by
  have HB := Aside0.mk (Below.refl w.heap.size w)
  have H : (laws_inlineASCII.l0 k a0 (([] : List Int)) (mn (a0.size : Int) 300) 0) = some r := h
  clear h
  obtain ⟨y101, hy101⟩ : ∃ y_ : List Int, y_ = (([] : List Int)) := ⟨_, rfl⟩
  replace H : (laws_inlineASCII.l0 k a0 y101 (mn (a0.size : Int) 300) 0) = some r := by first | (rw [hy101]; with_reducible exact H) | (have H2_ := (Option.bind_some _ _).symm.trans H; rw [hy101]; with_reducible exact H2_) | (have H2_ := (Option.bind_some _ _).symm.trans H; with_reducible exact H2_) | with_reducible exact H | (rw [hy101]; exact H) | exact H
  have Ny101 := Aside0.mk hy101
  clear hy101
  obtain ⟨ji2, hji2⟩ : ∃ j_ : Int, (mn (a0.size : Int) 300) = j_ := ⟨_, rfl⟩
  replace H : (laws_inlineASCII.l0 k a0 y101 ji2 0) = some r := by first | (rw [hji2] at H; exact H) | (simp only [hji2] at H ⊢; exact H)
  (try (have hji2h : ji2 ≤ 300 := by (rw [← hji2]; unfold mn; (repeat' split) <;> omega)))
  (try (have hji2g : ji2 ≤ 64 := by omega))
  (try (have hji2l : 0 ≤ ji2 := by (rw [← hji2]; unfold mn; (repeat' split) <;> omega)))
  (try (have hji2m : 0 ≤ ji2 := by omega))
  have hji2_ : (if 300 < (a0.size : Int) then 300 else (a0.size : Int)) = ji2 := hji2
  have H' := Aside0.mk H
  clear H
  go_enter Try.func32, Try.ntmps32
  go_wp2_with (first | ((with_reducible refine gate_dst (N := 6) rfl ?_); refine Kd.R_lit (Kd.int .u8) _ 5 ?hg (N := 6) ?hd (xs := ([] : List Int)) (inner := []) (ok := fun _ => True) (okp := fun _ => True) ?hr ?hp (fun _ hk => hk) trivial (Below.refl _ _) (Nat.le_refl _) (by simp) ?_; (case hd => rfl); (case hg => rfl); (case hr => first | (go_simp; done) | (go_simp; rfl)); (case hp => exact (Reps.none _ _)); intro v102 w3 ho4 hb hg_ hnew_; clear hg_ hnew_; (first | rw [← Ny101.out] at ho4 | (simp only [Int.reduceToNat] at ho4; rw [← Ny101.out] at ho4)); have n0_ := Aside0.mk (Kd.R_lower ho4 (below_size (by repeat (first | (with_reducible first | exact HB.out | apply below_alloc | apply pw_below_drewN | apply below_drew1) | exact HB.out)))); have n1_ := Aside0.mk (below_step (by repeat (first | (with_reducible first | exact HB.out | apply below_alloc | apply pw_below_drewN | apply below_drew1) | exact HB.out)) hb); clear HB; have HO103 := n0_; have HB := n1_; clear n0_ n1_; clear hb ho4))
  go_loopg [3, 10] k (fun kq v3 v10 w' => ∃ (x3_1 : List Int) (x10_1 : Int), v10 = .int .i64 x10_1 ∧ Aside0 (laws_inlineASCII.l0 kq a0 x3_1 ji2 x10_1 = some r) ∧ Aside0 (kq ≤ k) ∧ Aside0 (Kd.R (Kd.int .u8) 5 w' w.heap.size (fun _ => True) v3 x3_1) ∧ Aside0 (Below w.heap.size w w'))
  case atStart => exact ⟨(y101), (0), (by first | rfl | (simp; done) | (simp [*]; done)), H', ⟨Nat.le_refl _⟩, ⟨by (with_reducible repeat (first | apply Kd.R_alloc | apply Kd.R_drewN | apply Kd.R_drew)); exact HO103.out⟩, ⟨by repeat (first | (with_reducible first | exact HB.out | apply below_alloc | apply pw_below_drewN | apply below_drew1) | exact HB.out)⟩⟩
  case round =>
    clear H'
    try clear p2
    try clear c3
    obtain ⟨x3_1, x10_1, rfl, HA, HK1, HO_3, HB⟩ := hrel
    cases gk with
    | zero => exact absurd HA.out (by simp [laws_inlineASCII.l0])
    | succ k1 =>
      have H := HA.out
      clear HA
      simp only [laws_inlineASCII.l0] at H
      by_cases c5 : x10_1 < ji2
      · rw [if_pos c5] at H
        have c5b0 : decide (x10_1 < ji2) = true := decide_eq_true c5
        clear c5
        by_cases c6 : 0 ≤ x10_1
        · rw [if_pos c6] at H
          have c6b0 : decide (0 ≤ x10_1) = true := decide_eq_true c6
          clear c6
          by_cases c7 : x10_1 < (a0.size : Int)
          · rw [if_pos c7] at H
            have c7b0 : decide (x10_1 < (a0.size : Int)) = true := decide_eq_true c7
            clear c7
            by_cases c9 : (bt a0 x10_1) ≥ 32
            · rw [if_pos c9] at H
              have c9b0 : decide (32 ≤ (bt a0 x10_1)) = true := decide_eq_true c9
              clear c9
              by_cases c10 : (bt a0 x10_1) ≤ 126
              · rw [if_pos c10] at H
                have c10b0 : decide ((bt a0 x10_1) ≤ 126) = true := decide_eq_true c10
                clear c10
                by_cases c11 : x3_1.length < 140737488355328
                · rw [if_pos c11] at H
                  have LMc11 := Aside0.mk c11
                  clear c11
                  obtain ⟨y104, hy104⟩ : ∃ y_ : List Int, y_ = (x3_1 ++ [bt a0 x10_1]) := ⟨_, rfl⟩
                  replace H : (laws_inlineASCII.l0 k1 a0 y104 ji2 (wrap64 (x10_1 + 1))) = some r := by first | (rw [hy104]; with_reducible exact H) | (have H2_ := (Option.bind_some _ _).symm.trans H; rw [hy104]; with_reducible exact H2_) | (have H2_ := (Option.bind_some _ _).symm.trans H; with_reducible exact H2_) | with_reducible exact H | (rw [hy104]; exact H) | exact H
                  have Ny104 := Aside0.mk hy104
                  clear hy104
                  have H' := Aside0.mk H
                  clear H
                  have p8 : 0 ≤ (x10_1 : Int) := of_decide_eq_true (by first | (with_reducible assumption) | assumption)
                  have q8 : x10_1 < (a0.size : Int) := of_decide_eq_true (by first | (with_reducible assumption) | assumption)
                  have hx8 := bt_at a0 x10_1
                  replace p8 := eq_true p8
                  replace q8 := eq_true q8
                  go_wp2_with (first | ((with_reducible refine gate_builtin (b := .append) (xs := #[.tmp 30, .tmp 32]) rfl ?_); at_builtin; refine Kd.R_append (Kd.int .u8) (w0 := w) w.heap.size rfl (.tmp 30) (.tmp 32) 45 5 (.int .u8 0) 1 rfl Try.underlying45 info5 rfl (by decide) (by omega) u3 x3_1 (bt a0 x10_1) [.int .u8 (bt a0 x10_1)] (fun _ => True) (fun _ => False) rfl rfl ?aP (fun _ hk => hk.elim) ?aF ?aO ?aB ?aS ?aL ?_; (case aP => exact rfl); (case aB => exact (by repeat (first | (with_reducible first | exact HB.out | apply below_alloc | apply pw_below_drewN | apply below_drew1) | exact HB.out))); (case aF => exact (fun _ _ => trivial)); (case aO => exact (by (with_reducible repeat (first | apply Kd.R_alloc | apply Kd.R_drewN | apply Kd.R_drew)); exact HO_3.out)); (case aS => exact (below_size (by repeat (first | (with_reducible first | exact HB.out | apply below_alloc | apply pw_below_drewN | apply below_drew1) | exact HB.out)))); (case aL => have := LMc11.out; (first | omega | (simp only [ByteArray.size, List.size_toArray, List.length_cons, List.length_nil]; omega))); intro v105 w12 ho hb hg hat; rw [← Ny104.out] at ho; have n0_ := Aside0.mk (hb); have n1_ := Aside0.mk (ho); clear HB; clear HO_3; have HB := n0_; have HO106 := n1_; clear n0_ n1_; clear ho hb hg hat))
                  go_roundg k1
                  case measure => have := HK1.out; omega
                  case rel => exact ⟨(y104), (wrap64 (x10_1 + 1)), (by first | rfl | (simp; done) | (simp [*]; done)), H', ⟨by have := HK1.out; omega⟩, ⟨by (with_reducible repeat (first | apply Kd.R_alloc | apply Kd.R_drewN | apply Kd.R_drew)); exact HO106.out⟩, ⟨by repeat (first | (with_reducible first | exact HB.out | apply below_alloc | apply pw_below_drewN | apply below_drew1) | exact HB.out)⟩⟩
                · rw [if_neg c11] at H
                  exact absurd H (by simp)
              · rw [if_neg c10] at H
                have c10b0 : decide ((bt a0 x10_1) ≤ 126) = false := decide_eq_false c10
                clear c10
                by_cases c13 : (bt a0 x10_1) = 9
                · rw [if_pos c13] at H
                  have c13b0 : ((bt a0 x10_1) == 9) = true := beq_iff_eq.mpr c13
                  have c13b1 : ((bt a0 x10_1) != 9) = false := bne_eq_false_iff_eq.mpr c13
                  clear c13
                  by_cases c14 : x3_1.length < 140737488355328
                  · rw [if_pos c14] at H
                    have LMc14 := Aside0.mk c14
                    clear c14
                    obtain ⟨y107, hy107⟩ : ∃ y_ : List Int, y_ = (x3_1 ++ [bt a0 x10_1]) := ⟨_, rfl⟩
                    replace H : (laws_inlineASCII.l0 k1 a0 y107 ji2 (wrap64 (x10_1 + 1))) = some r := by first | (rw [hy107]; with_reducible exact H) | (have H2_ := (Option.bind_some _ _).symm.trans H; rw [hy107]; with_reducible exact H2_) | (have H2_ := (Option.bind_some _ _).symm.trans H; with_reducible exact H2_) | with_reducible exact H | (rw [hy107]; exact H) | exact H
                    have Ny107 := Aside0.mk hy107
                    clear hy107
                    have H' := Aside0.mk H
                    clear H
                    have p8 : 0 ≤ (x10_1 : Int) := of_decide_eq_true (by first | (with_reducible assumption) | assumption)
                    have q8 : x10_1 < (a0.size : Int) := of_decide_eq_true (by first | (with_reducible assumption) | assumption)
                    have hx8 := bt_at a0 x10_1
                    replace p8 := eq_true p8
                    replace q8 := eq_true q8
                    go_wp2_with (first | ((with_reducible refine gate_builtin (b := .append) (xs := #[.tmp 30, .tmp 32]) rfl ?_); at_builtin; refine Kd.R_append (Kd.int .u8) (w0 := w) w.heap.size rfl (.tmp 30) (.tmp 32) 45 5 (.int .u8 0) 1 rfl Try.underlying45 info5 rfl (by decide) (by omega) u3 x3_1 (bt a0 x10_1) [.int .u8 (bt a0 x10_1)] (fun _ => True) (fun _ => False) rfl rfl ?aP (fun _ hk => hk.elim) ?aF ?aO ?aB ?aS ?aL ?_; (case aP => exact rfl); (case aB => exact (by repeat (first | (with_reducible first | exact HB.out | apply below_alloc | apply pw_below_drewN | apply below_drew1) | exact HB.out))); (case aF => exact (fun _ _ => trivial)); (case aO => exact (by (with_reducible repeat (first | apply Kd.R_alloc | apply Kd.R_drewN | apply Kd.R_drew)); exact HO_3.out)); (case aS => exact (below_size (by repeat (first | (with_reducible first | exact HB.out | apply below_alloc | apply pw_below_drewN | apply below_drew1) | exact HB.out)))); (case aL => have := LMc14.out; (first | omega | (simp only [ByteArray.size, List.size_toArray, List.length_cons, List.length_nil]; omega))); intro v108 w15 ho hb hg hat; rw [← Ny107.out] at ho; have n0_ := Aside0.mk (hb); have n1_ := Aside0.mk (ho); clear HB; clear HO_3; have HB := n0_; have HO109 := n1_; clear n0_ n1_; clear ho hb hg hat))
                    go_roundg k1
                    case measure => have := HK1.out; omega
                    case rel => exact ⟨(y107), (wrap64 (x10_1 + 1)), (by first | rfl | (simp; done) | (simp [*]; done)), H', ⟨by have := HK1.out; omega⟩, ⟨by (with_reducible repeat (first | apply Kd.R_alloc | apply Kd.R_drewN | apply Kd.R_drew)); exact HO109.out⟩, ⟨by repeat (first | (with_reducible first | exact HB.out | apply below_alloc | apply pw_below_drewN | apply below_drew1) | exact HB.out)⟩⟩
                  · rw [if_neg c14] at H
                    exact absurd H (by simp)
                · rw [if_neg c13] at H
                  have c13b0 : ((bt a0 x10_1) == 9) = false := beq_eq_false_iff_ne.mpr c13
                  have c13b1 : ((bt a0 x10_1) != 9) = true := bne_iff_ne.mpr c13
                  by_cases c16 : (bt a0 x10_1) = 10
                  · rw [if_pos c16] at H
                    have c16b0 : ((bt a0 x10_1) == 10) = true := beq_iff_eq.mpr c16
                    have c16b1 : ((bt a0 x10_1) != 10) = false := bne_eq_false_iff_eq.mpr c16
                    clear c16
                    by_cases c17 : x3_1.length < 140737488355328
                    · rw [if_pos c17] at H
                      have LMc17 := Aside0.mk c17
                      clear c17
                      obtain ⟨y110, hy110⟩ : ∃ y_ : List Int, y_ = (x3_1 ++ [bt a0 x10_1]) := ⟨_, rfl⟩
                      replace H : (laws_inlineASCII.l0 k1 a0 y110 ji2 (wrap64 (x10_1 + 1))) = some r := by first | (rw [hy110]; with_reducible exact H) | (have H2_ := (Option.bind_some _ _).symm.trans H; rw [hy110]; with_reducible exact H2_) | (have H2_ := (Option.bind_some _ _).symm.trans H; with_reducible exact H2_) | with_reducible exact H | (rw [hy110]; exact H) | exact H
                      have Ny110 := Aside0.mk hy110
                      clear hy110
                      have H' := Aside0.mk H
                      clear H
                      have p8 : 0 ≤ (x10_1 : Int) := of_decide_eq_true (by first | (with_reducible assumption) | assumption)
                      have q8 : x10_1 < (a0.size : Int) := of_decide_eq_true (by first | (with_reducible assumption) | assumption)
                      have hx8 := bt_at a0 x10_1
                      replace p8 := eq_true p8
                      replace q8 := eq_true q8
                      go_wp2_with (first | ((with_reducible refine gate_builtin (b := .append) (xs := #[.tmp 30, .tmp 32]) rfl ?_); at_builtin; refine Kd.R_append (Kd.int .u8) (w0 := w) w.heap.size rfl (.tmp 30) (.tmp 32) 45 5 (.int .u8 0) 1 rfl Try.underlying45 info5 rfl (by decide) (by omega) u3 x3_1 (bt a0 x10_1) [.int .u8 (bt a0 x10_1)] (fun _ => True) (fun _ => False) rfl rfl ?aP (fun _ hk => hk.elim) ?aF ?aO ?aB ?aS ?aL ?_; (case aP => exact rfl); (case aB => exact (by repeat (first | (with_reducible first | exact HB.out | apply below_alloc | apply pw_below_drewN | apply below_drew1) | exact HB.out))); (case aF => exact (fun _ _ => trivial)); (case aO => exact (by (with_reducible repeat (first | apply Kd.R_alloc | apply Kd.R_drewN | apply Kd.R_drew)); exact HO_3.out)); (case aS => exact (below_size (by repeat (first | (with_reducible first | exact HB.out | apply below_alloc | apply pw_below_drewN | apply below_drew1) | exact HB.out)))); (case aL => have := LMc17.out; (first | omega | (simp only [ByteArray.size, List.size_toArray, List.length_cons, List.length_nil]; omega))); intro v111 w18 ho hb hg hat; rw [← Ny110.out] at ho; have n0_ := Aside0.mk (hb); have n1_ := Aside0.mk (ho); clear HB; clear HO_3; have HB := n0_; have HO112 := n1_; clear n0_ n1_; clear ho hb hg hat))
                      go_roundg k1
                      case measure => have := HK1.out; omega
                      case rel => exact ⟨(y110), (wrap64 (x10_1 + 1)), (by first | rfl | (simp; done) | (simp [*]; done)), H', ⟨by have := HK1.out; omega⟩, ⟨by (with_reducible repeat (first | apply Kd.R_alloc | apply Kd.R_drewN | apply Kd.R_drew)); exact HO112.out⟩, ⟨by repeat (first | (with_reducible first | exact HB.out | apply below_alloc | apply pw_below_drewN | apply below_drew1) | exact HB.out)⟩⟩
                    · rw [if_neg c17] at H
                      exact absurd H (by simp)
                  · rw [if_neg c16] at H
                    have c16b0 : ((bt a0 x10_1) == 10) = false := beq_eq_false_iff_ne.mpr c16
                    have c16b1 : ((bt a0 x10_1) != 10) = true := bne_iff_ne.mpr c16
                    have H' := Aside0.mk H
                    clear H
                    have p8 : 0 ≤ (x10_1 : Int) := of_decide_eq_true (by first | (with_reducible assumption) | assumption)
                    have q8 : x10_1 < (a0.size : Int) := of_decide_eq_true (by first | (with_reducible assumption) | assumption)
                    have hx8 := bt_at a0 x10_1
                    replace p8 := eq_true p8
                    replace q8 := eq_true q8
                    go_wp2
                    go_roundg k1
                    case measure => have := HK1.out; omega
                    case rel => exact ⟨(x3_1), (wrap64 (x10_1 + 1)), (by first | rfl | (simp; done) | (simp [*]; done)), H', ⟨by have := HK1.out; omega⟩, ⟨by (with_reducible repeat (first | apply Kd.R_alloc | apply Kd.R_drewN | apply Kd.R_drew)); exact HO_3.out⟩, ⟨by repeat (first | (with_reducible first | exact HB.out | apply below_alloc | apply pw_below_drewN | apply below_drew1) | exact HB.out)⟩⟩
            · rw [if_neg c9] at H
              have c9b0 : decide (32 ≤ (bt a0 x10_1)) = false := decide_eq_false c9
              clear c9
              by_cases c19 : (bt a0 x10_1) = 9
              · rw [if_pos c19] at H
                have c19b0 : ((bt a0 x10_1) == 9) = true := beq_iff_eq.mpr c19
                have c19b1 : ((bt a0 x10_1) != 9) = false := bne_eq_false_iff_eq.mpr c19
                clear c19
                by_cases c20 : x3_1.length < 140737488355328
                · rw [if_pos c20] at H
                  have LMc20 := Aside0.mk c20
                  clear c20
                  obtain ⟨y113, hy113⟩ : ∃ y_ : List Int, y_ = (x3_1 ++ [bt a0 x10_1]) := ⟨_, rfl⟩
                  replace H : (laws_inlineASCII.l0 k1 a0 y113 ji2 (wrap64 (x10_1 + 1))) = some r := by first | (rw [hy113]; with_reducible exact H) | (have H2_ := (Option.bind_some _ _).symm.trans H; rw [hy113]; with_reducible exact H2_) | (have H2_ := (Option.bind_some _ _).symm.trans H; with_reducible exact H2_) | with_reducible exact H | (rw [hy113]; exact H) | exact H
                  have Ny113 := Aside0.mk hy113
                  clear hy113
                  have H' := Aside0.mk H
                  clear H
                  have p8 : 0 ≤ (x10_1 : Int) := of_decide_eq_true (by first | (with_reducible assumption) | assumption)
                  have q8 : x10_1 < (a0.size : Int) := of_decide_eq_true (by first | (with_reducible assumption) | assumption)
                  have hx8 := bt_at a0 x10_1
                  replace p8 := eq_true p8
                  replace q8 := eq_true q8
                  go_wp2_with (first | ((with_reducible refine gate_builtin (b := .append) (xs := #[.tmp 30, .tmp 32]) rfl ?_); at_builtin; refine Kd.R_append (Kd.int .u8) (w0 := w) w.heap.size rfl (.tmp 30) (.tmp 32) 45 5 (.int .u8 0) 1 rfl Try.underlying45 info5 rfl (by decide) (by omega) u3 x3_1 (bt a0 x10_1) [.int .u8 (bt a0 x10_1)] (fun _ => True) (fun _ => False) rfl rfl ?aP (fun _ hk => hk.elim) ?aF ?aO ?aB ?aS ?aL ?_; (case aP => exact rfl); (case aB => exact (by repeat (first | (with_reducible first | exact HB.out | apply below_alloc | apply pw_below_drewN | apply below_drew1) | exact HB.out))); (case aF => exact (fun _ _ => trivial)); (case aO => exact (by (with_reducible repeat (first | apply Kd.R_alloc | apply Kd.R_drewN | apply Kd.R_drew)); exact HO_3.out)); (case aS => exact (below_size (by repeat (first | (with_reducible first | exact HB.out | apply below_alloc | apply pw_below_drewN | apply below_drew1) | exact HB.out)))); (case aL => have := LMc20.out; (first | omega | (simp only [ByteArray.size, List.size_toArray, List.length_cons, List.length_nil]; omega))); intro v114 w21 ho hb hg hat; rw [← Ny113.out] at ho; have n0_ := Aside0.mk (hb); have n1_ := Aside0.mk (ho); clear HB; clear HO_3; have HB := n0_; have HO115 := n1_; clear n0_ n1_; clear ho hb hg hat))
                  go_roundg k1
                  case measure => have := HK1.out; omega
                  case rel => exact ⟨(y113), (wrap64 (x10_1 + 1)), (by first | rfl | (simp; done) | (simp [*]; done)), H', ⟨by have := HK1.out; omega⟩, ⟨by (with_reducible repeat (first | apply Kd.R_alloc | apply Kd.R_drewN | apply Kd.R_drew)); exact HO115.out⟩, ⟨by repeat (first | (with_reducible first | exact HB.out | apply below_alloc | apply pw_below_drewN | apply below_drew1) | exact HB.out)⟩⟩
                · rw [if_neg c20] at H
                  exact absurd H (by simp)
              · rw [if_neg c19] at H
                have c19b0 : ((bt a0 x10_1) == 9) = false := beq_eq_false_iff_ne.mpr c19
                have c19b1 : ((bt a0 x10_1) != 9) = true := bne_iff_ne.mpr c19
                by_cases c22 : (bt a0 x10_1) = 10
                · rw [if_pos c22] at H
                  have c22b0 : ((bt a0 x10_1) == 10) = true := beq_iff_eq.mpr c22
                  have c22b1 : ((bt a0 x10_1) != 10) = false := bne_eq_false_iff_eq.mpr c22
                  clear c22
                  by_cases c23 : x3_1.length < 140737488355328
                  · rw [if_pos c23] at H
                    have LMc23 := Aside0.mk c23
                    clear c23
                    obtain ⟨y116, hy116⟩ : ∃ y_ : List Int, y_ = (x3_1 ++ [bt a0 x10_1]) := ⟨_, rfl⟩
                    replace H : (laws_inlineASCII.l0 k1 a0 y116 ji2 (wrap64 (x10_1 + 1))) = some r := by first | (rw [hy116]; with_reducible exact H) | (have H2_ := (Option.bind_some _ _).symm.trans H; rw [hy116]; with_reducible exact H2_) | (have H2_ := (Option.bind_some _ _).symm.trans H; with_reducible exact H2_) | with_reducible exact H | (rw [hy116]; exact H) | exact H
                    have Ny116 := Aside0.mk hy116
                    clear hy116
                    have H' := Aside0.mk H
                    clear H
                    have p8 : 0 ≤ (x10_1 : Int) := of_decide_eq_true (by first | (with_reducible assumption) | assumption)
                    have q8 : x10_1 < (a0.size : Int) := of_decide_eq_true (by first | (with_reducible assumption) | assumption)
                    have hx8 := bt_at a0 x10_1
                    replace p8 := eq_true p8
                    replace q8 := eq_true q8
                    go_wp2_with (first | ((with_reducible refine gate_builtin (b := .append) (xs := #[.tmp 30, .tmp 32]) rfl ?_); at_builtin; refine Kd.R_append (Kd.int .u8) (w0 := w) w.heap.size rfl (.tmp 30) (.tmp 32) 45 5 (.int .u8 0) 1 rfl Try.underlying45 info5 rfl (by decide) (by omega) u3 x3_1 (bt a0 x10_1) [.int .u8 (bt a0 x10_1)] (fun _ => True) (fun _ => False) rfl rfl ?aP (fun _ hk => hk.elim) ?aF ?aO ?aB ?aS ?aL ?_; (case aP => exact rfl); (case aB => exact (by repeat (first | (with_reducible first | exact HB.out | apply below_alloc | apply pw_below_drewN | apply below_drew1) | exact HB.out))); (case aF => exact (fun _ _ => trivial)); (case aO => exact (by (with_reducible repeat (first | apply Kd.R_alloc | apply Kd.R_drewN | apply Kd.R_drew)); exact HO_3.out)); (case aS => exact (below_size (by repeat (first | (with_reducible first | exact HB.out | apply below_alloc | apply pw_below_drewN | apply below_drew1) | exact HB.out)))); (case aL => have := LMc23.out; (first | omega | (simp only [ByteArray.size, List.size_toArray, List.length_cons, List.length_nil]; omega))); intro v117 w24 ho hb hg hat; rw [← Ny116.out] at ho; have n0_ := Aside0.mk (hb); have n1_ := Aside0.mk (ho); clear HB; clear HO_3; have HB := n0_; have HO118 := n1_; clear n0_ n1_; clear ho hb hg hat))
                    go_roundg k1
                    case measure => have := HK1.out; omega
                    case rel => exact ⟨(y116), (wrap64 (x10_1 + 1)), (by first | rfl | (simp; done) | (simp [*]; done)), H', ⟨by have := HK1.out; omega⟩, ⟨by (with_reducible repeat (first | apply Kd.R_alloc | apply Kd.R_drewN | apply Kd.R_drew)); exact HO118.out⟩, ⟨by repeat (first | (with_reducible first | exact HB.out | apply below_alloc | apply pw_below_drewN | apply below_drew1) | exact HB.out)⟩⟩
                  · rw [if_neg c23] at H
                    exact absurd H (by simp)
                · rw [if_neg c22] at H
                  have c22b0 : ((bt a0 x10_1) == 10) = false := beq_eq_false_iff_ne.mpr c22
                  have c22b1 : ((bt a0 x10_1) != 10) = true := bne_iff_ne.mpr c22
                  have H' := Aside0.mk H
                  clear H
                  have p8 : 0 ≤ (x10_1 : Int) := of_decide_eq_true (by first | (with_reducible assumption) | assumption)
                  have q8 : x10_1 < (a0.size : Int) := of_decide_eq_true (by first | (with_reducible assumption) | assumption)
                  have hx8 := bt_at a0 x10_1
                  replace p8 := eq_true p8
                  replace q8 := eq_true q8
                  go_wp2
                  go_roundg k1
                  case measure => have := HK1.out; omega
                  case rel => exact ⟨(x3_1), (wrap64 (x10_1 + 1)), (by first | rfl | (simp; done) | (simp [*]; done)), H', ⟨by have := HK1.out; omega⟩, ⟨by (with_reducible repeat (first | apply Kd.R_alloc | apply Kd.R_drewN | apply Kd.R_drew)); exact HO_3.out⟩, ⟨by repeat (first | (with_reducible first | exact HB.out | apply below_alloc | apply pw_below_drewN | apply below_drew1) | exact HB.out)⟩⟩
          · rw [if_neg c7] at H
            exact absurd H (by simp)
        · rw [if_neg c6] at H
          exact absurd H (by simp)
      · rw [if_neg c5] at H
        have c5b0 : decide (x10_1 < ji2) = false := decide_eq_false c5
        clear c5
        obtain rfl := Option.some.inj H
        have hcv25 := own_string (P := Try.prog) Try.underlying45 Try.underlying5 Try.underlying9 (Kd.own_of_R HO_3.out)
        go_wp2
        go_ret
        exact ⟨by first | rfl | (simp [errW_none, errW_some] <;> rfl) | (simp only [← hji2]; first | rfl | (simp [errW_none, errW_some] <;> rfl)) | (simp [*, errW_none, errW_some] <;> rfl), by repeat (first | (with_reducible first | exact HB.out | apply below_alloc | apply pw_below_drewN | apply below_drew1) | exact HB.out)⟩

-- GIVEN: function 38 (laws_inlineLives)

/-! ### converter_zzPercent: function 82 -/
def converter_zzPercent.l0 : Nat → ByteArray → List Int → Int → Option (ByteArray)
  | 0, _, _, _ => none
  | k + 1, x0, x3, x4 => if x4 < (x0.size : Int) then (if 0 ≤ x4 then (if (bt x0 x4) = 32 then (if x3.length + 3 < 140737488355328 then (converter_zzPercent.l0 k x0 (x3 ++ bytesOf (⟨#[37, 50, 48]⟩ : ByteArray)) (wrap64 (x4 + 1))) else (none)) else (if (bt x0 x4) = 91 then (if x3.length + 3 < 140737488355328 then (converter_zzPercent.l0 k x0 (x3 ++ bytesOf (⟨#[37, 53, 66]⟩ : ByteArray)) (wrap64 (x4 + 1))) else (none)) else (if (bt x0 x4) = 93 then (if x3.length + 3 < 140737488355328 then (converter_zzPercent.l0 k x0 (x3 ++ bytesOf (⟨#[37, 53, 68]⟩ : ByteArray)) (wrap64 (x4 + 1))) else (none)) else (if (bt x0 x4) = 40 then (if x3.length + 3 < 140737488355328 then (converter_zzPercent.l0 k x0 (x3 ++ bytesOf (⟨#[37, 50, 56]⟩ : ByteArray)) (wrap64 (x4 + 1))) else (none)) else (if (bt x0 x4) = 41 then (if x3.length + 3 < 140737488355328 then (converter_zzPercent.l0 k x0 (x3 ++ bytesOf (⟨#[37, 50, 57]⟩ : ByteArray)) (wrap64 (x4 + 1))) else (none)) else (if (bt x0 x4) = 60 then (if x3.length + 3 < 140737488355328 then (converter_zzPercent.l0 k x0 (x3 ++ bytesOf (⟨#[37, 51, 67]⟩ : ByteArray)) (wrap64 (x4 + 1))) else (none)) else (if (bt x0 x4) = 62 then (if x3.length + 3 < 140737488355328 then (converter_zzPercent.l0 k x0 (x3 ++ bytesOf (⟨#[37, 51, 69]⟩ : ByteArray)) (wrap64 (x4 + 1))) else (none)) else (if x3.length < 140737488355328 then (converter_zzPercent.l0 k x0 (x3 ++ [bt x0 x4]) (wrap64 (x4 + 1))) else (none))))))))) else (none)) else (some (strOfNums x3))
def converter_zzPercent.f (k : Nat) (a0 : ByteArray) : Option (ByteArray) := if 0 ≤ (a0.size : Int) then (if ((a0.size : Int) : Int).toNat ≤ 281474976710656 then (converter_zzPercent.l0 k a0 (List.replicate 0 0) 0) else (none)) else (none)
theorem converter_zzPercent.mono_l : ∀ k, (∀ y0 y1 y2, LeO (converter_zzPercent.l0 k y0 y1 y2) (converter_zzPercent.l0 (k + 1) y0 y1 y2))
  | 0 => fun _ _ _ r h => by simp [converter_zzPercent.l0] at h
  | k + 1 => by
    have ih0 := converter_zzPercent.mono_l k
    · intro y0 y1 y2
      unfold converter_zzPercent.l0
      repeat' first
      | (with_reducible exact ih0 _ _ _)
      | (with_reducible exact LeO.refl _)
      | (with_reducible exact LeO.none _)
      | (with_reducible refine LeO.ite ?_ ?_)
      | (with_reducible refine LeO.bind ?_ (fun _ => ?_))
      | exact ih0 _ _ _
      | exact LeO.none _
      | refine LeO.ite ?_ ?_
      | refine LeO.bind ?_ (fun _ => ?_)
theorem converter_zzPercent.mono : ∀ a0 k, LeO (converter_zzPercent.f k a0) (converter_zzPercent.f (k + 1) a0) := by
  intro a0 k
  have ih0 := converter_zzPercent.mono_l k
  unfold converter_zzPercent.f
  repeat' first
      | (with_reducible exact ih0 _ _ _)
      | (with_reducible exact LeO.refl _)
      | (with_reducible exact LeO.none _)
      | (with_reducible refine LeO.ite ?_ ?_)
      | (with_reducible refine LeO.bind ?_ (fun _ => ?_))
      | exact ih0 _ _ _
      | exact LeO.none _
      | refine LeO.ite ?_ ?_
      | refine LeO.bind ?_ (fun _ => ?_)
set_option maxHeartbeats 8000000 in
set_option maxRecDepth 100000 in
theorem converter_zzPercent.calls (k : Nat) (a0 : ByteArray) (r : ByteArray) (w : World) (h : converter_zzPercent.f k a0 = some r) :
    Calls Try.prog 82 #[.string a0] w fun e w' => e = .returned (.string r) ∧ Below w.heap.size w w' := by
  have HB := Aside0.mk (Below.refl w.heap.size w)
  have H : (if 0 ≤ (a0.size : Int) then (if ((a0.size : Int) : Int).toNat ≤ 281474976710656 then (converter_zzPercent.l0 k a0 (List.replicate 0 0) 0) else (none)) else (none)) = some r := h
  clear h
  by_cases c2 : 0 ≤ (a0.size : Int)
  · rw [if_pos c2] at H
    have c2b0 := eq_true c2
    have c2b1 : decide (0 ≤ (a0.size : Int)) = true := decide_eq_true c2
    clear c2
    by_cases c3 : ((a0.size : Int) : Int).toNat ≤ 281474976710656
    · rw [if_pos c3] at H
      have c3b0 := eq_true c3
      have c3b1 : decide (((a0.size : Int) : Int).toNat ≤ 281474976710656) = true := decide_eq_true c3
      clear c3
      obtain ⟨y119, hy119⟩ : ∃ y_ : List Int, y_ = (List.replicate 0 0) := ⟨_, rfl⟩
      replace H : (converter_zzPercent.l0 k a0 y119 0) = some r := by first | (rw [hy119]; with_reducible exact H) | (have H2_ := (Option.bind_some _ _).symm.trans H; rw [hy119]; with_reducible exact H2_) | (have H2_ := (Option.bind_some _ _).symm.trans H; with_reducible exact H2_) | with_reducible exact H | (rw [hy119]; exact H) | exact H
      have Ny119 := Aside0.mk hy119
      clear hy119
      have H' := Aside0.mk H
      clear H
      go_enter Try.func82, Try.ntmps82
      go_wp2_with (first | ((with_reducible refine gate_dst (N := 7) rfl ?_); refine Kd.R_makecap (Kd.int .u8) _ 5 rfl (N := 7) rfl 45 _ _ rfl (a0.size : Int) rfl rfl Try.underlying45 (.int .u8 0) 1 info5 rfl (by decide) (by omega) 0 (ok := fun _ => True) (okp := fun _ => True) rfl (fun _ hk => hk) trivial (of_decide_eq_true (by first | (with_reducible assumption) | assumption)) (Nat.le_trans (Nat.mul_le_mul_right _ (of_decide_eq_true (by first | (with_reducible assumption) | assumption) : (a0.size : Int).toNat ≤ 281474976710656)) (by omega)) (Below.refl _ _) (Nat.le_refl _) ?_; intro v120 w4 ho5 hb hg_ hnew_; clear hg_ hnew_; (first | rw [← Ny119.out] at ho5 | (simp only [Int.reduceToNat] at ho5; rw [← Ny119.out] at ho5)); have n0_ := Aside0.mk (Kd.R_lower ho5 (below_size (by repeat (first | (with_reducible first | exact HB.out | apply below_alloc | apply pw_below_drewN | apply below_drew1) | exact HB.out)))); have n1_ := Aside0.mk (below_step (by repeat (first | (with_reducible first | exact HB.out | apply below_alloc | apply pw_below_drewN | apply below_drew1) | exact HB.out)) hb); clear HB; have HO121 := n0_; have HB := n1_; clear n0_ n1_; clear hb ho5))
      go_loopg [3, 4] k (fun kq v3 v4 w' => ∃ (x3_1 : List Int) (x4_1 : Int), v4 = .int .i64 x4_1 ∧ Aside0 (converter_zzPercent.l0 kq a0 x3_1 x4_1 = some r) ∧ Aside0 (kq ≤ k) ∧ Aside0 (Kd.R (Kd.int .u8) 5 w' w.heap.size (fun _ => True) v3 x3_1) ∧ Aside0 (Below w.heap.size w w'))
      case atStart => exact ⟨(y119), (0), (by first | rfl | (simp; done) | (simp [*]; done)), H', ⟨Nat.le_refl _⟩, ⟨by (with_reducible repeat (first | apply Kd.R_alloc | apply Kd.R_drewN | apply Kd.R_drew)); exact HO121.out⟩, ⟨by repeat (first | (with_reducible first | exact HB.out | apply below_alloc | apply pw_below_drewN | apply below_drew1) | exact HB.out)⟩⟩
      case round =>
        clear H'
        try clear c2
        try clear c2b0
        try clear c2b1
        try clear p2
        try clear c3
        try clear c3b0
        try clear c3b1
        obtain ⟨x3_1, x4_1, rfl, HA, HK1, HO_3, HB⟩ := hrel
        cases gk with
        | zero => exact absurd HA.out (by simp [converter_zzPercent.l0])
        | succ k1 =>
          have H := HA.out
          clear HA
          simp only [converter_zzPercent.l0] at H
          by_cases c6 : x4_1 < (a0.size : Int)
          · rw [if_pos c6] at H
            have c6b0 : decide (x4_1 < (a0.size : Int)) = true := decide_eq_true c6
            clear c6
            by_cases c7 : 0 ≤ x4_1
            · rw [if_pos c7] at H
              have c7b0 : decide (0 ≤ x4_1) = true := decide_eq_true c7
              clear c7
              by_cases c9 : (bt a0 x4_1) = 32
              · rw [if_pos c9] at H
                have c9b0 : ((bt a0 x4_1) == 32) = true := beq_iff_eq.mpr c9
                have c9b1 : ((bt a0 x4_1) != 32) = false := bne_eq_false_iff_eq.mpr c9
                clear c9
                by_cases c10 : x3_1.length + 3 < 140737488355328
                · rw [if_pos c10] at H
                  have LMc10 := Aside0.mk c10
                  clear c10
                  obtain ⟨y122, hy122⟩ : ∃ y_ : List Int, y_ = (x3_1 ++ bytesOf (⟨#[37, 50, 48]⟩ : ByteArray)) := ⟨_, rfl⟩
                  replace H : (converter_zzPercent.l0 k1 a0 y122 (wrap64 (x4_1 + 1))) = some r := by first | (rw [hy122]; with_reducible exact H) | (have H2_ := (Option.bind_some _ _).symm.trans H; rw [hy122]; with_reducible exact H2_) | (have H2_ := (Option.bind_some _ _).symm.trans H; with_reducible exact H2_) | with_reducible exact H | (rw [hy122]; exact H) | exact H
                  have Ny122 := Aside0.mk hy122
                  clear hy122
                  have H' := Aside0.mk H
                  clear H
                  have p8 : 0 ≤ (x4_1 : Int) := of_decide_eq_true (by first | (with_reducible assumption) | assumption)
                  have q8 : x4_1 < (a0.size : Int) := of_decide_eq_true (by first | (with_reducible assumption) | assumption)
                  have hx8 := bt_at a0 x4_1
                  replace p8 := eq_true p8
                  replace q8 := eq_true q8
                  go_wp2_with (first | (at_builtin; refine print_append_str (w0 := w) w.heap.size rfl (.tmp 25) _ 45 9 5 rfl Try.underlying45 Try.underlying9 info5 u3 x3_1 (⟨#[37, 50, 48]⟩ : ByteArray) rfl rfl ?aO ?aB ?aS ?aL ?_; (case aB => exact (by repeat (first | (with_reducible first | exact HB.out | apply below_alloc | apply pw_below_drewN | apply below_drew1) | exact HB.out))); (case aO => exact (Kd.own_of_R (by (with_reducible repeat (first | apply Kd.R_alloc | apply Kd.R_drewN | apply Kd.R_drew)); exact HO_3.out))); (case aS => exact (below_size (by repeat (first | (with_reducible first | exact HB.out | apply below_alloc | apply pw_below_drewN | apply below_drew1) | exact HB.out)))); (case aL => have := LMc10.out; (first | omega | (simp only [ByteArray.size, List.size_toArray, List.length_cons, List.length_nil]; omega))); intro v123 w11 ho0 hb hg; have ho := Kd.R_of_own (h1 := fun _ => rfl) (ok := fun _ => True) ho0 (fun _ _ => trivial); clear ho0; have hat := True.intro; rw [← Ny122.out] at ho; change Kd.R (Kd.int .u8) 5 w11 w.heap.size (fun _ => True) v123 y122 at ho; have n0_ := Aside0.mk (hb); have n1_ := Aside0.mk (ho); clear HB; clear HO_3; have HB := n0_; have HO124 := n1_; clear n0_ n1_; clear ho hb hg hat))
                  go_roundg k1
                  case measure => have := HK1.out; omega
                  case rel => exact ⟨(y122), (wrap64 (x4_1 + 1)), (by first | rfl | (simp; done) | (simp [*]; done)), H', ⟨by have := HK1.out; omega⟩, ⟨by (with_reducible repeat (first | apply Kd.R_alloc | apply Kd.R_drewN | apply Kd.R_drew)); exact HO124.out⟩, ⟨by repeat (first | (with_reducible first | exact HB.out | apply below_alloc | apply pw_below_drewN | apply below_drew1) | exact HB.out)⟩⟩
                · rw [if_neg c10] at H
                  exact absurd H (by simp)
              · rw [if_neg c9] at H
                have c9b0 : ((bt a0 x4_1) == 32) = false := beq_eq_false_iff_ne.mpr c9
                have c9b1 : ((bt a0 x4_1) != 32) = true := bne_iff_ne.mpr c9
                by_cases c12 : (bt a0 x4_1) = 91
                · rw [if_pos c12] at H
                  have c12b0 : ((bt a0 x4_1) == 91) = true := beq_iff_eq.mpr c12
                  have c12b1 : ((bt a0 x4_1) != 91) = false := bne_eq_false_iff_eq.mpr c12
                  clear c12
                  by_cases c13 : x3_1.length + 3 < 140737488355328
                  · rw [if_pos c13] at H
                    have LMc13 := Aside0.mk c13
                    clear c13
                    obtain ⟨y125, hy125⟩ : ∃ y_ : List Int, y_ = (x3_1 ++ bytesOf (⟨#[37, 53, 66]⟩ : ByteArray)) := ⟨_, rfl⟩
                    replace H : (converter_zzPercent.l0 k1 a0 y125 (wrap64 (x4_1 + 1))) = some r := by first | (rw [hy125]; with_reducible exact H) | (have H2_ := (Option.bind_some _ _).symm.trans H; rw [hy125]; with_reducible exact H2_) | (have H2_ := (Option.bind_some _ _).symm.trans H; with_reducible exact H2_) | with_reducible exact H | (rw [hy125]; exact H) | exact H
                    have Ny125 := Aside0.mk hy125
                    clear hy125
                    have H' := Aside0.mk H
                    clear H
                    have p8 : 0 ≤ (x4_1 : Int) := of_decide_eq_true (by first | (with_reducible assumption) | assumption)
                    have q8 : x4_1 < (a0.size : Int) := of_decide_eq_true (by first | (with_reducible assumption) | assumption)
                    have hx8 := bt_at a0 x4_1
                    replace p8 := eq_true p8
                    replace q8 := eq_true q8
                    go_wp2_with (first | (at_builtin; refine print_append_str (w0 := w) w.heap.size rfl (.tmp 29) _ 45 9 5 rfl Try.underlying45 Try.underlying9 info5 u3 x3_1 (⟨#[37, 53, 66]⟩ : ByteArray) rfl rfl ?aO ?aB ?aS ?aL ?_; (case aB => exact (by repeat (first | (with_reducible first | exact HB.out | apply below_alloc | apply pw_below_drewN | apply below_drew1) | exact HB.out))); (case aO => exact (Kd.own_of_R (by (with_reducible repeat (first | apply Kd.R_alloc | apply Kd.R_drewN | apply Kd.R_drew)); exact HO_3.out))); (case aS => exact (below_size (by repeat (first | (with_reducible first | exact HB.out | apply below_alloc | apply pw_below_drewN | apply below_drew1) | exact HB.out)))); (case aL => have := LMc13.out; (first | omega | (simp only [ByteArray.size, List.size_toArray, List.length_cons, List.length_nil]; omega))); intro v126 w14 ho0 hb hg; have ho := Kd.R_of_own (h1 := fun _ => rfl) (ok := fun _ => True) ho0 (fun _ _ => trivial); clear ho0; have hat := True.intro; rw [← Ny125.out] at ho; change Kd.R (Kd.int .u8) 5 w14 w.heap.size (fun _ => True) v126 y125 at ho; have n0_ := Aside0.mk (hb); have n1_ := Aside0.mk (ho); clear HB; clear HO_3; have HB := n0_; have HO127 := n1_; clear n0_ n1_; clear ho hb hg hat))
                    go_roundg k1
                    case measure => have := HK1.out; omega
                    case rel => exact ⟨(y125), (wrap64 (x4_1 + 1)), (by first | rfl | (simp; done) | (simp [*]; done)), H', ⟨by have := HK1.out; omega⟩, ⟨by (with_reducible repeat (first | apply Kd.R_alloc | apply Kd.R_drewN | apply Kd.R_drew)); exact HO127.out⟩, ⟨by repeat (first | (with_reducible first | exact HB.out | apply below_alloc | apply pw_below_drewN | apply below_drew1) | exact HB.out)⟩⟩
                  · rw [if_neg c13] at H
                    exact absurd H (by simp)
                · rw [if_neg c12] at H
                  have c12b0 : ((bt a0 x4_1) == 91) = false := beq_eq_false_iff_ne.mpr c12
                  have c12b1 : ((bt a0 x4_1) != 91) = true := bne_iff_ne.mpr c12
                  by_cases c15 : (bt a0 x4_1) = 93
                  · rw [if_pos c15] at H
                    have c15b0 : ((bt a0 x4_1) == 93) = true := beq_iff_eq.mpr c15
                    have c15b1 : ((bt a0 x4_1) != 93) = false := bne_eq_false_iff_eq.mpr c15
                    clear c15
                    by_cases c16 : x3_1.length + 3 < 140737488355328
                    · rw [if_pos c16] at H
                      have LMc16 := Aside0.mk c16
                      clear c16
                      obtain ⟨y128, hy128⟩ : ∃ y_ : List Int, y_ = (x3_1 ++ bytesOf (⟨#[37, 53, 68]⟩ : ByteArray)) := ⟨_, rfl⟩
                      replace H : (converter_zzPercent.l0 k1 a0 y128 (wrap64 (x4_1 + 1))) = some r := by first | (rw [hy128]; with_reducible exact H) | (have H2_ := (Option.bind_some _ _).symm.trans H; rw [hy128]; with_reducible exact H2_) | (have H2_ := (Option.bind_some _ _).symm.trans H; with_reducible exact H2_) | with_reducible exact H | (rw [hy128]; exact H) | exact H
                      have Ny128 := Aside0.mk hy128
                      clear hy128
                      have H' := Aside0.mk H
                      clear H
                      have p8 : 0 ≤ (x4_1 : Int) := of_decide_eq_true (by first | (with_reducible assumption) | assumption)
                      have q8 : x4_1 < (a0.size : Int) := of_decide_eq_true (by first | (with_reducible assumption) | assumption)
                      have hx8 := bt_at a0 x4_1
                      replace p8 := eq_true p8
                      replace q8 := eq_true q8
                      go_wp2_with (first | (at_builtin; refine print_append_str (w0 := w) w.heap.size rfl (.tmp 33) _ 45 9 5 rfl Try.underlying45 Try.underlying9 info5 u3 x3_1 (⟨#[37, 53, 68]⟩ : ByteArray) rfl rfl ?aO ?aB ?aS ?aL ?_; (case aB => exact (by repeat (first | (with_reducible first | exact HB.out | apply below_alloc | apply pw_below_drewN | apply below_drew1) | exact HB.out))); (case aO => exact (Kd.own_of_R (by (with_reducible repeat (first | apply Kd.R_alloc | apply Kd.R_drewN | apply Kd.R_drew)); exact HO_3.out))); (case aS => exact (below_size (by repeat (first | (with_reducible first | exact HB.out | apply below_alloc | apply pw_below_drewN | apply below_drew1) | exact HB.out)))); (case aL => have := LMc16.out; (first | omega | (simp only [ByteArray.size, List.size_toArray, List.length_cons, List.length_nil]; omega))); intro v129 w17 ho0 hb hg; have ho := Kd.R_of_own (h1 := fun _ => rfl) (ok := fun _ => True) ho0 (fun _ _ => trivial); clear ho0; have hat := True.intro; rw [← Ny128.out] at ho; change Kd.R (Kd.int .u8) 5 w17 w.heap.size (fun _ => True) v129 y128 at ho; have n0_ := Aside0.mk (hb); have n1_ := Aside0.mk (ho); clear HB; clear HO_3; have HB := n0_; have HO130 := n1_; clear n0_ n1_; clear ho hb hg hat))
                      go_roundg k1
                      case measure => have := HK1.out; omega
                      case rel => exact ⟨(y128), (wrap64 (x4_1 + 1)), (by first | rfl | (simp; done) | (simp [*]; done)), H', ⟨by have := HK1.out; omega⟩, ⟨by (with_reducible repeat (first | apply Kd.R_alloc | apply Kd.R_drewN | apply Kd.R_drew)); exact HO130.out⟩, ⟨by repeat (first | (with_reducible first | exact HB.out | apply below_alloc | apply pw_below_drewN | apply below_drew1) | exact HB.out)⟩⟩
                    · rw [if_neg c16] at H
                      exact absurd H (by simp)
                  · rw [if_neg c15] at H
                    have c15b0 : ((bt a0 x4_1) == 93) = false := beq_eq_false_iff_ne.mpr c15
                    have c15b1 : ((bt a0 x4_1) != 93) = true := bne_iff_ne.mpr c15
                    by_cases c18 : (bt a0 x4_1) = 40
                    · rw [if_pos c18] at H
                      have c18b0 : ((bt a0 x4_1) == 40) = true := beq_iff_eq.mpr c18
                      have c18b1 : ((bt a0 x4_1) != 40) = false := bne_eq_false_iff_eq.mpr c18
                      clear c18
                      by_cases c19 : x3_1.length + 3 < 140737488355328
                      · rw [if_pos c19] at H
                        have LMc19 := Aside0.mk c19
                        clear c19
                        obtain ⟨y131, hy131⟩ : ∃ y_ : List Int, y_ = (x3_1 ++ bytesOf (⟨#[37, 50, 56]⟩ : ByteArray)) := ⟨_, rfl⟩
                        replace H : (converter_zzPercent.l0 k1 a0 y131 (wrap64 (x4_1 + 1))) = some r := by first | (rw [hy131]; with_reducible exact H) | (have H2_ := (Option.bind_some _ _).symm.trans H; rw [hy131]; with_reducible exact H2_) | (have H2_ := (Option.bind_some _ _).symm.trans H; with_reducible exact H2_) | with_reducible exact H | (rw [hy131]; exact H) | exact H
                        have Ny131 := Aside0.mk hy131
                        clear hy131
                        have H' := Aside0.mk H
                        clear H
                        have p8 : 0 ≤ (x4_1 : Int) := of_decide_eq_true (by first | (with_reducible assumption) | assumption)
                        have q8 : x4_1 < (a0.size : Int) := of_decide_eq_true (by first | (with_reducible assumption) | assumption)
                        have hx8 := bt_at a0 x4_1
                        replace p8 := eq_true p8
                        replace q8 := eq_true q8
                        go_wp2_with (first | (at_builtin; refine print_append_str (w0 := w) w.heap.size rfl (.tmp 37) _ 45 9 5 rfl Try.underlying45 Try.underlying9 info5 u3 x3_1 (⟨#[37, 50, 56]⟩ : ByteArray) rfl rfl ?aO ?aB ?aS ?aL ?_; (case aB => exact (by repeat (first | (with_reducible first | exact HB.out | apply below_alloc | apply pw_below_drewN | apply below_drew1) | exact HB.out))); (case aO => exact (Kd.own_of_R (by (with_reducible repeat (first | apply Kd.R_alloc | apply Kd.R_drewN | apply Kd.R_drew)); exact HO_3.out))); (case aS => exact (below_size (by repeat (first | (with_reducible first | exact HB.out | apply below_alloc | apply pw_below_drewN | apply below_drew1) | exact HB.out)))); (case aL => have := LMc19.out; (first | omega | (simp only [ByteArray.size, List.size_toArray, List.length_cons, List.length_nil]; omega))); intro v132 w20 ho0 hb hg; have ho := Kd.R_of_own (h1 := fun _ => rfl) (ok := fun _ => True) ho0 (fun _ _ => trivial); clear ho0; have hat := True.intro; rw [← Ny131.out] at ho; change Kd.R (Kd.int .u8) 5 w20 w.heap.size (fun _ => True) v132 y131 at ho; have n0_ := Aside0.mk (hb); have n1_ := Aside0.mk (ho); clear HB; clear HO_3; have HB := n0_; have HO133 := n1_; clear n0_ n1_; clear ho hb hg hat))
                        go_roundg k1
                        case measure => have := HK1.out; omega
                        case rel => exact ⟨(y131), (wrap64 (x4_1 + 1)), (by first | rfl | (simp; done) | (simp [*]; done)), H', ⟨by have := HK1.out; omega⟩, ⟨by (with_reducible repeat (first | apply Kd.R_alloc | apply Kd.R_drewN | apply Kd.R_drew)); exact HO133.out⟩, ⟨by repeat (first | (with_reducible first | exact HB.out | apply below_alloc | apply pw_below_drewN | apply below_drew1) | exact HB.out)⟩⟩
                      · rw [if_neg c19] at H
                        exact absurd H (by simp)
                    · rw [if_neg c18] at H
                      have c18b0 : ((bt a0 x4_1) == 40) = false := beq_eq_false_iff_ne.mpr c18
                      have c18b1 : ((bt a0 x4_1) != 40) = true := bne_iff_ne.mpr c18
                      by_cases c21 : (bt a0 x4_1) = 41
                      · rw [if_pos c21] at H
                        have c21b0 : ((bt a0 x4_1) == 41) = true := beq_iff_eq.mpr c21
                        have c21b1 : ((bt a0 x4_1) != 41) = false := bne_eq_false_iff_eq.mpr c21
                        clear c21
                        by_cases c22 : x3_1.length + 3 < 140737488355328
                        · rw [if_pos c22] at H
                          have LMc22 := Aside0.mk c22
                          clear c22
                          obtain ⟨y134, hy134⟩ : ∃ y_ : List Int, y_ = (x3_1 ++ bytesOf (⟨#[37, 50, 57]⟩ : ByteArray)) := ⟨_, rfl⟩
                          replace H : (converter_zzPercent.l0 k1 a0 y134 (wrap64 (x4_1 + 1))) = some r := by first | (rw [hy134]; with_reducible exact H) | (have H2_ := (Option.bind_some _ _).symm.trans H; rw [hy134]; with_reducible exact H2_) | (have H2_ := (Option.bind_some _ _).symm.trans H; with_reducible exact H2_) | with_reducible exact H | (rw [hy134]; exact H) | exact H
                          have Ny134 := Aside0.mk hy134
                          clear hy134
                          have H' := Aside0.mk H
                          clear H
                          have p8 : 0 ≤ (x4_1 : Int) := of_decide_eq_true (by first | (with_reducible assumption) | assumption)
                          have q8 : x4_1 < (a0.size : Int) := of_decide_eq_true (by first | (with_reducible assumption) | assumption)
                          have hx8 := bt_at a0 x4_1
                          replace p8 := eq_true p8
                          replace q8 := eq_true q8
                          go_wp2_with (first | (at_builtin; refine print_append_str (w0 := w) w.heap.size rfl (.tmp 41) _ 45 9 5 rfl Try.underlying45 Try.underlying9 info5 u3 x3_1 (⟨#[37, 50, 57]⟩ : ByteArray) rfl rfl ?aO ?aB ?aS ?aL ?_; (case aB => exact (by repeat (first | (with_reducible first | exact HB.out | apply below_alloc | apply pw_below_drewN | apply below_drew1) | exact HB.out))); (case aO => exact (Kd.own_of_R (by (with_reducible repeat (first | apply Kd.R_alloc | apply Kd.R_drewN | apply Kd.R_drew)); exact HO_3.out))); (case aS => exact (below_size (by repeat (first | (with_reducible first | exact HB.out | apply below_alloc | apply pw_below_drewN | apply below_drew1) | exact HB.out)))); (case aL => have := LMc22.out; (first | omega | (simp only [ByteArray.size, List.size_toArray, List.length_cons, List.length_nil]; omega))); intro v135 w23 ho0 hb hg; have ho := Kd.R_of_own (h1 := fun _ => rfl) (ok := fun _ => True) ho0 (fun _ _ => trivial); clear ho0; have hat := True.intro; rw [← Ny134.out] at ho; change Kd.R (Kd.int .u8) 5 w23 w.heap.size (fun _ => True) v135 y134 at ho; have n0_ := Aside0.mk (hb); have n1_ := Aside0.mk (ho); clear HB; clear HO_3; have HB := n0_; have HO136 := n1_; clear n0_ n1_; clear ho hb hg hat))
                          go_roundg k1
                          case measure => have := HK1.out; omega
                          case rel => exact ⟨(y134), (wrap64 (x4_1 + 1)), (by first | rfl | (simp; done) | (simp [*]; done)), H', ⟨by have := HK1.out; omega⟩, ⟨by (with_reducible repeat (first | apply Kd.R_alloc | apply Kd.R_drewN | apply Kd.R_drew)); exact HO136.out⟩, ⟨by repeat (first | (with_reducible first | exact HB.out | apply below_alloc | apply pw_below_drewN | apply below_drew1) | exact HB.out)⟩⟩
                        · rw [if_neg c22] at H
                          exact absurd H (by simp)
                      · rw [if_neg c21] at H
                        have c21b0 : ((bt a0 x4_1) == 41) = false := beq_eq_false_iff_ne.mpr c21
                        have c21b1 : ((bt a0 x4_1) != 41) = true := bne_iff_ne.mpr c21
                        by_cases c24 : (bt a0 x4_1) = 60
                        · rw [if_pos c24] at H
                          have c24b0 : ((bt a0 x4_1) == 60) = true := beq_iff_eq.mpr c24
                          have c24b1 : ((bt a0 x4_1) != 60) = false := bne_eq_false_iff_eq.mpr c24
                          clear c24
                          by_cases c25 : x3_1.length + 3 < 140737488355328
                          · rw [if_pos c25] at H
                            have LMc25 := Aside0.mk c25
                            clear c25
                            obtain ⟨y137, hy137⟩ : ∃ y_ : List Int, y_ = (x3_1 ++ bytesOf (⟨#[37, 51, 67]⟩ : ByteArray)) := ⟨_, rfl⟩
                            replace H : (converter_zzPercent.l0 k1 a0 y137 (wrap64 (x4_1 + 1))) = some r := by first | (rw [hy137]; with_reducible exact H) | (have H2_ := (Option.bind_some _ _).symm.trans H; rw [hy137]; with_reducible exact H2_) | (have H2_ := (Option.bind_some _ _).symm.trans H; with_reducible exact H2_) | with_reducible exact H | (rw [hy137]; exact H) | exact H
                            have Ny137 := Aside0.mk hy137
                            clear hy137
                            have H' := Aside0.mk H
                            clear H
                            have p8 : 0 ≤ (x4_1 : Int) := of_decide_eq_true (by first | (with_reducible assumption) | assumption)
                            have q8 : x4_1 < (a0.size : Int) := of_decide_eq_true (by first | (with_reducible assumption) | assumption)
                            have hx8 := bt_at a0 x4_1
                            replace p8 := eq_true p8
                            replace q8 := eq_true q8
                            go_wp2_with (first | (at_builtin; refine print_append_str (w0 := w) w.heap.size rfl (.tmp 45) _ 45 9 5 rfl Try.underlying45 Try.underlying9 info5 u3 x3_1 (⟨#[37, 51, 67]⟩ : ByteArray) rfl rfl ?aO ?aB ?aS ?aL ?_; (case aB => exact (by repeat (first | (with_reducible first | exact HB.out | apply below_alloc | apply pw_below_drewN | apply below_drew1) | exact HB.out))); (case aO => exact (Kd.own_of_R (by (with_reducible repeat (first | apply Kd.R_alloc | apply Kd.R_drewN | apply Kd.R_drew)); exact HO_3.out))); (case aS => exact (below_size (by repeat (first | (with_reducible first | exact HB.out | apply below_alloc | apply pw_below_drewN | apply below_drew1) | exact HB.out)))); (case aL => have := LMc25.out; (first | omega | (simp only [ByteArray.size, List.size_toArray, List.length_cons, List.length_nil]; omega))); intro v138 w26 ho0 hb hg; have ho := Kd.R_of_own (h1 := fun _ => rfl) (ok := fun _ => True) ho0 (fun _ _ => trivial); clear ho0; have hat := True.intro; rw [← Ny137.out] at ho; change Kd.R (Kd.int .u8) 5 w26 w.heap.size (fun _ => True) v138 y137 at ho; have n0_ := Aside0.mk (hb); have n1_ := Aside0.mk (ho); clear HB; clear HO_3; have HB := n0_; have HO139 := n1_; clear n0_ n1_; clear ho hb hg hat))
                            go_roundg k1
                            case measure => have := HK1.out; omega
                            case rel => exact ⟨(y137), (wrap64 (x4_1 + 1)), (by first | rfl | (simp; done) | (simp [*]; done)), H', ⟨by have := HK1.out; omega⟩, ⟨by (with_reducible repeat (first | apply Kd.R_alloc | apply Kd.R_drewN | apply Kd.R_drew)); exact HO139.out⟩, ⟨by repeat (first | (with_reducible first | exact HB.out | apply below_alloc | apply pw_below_drewN | apply below_drew1) | exact HB.out)⟩⟩
                          · rw [if_neg c25] at H
                            exact absurd H (by simp)
                        · rw [if_neg c24] at H
                          have c24b0 : ((bt a0 x4_1) == 60) = false := beq_eq_false_iff_ne.mpr c24
                          have c24b1 : ((bt a0 x4_1) != 60) = true := bne_iff_ne.mpr c24
                          by_cases c27 : (bt a0 x4_1) = 62
                          · rw [if_pos c27] at H
                            have c27b0 : ((bt a0 x4_1) == 62) = true := beq_iff_eq.mpr c27
                            have c27b1 : ((bt a0 x4_1) != 62) = false := bne_eq_false_iff_eq.mpr c27
                            clear c27
                            by_cases c28 : x3_1.length + 3 < 140737488355328
                            · rw [if_pos c28] at H
                              have LMc28 := Aside0.mk c28
                              clear c28
                              obtain ⟨y140, hy140⟩ : ∃ y_ : List Int, y_ = (x3_1 ++ bytesOf (⟨#[37, 51, 69]⟩ : ByteArray)) := ⟨_, rfl⟩
                              replace H : (converter_zzPercent.l0 k1 a0 y140 (wrap64 (x4_1 + 1))) = some r := by first | (rw [hy140]; with_reducible exact H) | (have H2_ := (Option.bind_some _ _).symm.trans H; rw [hy140]; with_reducible exact H2_) | (have H2_ := (Option.bind_some _ _).symm.trans H; with_reducible exact H2_) | with_reducible exact H | (rw [hy140]; exact H) | exact H
                              have Ny140 := Aside0.mk hy140
                              clear hy140
                              have H' := Aside0.mk H
                              clear H
                              have p8 : 0 ≤ (x4_1 : Int) := of_decide_eq_true (by first | (with_reducible assumption) | assumption)
                              have q8 : x4_1 < (a0.size : Int) := of_decide_eq_true (by first | (with_reducible assumption) | assumption)
                              have hx8 := bt_at a0 x4_1
                              replace p8 := eq_true p8
                              replace q8 := eq_true q8
                              go_wp2_with (first | (at_builtin; refine print_append_str (w0 := w) w.heap.size rfl (.tmp 49) _ 45 9 5 rfl Try.underlying45 Try.underlying9 info5 u3 x3_1 (⟨#[37, 51, 69]⟩ : ByteArray) rfl rfl ?aO ?aB ?aS ?aL ?_; (case aB => exact (by repeat (first | (with_reducible first | exact HB.out | apply below_alloc | apply pw_below_drewN | apply below_drew1) | exact HB.out))); (case aO => exact (Kd.own_of_R (by (with_reducible repeat (first | apply Kd.R_alloc | apply Kd.R_drewN | apply Kd.R_drew)); exact HO_3.out))); (case aS => exact (below_size (by repeat (first | (with_reducible first | exact HB.out | apply below_alloc | apply pw_below_drewN | apply below_drew1) | exact HB.out)))); (case aL => have := LMc28.out; (first | omega | (simp only [ByteArray.size, List.size_toArray, List.length_cons, List.length_nil]; omega))); intro v141 w29 ho0 hb hg; have ho := Kd.R_of_own (h1 := fun _ => rfl) (ok := fun _ => True) ho0 (fun _ _ => trivial); clear ho0; have hat := True.intro; rw [← Ny140.out] at ho; change Kd.R (Kd.int .u8) 5 w29 w.heap.size (fun _ => True) v141 y140 at ho; have n0_ := Aside0.mk (hb); have n1_ := Aside0.mk (ho); clear HB; clear HO_3; have HB := n0_; have HO142 := n1_; clear n0_ n1_; clear ho hb hg hat))
                              go_roundg k1
                              case measure => have := HK1.out; omega
                              case rel => exact ⟨(y140), (wrap64 (x4_1 + 1)), (by first | rfl | (simp; done) | (simp [*]; done)), H', ⟨by have := HK1.out; omega⟩, ⟨by (with_reducible repeat (first | apply Kd.R_alloc | apply Kd.R_drewN | apply Kd.R_drew)); exact HO142.out⟩, ⟨by repeat (first | (with_reducible first | exact HB.out | apply below_alloc | apply pw_below_drewN | apply below_drew1) | exact HB.out)⟩⟩
                            · rw [if_neg c28] at H
                              exact absurd H (by simp)
                          · rw [if_neg c27] at H
                            have c27b0 : ((bt a0 x4_1) == 62) = false := beq_eq_false_iff_ne.mpr c27
                            have c27b1 : ((bt a0 x4_1) != 62) = true := bne_iff_ne.mpr c27
                            by_cases c31 : x3_1.length < 140737488355328
                            · rw [if_pos c31] at H
                              have LMc31 := Aside0.mk c31
                              clear c31
                              obtain ⟨y143, hy143⟩ : ∃ y_ : List Int, y_ = (x3_1 ++ [bt a0 x4_1]) := ⟨_, rfl⟩
                              replace H : (converter_zzPercent.l0 k1 a0 y143 (wrap64 (x4_1 + 1))) = some r := by first | (rw [hy143]; with_reducible exact H) | (have H2_ := (Option.bind_some _ _).symm.trans H; rw [hy143]; with_reducible exact H2_) | (have H2_ := (Option.bind_some _ _).symm.trans H; with_reducible exact H2_) | with_reducible exact H | (rw [hy143]; exact H) | exact H
                              have Ny143 := Aside0.mk hy143
                              clear hy143
                              have H' := Aside0.mk H
                              clear H
                              have p8 : 0 ≤ (x4_1 : Int) := of_decide_eq_true (by first | (with_reducible assumption) | assumption)
                              have q8 : x4_1 < (a0.size : Int) := of_decide_eq_true (by first | (with_reducible assumption) | assumption)
                              have hx8 := bt_at a0 x4_1
                              replace p8 := eq_true p8
                              replace q8 := eq_true q8
                              have p30 : 0 ≤ (x4_1 : Int) := of_decide_eq_true (by first | (with_reducible assumption) | assumption)
                              have q30 : x4_1 < (a0.size : Int) := of_decide_eq_true (by first | (with_reducible assumption) | assumption)
                              have hx30 := bt_at a0 x4_1
                              replace p30 := eq_true p30
                              replace q30 := eq_true q30
                              go_wp2_with (first | ((with_reducible refine gate_builtin (b := .append) (xs := #[.tmp 17, .tmp 21]) rfl ?_); at_builtin; refine Kd.R_append (Kd.int .u8) (w0 := w) w.heap.size rfl (.tmp 17) (.tmp 21) 45 5 (.int .u8 0) 1 rfl Try.underlying45 info5 rfl (by decide) (by omega) u3 x3_1 (bt a0 x4_1) [.int .u8 (bt a0 x4_1)] (fun _ => True) (fun _ => False) rfl rfl ?aP (fun _ hk => hk.elim) ?aF ?aO ?aB ?aS ?aL ?_; (case aP => exact rfl); (case aB => exact (by repeat (first | (with_reducible first | exact HB.out | apply below_alloc | apply pw_below_drewN | apply below_drew1) | exact HB.out))); (case aF => exact (fun _ _ => trivial)); (case aO => exact (by (with_reducible repeat (first | apply Kd.R_alloc | apply Kd.R_drewN | apply Kd.R_drew)); exact HO_3.out)); (case aS => exact (below_size (by repeat (first | (with_reducible first | exact HB.out | apply below_alloc | apply pw_below_drewN | apply below_drew1) | exact HB.out)))); (case aL => have := LMc31.out; (first | omega | (simp only [ByteArray.size, List.size_toArray, List.length_cons, List.length_nil]; omega))); intro v144 w32 ho hb hg hat; rw [← Ny143.out] at ho; have n0_ := Aside0.mk (hb); have n1_ := Aside0.mk (ho); clear HB; clear HO_3; have HB := n0_; have HO145 := n1_; clear n0_ n1_; clear ho hb hg hat))
                              go_roundg k1
                              case measure => have := HK1.out; omega
                              case rel => exact ⟨(y143), (wrap64 (x4_1 + 1)), (by first | rfl | (simp; done) | (simp [*]; done)), H', ⟨by have := HK1.out; omega⟩, ⟨by (with_reducible repeat (first | apply Kd.R_alloc | apply Kd.R_drewN | apply Kd.R_drew)); exact HO145.out⟩, ⟨by repeat (first | (with_reducible first | exact HB.out | apply below_alloc | apply pw_below_drewN | apply below_drew1) | exact HB.out)⟩⟩
                            · rw [if_neg c31] at H
                              exact absurd H (by simp)
            · rw [if_neg c7] at H
              exact absurd H (by simp)
          · rw [if_neg c6] at H
            have c6b0 : decide (x4_1 < (a0.size : Int)) = false := decide_eq_false c6
            clear c6
            obtain rfl := Option.some.inj H
            have hcv33 := own_string (P := Try.prog) Try.underlying45 Try.underlying5 Try.underlying9 (Kd.own_of_R HO_3.out)
            go_wp2
            go_ret
            exact ⟨by first | rfl | (simp [errW_none, errW_some] <;> rfl) | (simp [*, errW_none, errW_some] <;> rfl), by repeat (first | (with_reducible first | exact HB.out | apply below_alloc | apply pw_below_drewN | apply below_drew1) | exact HB.out)⟩
    · rw [if_neg c3] at H
      exact absurd H (by simp)
  · rw [if_neg c2] at H
    exact absurd H (by simp)

/-! ### converter_ZzPercent: function 68 -/
def converter_ZzPercent.f (k : Nat) (a0 : ByteArray) : Option (ByteArray) := (converter_zzPercent.f k a0).bind fun t146 => (some t146)
theorem converter_ZzPercent.mono : ∀ a0 k, LeO (converter_ZzPercent.f k a0) (converter_ZzPercent.f (k + 1) a0) := by
  intro a0 k
  unfold converter_ZzPercent.f
  repeat' first
      | (with_reducible exact converter_zzPercent.mono _ _)
      | (with_reducible exact LeO.refl _)
      | (with_reducible exact LeO.none _)
      | (with_reducible refine LeO.ite ?_ ?_)
      | (with_reducible refine LeO.bind ?_ (fun _ => ?_))
      | exact converter_zzPercent.mono _ _
      | exact LeO.none _
      | refine LeO.ite ?_ ?_
      | refine LeO.bind ?_ (fun _ => ?_)
set_option maxHeartbeats 8000000 in
set_option maxRecDepth 100000 in
theorem converter_ZzPercent.calls (k : Nat) (a0 : ByteArray) (r : ByteArray) (w : World) (h : converter_ZzPercent.f k a0 = some r) :
    Calls Try.prog 68 #[.string a0] w fun e w' => e = .returned (.string r) ∧ Below w.heap.size w w' := by
  have HB := Aside0.mk (Below.refl w.heap.size w)
  have H : ((converter_zzPercent.f k a0).bind fun t146 => (some t146)) = some r := h
  clear h
  replace H := Option.bind_eq_some_iff.mp H
  obtain ⟨t146, A20, H⟩ := H
  replace H : (some t146) = some r := H
  have A2 := Aside0.mk A20
  clear A20
  obtain rfl := Option.some.inj H
  go_enter Try.func68, Try.ntmps68
  go_wp2_with (first | ((with_reducible refine gate_callee (f := 82) rfl ?_); refine goesL_ (some 4) rfl rfl Try.func82 (by kernel_rfl) rfl #[.string a0] rfl (by (try simp only [List.map_toArray, List.map_cons, List.map_nil]); first | done | rfl | (simp only [List.length_drop, List.length_take]; rfl)) ?_; (with_reducible refine (converter_zzPercent.calls k a0 t146 _ A2.out).mono ?_); rintro e w3 ⟨rfl, hb⟩; refine ⟨_, rfl, ?_⟩; have n0_ := Aside0.mk (below_step (by repeat (first | (with_reducible first | exact HB.out | apply below_alloc | apply pw_below_drewN | apply below_drew1) | exact HB.out)) hb); clear HB; have HB := n0_; clear n0_; (try clear hb); (try clear hb2); (try clear hk); (try clear hi)))
  go_ret
  exact ⟨by first | rfl | (simp [errW_none, errW_some] <;> rfl) | (simp [*, errW_none, errW_some] <;> rfl), by repeat (first | (with_reducible first | exact HB.out | apply below_alloc | apply pw_below_drewN | apply below_drew1) | exact HB.out)⟩

/-! ### impl_Percent: function 41 -/
def impl_Percent.f (k : Nat) (a0 : ByteArray) : Option (ByteArray) := (converter_ZzPercent.f k a0).bind fun t147 => (some t147)
theorem impl_Percent.mono : ∀ a0 k, LeO (impl_Percent.f k a0) (impl_Percent.f (k + 1) a0) := by
  intro a0 k
  unfold impl_Percent.f
  repeat' first
      | (with_reducible exact converter_ZzPercent.mono _ _)
      | (with_reducible exact LeO.refl _)
      | (with_reducible exact LeO.none _)
      | (with_reducible refine LeO.ite ?_ ?_)
      | (with_reducible refine LeO.bind ?_ (fun _ => ?_))
      | exact converter_ZzPercent.mono _ _
      | exact LeO.none _
      | refine LeO.ite ?_ ?_
      | refine LeO.bind ?_ (fun _ => ?_)
set_option maxHeartbeats 8000000 in
set_option maxRecDepth 100000 in
theorem impl_Percent.calls (k : Nat) (a0 : ByteArray) (r : ByteArray) (w : World) (h : impl_Percent.f k a0 = some r) :
    Calls Try.prog 41 #[.string a0] w fun e w' => e = .returned (.string r) ∧ Below w.heap.size w w' := by
  have HB := Aside0.mk (Below.refl w.heap.size w)
  have H : ((converter_ZzPercent.f k a0).bind fun t147 => (some t147)) = some r := h
  clear h
  replace H := Option.bind_eq_some_iff.mp H
  obtain ⟨t147, A20, H⟩ := H
  replace H : (some t147) = some r := H
  have A2 := Aside0.mk A20
  clear A20
  obtain rfl := Option.some.inj H
  go_enter Try.func41, Try.ntmps41
  go_wp2_with (first | ((with_reducible refine gate_callee (f := 68) rfl ?_); refine goesL_ (some 4) rfl rfl Try.func68 (by kernel_rfl) rfl #[.string a0] rfl (by (try simp only [List.map_toArray, List.map_cons, List.map_nil]); first | done | rfl | (simp only [List.length_drop, List.length_take]; rfl)) ?_; (with_reducible refine (converter_ZzPercent.calls k a0 t147 _ A2.out).mono ?_); rintro e w3 ⟨rfl, hb⟩; refine ⟨_, rfl, ?_⟩; have n0_ := Aside0.mk (below_step (by repeat (first | (with_reducible first | exact HB.out | apply below_alloc | apply pw_below_drewN | apply below_drew1) | exact HB.out)) hb); clear HB; have HB := n0_; clear n0_; (try clear hb); (try clear hb2); (try clear hk); (try clear hi)))
  go_ret
  exact ⟨by first | rfl | (simp [errW_none, errW_some] <;> rfl) | (simp [*, errW_none, errW_some] <;> rfl), by repeat (first | (with_reducible first | exact HB.out | apply below_alloc | apply pw_below_drewN | apply below_drew1) | exact HB.out)⟩

/-! ### laws_inlineOdd: function 42 -/
def laws_inlineOdd.f (a0 : Int) : Option (Bool) := if a0 = 32 then (some true) else (if a0 = 91 then (some true) else (if a0 = 93 then (some true) else (if a0 = 40 then (some true) else (if a0 = 41 then (some true) else (if a0 = 60 then (some true) else (if a0 = 62 then (some true) else (if a0 = 9 then (some true) else (some (a0 == 10)))))))))
set_option maxHeartbeats 8000000 in
set_option maxRecDepth 100000 in
theorem laws_inlineOdd.calls (a0 : Int) (r : Bool) (w : World) (h : laws_inlineOdd.f a0 = some r) :
    Calls Try.prog 42 #[.int .u8 a0] w fun e w' => e = .returned (.bool r) ∧ Drawn0 w w' := by
  have H : (if a0 = 32 then (some true) else (if a0 = 91 then (some true) else (if a0 = 93 then (some true) else (if a0 = 40 then (some true) else (if a0 = 41 then (some true) else (if a0 = 60 then (some true) else (if a0 = 62 then (some true) else (if a0 = 9 then (some true) else (some (a0 == 10)))))))))) = some r := h
  clear h
  by_cases c2 : a0 = 32
  · rw [if_pos c2] at H
    have c2b0 : (a0 == 32) = true := beq_iff_eq.mpr c2
    have c2b1 : (a0 != 32) = false := bne_eq_false_iff_eq.mpr c2
    clear c2
    obtain rfl := Option.some.inj H
    go_enter Try.func42, Try.ntmps42
    go_wp2
    go_ret
    exact ⟨by first | rfl | (simp; done) | (simp [*]; done), by repeat (first | exact Drawn0.refl _ | apply Drawn0.step)⟩
  · rw [if_neg c2] at H
    have c2b0 : (a0 == 32) = false := beq_eq_false_iff_ne.mpr c2
    have c2b1 : (a0 != 32) = true := bne_iff_ne.mpr c2
    by_cases c3 : a0 = 91
    · rw [if_pos c3] at H
      have c3b0 : (a0 == 91) = true := beq_iff_eq.mpr c3
      have c3b1 : (a0 != 91) = false := bne_eq_false_iff_eq.mpr c3
      clear c3
      obtain rfl := Option.some.inj H
      go_enter Try.func42, Try.ntmps42
      go_wp2
      go_ret
      exact ⟨by first | rfl | (simp; done) | (simp [*]; done), by repeat (first | exact Drawn0.refl _ | apply Drawn0.step)⟩
    · rw [if_neg c3] at H
      have c3b0 : (a0 == 91) = false := beq_eq_false_iff_ne.mpr c3
      have c3b1 : (a0 != 91) = true := bne_iff_ne.mpr c3
      by_cases c4 : a0 = 93
      · rw [if_pos c4] at H
        have c4b0 : (a0 == 93) = true := beq_iff_eq.mpr c4
        have c4b1 : (a0 != 93) = false := bne_eq_false_iff_eq.mpr c4
        clear c4
        obtain rfl := Option.some.inj H
        go_enter Try.func42, Try.ntmps42
        go_wp2
        go_ret
        exact ⟨by first | rfl | (simp; done) | (simp [*]; done), by repeat (first | exact Drawn0.refl _ | apply Drawn0.step)⟩
      · rw [if_neg c4] at H
        have c4b0 : (a0 == 93) = false := beq_eq_false_iff_ne.mpr c4
        have c4b1 : (a0 != 93) = true := bne_iff_ne.mpr c4
        by_cases c5 : a0 = 40
        · rw [if_pos c5] at H
          have c5b0 : (a0 == 40) = true := beq_iff_eq.mpr c5
          have c5b1 : (a0 != 40) = false := bne_eq_false_iff_eq.mpr c5
          clear c5
          obtain rfl := Option.some.inj H
          go_enter Try.func42, Try.ntmps42
          go_wp2
          go_ret
          exact ⟨by first | rfl | (simp; done) | (simp [*]; done), by repeat (first | exact Drawn0.refl _ | apply Drawn0.step)⟩
        · rw [if_neg c5] at H
          have c5b0 : (a0 == 40) = false := beq_eq_false_iff_ne.mpr c5
          have c5b1 : (a0 != 40) = true := bne_iff_ne.mpr c5
          by_cases c6 : a0 = 41
          · rw [if_pos c6] at H
            have c6b0 : (a0 == 41) = true := beq_iff_eq.mpr c6
            have c6b1 : (a0 != 41) = false := bne_eq_false_iff_eq.mpr c6
            clear c6
            obtain rfl := Option.some.inj H
            go_enter Try.func42, Try.ntmps42
            go_wp2
            go_ret
            exact ⟨by first | rfl | (simp; done) | (simp [*]; done), by repeat (first | exact Drawn0.refl _ | apply Drawn0.step)⟩
          · rw [if_neg c6] at H
            have c6b0 : (a0 == 41) = false := beq_eq_false_iff_ne.mpr c6
            have c6b1 : (a0 != 41) = true := bne_iff_ne.mpr c6
            by_cases c7 : a0 = 60
            · rw [if_pos c7] at H
              have c7b0 : (a0 == 60) = true := beq_iff_eq.mpr c7
              have c7b1 : (a0 != 60) = false := bne_eq_false_iff_eq.mpr c7
              clear c7
              obtain rfl := Option.some.inj H
              go_enter Try.func42, Try.ntmps42
              go_wp2
              go_ret
              exact ⟨by first | rfl | (simp; done) | (simp [*]; done), by repeat (first | exact Drawn0.refl _ | apply Drawn0.step)⟩
            · rw [if_neg c7] at H
              have c7b0 : (a0 == 60) = false := beq_eq_false_iff_ne.mpr c7
              have c7b1 : (a0 != 60) = true := bne_iff_ne.mpr c7
              by_cases c8 : a0 = 62
              · rw [if_pos c8] at H
                have c8b0 : (a0 == 62) = true := beq_iff_eq.mpr c8
                have c8b1 : (a0 != 62) = false := bne_eq_false_iff_eq.mpr c8
                clear c8
                obtain rfl := Option.some.inj H
                go_enter Try.func42, Try.ntmps42
                go_wp2
                go_ret
                exact ⟨by first | rfl | (simp; done) | (simp [*]; done), by repeat (first | exact Drawn0.refl _ | apply Drawn0.step)⟩
              · rw [if_neg c8] at H
                have c8b0 : (a0 == 62) = false := beq_eq_false_iff_ne.mpr c8
                have c8b1 : (a0 != 62) = true := bne_iff_ne.mpr c8
                by_cases c9 : a0 = 9
                · rw [if_pos c9] at H
                  have c9b0 : (a0 == 9) = true := beq_iff_eq.mpr c9
                  have c9b1 : (a0 != 9) = false := bne_eq_false_iff_eq.mpr c9
                  clear c9
                  obtain rfl := Option.some.inj H
                  go_enter Try.func42, Try.ntmps42
                  go_wp2
                  go_ret
                  exact ⟨by first | rfl | (simp; done) | (simp [*]; done), by repeat (first | exact Drawn0.refl _ | apply Drawn0.step)⟩
                · rw [if_neg c9] at H
                  have c9b0 : (a0 == 9) = false := beq_eq_false_iff_ne.mpr c9
                  have c9b1 : (a0 != 9) = true := bne_iff_ne.mpr c9
                  obtain rfl := Option.some.inj H
                  go_enter Try.func42, Try.ntmps42
                  go_wp2
                  go_ret
                  exact ⟨by first | rfl | (simp; done) | (simp [*]; done), by repeat (first | exact Drawn0.refl _ | apply Drawn0.step)⟩

end Go.Proofs.Yticofikbijldiaa.GFnPercent
