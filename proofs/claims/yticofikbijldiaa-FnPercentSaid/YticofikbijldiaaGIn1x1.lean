-- made by a program of this session, after the kit's print
import Derived.Test.YticofikbijldiaaGIn1x0
namespace Go.Proofs.Yticofikbijldiaa.GIn1
open Go.RowKit Go.Proofs.YticofikbijldiaaW.PrintWords Go.Proofs.YticofikbijldiaaW.PrintLast Go.Proofs.YticofikbijldiaaW.PrintMore
attribute [local go_sem] max2_int min2_int max_two min_two max_three min_three max_four min_four   -- for this text's walks alone
set_option linter.unusedVariables false
set_option linter.unusedSimpArgs false

/-! ### textutils_PrefixLines: function 44 -/
def textutils_PrefixLines.l0 : Nat → List Int → List Int → List Int → Int → Int → Option (List Int)
  | 0, _, _, _, _, _ => none
  | k + 1, x1, x5, x14, x15, x16 => if x16 < x15 then (if 0 ≤ x16 then (if x16 < (x14.length : Int) then (if x5.length < 140737488355328 then ((some (x5 ++ [rd x14 x16] : List Int)).bind fun y108 => (if (rd x14 x16) = 10 then (if y108.length + x1.length < 140737488355328 then (textutils_PrefixLines.l0 k x1 (y108 ++ x1) x14 x15 (wrap64 (x16 + 1))) else (none)) else (textutils_PrefixLines.l0 k x1 y108 x14 x15 (wrap64 (x16 + 1))))) else (none)) else (none)) else (none)) else (some x5)
def textutils_PrefixLines.f (k : Nat) (l0 : List Int) (l1 : List Int) : Option (List Int) := if 0 ≤ (l0.length : Int) then (if ((l0.length : Int) : Int).toNat ≤ 281474976710656 then ((some (List.replicate 0 0 : List Int)).bind fun y101 => (if y101.length + l1.length < 140737488355328 then (textutils_PrefixLines.l0 k l1 (y101 ++ l1) l0 (l0.length : Int) 0) else (none))) else (none)) else (none)
theorem textutils_PrefixLines.mono_l : ∀ k, (∀ y0 y1 y2 y3 y4, LeO (textutils_PrefixLines.l0 k y0 y1 y2 y3 y4) (textutils_PrefixLines.l0 (k + 1) y0 y1 y2 y3 y4))
  | 0 => fun _ _ _ _ _ r h => by simp [textutils_PrefixLines.l0] at h
  | k + 1 => by
    have ih0 := textutils_PrefixLines.mono_l k
    · intro y0 y1 y2 y3 y4
      unfold textutils_PrefixLines.l0
      repeat' first
      | (with_reducible exact ih0 _ _ _ _ _)
      | (with_reducible exact LeO.refl _)
      | (with_reducible exact LeO.none _)
      | (with_reducible refine LeO.ite ?_ ?_)
      | (with_reducible refine LeO.bind ?_ (fun _ => ?_))
      | exact ih0 _ _ _ _ _
      | exact LeO.none _
      | refine LeO.ite ?_ ?_
      | refine LeO.bind ?_ (fun _ => ?_)
theorem textutils_PrefixLines.mono : ∀ a0 a1 k, LeO (textutils_PrefixLines.f k a0 a1) (textutils_PrefixLines.f (k + 1) a0 a1) := by
  intro a0 a1 k
  have ih0 := textutils_PrefixLines.mono_l k
  unfold textutils_PrefixLines.f
  repeat' first
      | (with_reducible exact ih0 _ _ _ _ _)
      | (with_reducible exact LeO.refl _)
      | (with_reducible exact LeO.none _)
      | (with_reducible refine LeO.ite ?_ ?_)
      | (with_reducible refine LeO.bind ?_ (fun _ => ?_))
      | exact ih0 _ _ _ _ _
      | exact LeO.none _
      | refine LeO.ite ?_ ?_
      | refine LeO.bind ?_ (fun _ => ?_)
set_option maxHeartbeats 8000000 in
set_option maxRecDepth 100000 in
theorem textutils_PrefixLines.calls (k : Nat) (A0 : Option Addr) (c0 : Nat) (l0 : List Int) (A1 : Option Addr) (c1 : Nat) (l1 : List Int) (r : List Int) (w : World) (hr0 : Kd.C (Kd.int .u8) w A0 l0.length l0) (hc0 : l0.length ≤ c0) (hr1 : Kd.C (Kd.int .u8) w A1 l1.length l1) (hc1 : l1.length ≤ c1) (h : textutils_PrefixLines.f k l0 l1 = some r) :
    Calls Try.prog 44 #[.slice A0 l0.length c0, .slice A1 l1.length c1] w fun e w' => ∃ v0_ : Value, e = .returned (v0_) ∧ Kd.R (Kd.int .u8) 5 w' w.heap.size (fun _ => True) v0_ r ∧ Below w.heap.size w w' := by
  have HR0 := Aside0.mk hr0
  have HC0 := Aside0.mk hc0
  clear hr0 hc0
  have HR1 := Aside0.mk hr1
  have HC1 := Aside0.mk hc1
  clear hr1 hc1
  have HB := Aside0.mk (Below.refl w.heap.size w)
  have H : (if 0 ≤ (l0.length : Int) then (if ((l0.length : Int) : Int).toNat ≤ 281474976710656 then ((some (List.replicate 0 0 : List Int)).bind fun y101 => (if y101.length + l1.length < 140737488355328 then (textutils_PrefixLines.l0 k l1 (y101 ++ l1) l0 (l0.length : Int) 0) else (none))) else (none)) else (none)) = some r := h
  clear h
  by_cases c3 : 0 ≤ (l0.length : Int)
  · rw [if_pos c3] at H
    have c3b0 := eq_true c3
    have c3b1 : decide (0 ≤ (l0.length : Int)) = true := decide_eq_true c3
    clear c3
    by_cases c4 : ((l0.length : Int) : Int).toNat ≤ 281474976710656
    · rw [if_pos c4] at H
      have c4b0 := eq_true c4
      have c4b1 : decide (((l0.length : Int) : Int).toNat ≤ 281474976710656) = true := decide_eq_true c4
      clear c4
      obtain ⟨y101, hy101⟩ : ∃ y_ : List Int, y_ = (List.replicate 0 0) := ⟨_, rfl⟩
      replace H : (if y101.length + l1.length < 140737488355328 then (textutils_PrefixLines.l0 k l1 (y101 ++ l1) l0 (l0.length : Int) 0) else (none)) = some r := by first | (rw [hy101]; with_reducible exact H) | (have H2_ := (Option.bind_some _ _).symm.trans H; rw [hy101]; with_reducible exact H2_) | (have H2_ := (Option.bind_some _ _).symm.trans H; with_reducible exact H2_) | with_reducible exact H | (rw [hy101]; exact H) | exact H
      have Ny101 := Aside0.mk hy101
      clear hy101
      by_cases c5 : y101.length + l1.length < 140737488355328
      · rw [if_pos c5] at H
        have LMc5 := Aside0.mk c5
        clear c5
        obtain ⟨y104, hy104⟩ : ∃ y_ : List Int, y_ = (y101 ++ l1) := ⟨_, rfl⟩
        replace H : (textutils_PrefixLines.l0 k l1 y104 l0 (l0.length : Int) 0) = some r := by first | (rw [hy104]; with_reducible exact H) | (have H2_ := (Option.bind_some _ _).symm.trans H; rw [hy104]; with_reducible exact H2_) | (have H2_ := (Option.bind_some _ _).symm.trans H; with_reducible exact H2_) | with_reducible exact H | (rw [hy104]; exact H) | exact H
        have Ny104 := Aside0.mk hy104
        clear hy104
        have H' := Aside0.mk H
        clear H
        go_enter Try.func44, Try.ntmps44
        go_wp2_with (first | ((with_reducible refine gate_dst (N := 10) rfl ?_); refine Kd.R_makecap (Kd.int .u8) _ 5 rfl (N := 10) rfl 45 _ _ rfl (l0.length : Int) rfl rfl Try.underlying45 (.int .u8 0) 1 info5 rfl (by decide) (by omega) 0 (ok := fun _ => True) (okp := fun _ => True) rfl (fun _ hk => hk) trivial (of_decide_eq_true (by first | (with_reducible assumption) | assumption)) (Nat.le_trans (Nat.mul_le_mul_right _ (of_decide_eq_true (by first | (with_reducible assumption) | assumption) : (l0.length : Int).toNat ≤ 281474976710656)) (by omega)) (Below.refl _ _) (Nat.le_refl _) ?_; intro v102 w6 ho7 hb hg_ hnew_; clear hg_ hnew_; (first | rw [← Ny101.out] at ho7 | (simp only [Int.reduceToNat] at ho7; rw [← Ny101.out] at ho7)); have n0_ := Aside0.mk (Kd.R_lower ho7 (below_size (by repeat (first | (with_reducible first | exact HB.out | apply below_alloc | apply pw_below_drewN | apply below_drew1) | exact HB.out)))); have n1_ := Aside0.mk (below_step (by repeat (first | (with_reducible first | exact HB.out | apply below_alloc | apply pw_below_drewN | apply below_drew1) | exact HB.out)) hb); clear HB; have HO103 := n0_; have HB := n1_; clear n0_ n1_; clear hb ho7) | ((with_reducible refine gate_builtin (b := .append) (xs := #[.tmp 11, .tmp 12]) rfl ?_); at_builtin; refine Kd.R_append_rows (Kd.int .u8) (w0 := w) w.heap.size rfl (.tmp 11) (.tmp 12) 45 5 (.int .u8 0) 1 rfl Try.underlying45 info5 rfl (by decide) (by omega) v102 y101 l1 _ _ _ (fun _ => True) (fun _ => False) rfl rfl ?aO ?aR (fun _ _ h => h) (fun _ h => h.elim) ?aF ?aB ?aS ?aL ?_; (case aR => repeat (first | exact (Kd.C_below HR1.out HB.out) | (with_reducible refine Kd.C_alloc ?_ _) | (with_reducible refine Kd.C_drewN ?_ _) | (with_reducible refine Kd.C_drew ?_))); (case aB => exact (by repeat (first | (with_reducible first | exact HB.out | apply below_alloc | apply pw_below_drewN | apply below_drew1) | exact HB.out))); (case aF => exact (fun _ _ => trivial)); (case aO => exact (by (with_reducible repeat (first | apply Kd.R_alloc | apply Kd.R_drewN | apply Kd.R_drew)); exact HO103.out)); (case aS => exact (below_size (by repeat (first | (with_reducible first | exact HB.out | apply below_alloc | apply pw_below_drewN | apply below_drew1) | exact HB.out)))); (case aL => have := LMc5.out; (first | omega | (simp only [ByteArray.size, List.size_toArray, List.length_cons, List.length_nil]; omega))); intro v105 w8 ho hb hg hat; rw [← Ny104.out] at ho; have n0_ := Aside0.mk (hb); have n1_ := Aside0.mk (ho); clear HB; clear HO103; have HB := n0_; have HO106 := n1_; clear n0_ n1_; clear ho hb hg hat))
        go_loopg [5, 16] k (fun kq v5 v16 w' => ∃ (x5_1 : List Int) (x16_1 : Int), v16 = .int .i64 x16_1 ∧ Aside0 (textutils_PrefixLines.l0 kq l1 x5_1 l0 (l0.length : Int) x16_1 = some r) ∧ Aside0 (kq ≤ k) ∧ Aside0 (Kd.R (Kd.int .u8) 5 w' w.heap.size (fun _ => True) v5 x5_1) ∧ Aside0 (Below w.heap.size w w'))
        case atStart => exact ⟨(y104), (0), (by first | rfl | (simp; done) | (simp [*]; done)), H', ⟨Nat.le_refl _⟩, ⟨by (with_reducible repeat (first | apply Kd.R_alloc | apply Kd.R_drewN | apply Kd.R_drew)); exact HO106.out⟩, ⟨by repeat (first | (with_reducible first | exact HB.out | apply below_alloc | apply pw_below_drewN | apply below_drew1) | exact HB.out)⟩⟩
        case round =>
          clear H'
          try clear c1
          try clear p2
          try clear c3
          try clear c3b0
          try clear c3b1
          try clear c4
          try clear c4b0
          try clear c4b1
          try clear c5
          obtain ⟨x5_1, x16_1, rfl, HA, HK1, HO_5, HB⟩ := hrel
          cases gk with
          | zero => exact absurd HA.out (by simp [textutils_PrefixLines.l0])
          | succ k1 =>
            have H := HA.out
            clear HA
            simp only [textutils_PrefixLines.l0] at H
            by_cases c9 : x16_1 < (l0.length : Int)
            · rw [if_pos c9] at H
              have c9b0 : decide (x16_1 < (l0.length : Int)) = true := decide_eq_true c9
              clear c9
              by_cases c10 : 0 ≤ x16_1
              · rw [if_pos c10] at H
                have c10b0 : decide (0 ≤ x16_1) = true := decide_eq_true c10
                clear c10
                by_cases c11 : x16_1 < (l0.length : Int)
                · rw [if_pos c11] at H
                  have c11b0 : decide (x16_1 < (l0.length : Int)) = true := decide_eq_true c11
                  clear c11
                  by_cases c12 : x5_1.length < 140737488355328
                  · rw [if_pos c12] at H
                    have LMc12 := Aside0.mk c12
                    clear c12
                    obtain ⟨y108, hy108⟩ : ∃ y_ : List Int, y_ = (x5_1 ++ [rd l0 x16_1]) := ⟨_, rfl⟩
                    replace H : (if (rd l0 x16_1) = 10 then (if y108.length + l1.length < 140737488355328 then (textutils_PrefixLines.l0 k1 l1 (y108 ++ l1) l0 (l0.length : Int) (wrap64 (x16_1 + 1))) else (none)) else (textutils_PrefixLines.l0 k1 l1 y108 l0 (l0.length : Int) (wrap64 (x16_1 + 1)))) = some r := by first | (rw [hy108]; with_reducible exact H) | (have H2_ := (Option.bind_some _ _).symm.trans H; rw [hy108]; with_reducible exact H2_) | (have H2_ := (Option.bind_some _ _).symm.trans H; with_reducible exact H2_) | with_reducible exact H | (rw [hy108]; exact H) | exact H
                    have Ny108 := Aside0.mk hy108
                    clear hy108
                    by_cases c13 : (rd l0 x16_1) = 10
                    · rw [if_pos c13] at H
                      have c13b0 : ((rd l0 x16_1) == 10) = true := beq_iff_eq.mpr c13
                      have c13b1 : ((rd l0 x16_1) != 10) = false := bne_eq_false_iff_eq.mpr c13
                      clear c13
                      by_cases c14 : y108.length + l1.length < 140737488355328
                      · rw [if_pos c14] at H
                        have LMc14 := Aside0.mk c14
                        clear c14
                        obtain ⟨y111, hy111⟩ : ∃ y_ : List Int, y_ = (y108 ++ l1) := ⟨_, rfl⟩
                        replace H : (textutils_PrefixLines.l0 k1 l1 y111 l0 (l0.length : Int) (wrap64 (x16_1 + 1))) = some r := by first | (rw [hy111]; with_reducible exact H) | (have H2_ := (Option.bind_some _ _).symm.trans H; rw [hy111]; with_reducible exact H2_) | (have H2_ := (Option.bind_some _ _).symm.trans H; with_reducible exact H2_) | with_reducible exact H | (rw [hy111]; exact H) | exact H
                        have Ny111 := Aside0.mk hy111
                        clear hy111
                        have H' := Aside0.mk H
                        clear H
                        have p107 : 0 ≤ (x16_1 : Int) := of_decide_eq_true (by first | (with_reducible assumption) | assumption)
                        have q107 : x16_1 < (l0.length : Int) := of_decide_eq_true (by first | (with_reducible assumption) | assumption)
                        obtain ⟨ad107, e107, hx107_0⟩ := Kd.at_int HR0.out x16_1 p107 q107
                        cases e107
                        replace hx107_0 := (HB.out.cell (World.block_lt_of_cell? w _ hx107_0)).trans hx107_0
                        replace p107 := eq_true p107
                        replace q107 := eq_true q107
                        go_wp2_with (first | ((with_reducible refine gate_builtin (b := .append) (xs := #[.tmp 20, .tmp 22]) rfl ?_); at_builtin; refine Kd.R_append (Kd.int .u8) (w0 := w) w.heap.size rfl (.tmp 20) (.tmp 22) 45 5 (.int .u8 0) 1 rfl Try.underlying45 info5 rfl (by decide) (by omega) u5 x5_1 (rd l0 x16_1) [.int .u8 (rd l0 x16_1)] (fun _ => True) (fun _ => False) rfl rfl ?aP (fun _ hk => hk.elim) ?aF ?aO ?aB ?aS ?aL ?_; (case aP => exact rfl); (case aB => exact (by repeat (first | (with_reducible first | exact HB.out | apply below_alloc | apply pw_below_drewN | apply below_drew1) | exact HB.out))); (case aF => exact (fun _ _ => trivial)); (case aO => exact (by (with_reducible repeat (first | apply Kd.R_alloc | apply Kd.R_drewN | apply Kd.R_drew)); exact HO_5.out)); (case aS => exact (below_size (by repeat (first | (with_reducible first | exact HB.out | apply below_alloc | apply pw_below_drewN | apply below_drew1) | exact HB.out)))); (case aL => have := LMc12.out; (first | omega | (simp only [ByteArray.size, List.size_toArray, List.length_cons, List.length_nil]; omega))); intro v109 w15 ho hb hg hat; rw [← Ny108.out] at ho; have n0_ := Aside0.mk (hb); have n1_ := Aside0.mk (ho); clear HB; clear HO_5; have HB := n0_; have HO110 := n1_; clear n0_ n1_; clear ho hb hg hat) | ((with_reducible refine gate_builtin (b := .append) (xs := #[.tmp 26, .tmp 27]) rfl ?_); at_builtin; refine Kd.R_append_rows (Kd.int .u8) (w0 := w) w.heap.size rfl (.tmp 26) (.tmp 27) 45 5 (.int .u8 0) 1 rfl Try.underlying45 info5 rfl (by decide) (by omega) v109 y108 l1 _ _ _ (fun _ => True) (fun _ => False) rfl rfl ?aO ?aR (fun _ _ h => h) (fun _ h => h.elim) ?aF ?aB ?aS ?aL ?_; (case aR => repeat (first | exact (Kd.C_below HR1.out HB.out) | (with_reducible refine Kd.C_alloc ?_ _) | (with_reducible refine Kd.C_drewN ?_ _) | (with_reducible refine Kd.C_drew ?_))); (case aB => exact (by repeat (first | (with_reducible first | exact HB.out | apply below_alloc | apply pw_below_drewN | apply below_drew1) | exact HB.out))); (case aF => exact (fun _ _ => trivial)); (case aO => exact (by (with_reducible repeat (first | apply Kd.R_alloc | apply Kd.R_drewN | apply Kd.R_drew)); exact HO110.out)); (case aS => exact (below_size (by repeat (first | (with_reducible first | exact HB.out | apply below_alloc | apply pw_below_drewN | apply below_drew1) | exact HB.out)))); (case aL => have := LMc14.out; (first | omega | (simp only [ByteArray.size, List.size_toArray, List.length_cons, List.length_nil]; omega))); intro v112 w16 ho hb hg hat; rw [← Ny111.out] at ho; have n0_ := Aside0.mk (hb); have n1_ := Aside0.mk (ho); clear HB; clear HO110; have HB := n0_; have HO113 := n1_; clear n0_ n1_; clear ho hb hg hat))
                        go_roundg k1
                        case measure => have := HK1.out; omega
                        case rel => exact ⟨(y111), (wrap64 (x16_1 + 1)), (by first | rfl | (simp; done) | (simp [*]; done)), H', ⟨by have := HK1.out; omega⟩, ⟨by (with_reducible repeat (first | apply Kd.R_alloc | apply Kd.R_drewN | apply Kd.R_drew)); exact HO113.out⟩, ⟨by repeat (first | (with_reducible first | exact HB.out | apply below_alloc | apply pw_below_drewN | apply below_drew1) | exact HB.out)⟩⟩
                      · rw [if_neg c14] at H
                        exact absurd H (by simp)
                    · rw [if_neg c13] at H
                      have c13b0 : ((rd l0 x16_1) == 10) = false := beq_eq_false_iff_ne.mpr c13
                      have c13b1 : ((rd l0 x16_1) != 10) = true := bne_iff_ne.mpr c13
                      have H' := Aside0.mk H
                      clear H
                      have p107 : 0 ≤ (x16_1 : Int) := of_decide_eq_true (by first | (with_reducible assumption) | assumption)
                      have q107 : x16_1 < (l0.length : Int) := of_decide_eq_true (by first | (with_reducible assumption) | assumption)
                      obtain ⟨ad107, e107, hx107_0⟩ := Kd.at_int HR0.out x16_1 p107 q107
                      cases e107
                      replace hx107_0 := (HB.out.cell (World.block_lt_of_cell? w _ hx107_0)).trans hx107_0
                      replace p107 := eq_true p107
                      replace q107 := eq_true q107
                      go_wp2_with (first | ((with_reducible refine gate_builtin (b := .append) (xs := #[.tmp 20, .tmp 22]) rfl ?_); at_builtin; refine Kd.R_append (Kd.int .u8) (w0 := w) w.heap.size rfl (.tmp 20) (.tmp 22) 45 5 (.int .u8 0) 1 rfl Try.underlying45 info5 rfl (by decide) (by omega) u5 x5_1 (rd l0 x16_1) [.int .u8 (rd l0 x16_1)] (fun _ => True) (fun _ => False) rfl rfl ?aP (fun _ hk => hk.elim) ?aF ?aO ?aB ?aS ?aL ?_; (case aP => exact rfl); (case aB => exact (by repeat (first | (with_reducible first | exact HB.out | apply below_alloc | apply pw_below_drewN | apply below_drew1) | exact HB.out))); (case aF => exact (fun _ _ => trivial)); (case aO => exact (by (with_reducible repeat (first | apply Kd.R_alloc | apply Kd.R_drewN | apply Kd.R_drew)); exact HO_5.out)); (case aS => exact (below_size (by repeat (first | (with_reducible first | exact HB.out | apply below_alloc | apply pw_below_drewN | apply below_drew1) | exact HB.out)))); (case aL => have := LMc12.out; (first | omega | (simp only [ByteArray.size, List.size_toArray, List.length_cons, List.length_nil]; omega))); intro v109 w17 ho hb hg hat; rw [← Ny108.out] at ho; have n0_ := Aside0.mk (hb); have n1_ := Aside0.mk (ho); clear HB; clear HO_5; have HB := n0_; have HO110 := n1_; clear n0_ n1_; clear ho hb hg hat))
                      go_roundg k1
                      case measure => have := HK1.out; omega
                      case rel => exact ⟨(y108), (wrap64 (x16_1 + 1)), (by first | rfl | (simp; done) | (simp [*]; done)), H', ⟨by have := HK1.out; omega⟩, ⟨by (with_reducible repeat (first | apply Kd.R_alloc | apply Kd.R_drewN | apply Kd.R_drew)); exact HO110.out⟩, ⟨by repeat (first | (with_reducible first | exact HB.out | apply below_alloc | apply pw_below_drewN | apply below_drew1) | exact HB.out)⟩⟩
                  · rw [if_neg c12] at H
                    exact absurd H (by simp)
                · rw [if_neg c11] at H
                  exact absurd H (by simp)
              · rw [if_neg c10] at H
                exact absurd H (by simp)
            · rw [if_neg c9] at H
              have c9b0 : decide (x16_1 < (l0.length : Int)) = false := decide_eq_false c9
              clear c9
              obtain rfl := Option.some.inj H
              go_wp2
              go_ret
              exact ⟨_, by first | rfl | (simp [errW_none, errW_some] <;> rfl) | (simp [*, errW_none, errW_some] <;> rfl), by (with_reducible repeat (first | apply Kd.R_alloc | apply Kd.R_drewN | apply Kd.R_drew)); exact HO_5.out, by repeat (first | (with_reducible first | exact HB.out | apply below_alloc | apply pw_below_drewN | apply below_drew1) | exact HB.out)⟩
      · rw [if_neg c5] at H
        exact absurd H (by simp)
    · rw [if_neg c4] at H
      exact absurd H (by simp)
  · rw [if_neg c3] at H
    exact absurd H (by simp)

/-! ### converter_zzPercent: function 82 -/
def converter_zzPercent.l0 : Nat → ByteArray → List Int → Int → Option (ByteArray)
  | 0, _, _, _ => none
  | k + 1, x0, x3, x4 => if x4 < (x0.size : Int) then (if 0 ≤ x4 then (if (bt x0 x4) = 32 then (if x3.length + 3 < 140737488355328 then (converter_zzPercent.l0 k x0 (x3 ++ bytesOf (⟨#[37, 50, 48]⟩ : ByteArray)) (wrap64 (x4 + 1))) else (none)) else (if (bt x0 x4) = 91 then (if x3.length + 3 < 140737488355328 then (converter_zzPercent.l0 k x0 (x3 ++ bytesOf (⟨#[37, 53, 66]⟩ : ByteArray)) (wrap64 (x4 + 1))) else (none)) else (if (bt x0 x4) = 93 then (if x3.length + 3 < 140737488355328 then (converter_zzPercent.l0 k x0 (x3 ++ bytesOf (⟨#[37, 53, 68]⟩ : ByteArray)) (wrap64 (x4 + 1))) else (none)) else (if (bt x0 x4) = 40 then (if x3.length + 3 < 140737488355328 then (converter_zzPercent.l0 k x0 (x3 ++ bytesOf (⟨#[37, 50, 56]⟩ : ByteArray)) (wrap64 (x4 + 1))) else (none)) else (if (bt x0 x4) = 41 then (if x3.length + 3 < 140737488355328 then (converter_zzPercent.l0 k x0 (x3 ++ bytesOf (⟨#[37, 50, 57]⟩ : ByteArray)) (wrap64 (x4 + 1))) else (none)) else (if (bt x0 x4) = 60 then (if x3.length + 3 < 140737488355328 then (converter_zzPercent.l0 k x0 (x3 ++ bytesOf (⟨#[37, 51, 67]⟩ : ByteArray)) (wrap64 (x4 + 1))) else (none)) else (if (bt x0 x4) = 62 then (if x3.length + 3 < 140737488355328 then (converter_zzPercent.l0 k x0 (x3 ++ bytesOf (⟨#[37, 51, 69]⟩ : ByteArray)) (wrap64 (x4 + 1))) else (none)) else (if x3.length < 140737488355328 then (converter_zzPercent.l0 k x0 (x3 ++ [bt x0 x4]) (wrap64 (x4 + 1))) else (none))))))))) else (none)) else (some (strOfNums x3))
def converter_zzPercent.f (k : Nat) (a0 : ByteArray) : Option (ByteArray) := if 0 ≤ (a0.size : Int) then (if ((a0.size : Int) : Int).toNat ≤ 281474976710656 then (converter_zzPercent.l0 k a0 (List.replicate 0 0) 0) else (none)) else (none)
theorem converter_zzPercent.mono_l : ∀ k, (∀ y0 y1 y2, LeO (converter_zzPercent.l0 k y0 y1 y2) (converter_zzPercent.l0 (k + 1) y0 y1 y2))
  | 0 => fun _ _ _ r h => by simp [converter_zzPercent.l0] at h
  | k + 1 => by
    have ih0 := converter_zzPercent.mono_l k
    · intro y0 y1 y2
      unfold converter_zzPercent.l0
      repeat' first
      | (with_reducible exact ih0 _ _ _)
      | (with_reducible exact LeO.refl _)
      | (with_reducible exact LeO.none _)
      | (with_reducible refine LeO.ite ?_ ?_)
      | (with_reducible refine LeO.bind ?_ (fun _ => ?_))
      | exact ih0 _ _ _
      | exact LeO.none _
      | refine LeO.ite ?_ ?_
      | refine LeO.bind ?_ (fun _ => ?_)
theorem converter_zzPercent.mono : ∀ a0 k, LeO (converter_zzPercent.f k a0) (converter_zzPercent.f (k + 1) a0) := by
  intro a0 k
  have ih0 := converter_zzPercent.mono_l k
  unfold converter_zzPercent.f
  repeat' first
      | (with_reducible exact ih0 _ _ _)
      | (with_reducible exact LeO.refl _)
      | (with_reducible exact LeO.none _)
      | (with_reducible refine LeO.ite ?_ ?_)
      | (with_reducible refine LeO.bind ?_ (fun _ => ?_))
      | exact ih0 _ _ _
      | exact LeO.none _
      | refine LeO.ite ?_ ?_
      | refine LeO.bind ?_ (fun _ => ?_)
set_option maxHeartbeats 8000000 in
set_option maxRecDepth 100000 in
theorem converter_zzPercent.calls (k : Nat) (a0 : ByteArray) (r : ByteArray) (w : World) (h : converter_zzPercent.f k a0 = some r) :
    Calls Try.prog 82 #[.string a0] w fun e w' => e = .returned (.string r) ∧ Below w.heap.size w w' := by
  have HB := Aside0.mk (Below.refl w.heap.size w)
  have H : (if 0 ≤ (a0.size : Int) then (if ((a0.size : Int) : Int).toNat ≤ 281474976710656 then (converter_zzPercent.l0 k a0 (List.replicate 0 0) 0) else (none)) else (none)) = some r := h
  clear h
  by_cases c2 : 0 ≤ (a0.size : Int)
  · rw [if_pos c2] at H
    have c2b0 := eq_true c2
    have c2b1 : decide (0 ≤ (a0.size : Int)) = true := decide_eq_true c2
    clear c2
    by_cases c3 : ((a0.size : Int) : Int).toNat ≤ 281474976710656
    · rw [if_pos c3] at H
      have c3b0 := eq_true c3
      have c3b1 : decide (((a0.size : Int) : Int).toNat ≤ 281474976710656) = true := decide_eq_true c3
      clear c3
      obtain ⟨y114, hy114⟩ : ∃ y_ : List Int, y_ = (List.replicate 0 0) := ⟨_, rfl⟩
      replace H : (converter_zzPercent.l0 k a0 y114 0) = some r := by first | (rw [hy114]; with_reducible exact H) | (have H2_ := (Option.bind_some _ _).symm.trans H; rw [hy114]; with_reducible exact H2_) | (have H2_ := (Option.bind_some _ _).symm.trans H; with_reducible exact H2_) | with_reducible exact H | (rw [hy114]; exact H) | exact H
      have Ny114 := Aside0.mk hy114
      clear hy114
      have H' := Aside0.mk H
      clear H
      go_enter Try.func82, Try.ntmps82
      go_wp2_with (first | ((with_reducible refine gate_dst (N := 7) rfl ?_); refine Kd.R_makecap (Kd.int .u8) _ 5 rfl (N := 7) rfl 45 _ _ rfl (a0.size : Int) rfl rfl Try.underlying45 (.int .u8 0) 1 info5 rfl (by decide) (by omega) 0 (ok := fun _ => True) (okp := fun _ => True) rfl (fun _ hk => hk) trivial (of_decide_eq_true (by first | (with_reducible assumption) | assumption)) (Nat.le_trans (Nat.mul_le_mul_right _ (of_decide_eq_true (by first | (with_reducible assumption) | assumption) : (a0.size : Int).toNat ≤ 281474976710656)) (by omega)) (Below.refl _ _) (Nat.le_refl _) ?_; intro v115 w4 ho5 hb hg_ hnew_; clear hg_ hnew_; (first | rw [← Ny114.out] at ho5 | (simp only [Int.reduceToNat] at ho5; rw [← Ny114.out] at ho5)); have n0_ := Aside0.mk (Kd.R_lower ho5 (below_size (by repeat (first | (with_reducible first | exact HB.out | apply below_alloc | apply pw_below_drewN | apply below_drew1) | exact HB.out)))); have n1_ := Aside0.mk (below_step (by repeat (first | (with_reducible first | exact HB.out | apply below_alloc | apply pw_below_drewN | apply below_drew1) | exact HB.out)) hb); clear HB; have HO116 := n0_; have HB := n1_; clear n0_ n1_; clear hb ho5))
      go_loopg [3, 4] k (fun kq v3 v4 w' => ∃ (x3_1 : List Int) (x4_1 : Int), v4 = .int .i64 x4_1 ∧ Aside0 (converter_zzPercent.l0 kq a0 x3_1 x4_1 = some r) ∧ Aside0 (kq ≤ k) ∧ Aside0 (Kd.R (Kd.int .u8) 5 w' w.heap.size (fun _ => True) v3 x3_1) ∧ Aside0 (Below w.heap.size w w'))
      case atStart => exact ⟨(y114), (0), (by first | rfl | (simp; done) | (simp [*]; done)), H', ⟨Nat.le_refl _⟩, ⟨by (with_reducible repeat (first | apply Kd.R_alloc | apply Kd.R_drewN | apply Kd.R_drew)); exact HO116.out⟩, ⟨by repeat (first | (with_reducible first | exact HB.out | apply below_alloc | apply pw_below_drewN | apply below_drew1) | exact HB.out)⟩⟩
      case round =>
        clear H'
        try clear c2
        try clear c2b0
        try clear c2b1
        try clear p2
        try clear c3
        try clear c3b0
        try clear c3b1
        obtain ⟨x3_1, x4_1, rfl, HA, HK1, HO_3, HB⟩ := hrel
        cases gk with
        | zero => exact absurd HA.out (by simp [converter_zzPercent.l0])
        | succ k1 =>
          have H := HA.out
          clear HA
          simp only [converter_zzPercent.l0] at H
          by_cases c6 : x4_1 < (a0.size : Int)
          · rw [if_pos c6] at H
            have c6b0 : decide (x4_1 < (a0.size : Int)) = true := decide_eq_true c6
            clear c6
            by_cases c7 : 0 ≤ x4_1
            · rw [if_pos c7] at H
              have c7b0 : decide (0 ≤ x4_1) = true := decide_eq_true c7
              clear c7
              by_cases c9 : (bt a0 x4_1) = 32
              · rw [if_pos c9] at H
                have c9b0 : ((bt a0 x4_1) == 32) = true := beq_iff_eq.mpr c9
                have c9b1 : ((bt a0 x4_1) != 32) = false := bne_eq_false_iff_eq.mpr c9
                clear c9
                by_cases c10 : x3_1.length + 3 < 140737488355328
                · rw [if_pos c10] at H
                  have LMc10 := Aside0.mk c10
                  clear c10
                  obtain ⟨y117, hy117⟩ : ∃ y_ : List Int, y_ = (x3_1 ++ bytesOf (⟨#[37, 50, 48]⟩ : ByteArray)) := ⟨_, rfl⟩
                  replace H : (converter_zzPercent.l0 k1 a0 y117 (wrap64 (x4_1 + 1))) = some r := by first | (rw [hy117]; with_reducible exact H) | (have H2_ := (Option.bind_some _ _).symm.trans H; rw [hy117]; with_reducible exact H2_) | (have H2_ := (Option.bind_some _ _).symm.trans H; with_reducible exact H2_) | with_reducible exact H | (rw [hy117]; exact H) | exact H
                  have Ny117 := Aside0.mk hy117
                  clear hy117
                  have H' := Aside0.mk H
                  clear H
                  have p8 : 0 ≤ (x4_1 : Int) := of_decide_eq_true (by first | (with_reducible assumption) | assumption)
                  have q8 : x4_1 < (a0.size : Int) := of_decide_eq_true (by first | (with_reducible assumption) | assumption)
                  have hx8 := bt_at a0 x4_1
                  replace p8 := eq_true p8
                  replace q8 := eq_true q8
                  go_wp2_with (first | (at_builtin; refine print_append_str (w0 := w) w.heap.size rfl (.tmp 25) _ 45 9 5 rfl Try.underlying45 Try.underlying9 info5 u3 x3_1 (⟨#[37, 50, 48]⟩ : ByteArray) rfl rfl ?aO ?aB ?aS ?aL ?_; (case aB => exact (by repeat (first | (with_reducible first | exact HB.out | apply below_alloc | apply pw_below_drewN | apply below_drew1) | exact HB.out))); (case aO => exact (Kd.own_of_R (by (with_reducible repeat (first | apply Kd.R_alloc | apply Kd.R_drewN | apply Kd.R_drew)); exact HO_3.out))); (case aS => exact (below_size (by repeat (first | (with_reducible first | exact HB.out | apply below_alloc | apply pw_below_drewN | apply below_drew1) | exact HB.out)))); (case aL => have := LMc10.out; (first | omega | (simp only [ByteArray.size, List.size_toArray, List.length_cons, List.length_nil]; omega))); intro v118 w11 ho0 hb hg; have ho := Kd.R_of_own (h1 := fun _ => rfl) (ok := fun _ => True) ho0 (fun _ _ => trivial); clear ho0; have hat := True.intro; rw [← Ny117.out] at ho; change Kd.R (Kd.int .u8) 5 w11 w.heap.size (fun _ => True) v118 y117 at ho; have n0_ := Aside0.mk (hb); have n1_ := Aside0.mk (ho); clear HB; clear HO_3; have HB := n0_; have HO119 := n1_; clear n0_ n1_; clear ho hb hg hat))
                  go_roundg k1
                  case measure => have := HK1.out; omega
                  case rel => exact ⟨(y117), (wrap64 (x4_1 + 1)), (by first | rfl | (simp; done) | (simp [*]; done)), H', ⟨by have := HK1.out; omega⟩, ⟨by (with_reducible repeat (first | apply Kd.R_alloc | apply Kd.R_drewN | apply Kd.R_drew)); exact HO119.out⟩, ⟨by repeat (first | (with_reducible first | exact HB.out | apply below_alloc | apply pw_below_drewN | apply below_drew1) | exact HB.out)⟩⟩
                · rw [if_neg c10] at H
                  exact absurd H (by simp)
              · rw [if_neg c9] at H
                have c9b0 : ((bt a0 x4_1) == 32) = false := beq_eq_false_iff_ne.mpr c9
                have c9b1 : ((bt a0 x4_1) != 32) = true := bne_iff_ne.mpr c9
                by_cases c12 : (bt a0 x4_1) = 91
                · rw [if_pos c12] at H
                  have c12b0 : ((bt a0 x4_1) == 91) = true := beq_iff_eq.mpr c12
                  have c12b1 : ((bt a0 x4_1) != 91) = false := bne_eq_false_iff_eq.mpr c12
                  clear c12
                  by_cases c13 : x3_1.length + 3 < 140737488355328
                  · rw [if_pos c13] at H
                    have LMc13 := Aside0.mk c13
                    clear c13
                    obtain ⟨y120, hy120⟩ : ∃ y_ : List Int, y_ = (x3_1 ++ bytesOf (⟨#[37, 53, 66]⟩ : ByteArray)) := ⟨_, rfl⟩
                    replace H : (converter_zzPercent.l0 k1 a0 y120 (wrap64 (x4_1 + 1))) = some r := by first | (rw [hy120]; with_reducible exact H) | (have H2_ := (Option.bind_some _ _).symm.trans H; rw [hy120]; with_reducible exact H2_) | (have H2_ := (Option.bind_some _ _).symm.trans H; with_reducible exact H2_) | with_reducible exact H | (rw [hy120]; exact H) | exact H
                    have Ny120 := Aside0.mk hy120
                    clear hy120
                    have H' := Aside0.mk H
                    clear H
                    have p8 : 0 ≤ (x4_1 : Int) := of_decide_eq_true (by first | (with_reducible assumption) | assumption)
                    have q8 : x4_1 < (a0.size : Int) := of_decide_eq_true (by first | (with_reducible assumption) | assumption)
                    have hx8 := bt_at a0 x4_1
                    replace p8 := eq_true p8
                    replace q8 := eq_true q8
                    go_wp2_with (first | (at_builtin; refine print_append_str (w0 := w) w.heap.size rfl (.tmp 29) _ 45 9 5 rfl Try.underlying45 Try.underlying9 info5 u3 x3_1 (⟨#[37, 53, 66]⟩ : ByteArray) rfl rfl ?aO ?aB ?aS ?aL ?_; (case aB => exact (by repeat (first | (with_reducible first | exact HB.out | apply below_alloc | apply pw_below_drewN | apply below_drew1) | exact HB.out))); (case aO => exact (Kd.own_of_R (by (with_reducible repeat (first | apply Kd.R_alloc | apply Kd.R_drewN | apply Kd.R_drew)); exact HO_3.out))); (case aS => exact (below_size (by repeat (first | (with_reducible first | exact HB.out | apply below_alloc | apply pw_below_drewN | apply below_drew1) | exact HB.out)))); (case aL => have := LMc13.out; (first | omega | (simp only [ByteArray.size, List.size_toArray, List.length_cons, List.length_nil]; omega))); intro v121 w14 ho0 hb hg; have ho := Kd.R_of_own (h1 := fun _ => rfl) (ok := fun _ => True) ho0 (fun _ _ => trivial); clear ho0; have hat := True.intro; rw [← Ny120.out] at ho; change Kd.R (Kd.int .u8) 5 w14 w.heap.size (fun _ => True) v121 y120 at ho; have n0_ := Aside0.mk (hb); have n1_ := Aside0.mk (ho); clear HB; clear HO_3; have HB := n0_; have HO122 := n1_; clear n0_ n1_; clear ho hb hg hat))
                    go_roundg k1
                    case measure => have := HK1.out; omega
                    case rel => exact ⟨(y120), (wrap64 (x4_1 + 1)), (by first | rfl | (simp; done) | (simp [*]; done)), H', ⟨by have := HK1.out; omega⟩, ⟨by (with_reducible repeat (first | apply Kd.R_alloc | apply Kd.R_drewN | apply Kd.R_drew)); exact HO122.out⟩, ⟨by repeat (first | (with_reducible first | exact HB.out | apply below_alloc | apply pw_below_drewN | apply below_drew1) | exact HB.out)⟩⟩
                  · rw [if_neg c13] at H
                    exact absurd H (by simp)
                · rw [if_neg c12] at H
                  have c12b0 : ((bt a0 x4_1) == 91) = false := beq_eq_false_iff_ne.mpr c12
                  have c12b1 : ((bt a0 x4_1) != 91) = true := bne_iff_ne.mpr c12
                  by_cases c15 : (bt a0 x4_1) = 93
                  · rw [if_pos c15] at H
                    have c15b0 : ((bt a0 x4_1) == 93) = true := beq_iff_eq.mpr c15
                    have c15b1 : ((bt a0 x4_1) != 93) = false := bne_eq_false_iff_eq.mpr c15
                    clear c15
                    by_cases c16 : x3_1.length + 3 < 140737488355328
                    · rw [if_pos c16] at H
                      have LMc16 := Aside0.mk c16
                      clear c16
                      obtain ⟨y123, hy123⟩ : ∃ y_ : List Int, y_ = (x3_1 ++ bytesOf (⟨#[37, 53, 68]⟩ : ByteArray)) := ⟨_, rfl⟩
                      replace H : (converter_zzPercent.l0 k1 a0 y123 (wrap64 (x4_1 + 1))) = some r := by first | (rw [hy123]; with_reducible exact H) | (have H2_ := (Option.bind_some _ _).symm.trans H; rw [hy123]; with_reducible exact H2_) | (have H2_ := (Option.bind_some _ _).symm.trans H; with_reducible exact H2_) | with_reducible exact H | (rw [hy123]; exact H) | exact H
                      have Ny123 := Aside0.mk hy123
                      clear hy123
                      have H' := Aside0.mk H
                      clear H
                      have p8 : 0 ≤ (x4_1 : Int) := of_decide_eq_true (by first | (with_reducible assumption) | assumption)
                      have q8 : x4_1 < (a0.size : Int) := of_decide_eq_true (by first | (with_reducible assumption) | assumption)
                      have hx8 := bt_at a0 x4_1
                      replace p8 := eq_true p8
                      replace q8 := eq_true q8
                      go_wp2_with (first | (at_builtin; refine print_append_str (w0 := w) w.heap.size rfl (.tmp 33) _ 45 9 5 rfl Try.underlying45 Try.underlying9 info5 u3 x3_1 (⟨#[37, 53, 68]⟩ : ByteArray) rfl rfl ?aO ?aB ?aS ?aL ?_; (case aB => exact (by repeat (first | (with_reducible first | exact HB.out | apply below_alloc | apply pw_below_drewN | apply below_drew1) | exact HB.out))); (case aO => exact (Kd.own_of_R (by (with_reducible repeat (first | apply Kd.R_alloc | apply Kd.R_drewN | apply Kd.R_drew)); exact HO_3.out))); (case aS => exact (below_size (by repeat (first | (with_reducible first | exact HB.out | apply below_alloc | apply pw_below_drewN | apply below_drew1) | exact HB.out)))); (case aL => have := LMc16.out; (first | omega | (simp only [ByteArray.size, List.size_toArray, List.length_cons, List.length_nil]; omega))); intro v124 w17 ho0 hb hg; have ho := Kd.R_of_own (h1 := fun _ => rfl) (ok := fun _ => True) ho0 (fun _ _ => trivial); clear ho0; have hat := True.intro; rw [← Ny123.out] at ho; change Kd.R (Kd.int .u8) 5 w17 w.heap.size (fun _ => True) v124 y123 at ho; have n0_ := Aside0.mk (hb); have n1_ := Aside0.mk (ho); clear HB; clear HO_3; have HB := n0_; have HO125 := n1_; clear n0_ n1_; clear ho hb hg hat))
                      go_roundg k1
                      case measure => have := HK1.out; omega
                      case rel => exact ⟨(y123), (wrap64 (x4_1 + 1)), (by first | rfl | (simp; done) | (simp [*]; done)), H', ⟨by have := HK1.out; omega⟩, ⟨by (with_reducible repeat (first | apply Kd.R_alloc | apply Kd.R_drewN | apply Kd.R_drew)); exact HO125.out⟩, ⟨by repeat (first | (with_reducible first | exact HB.out | apply below_alloc | apply pw_below_drewN | apply below_drew1) | exact HB.out)⟩⟩
                    · rw [if_neg c16] at H
                      exact absurd H (by simp)
                  · rw [if_neg c15] at H
                    have c15b0 : ((bt a0 x4_1) == 93) = false := beq_eq_false_iff_ne.mpr c15
                    have c15b1 : ((bt a0 x4_1) != 93) = true := bne_iff_ne.mpr c15
                    by_cases c18 : (bt a0 x4_1) = 40
                    · rw [if_pos c18] at H
                      have c18b0 : ((bt a0 x4_1) == 40) = true := beq_iff_eq.mpr c18
                      have c18b1 : ((bt a0 x4_1) != 40) = false := bne_eq_false_iff_eq.mpr c18
                      clear c18
                      by_cases c19 : x3_1.length + 3 < 140737488355328
                      · rw [if_pos c19] at H
                        have LMc19 := Aside0.mk c19
                        clear c19
                        obtain ⟨y126, hy126⟩ : ∃ y_ : List Int, y_ = (x3_1 ++ bytesOf (⟨#[37, 50, 56]⟩ : ByteArray)) := ⟨_, rfl⟩
                        replace H : (converter_zzPercent.l0 k1 a0 y126 (wrap64 (x4_1 + 1))) = some r := by first | (rw [hy126]; with_reducible exact H) | (have H2_ := (Option.bind_some _ _).symm.trans H; rw [hy126]; with_reducible exact H2_) | (have H2_ := (Option.bind_some _ _).symm.trans H; with_reducible exact H2_) | with_reducible exact H | (rw [hy126]; exact H) | exact H
                        have Ny126 := Aside0.mk hy126
                        clear hy126
                        have H' := Aside0.mk H
                        clear H
                        have p8 : 0 ≤ (x4_1 : Int) := of_decide_eq_true (by first | (with_reducible assumption) | assumption)
                        have q8 : x4_1 < (a0.size : Int) := of_decide_eq_true (by first | (with_reducible assumption) | assumption)
                        have hx8 := bt_at a0 x4_1
                        replace p8 := eq_true p8
                        replace q8 := eq_true q8
                        go_wp2_with (first | (at_builtin; refine print_append_str (w0 := w) w.heap.size rfl (.tmp 37) _ 45 9 5 rfl Try.underlying45 Try.underlying9 info5 u3 x3_1 (⟨#[37, 50, 56]⟩ : ByteArray) rfl rfl ?aO ?aB ?aS ?aL ?_; (case aB => exact (by repeat (first | (with_reducible first | exact HB.out | apply below_alloc | apply pw_below_drewN | apply below_drew1) | exact HB.out))); (case aO => exact (Kd.own_of_R (by (with_reducible repeat (first | apply Kd.R_alloc | apply Kd.R_drewN | apply Kd.R_drew)); exact HO_3.out))); (case aS => exact (below_size (by repeat (first | (with_reducible first | exact HB.out | apply below_alloc | apply pw_below_drewN | apply below_drew1) | exact HB.out)))); (case aL => have := LMc19.out; (first | omega | (simp only [ByteArray.size, List.size_toArray, List.length_cons, List.length_nil]; omega))); intro v127 w20 ho0 hb hg; have ho := Kd.R_of_own (h1 := fun _ => rfl) (ok := fun _ => True) ho0 (fun _ _ => trivial); clear ho0; have hat := True.intro; rw [← Ny126.out] at ho; change Kd.R (Kd.int .u8) 5 w20 w.heap.size (fun _ => True) v127 y126 at ho; have n0_ := Aside0.mk (hb); have n1_ := Aside0.mk (ho); clear HB; clear HO_3; have HB := n0_; have HO128 := n1_; clear n0_ n1_; clear ho hb hg hat))
                        go_roundg k1
                        case measure => have := HK1.out; omega
                        case rel => exact ⟨(y126), (wrap64 (x4_1 + 1)), (by first | rfl | (simp; done) | (simp [*]; done)), H', ⟨by have := HK1.out; omega⟩, ⟨by (with_reducible repeat (first | apply Kd.R_alloc | apply Kd.R_drewN | apply Kd.R_drew)); exact HO128.out⟩, ⟨by repeat (first | (with_reducible first | exact HB.out | apply below_alloc | apply pw_below_drewN | apply below_drew1) | exact HB.out)⟩⟩
                      · rw [if_neg c19] at H
                        exact absurd H (by simp)
                    · rw [if_neg c18] at H
                      have c18b0 : ((bt a0 x4_1) == 40) = false := beq_eq_false_iff_ne.mpr c18
                      have c18b1 : ((bt a0 x4_1) != 40) = true := bne_iff_ne.mpr c18
                      by_cases c21 : (bt a0 x4_1) = 41
                      · rw [if_pos c21] at H
                        have c21b0 : ((bt a0 x4_1) == 41) = true := beq_iff_eq.mpr c21
                        have c21b1 : ((bt a0 x4_1) != 41) = false := bne_eq_false_iff_eq.mpr c21
                        clear c21
                        by_cases c22 : x3_1.length + 3 < 140737488355328
                        · rw [if_pos c22] at H
                          have LMc22 := Aside0.mk c22
                          clear c22
                          obtain ⟨y129, hy129⟩ : ∃ y_ : List Int, y_ = (x3_1 ++ bytesOf (⟨#[37, 50, 57]⟩ : ByteArray)) := ⟨_, rfl⟩
                          replace H : (converter_zzPercent.l0 k1 a0 y129 (wrap64 (x4_1 + 1))) = some r := by first | (rw [hy129]; with_reducible exact H) | (have H2_ := (Option.bind_some _ _).symm.trans H; rw [hy129]; with_reducible exact H2_) | (have H2_ := (Option.bind_some _ _).symm.trans H; with_reducible exact H2_) | with_reducible exact H | (rw [hy129]; exact H) | exact H
                          have Ny129 := Aside0.mk hy129
                          clear hy129
                          have H' := Aside0.mk H
                          clear H
                          have p8 : 0 ≤ (x4_1 : Int) := of_decide_eq_true (by first | (with_reducible assumption) | assumption)
                          have q8 : x4_1 < (a0.size : Int) := of_decide_eq_true (by first | (with_reducible assumption) | assumption)
                          have hx8 := bt_at a0 x4_1
                          replace p8 := eq_true p8
                          replace q8 := eq_true q8
                          go_wp2_with (first | (at_builtin; refine print_append_str (w0 := w) w.heap.size rfl (.tmp 41) _ 45 9 5 rfl Try.underlying45 Try.underlying9 info5 u3 x3_1 (⟨#[37, 50, 57]⟩ : ByteArray) rfl rfl ?aO ?aB ?aS ?aL ?_; (case aB => exact (by repeat (first | (with_reducible first | exact HB.out | apply below_alloc | apply pw_below_drewN | apply below_drew1) | exact HB.out))); (case aO => exact (Kd.own_of_R (by (with_reducible repeat (first | apply Kd.R_alloc | apply Kd.R_drewN | apply Kd.R_drew)); exact HO_3.out))); (case aS => exact (below_size (by repeat (first | (with_reducible first | exact HB.out | apply below_alloc | apply pw_below_drewN | apply below_drew1) | exact HB.out)))); (case aL => have := LMc22.out; (first | omega | (simp only [ByteArray.size, List.size_toArray, List.length_cons, List.length_nil]; omega))); intro v130 w23 ho0 hb hg; have ho := Kd.R_of_own (h1 := fun _ => rfl) (ok := fun _ => True) ho0 (fun _ _ => trivial); clear ho0; have hat := True.intro; rw [← Ny129.out] at ho; change Kd.R (Kd.int .u8) 5 w23 w.heap.size (fun _ => True) v130 y129 at ho; have n0_ := Aside0.mk (hb); have n1_ := Aside0.mk (ho); clear HB; clear HO_3; have HB := n0_; have HO131 := n1_; clear n0_ n1_; clear ho hb hg hat))
                          go_roundg k1
                          case measure => have := HK1.out; omega
                          case rel => exact ⟨(y129), (wrap64 (x4_1 + 1)), (by first | rfl | (simp; done) | (simp [*]; done)), H', ⟨by have := HK1.out; omega⟩, ⟨by (with_reducible repeat (first | apply Kd.R_alloc | apply Kd.R_drewN | apply Kd.R_drew)); exact HO131.out⟩, ⟨by repeat (first | (with_reducible first | exact HB.out | apply below_alloc | apply pw_below_drewN | apply below_drew1) | exact HB.out)⟩⟩
                        · rw [if_neg c22] at H
                          exact absurd H (by simp)
                      · rw [if_neg c21] at H
                        have c21b0 : ((bt a0 x4_1) == 41) = false := beq_eq_false_iff_ne.mpr c21
                        have c21b1 : ((bt a0 x4_1) != 41) = true := bne_iff_ne.mpr c21
                        by_cases c24 : (bt a0 x4_1) = 60
                        · rw [if_pos c24] at H
                          have c24b0 : ((bt a0 x4_1) == 60) = true := beq_iff_eq.mpr c24
                          have c24b1 : ((bt a0 x4_1) != 60) = false := bne_eq_false_iff_eq.mpr c24
                          clear c24
                          by_cases c25 : x3_1.length + 3 < 140737488355328
                          · rw [if_pos c25] at H
                            have LMc25 := Aside0.mk c25
                            clear c25
                            obtain ⟨y132, hy132⟩ : ∃ y_ : List Int, y_ = (x3_1 ++ bytesOf (⟨#[37, 51, 67]⟩ : ByteArray)) := ⟨_, rfl⟩
                            replace H : (converter_zzPercent.l0 k1 a0 y132 (wrap64 (x4_1 + 1))) = some r := by first | (rw [hy132]; with_reducible exact H) | (have H2_ := (Option.bind_some _ _).symm.trans H; rw [hy132]; with_reducible exact H2_) | (have H2_ := (Option.bind_some _ _).symm.trans H; with_reducible exact H2_) | with_reducible exact H | (rw [hy132]; exact H) | exact H
                            have Ny132 := Aside0.mk hy132
                            clear hy132
                            have H' := Aside0.mk H
                            clear H
                            have p8 : 0 ≤ (x4_1 : Int) := of_decide_eq_true (by first | (with_reducible assumption) | assumption)
                            have q8 : x4_1 < (a0.size : Int) := of_decide_eq_true (by first | (with_reducible assumption) | assumption)
                            have hx8 := bt_at a0 x4_1
                            replace p8 := eq_true p8
                            replace q8 := eq_true q8
                            go_wp2_with (first | (at_builtin; refine print_append_str (w0 := w) w.heap.size rfl (.tmp 45) _ 45 9 5 rfl Try.underlying45 Try.underlying9 info5 u3 x3_1 (⟨#[37, 51, 67]⟩ : ByteArray) rfl rfl ?aO ?aB ?aS ?aL ?_; (case aB => exact (by repeat (first | (with_reducible first | exact HB.out | apply below_alloc | apply pw_below_drewN | apply below_drew1) | exact HB.out))); (case aO => exact (Kd.own_of_R (by (with_reducible repeat (first | apply Kd.R_alloc | apply Kd.R_drewN | apply Kd.R_drew)); exact HO_3.out))); (case aS => exact (below_size (by repeat (first | (with_reducible first | exact HB.out | apply below_alloc | apply pw_below_drewN | apply below_drew1) | exact HB.out)))); (case aL => have := LMc25.out; (first | omega | (simp only [ByteArray.size, List.size_toArray, List.length_cons, List.length_nil]; omega))); intro v133 w26 ho0 hb hg; have ho := Kd.R_of_own (h1 := fun _ => rfl) (ok := fun _ => True) ho0 (fun _ _ => trivial); clear ho0; have hat := True.intro; rw [← Ny132.out] at ho; change Kd.R (Kd.int .u8) 5 w26 w.heap.size (fun _ => True) v133 y132 at ho; have n0_ := Aside0.mk (hb); have n1_ := Aside0.mk (ho); clear HB; clear HO_3; have HB := n0_; have HO134 := n1_; clear n0_ n1_; clear ho hb hg hat))
                            go_roundg k1
                            case measure => have := HK1.out; omega
                            case rel => exact ⟨(y132), (wrap64 (x4_1 + 1)), (by first | rfl | (simp; done) | (simp [*]; done)), H', ⟨by have := HK1.out; omega⟩, ⟨by (with_reducible repeat (first | apply Kd.R_alloc | apply Kd.R_drewN | apply Kd.R_drew)); exact HO134.out⟩, ⟨by repeat (first | (with_reducible first | exact HB.out | apply below_alloc | apply pw_below_drewN | apply below_drew1) | exact HB.out)⟩⟩
                          · rw [if_neg c25] at H
                            exact absurd H (by simp)
                        · rw [if_neg c24] at H
                          have c24b0 : ((bt a0 x4_1) == 60) = false := beq_eq_false_iff_ne.mpr c24
                          have c24b1 : ((bt a0 x4_1) != 60) = true := bne_iff_ne.mpr c24
                          by_cases c27 : (bt a0 x4_1) = 62
                          · rw [if_pos c27] at H
                            have c27b0 : ((bt a0 x4_1) == 62) = true := beq_iff_eq.mpr c27
                            have c27b1 : ((bt a0 x4_1) != 62) = false := bne_eq_false_iff_eq.mpr c27
                            clear c27
                            by_cases c28 : x3_1.length + 3 < 140737488355328
                            · rw [if_pos c28] at H
                              have LMc28 := Aside0.mk c28
                              clear c28
                              obtain ⟨y135, hy135⟩ : ∃ y_ : List Int, y_ = (x3_1 ++ bytesOf (⟨#[37, 51, 69]⟩ : ByteArray)) := ⟨_, rfl⟩
                              replace H : (converter_zzPercent.l0 k1 a0 y135 (wrap64 (x4_1 + 1))) = some r := by first | (rw [hy135]; with_reducible exact H) | (have H2_ := (Option.bind_some _ _).symm.trans H; rw [hy135]; with_reducible exact H2_) | (have H2_ := (Option.bind_some _ _).symm.trans H; with_reducible exact H2_) | with_reducible exact H | (rw [hy135]; exact H) | exact H
                              have Ny135 := Aside0.mk hy135
                              clear hy135
                              have H' := Aside0.mk H
                              clear H
                              have p8 : 0 ≤ (x4_1 : Int) := of_decide_eq_true (by first | (with_reducible assumption) | assumption)
                              have q8 : x4_1 < (a0.size : Int) := of_decide_eq_true (by first | (with_reducible assumption) | assumption)
                              have hx8 := bt_at a0 x4_1
                              replace p8 := eq_true p8
                              replace q8 := eq_true q8
                              go_wp2_with (first | (at_builtin; refine print_append_str (w0 := w) w.heap.size rfl (.tmp 49) _ 45 9 5 rfl Try.underlying45 Try.underlying9 info5 u3 x3_1 (⟨#[37, 51, 69]⟩ : ByteArray) rfl rfl ?aO ?aB ?aS ?aL ?_; (case aB => exact (by repeat (first | (with_reducible first | exact HB.out | apply below_alloc | apply pw_below_drewN | apply below_drew1) | exact HB.out))); (case aO => exact (Kd.own_of_R (by (with_reducible repeat (first | apply Kd.R_alloc | apply Kd.R_drewN | apply Kd.R_drew)); exact HO_3.out))); (case aS => exact (below_size (by repeat (first | (with_reducible first | exact HB.out | apply below_alloc | apply pw_below_drewN | apply below_drew1) | exact HB.out)))); (case aL => have := LMc28.out; (first | omega | (simp only [ByteArray.size, List.size_toArray, List.length_cons, List.length_nil]; omega))); intro v136 w29 ho0 hb hg; have ho := Kd.R_of_own (h1 := fun _ => rfl) (ok := fun _ => True) ho0 (fun _ _ => trivial); clear ho0; have hat := True.intro; rw [← Ny135.out] at ho; change Kd.R (Kd.int .u8) 5 w29 w.heap.size (fun _ => True) v136 y135 at ho; have n0_ := Aside0.mk (hb); have n1_ := Aside0.mk (ho); clear HB; clear HO_3; have HB := n0_; have HO137 := n1_; clear n0_ n1_; clear ho hb hg hat))
                              go_roundg k1
                              case measure => have := HK1.out; omega
                              case rel => exact ⟨(y135), (wrap64 (x4_1 + 1)), (by first | rfl | (simp; done) | (simp [*]; done)), H', ⟨by have := HK1.out; omega⟩, ⟨by (with_reducible repeat (first | apply Kd.R_alloc | apply Kd.R_drewN | apply Kd.R_drew)); exact HO137.out⟩, ⟨by repeat (first | (with_reducible first | exact HB.out | apply below_alloc | apply pw_below_drewN | apply below_drew1) | exact HB.out)⟩⟩
                            · rw [if_neg c28] at H
                              exact absurd H (by simp)
                          · rw [if_neg c27] at H
                            have c27b0 : ((bt a0 x4_1) == 62) = false := beq_eq_false_iff_ne.mpr c27
                            have c27b1 : ((bt a0 x4_1) != 62) = true := bne_iff_ne.mpr c27
                            by_cases c31 : x3_1.length < 140737488355328
                            · rw [if_pos c31] at H
                              have LMc31 := Aside0.mk c31
                              clear c31
                              obtain ⟨y138, hy138⟩ : ∃ y_ : List Int, y_ = (x3_1 ++ [bt a0 x4_1]) := ⟨_, rfl⟩
                              replace H : (converter_zzPercent.l0 k1 a0 y138 (wrap64 (x4_1 + 1))) = some r := by first | (rw [hy138]; with_reducible exact H) | (have H2_ := (Option.bind_some _ _).symm.trans H; rw [hy138]; with_reducible exact H2_) | (have H2_ := (Option.bind_some _ _).symm.trans H; with_reducible exact H2_) | with_reducible exact H | (rw [hy138]; exact H) | exact H
                              have Ny138 := Aside0.mk hy138
                              clear hy138
                              have H' := Aside0.mk H
                              clear H
                              have p8 : 0 ≤ (x4_1 : Int) := of_decide_eq_true (by first | (with_reducible assumption) | assumption)
                              have q8 : x4_1 < (a0.size : Int) := of_decide_eq_true (by first | (with_reducible assumption) | assumption)
                              have hx8 := bt_at a0 x4_1
                              replace p8 := eq_true p8
                              replace q8 := eq_true q8
                              have p30 : 0 ≤ (x4_1 : Int) := of_decide_eq_true (by first | (with_reducible assumption) | assumption)
                              have q30 : x4_1 < (a0.size : Int) := of_decide_eq_true (by first | (with_reducible assumption) | assumption)
                              have hx30 := bt_at a0 x4_1
                              replace p30 := eq_true p30
                              replace q30 := eq_true q30
                              go_wp2_with (first | ((with_reducible refine gate_builtin (b := .append) (xs := #[.tmp 17, .tmp 21]) rfl ?_); at_builtin; refine Kd.R_append (Kd.int .u8) (w0 := w) w.heap.size rfl (.tmp 17) (.tmp 21) 45 5 (.int .u8 0) 1 rfl Try.underlying45 info5 rfl (by decide) (by omega) u3 x3_1 (bt a0 x4_1) [.int .u8 (bt a0 x4_1)] (fun _ => True) (fun _ => False) rfl rfl ?aP (fun _ hk => hk.elim) ?aF ?aO ?aB ?aS ?aL ?_; (case aP => exact rfl); (case aB => exact (by repeat (first | (with_reducible first | exact HB.out | apply below_alloc | apply pw_below_drewN | apply below_drew1) | exact HB.out))); (case aF => exact (fun _ _ => trivial)); (case aO => exact (by (with_reducible repeat (first | apply Kd.R_alloc | apply Kd.R_drewN | apply Kd.R_drew)); exact HO_3.out)); (case aS => exact (below_size (by repeat (first | (with_reducible first | exact HB.out | apply below_alloc | apply pw_below_drewN | apply below_drew1) | exact HB.out)))); (case aL => have := LMc31.out; (first | omega | (simp only [ByteArray.size, List.size_toArray, List.length_cons, List.length_nil]; omega))); intro v139 w32 ho hb hg hat; rw [← Ny138.out] at ho; have n0_ := Aside0.mk (hb); have n1_ := Aside0.mk (ho); clear HB; clear HO_3; have HB := n0_; have HO140 := n1_; clear n0_ n1_; clear ho hb hg hat))
                              go_roundg k1
                              case measure => have := HK1.out; omega
                              case rel => exact ⟨(y138), (wrap64 (x4_1 + 1)), (by first | rfl | (simp; done) | (simp [*]; done)), H', ⟨by have := HK1.out; omega⟩, ⟨by (with_reducible repeat (first | apply Kd.R_alloc | apply Kd.R_drewN | apply Kd.R_drew)); exact HO140.out⟩, ⟨by repeat (first | (with_reducible first | exact HB.out | apply below_alloc | apply pw_below_drewN | apply below_drew1) | exact HB.out)⟩⟩
                            · rw [if_neg c31] at H
                              exact absurd H (by simp)
            · rw [if_neg c7] at H
              exact absurd H (by simp)
          · rw [if_neg c6] at H
            have c6b0 : decide (x4_1 < (a0.size : Int)) = false := decide_eq_false c6
            clear c6
            obtain rfl := Option.some.inj H
            have hcv33 := own_string (P := Try.prog) Try.underlying45 Try.underlying5 Try.underlying9 (Kd.own_of_R HO_3.out)
            go_wp2
            go_ret
            exact ⟨by first | rfl | (simp [errW_none, errW_some] <;> rfl) | (simp [*, errW_none, errW_some] <;> rfl), by repeat (first | (with_reducible first | exact HB.out | apply below_alloc | apply pw_below_drewN | apply below_drew1) | exact HB.out)⟩
    · rw [if_neg c3] at H
      exact absurd H (by simp)
  · rw [if_neg c2] at H
    exact absurd H (by simp)

/-! ### converter_ZzPercent: function 68 -/
def converter_ZzPercent.f (k : Nat) (a0 : ByteArray) : Option (ByteArray) := (converter_zzPercent.f k a0).bind fun t141 => (some t141)
theorem converter_ZzPercent.mono : ∀ a0 k, LeO (converter_ZzPercent.f k a0) (converter_ZzPercent.f (k + 1) a0) := by
  intro a0 k
  unfold converter_ZzPercent.f
  repeat' first
      | (with_reducible exact converter_zzPercent.mono _ _)
      | (with_reducible exact LeO.refl _)
      | (with_reducible exact LeO.none _)
      | (with_reducible refine LeO.ite ?_ ?_)
      | (with_reducible refine LeO.bind ?_ (fun _ => ?_))
      | exact converter_zzPercent.mono _ _
      | exact LeO.none _
      | refine LeO.ite ?_ ?_
      | refine LeO.bind ?_ (fun _ => ?_)
set_option maxHeartbeats 8000000 in
set_option maxRecDepth 100000 in
theorem converter_ZzPercent.calls (k : Nat) (a0 : ByteArray) (r : ByteArray) (w : World) (h : converter_ZzPercent.f k a0 = some r) :
    Calls Try.prog 68 #[.string a0] w fun e w' => e = .returned (.string r) ∧ Below w.heap.size w w' := by
  have HB := Aside0.mk (Below.refl w.heap.size w)
  have H : ((converter_zzPercent.f k a0).bind fun t141 => (some t141)) = some r := h
  clear h
  replace H := Option.bind_eq_some_iff.mp H
  obtain ⟨t141, A20, H⟩ := H
  replace H : (some t141) = some r := H
  have A2 := Aside0.mk A20
  clear A20
  obtain rfl := Option.some.inj H
  go_enter Try.func68, Try.ntmps68
  go_wp2_with (first | ((with_reducible refine gate_callee (f := 82) rfl ?_); refine goesL_ (some 4) rfl rfl Try.func82 (by kernel_rfl) rfl #[.string a0] rfl (by (try simp only [List.map_toArray, List.map_cons, List.map_nil]); first | done | rfl | (simp only [List.length_drop, List.length_take]; rfl)) ?_; (with_reducible refine (converter_zzPercent.calls k a0 t141 _ A2.out).mono ?_); rintro e w3 ⟨rfl, hb⟩; refine ⟨_, rfl, ?_⟩; have n0_ := Aside0.mk (below_step (by repeat (first | (with_reducible first | exact HB.out | apply below_alloc | apply pw_below_drewN | apply below_drew1) | exact HB.out)) hb); clear HB; have HB := n0_; clear n0_; (try clear hb); (try clear hb2); (try clear hk); (try clear hi)))
  go_ret
  exact ⟨by first | rfl | (simp [errW_none, errW_some] <;> rfl) | (simp [*, errW_none, errW_some] <;> rfl), by repeat (first | (with_reducible first | exact HB.out | apply below_alloc | apply pw_below_drewN | apply below_drew1) | exact HB.out)⟩

/-! ### textutils_zzReplaceAll: function 78 -/
def textutils_zzReplaceAll.l0 : Nat → List Int → ByteArray → ByteArray → List Int → Int → Option (List Int)
  | 0, _, _, _, _, _ => none
  | k + 1, x0, x1, x2, x7, x8 => if x8 < (x0.length : Int) then (if (wrap64 (x8 + (x1.size : Int))) ≤ (x0.length : Int) then (if 0 ≤ x8 then (if x8 ≤ (wrap64 (x8 + (x1.size : Int))) then (if (strOfNums ((x0.take ((wrap64 (x8 + (x1.size : Int))) : Int).toNat).drop (x8 : Int).toNat)).toList = x1.toList then (if x7.length + x2.size < 140737488355328 then (textutils_zzReplaceAll.l0 k x0 x1 x2 (x7 ++ bytesOf x2) (wrap64 (x8 + (x1.size : Int)))) else (none)) else (if x7.length < 140737488355328 then (textutils_zzReplaceAll.l0 k x0 x1 x2 (x7 ++ [rd x0 x8]) (wrap64 (x8 + 1))) else (none))) else (none)) else (none)) else (if 0 ≤ x8 then (if x7.length < 140737488355328 then (textutils_zzReplaceAll.l0 k x0 x1 x2 (x7 ++ [rd x0 x8]) (wrap64 (x8 + 1))) else (none)) else (none))) else (some x7)
def textutils_zzReplaceAll.f (k : Nat) (l0 : List Int) (a1 : ByteArray) (a2 : ByteArray) : Option (List Int) := textutils_zzReplaceAll.l0 k l0 a1 a2 ([] : List Int) 0
theorem textutils_zzReplaceAll.mono_l : ∀ k, (∀ y0 y1 y2 y3 y4, LeO (textutils_zzReplaceAll.l0 k y0 y1 y2 y3 y4) (textutils_zzReplaceAll.l0 (k + 1) y0 y1 y2 y3 y4))
  | 0 => fun _ _ _ _ _ r h => by simp [textutils_zzReplaceAll.l0] at h
  | k + 1 => by
    have ih0 := textutils_zzReplaceAll.mono_l k
    · intro y0 y1 y2 y3 y4
      unfold textutils_zzReplaceAll.l0
      repeat' first
      | (with_reducible exact ih0 _ _ _ _ _)
      | (with_reducible exact LeO.refl _)
      | (with_reducible exact LeO.none _)
      | (with_reducible refine LeO.ite ?_ ?_)
      | (with_reducible refine LeO.bind ?_ (fun _ => ?_))
      | exact ih0 _ _ _ _ _
      | exact LeO.none _
      | refine LeO.ite ?_ ?_
      | refine LeO.bind ?_ (fun _ => ?_)
theorem textutils_zzReplaceAll.mono : ∀ a0 a1 a2 k, LeO (textutils_zzReplaceAll.f k a0 a1 a2) (textutils_zzReplaceAll.f (k + 1) a0 a1 a2) := by
  intro a0 a1 a2 k
  have ih0 := textutils_zzReplaceAll.mono_l k
  unfold textutils_zzReplaceAll.f
  repeat' first
      | (with_reducible exact ih0 _ _ _ _ _)
      | (with_reducible exact LeO.refl _)
      | (with_reducible exact LeO.none _)
      | (with_reducible refine LeO.ite ?_ ?_)
      | (with_reducible refine LeO.bind ?_ (fun _ => ?_))
      | exact ih0 _ _ _ _ _
      | exact LeO.none _
      | refine LeO.ite ?_ ?_
      | refine LeO.bind ?_ (fun _ => ?_)
set_option maxHeartbeats 8000000 in
set_option maxRecDepth 100000 in
theorem textutils_zzReplaceAll.calls (k : Nat) (A0 : Option Addr) (c0 : Nat) (l0 : List Int) (a1 : ByteArray) (a2 : ByteArray) (r : List Int) (w : World) (hr0 : Kd.C (Kd.int .u8) w A0 l0.length l0) (hc0 : l0.length ≤ c0) (h : textutils_zzReplaceAll.f k l0 a1 a2 = some r) :
    Calls Try.prog 78 #[.slice A0 l0.length c0, .string a1, .string a2] w fun e w' => ∃ v0_ : Value, e = .returned (v0_) ∧ Kd.R (Kd.int .u8) 5 w' w.heap.size (fun _ => True) v0_ r ∧ Below w.heap.size w w' := by
  have HR0 := Aside0.mk hr0
  have HC0 := Aside0.mk hc0
  clear hr0 hc0
  have HB := Aside0.mk (Below.refl w.heap.size w)
  have H : (textutils_zzReplaceAll.l0 k l0 a1 a2 ([] : List Int) 0) = some r := h
  clear h
  have H' := Aside0.mk H
  clear H
  go_enter Try.func78, Try.ntmps78
  go_wp2
  go_loopg [7, 8] k (fun kq v7 v8 w' => ∃ (x7_1 : List Int) (x8_1 : Int), v8 = .int .i64 x8_1 ∧ Aside0 (textutils_zzReplaceAll.l0 kq l0 a1 a2 x7_1 x8_1 = some r) ∧ Aside0 (kq ≤ k) ∧ Aside0 (Kd.R (Kd.int .u8) 5 w' w.heap.size (fun _ => True) v7 x7_1) ∧ Aside0 (Below w.heap.size w w'))
  case atStart => exact ⟨(([] : List Int)), (0), (by first | rfl | (simp; done) | (simp [*]; done)), H', ⟨Nat.le_refl _⟩, ⟨by first | exact Kd.R_nil _ _ _ _ _ | exact Kd.N_nil _ _ _ _ _ | exact Kd.V_nil _ _ _ _ _ | exact Kd.Q_nil _ _ _ _ _ | exact Kd.S_nil _ _ _ _ _⟩, ⟨by repeat (first | (with_reducible first | exact HB.out | apply below_alloc | apply pw_below_drewN | apply below_drew1) | exact HB.out)⟩⟩
  case round =>
    clear H'
    try clear p2
    obtain ⟨x7_1, x8_1, rfl, HA, HK1, HO_7, HB⟩ := hrel
    cases gk with
    | zero => exact absurd HA.out (by simp [textutils_zzReplaceAll.l0])
    | succ k1 =>
      have H := HA.out
      clear HA
      simp only [textutils_zzReplaceAll.l0] at H
      by_cases c4 : x8_1 < (l0.length : Int)
      · rw [if_pos c4] at H
        have c4b0 : decide (x8_1 < (l0.length : Int)) = true := decide_eq_true c4
        clear c4
        by_cases c5 : (wrap64 (x8_1 + (a1.size : Int))) ≤ (l0.length : Int)
        · rw [if_pos c5] at H
          have c5b0 : decide ((wrap64 (x8_1 + (a1.size : Int))) ≤ (l0.length : Int)) = true := decide_eq_true c5
          clear c5
          by_cases c6 : 0 ≤ x8_1
          · rw [if_pos c6] at H
            have c6b0 := eq_true c6
            have c6b1 : decide (0 ≤ x8_1) = true := decide_eq_true c6
            clear c6
            by_cases c7 : x8_1 ≤ (wrap64 (x8_1 + (a1.size : Int)))
            · rw [if_pos c7] at H
              have c7b0 := eq_true c7
              have c7b1 : decide (x8_1 ≤ (wrap64 (x8_1 + (a1.size : Int)))) = true := decide_eq_true c7
              have c8b0 := eq_true (of_decide_eq_true (by first | (with_reducible assumption) | assumption) : (wrap64 (x8_1 + (a1.size : Int))) ≤ (l0.length : Int))
              by_cases c9 : (strOfNums ((l0.take ((wrap64 (x8_1 + (a1.size : Int))) : Int).toNat).drop (x8_1 : Int).toNat)).toList = a1.toList
              · rw [if_pos c9] at H
                have c9b0 : ((strOfNums ((l0.take ((wrap64 (x8_1 + (a1.size : Int))) : Int).toNat).drop (x8_1 : Int).toNat)).toList == a1.toList) = true := beq_iff_eq.mpr c9
                have c9b1 : ((strOfNums ((l0.take ((wrap64 (x8_1 + (a1.size : Int))) : Int).toNat).drop (x8_1 : Int).toNat)).toList != a1.toList) = false := bne_eq_false_iff_eq.mpr c9
                clear c9
                by_cases c10 : x7_1.length + a2.size < 140737488355328
                · rw [if_pos c10] at H
                  have LMc10 := Aside0.mk c10
                  clear c10
                  obtain ⟨y143, hy143⟩ : ∃ y_ : List Int, y_ = (x7_1 ++ bytesOf a2) := ⟨_, rfl⟩
                  replace H : (textutils_zzReplaceAll.l0 k1 l0 a1 a2 y143 (wrap64 (x8_1 + (a1.size : Int)))) = some r := by first | (rw [hy143]; with_reducible exact H) | (have H2_ := (Option.bind_some _ _).symm.trans H; rw [hy143]; with_reducible exact H2_) | (have H2_ := (Option.bind_some _ _).symm.trans H; with_reducible exact H2_) | with_reducible exact H | (rw [hy143]; exact H) | exact H
                  have Ny143 := Aside0.mk hy143
                  clear hy143
                  have H' := Aside0.mk H
                  clear H
                  obtain ⟨i011, hi011, _, hsz11, _⟩ := info_parts info5
                  obtain ⟨A11, hcut11, hA11, hC11⟩ := print_mid_of (P := Try.prog) (Value.int .u8) 0 45 5 .i64 .i64 Try.underlying45 hi011 hsz11 A0 c0 l0 x8_1 (wrap64 (x8_1 + (a1.size : Int))) (of_decide_eq_true (by first | (with_reducible assumption) | assumption)) (by first | omega | exact of_decide_eq_true (by first | (with_reducible assumption) | assumption)) (of_decide_eq_true (by first | (with_reducible assumption) | assumption)) HC0.out
                  have HR142 := Aside0.mk (Kd.C_of_reads (h1 := fun _ => rfl) (hA11 _ (Kd.reads_of_C HR0.out)))
                  have HC142 := Aside0.mk hC11
                  clear hA11 hC11 hi011 hsz11
                  have hcv12 := Kd.C_string (P := Try.prog) (A := A11) (c := (c0 - x8_1.toNat)) Try.underlying45 Try.underlying5 Try.underlying9 (Kd.C_below HR142.out HB.out)
                  try rw [show ((l0.take ((wrap64 (x8_1 + (a1.size : Int))) : Int).toNat).drop (x8_1 : Int).toNat).length = ((wrap64 (x8_1 + (a1.size : Int))) : Int).toNat - (x8_1 : Int).toNat from cut_len (of_decide_eq_true (by first | (with_reducible assumption) | assumption))] at hcv12
                  go_wp2_with (first | (at_builtin; refine print_append_str (w0 := w) w.heap.size rfl (.tmp 32) _ 45 9 5 rfl Try.underlying45 Try.underlying9 info5 u7 x7_1 a2 rfl rfl ?aO ?aB ?aS ?aL ?_; (case aB => exact (by repeat (first | (with_reducible first | exact HB.out | apply below_alloc | apply pw_below_drewN | apply below_drew1) | exact HB.out))); (case aO => exact (Kd.own_of_R (by (with_reducible repeat (first | apply Kd.R_alloc | apply Kd.R_drewN | apply Kd.R_drew)); exact HO_7.out))); (case aS => exact (below_size (by repeat (first | (with_reducible first | exact HB.out | apply below_alloc | apply pw_below_drewN | apply below_drew1) | exact HB.out)))); (case aL => have := LMc10.out; (first | omega | (simp only [ByteArray.size, List.size_toArray, List.length_cons, List.length_nil]; omega))); intro v144 w13 ho0 hb hg; have ho := Kd.R_of_own (h1 := fun _ => rfl) (ok := fun _ => True) ho0 (fun _ _ => trivial); clear ho0; have hat := True.intro; rw [← Ny143.out] at ho; change Kd.R (Kd.int .u8) 5 w13 w.heap.size (fun _ => True) v144 y143 at ho; have n0_ := Aside0.mk (hb); have n1_ := Aside0.mk (ho); clear HB; clear HO_7; have HB := n0_; have HO145 := n1_; clear n0_ n1_; clear ho hb hg hat))
                  go_roundg k1
                  case measure => have := HK1.out; omega
                  case rel => exact ⟨(y143), (wrap64 (x8_1 + (a1.size : Int))), (by first | rfl | (simp; done) | (simp [*]; done)), H', ⟨by have := HK1.out; omega⟩, ⟨by (with_reducible repeat (first | apply Kd.R_alloc | apply Kd.R_drewN | apply Kd.R_drew)); exact HO145.out⟩, ⟨by repeat (first | (with_reducible first | exact HB.out | apply below_alloc | apply pw_below_drewN | apply below_drew1) | exact HB.out)⟩⟩
                · rw [if_neg c10] at H
                  exact absurd H (by simp)
              · rw [if_neg c9] at H
                have c9b0 : ((strOfNums ((l0.take ((wrap64 (x8_1 + (a1.size : Int))) : Int).toNat).drop (x8_1 : Int).toNat)).toList == a1.toList) = false := beq_eq_false_iff_ne.mpr c9
                have c9b1 : ((strOfNums ((l0.take ((wrap64 (x8_1 + (a1.size : Int))) : Int).toNat).drop (x8_1 : Int).toNat)).toList != a1.toList) = true := bne_iff_ne.mpr c9
                by_cases c14 : x7_1.length < 140737488355328
                · rw [if_pos c14] at H
                  have LMc14 := Aside0.mk c14
                  clear c14
                  obtain ⟨y147, hy147⟩ : ∃ y_ : List Int, y_ = (x7_1 ++ [rd l0 x8_1]) := ⟨_, rfl⟩
                  replace H : (textutils_zzReplaceAll.l0 k1 l0 a1 a2 y147 (wrap64 (x8_1 + 1))) = some r := by first | (rw [hy147]; with_reducible exact H) | (have H2_ := (Option.bind_some _ _).symm.trans H; rw [hy147]; with_reducible exact H2_) | (have H2_ := (Option.bind_some _ _).symm.trans H; with_reducible exact H2_) | with_reducible exact H | (rw [hy147]; exact H) | exact H
                  have Ny147 := Aside0.mk hy147
                  clear hy147
                  have H' := Aside0.mk H
                  clear H
                  obtain ⟨i015, hi015, _, hsz15, _⟩ := info_parts info5
                  obtain ⟨A15, hcut15, hA15, hC15⟩ := print_mid_of (P := Try.prog) (Value.int .u8) 0 45 5 .i64 .i64 Try.underlying45 hi015 hsz15 A0 c0 l0 x8_1 (wrap64 (x8_1 + (a1.size : Int))) (of_decide_eq_true (by first | (with_reducible assumption) | assumption)) (by first | omega | exact of_decide_eq_true (by first | (with_reducible assumption) | assumption)) (of_decide_eq_true (by first | (with_reducible assumption) | assumption)) HC0.out
                  have HR142 := Aside0.mk (Kd.C_of_reads (h1 := fun _ => rfl) (hA15 _ (Kd.reads_of_C HR0.out)))
                  have HC142 := Aside0.mk hC15
                  clear hA15 hC15 hi015 hsz15
                  have hcv16 := Kd.C_string (P := Try.prog) (A := A15) (c := (c0 - x8_1.toNat)) Try.underlying45 Try.underlying5 Try.underlying9 (Kd.C_below HR142.out HB.out)
                  try rw [show ((l0.take ((wrap64 (x8_1 + (a1.size : Int))) : Int).toNat).drop (x8_1 : Int).toNat).length = ((wrap64 (x8_1 + (a1.size : Int))) : Int).toNat - (x8_1 : Int).toNat from cut_len (of_decide_eq_true (by first | (with_reducible assumption) | assumption))] at hcv16
                  have p146 : 0 ≤ (x8_1 : Int) := of_decide_eq_true (by first | (with_reducible assumption) | assumption)
                  have q146 : x8_1 < (l0.length : Int) := of_decide_eq_true (by first | (with_reducible assumption) | assumption)
                  obtain ⟨ad146, e146, hx146_0⟩ := Kd.at_int HR0.out x8_1 p146 q146
                  cases e146
                  replace hx146_0 := (HB.out.cell (World.block_lt_of_cell? w _ hx146_0)).trans hx146_0
                  replace p146 := eq_true p146
                  replace q146 := eq_true q146
                  go_wp2_with (first | ((with_reducible refine gate_builtin (b := .append) (xs := #[.tmp 39, .tmp 44]) rfl ?_); (try (refine gate_guard (by rfl) ?_; dsimp only)); at_builtin; refine Kd.R_append (Kd.int .u8) (w0 := w) w.heap.size rfl (.tmp 39) (.tmp 44) 45 5 (.int .u8 0) 1 rfl Try.underlying45 info5 rfl (by decide) (by omega) u7 x7_1 (rd l0 x8_1) [.int .u8 (rd l0 x8_1)] (fun _ => True) (fun _ => False) rfl rfl ?aP (fun _ hk => hk.elim) ?aF ?aO ?aB ?aS ?aL ?_; (case aP => exact rfl); (case aB => exact (by repeat (first | (with_reducible first | exact HB.out | apply below_alloc | apply pw_below_drewN | apply below_drew1) | exact HB.out))); (case aF => exact (fun _ _ => trivial)); (case aO => exact (by (with_reducible repeat (first | apply Kd.R_alloc | apply Kd.R_drewN | apply Kd.R_drew)); exact HO_7.out)); (case aS => exact (below_size (by repeat (first | (with_reducible first | exact HB.out | apply below_alloc | apply pw_below_drewN | apply below_drew1) | exact HB.out)))); (case aL => have := LMc14.out; (first | omega | (simp only [ByteArray.size, List.size_toArray, List.length_cons, List.length_nil]; omega))); intro v148 w17 ho hb hg hat; rw [← Ny147.out] at ho; have n0_ := Aside0.mk (hb); have n1_ := Aside0.mk (ho); clear HB; clear HO_7; have HB := n0_; have HO149 := n1_; clear n0_ n1_; clear ho hb hg hat))
                  go_roundg k1
                  case measure => have := HK1.out; omega
                  case rel => exact ⟨(y147), (wrap64 (x8_1 + 1)), (by first | rfl | (simp; done) | (simp [*]; done)), H', ⟨by have := HK1.out; omega⟩, ⟨by (with_reducible repeat (first | apply Kd.R_alloc | apply Kd.R_drewN | apply Kd.R_drew)); exact HO149.out⟩, ⟨by repeat (first | (with_reducible first | exact HB.out | apply below_alloc | apply pw_below_drewN | apply below_drew1) | exact HB.out)⟩⟩
                · rw [if_neg c14] at H
                  exact absurd H (by simp)
            · rw [if_neg c7] at H
              exact absurd H (by simp)
          · rw [if_neg c6] at H
            exact absurd H (by simp)
        · rw [if_neg c5] at H
          have c5b0 : decide ((wrap64 (x8_1 + (a1.size : Int))) ≤ (l0.length : Int)) = false := decide_eq_false c5
          clear c5
          by_cases c18 : 0 ≤ x8_1
          · rw [if_pos c18] at H
            have c18b0 : decide (0 ≤ x8_1) = true := decide_eq_true c18
            clear c18
            by_cases c19 : x7_1.length < 140737488355328
            · rw [if_pos c19] at H
              have LMc19 := Aside0.mk c19
              clear c19
              obtain ⟨y151, hy151⟩ : ∃ y_ : List Int, y_ = (x7_1 ++ [rd l0 x8_1]) := ⟨_, rfl⟩
              replace H : (textutils_zzReplaceAll.l0 k1 l0 a1 a2 y151 (wrap64 (x8_1 + 1))) = some r := by first | (rw [hy151]; with_reducible exact H) | (have H2_ := (Option.bind_some _ _).symm.trans H; rw [hy151]; with_reducible exact H2_) | (have H2_ := (Option.bind_some _ _).symm.trans H; with_reducible exact H2_) | with_reducible exact H | (rw [hy151]; exact H) | exact H
              have Ny151 := Aside0.mk hy151
              clear hy151
              have H' := Aside0.mk H
              clear H
              have p150 : 0 ≤ (x8_1 : Int) := of_decide_eq_true (by first | (with_reducible assumption) | assumption)
              have q150 : x8_1 < (l0.length : Int) := of_decide_eq_true (by first | (with_reducible assumption) | assumption)
              obtain ⟨ad150, e150, hx150_0⟩ := Kd.at_int HR0.out x8_1 p150 q150
              cases e150
              replace hx150_0 := (HB.out.cell (World.block_lt_of_cell? w _ hx150_0)).trans hx150_0
              replace p150 := eq_true p150
              replace q150 := eq_true q150
              go_wp2_with (first | ((with_reducible refine gate_builtin (b := .append) (xs := #[.tmp 39, .tmp 44]) rfl ?_); (try (refine gate_guard (by rfl) ?_; dsimp only)); at_builtin; refine Kd.R_append (Kd.int .u8) (w0 := w) w.heap.size rfl (.tmp 39) (.tmp 44) 45 5 (.int .u8 0) 1 rfl Try.underlying45 info5 rfl (by decide) (by omega) u7 x7_1 (rd l0 x8_1) [.int .u8 (rd l0 x8_1)] (fun _ => True) (fun _ => False) rfl rfl ?aP (fun _ hk => hk.elim) ?aF ?aO ?aB ?aS ?aL ?_; (case aP => exact rfl); (case aB => exact (by repeat (first | (with_reducible first | exact HB.out | apply below_alloc | apply pw_below_drewN | apply below_drew1) | exact HB.out))); (case aF => exact (fun _ _ => trivial)); (case aO => exact (by (with_reducible repeat (first | apply Kd.R_alloc | apply Kd.R_drewN | apply Kd.R_drew)); exact HO_7.out)); (case aS => exact (below_size (by repeat (first | (with_reducible first | exact HB.out | apply below_alloc | apply pw_below_drewN | apply below_drew1) | exact HB.out)))); (case aL => have := LMc19.out; (first | omega | (simp only [ByteArray.size, List.size_toArray, List.length_cons, List.length_nil]; omega))); intro v152 w20 ho hb hg hat; rw [← Ny151.out] at ho; have n0_ := Aside0.mk (hb); have n1_ := Aside0.mk (ho); clear HB; clear HO_7; have HB := n0_; have HO153 := n1_; clear n0_ n1_; clear ho hb hg hat))
              go_roundg k1
              case measure => have := HK1.out; omega
              case rel => exact ⟨(y151), (wrap64 (x8_1 + 1)), (by first | rfl | (simp; done) | (simp [*]; done)), H', ⟨by have := HK1.out; omega⟩, ⟨by (with_reducible repeat (first | apply Kd.R_alloc | apply Kd.R_drewN | apply Kd.R_drew)); exact HO153.out⟩, ⟨by repeat (first | (with_reducible first | exact HB.out | apply below_alloc | apply pw_below_drewN | apply below_drew1) | exact HB.out)⟩⟩
            · rw [if_neg c19] at H
              exact absurd H (by simp)
          · rw [if_neg c18] at H
            exact absurd H (by simp)
      · rw [if_neg c4] at H
        have c4b0 : decide (x8_1 < (l0.length : Int)) = false := decide_eq_false c4
        clear c4
        obtain rfl := Option.some.inj H
        go_wp2
        go_ret
        exact ⟨_, by first | rfl | (simp [errW_none, errW_some] <;> rfl) | (simp [*, errW_none, errW_some] <;> rfl), by (with_reducible repeat (first | apply Kd.R_alloc | apply Kd.R_drewN | apply Kd.R_drew)); exact HO_7.out, by repeat (first | (with_reducible first | exact HB.out | apply below_alloc | apply pw_below_drewN | apply below_drew1) | exact HB.out)⟩

/-! ### textutils_TrimUnnecessaryHardLineBreaks: function 64 -/
def textutils_TrimUnnecessaryHardLineBreaks.f (k : Nat) (l0 : List Int) : Option (List Int) := (textutils_zzReplaceAll.f k l0 (⟨#[32, 32, 10, 10]⟩ : ByteArray) (⟨#[10, 10]⟩ : ByteArray)).bind fun t154 => ((textutils_zzReplaceAll.f k t154 (⟨#[32, 32, 10, 32, 32, 10]⟩ : ByteArray) (⟨#[10, 10]⟩ : ByteArray)).bind fun t157 => ((textutils_zzReplaceAll.f k t157 (⟨#[32, 32, 10, 32, 10]⟩ : ByteArray) (⟨#[10, 10]⟩ : ByteArray)).bind fun t160 => (some t160)))
theorem textutils_TrimUnnecessaryHardLineBreaks.mono : ∀ a0 k, LeO (textutils_TrimUnnecessaryHardLineBreaks.f k a0) (textutils_TrimUnnecessaryHardLineBreaks.f (k + 1) a0) := by
  intro a0 k
  unfold textutils_TrimUnnecessaryHardLineBreaks.f
  repeat' first
      | (with_reducible exact textutils_zzReplaceAll.mono _ _ _ _)
      | (with_reducible exact LeO.refl _)
      | (with_reducible exact LeO.none _)
      | (with_reducible refine LeO.ite ?_ ?_)
      | (with_reducible refine LeO.bind ?_ (fun _ => ?_))
      | exact textutils_zzReplaceAll.mono _ _ _ _
      | exact LeO.none _
      | refine LeO.ite ?_ ?_
      | refine LeO.bind ?_ (fun _ => ?_)
set_option maxHeartbeats 8000000 in
set_option maxRecDepth 100000 in
theorem textutils_TrimUnnecessaryHardLineBreaks.calls (k : Nat) (A0 : Option Addr) (c0 : Nat) (l0 : List Int) (r : List Int) (w : World) (hr0 : Kd.C (Kd.int .u8) w A0 l0.length l0) (hc0 : l0.length ≤ c0) (h : textutils_TrimUnnecessaryHardLineBreaks.f k l0 = some r) :
    Calls Try.prog 64 #[.slice A0 l0.length c0] w fun e w' => ∃ v0_ : Value, e = .returned (v0_) ∧ Kd.R (Kd.int .u8) 5 w' w.heap.size (fun _ => True) v0_ r ∧ Below w.heap.size w w' := by
  have HR0 := Aside0.mk hr0
  have HC0 := Aside0.mk hc0
  clear hr0 hc0
  have HB := Aside0.mk (Below.refl w.heap.size w)
  have H : ((textutils_zzReplaceAll.f k l0 (⟨#[32, 32, 10, 10]⟩ : ByteArray) (⟨#[10, 10]⟩ : ByteArray)).bind fun t154 => ((textutils_zzReplaceAll.f k t154 (⟨#[32, 32, 10, 32, 32, 10]⟩ : ByteArray) (⟨#[10, 10]⟩ : ByteArray)).bind fun t157 => ((textutils_zzReplaceAll.f k t157 (⟨#[32, 32, 10, 32, 10]⟩ : ByteArray) (⟨#[10, 10]⟩ : ByteArray)).bind fun t160 => (some t160)))) = some r := h
  clear h
  replace H := Option.bind_eq_some_iff.mp H
  obtain ⟨t154, A20, H⟩ := H
  replace H : ((textutils_zzReplaceAll.f k t154 (⟨#[32, 32, 10, 32, 32, 10]⟩ : ByteArray) (⟨#[10, 10]⟩ : ByteArray)).bind fun t157 => ((textutils_zzReplaceAll.f k t157 (⟨#[32, 32, 10, 32, 10]⟩ : ByteArray) (⟨#[10, 10]⟩ : ByteArray)).bind fun t160 => (some t160))) = some r := H
  have A2 := Aside0.mk A20
  clear A20
  replace H := Option.bind_eq_some_iff.mp H
  obtain ⟨t157, A30, H⟩ := H
  replace H : ((textutils_zzReplaceAll.f k t157 (⟨#[32, 32, 10, 32, 10]⟩ : ByteArray) (⟨#[10, 10]⟩ : ByteArray)).bind fun t160 => (some t160)) = some r := H
  have A3 := Aside0.mk A30
  clear A30
  replace H := Option.bind_eq_some_iff.mp H
  obtain ⟨t160, A40, H⟩ := H
  replace H : (some t160) = some r := H
  have A4 := Aside0.mk A40
  clear A40
  obtain rfl := Option.some.inj H
  go_enter Try.func64, Try.ntmps64
  go_wp2_with (first | ((with_reducible refine gate_callee (f := 78) rfl ?_); refine goesL_ (some 4) rfl rfl Try.func78 (by kernel_rfl) rfl #[.slice A0 l0.length c0, .string (⟨#[32, 32, 10, 10]⟩ : ByteArray), .string (⟨#[10, 10]⟩ : ByteArray)] rfl (by (try simp only [List.map_toArray, List.map_cons, List.map_nil]); first | done | rfl | (simp only [List.length_drop, List.length_take]; rfl)) ?_; (with_reducible refine (textutils_zzReplaceAll.calls k _ _ l0 (⟨#[32, 32, 10, 10]⟩ : ByteArray) (⟨#[10, 10]⟩ : ByteArray) t154 _ ?side1 ?side2 A2.out).mono ?_); (case side1 => repeat (first | exact HR0.out | (with_reducible refine Kd.C_alloc ?_ _) | (with_reducible refine Kd.C_drewN ?_ _) | (with_reducible refine Kd.C_drew ?_))); (case side2 => exact HC0.out); rintro e w5 ⟨v155, rfl, ho0, hb⟩; refine ⟨_, rfl, ?_⟩; have n0_ := Aside0.mk (Kd.R_lower ho0 (below_size (by repeat (first | (with_reducible first | exact HB.out | apply below_alloc | apply pw_below_drewN | apply below_drew1) | exact HB.out)))); have n1_ := Aside0.mk (below_step (by repeat (first | (with_reducible first | exact HB.out | apply below_alloc | apply pw_below_drewN | apply below_drew1) | exact HB.out)) hb); clear HB; have HO156 := n0_; have HB := n1_; clear n0_ n1_; (try clear hb); (try clear hb2); (try clear hk); (try clear hi); (try clear ho0); obtain ⟨Ao6, co6, eo6⟩ := Kd.R_slice HO156.out; subst eo6) | ((with_reducible refine gate_callee (f := 78) rfl ?_); refine goesL_ (some 6) rfl rfl Try.func78 (by kernel_rfl) rfl #[.slice Ao6 t154.length co6, .string (⟨#[32, 32, 10, 32, 32, 10]⟩ : ByteArray), .string (⟨#[10, 10]⟩ : ByteArray)] rfl (by (try simp only [List.map_toArray, List.map_cons, List.map_nil]); first | done | rfl | (simp only [List.length_drop, List.length_take]; rfl)) ?_; (with_reducible refine (textutils_zzReplaceAll.calls k _ _ t154 (⟨#[32, 32, 10, 32, 32, 10]⟩ : ByteArray) (⟨#[10, 10]⟩ : ByteArray) t157 _ ?side1 ?side2 A3.out).mono ?_); (case side1 => repeat (first | exact (Kd.R_reads' HO156.out).2.2 | (with_reducible refine Kd.C_alloc ?_ _) | (with_reducible refine Kd.C_drewN ?_ _) | (with_reducible refine Kd.C_drew ?_))); (case side2 => exact (Kd.R_reads' HO156.out).2.1); rintro e w7 ⟨v158, rfl, ho0, hb⟩; refine ⟨_, rfl, ?_⟩; have n0_ := Aside0.mk (Kd.R_elder' (by (with_reducible repeat (first | apply Kd.R_alloc | apply Kd.R_drewN | apply Kd.R_drew)); exact HO156.out) (Kd.R_base ho0) hb); have n1_ := Aside0.mk (Kd.R_lower (Kd.R_new' ho0 (Kd.R_lt (by (with_reducible repeat (first | apply Kd.R_alloc | apply Kd.R_drewN | apply Kd.R_drew)); exact HO156.out))) (below_size (by repeat (first | (with_reducible first | exact HB.out | apply below_alloc | apply pw_below_drewN | apply below_drew1) | exact HB.out)))); have n2_ := Aside0.mk (below_step (by repeat (first | (with_reducible first | exact HB.out | apply below_alloc | apply pw_below_drewN | apply below_drew1) | exact HB.out)) hb); clear HO156; clear HB; have HO156 := n0_; have HO159 := n1_; have HB := n2_; clear n0_ n1_ n2_; (try clear hb); (try clear hb2); (try clear hk); (try clear hi); (try clear ho0); obtain ⟨Ao8, co8, eo8⟩ := Kd.R_slice HO159.out; subst eo8) | ((with_reducible refine gate_callee (f := 78) rfl ?_); refine goesL_ (some 8) rfl rfl Try.func78 (by kernel_rfl) rfl #[.slice Ao8 t157.length co8, .string (⟨#[32, 32, 10, 32, 10]⟩ : ByteArray), .string (⟨#[10, 10]⟩ : ByteArray)] rfl (by (try simp only [List.map_toArray, List.map_cons, List.map_nil]); first | done | rfl | (simp only [List.length_drop, List.length_take]; rfl)) ?_; (with_reducible refine (textutils_zzReplaceAll.calls k _ _ t157 (⟨#[32, 32, 10, 32, 10]⟩ : ByteArray) (⟨#[10, 10]⟩ : ByteArray) t160 _ ?side1 ?side2 A4.out).mono ?_); (case side1 => repeat (first | exact (Kd.R_reads' HO159.out).2.2 | (with_reducible refine Kd.C_alloc ?_ _) | (with_reducible refine Kd.C_drewN ?_ _) | (with_reducible refine Kd.C_drew ?_))); (case side2 => exact (Kd.R_reads' HO159.out).2.1); rintro e w9 ⟨v161, rfl, ho0, hb⟩; refine ⟨_, rfl, ?_⟩; have n0_ := Aside0.mk (Kd.R_elder' (by (with_reducible repeat (first | apply Kd.R_alloc | apply Kd.R_drewN | apply Kd.R_drew)); exact HO156.out) (Kd.R_base ho0) hb); have n1_ := Aside0.mk (Kd.R_elder' (by (with_reducible repeat (first | apply Kd.R_alloc | apply Kd.R_drewN | apply Kd.R_drew)); exact HO159.out) (Kd.R_base ho0) hb); have n2_ := Aside0.mk (Kd.R_lower (Kd.R_new' (Kd.R_new' ho0 (Kd.R_lt (by (with_reducible repeat (first | apply Kd.R_alloc | apply Kd.R_drewN | apply Kd.R_drew)); exact HO156.out))) (Kd.R_lt (by (with_reducible repeat (first | apply Kd.R_alloc | apply Kd.R_drewN | apply Kd.R_drew)); exact HO159.out))) (below_size (by repeat (first | (with_reducible first | exact HB.out | apply below_alloc | apply pw_below_drewN | apply below_drew1) | exact HB.out)))); have n3_ := Aside0.mk (below_step (by repeat (first | (with_reducible first | exact HB.out | apply below_alloc | apply pw_below_drewN | apply below_drew1) | exact HB.out)) hb); clear HO156; clear HO159; clear HB; have HO156 := n0_; have HO159 := n1_; have HO162 := n2_; have HB := n3_; clear n0_ n1_ n2_ n3_; (try clear hb); (try clear hb2); (try clear hk); (try clear hi); (try clear ho0)))
  go_ret
  exact ⟨_, by first | rfl | (simp [errW_none, errW_some] <;> rfl) | (simp [*, errW_none, errW_some] <;> rfl), by (with_reducible repeat (first | apply Kd.R_alloc | apply Kd.R_drewN | apply Kd.R_drew)); exact Kd.R_mono HO162.out (fun _ hk => trivial), by repeat (first | (with_reducible first | exact HB.out | apply below_alloc | apply pw_below_drewN | apply below_drew1) | exact HB.out)⟩

/-! ### commonmark_runeCount: function 84 -/
def commonmark_runeCount.l0 : Nat → Int → List Int → Int → Int → Option (Int)
  | 0, _, _, _, _ => none
  | k + 1, x2, x5, x6, x7 => if x7 < x6 then (if 0 ≤ x7 then (if x7 < (x5.length : Int) then (if (rd x5 x7) = 7 then (commonmark_runeCount.l0 k x2 x5 x6 (wrap64 (x7 + 1))) else (commonmark_runeCount.l0 k (wrap64 (x2 + 1)) x5 x6 (wrap64 (x7 + 1)))) else (none)) else (none)) else (some x2)
def commonmark_runeCount.f (k : Nat) (l0 : List Int) : Option (Int) := commonmark_runeCount.l0 k 0 l0 (l0.length : Int) 0
theorem commonmark_runeCount.mono_l : ∀ k, (∀ y0 y1 y2 y3, LeO (commonmark_runeCount.l0 k y0 y1 y2 y3) (commonmark_runeCount.l0 (k + 1) y0 y1 y2 y3))
  | 0 => fun _ _ _ _ r h => by simp [commonmark_runeCount.l0] at h
  | k + 1 => by
    have ih0 := commonmark_runeCount.mono_l k
    · intro y0 y1 y2 y3
      unfold commonmark_runeCount.l0
      repeat' first
      | (with_reducible exact ih0 _ _ _ _)
      | (with_reducible exact LeO.refl _)
      | (with_reducible exact LeO.none _)
      | (with_reducible refine LeO.ite ?_ ?_)
      | (with_reducible refine LeO.bind ?_ (fun _ => ?_))
      | exact ih0 _ _ _ _
      | exact LeO.none _
      | refine LeO.ite ?_ ?_
      | refine LeO.bind ?_ (fun _ => ?_)
theorem commonmark_runeCount.mono : ∀ a0 k, LeO (commonmark_runeCount.f k a0) (commonmark_runeCount.f (k + 1) a0) := by
  intro a0 k
  have ih0 := commonmark_runeCount.mono_l k
  unfold commonmark_runeCount.f
  repeat' first
      | (with_reducible exact ih0 _ _ _ _)
      | (with_reducible exact LeO.refl _)
      | (with_reducible exact LeO.none _)
      | (with_reducible refine LeO.ite ?_ ?_)
      | (with_reducible refine LeO.bind ?_ (fun _ => ?_))
      | exact ih0 _ _ _ _
      | exact LeO.none _
      | refine LeO.ite ?_ ?_
      | refine LeO.bind ?_ (fun _ => ?_)
set_option maxHeartbeats 8000000 in
set_option maxRecDepth 100000 in
theorem commonmark_runeCount.calls (k : Nat) (A0 : Option Addr) (c0 : Nat) (l0 : List Int) (r : Int) (w : World) (hr0 : Kd.C (Kd.int .i32) w A0 l0.length l0) (hc0 : l0.length ≤ c0) (h : commonmark_runeCount.f k l0 = some r) :
    Calls Try.prog 84 #[.slice A0 l0.length c0] w fun e w' => e = .returned (.int .i64 r) ∧ Drawn0 w w' := by
  have HR0 := Aside0.mk hr0
  have HC0 := Aside0.mk hc0
  clear hr0 hc0
  have H : (commonmark_runeCount.l0 k 0 l0 (l0.length : Int) 0) = some r := h
  clear h
  have H' := Aside0.mk H
  clear H
  go_enter Try.func84, Try.ntmps84
  go_wp2
  go_loopg [2, 7] k (fun kq v2 v7 w' => ∃ (x2_1 : Int) (x7_1 : Int), v2 = .int .i64 x2_1 ∧ v7 = .int .i64 x7_1 ∧ Aside0 (commonmark_runeCount.l0 kq x2_1 l0 (l0.length : Int) x7_1 = some r) ∧ Aside0 (kq ≤ k) ∧ Drawn0 w w')
  case atStart => exact ⟨(0), (0), (by first | rfl | (simp; done) | (simp [*]; done)), (by first | rfl | (simp; done) | (simp [*]; done)), H', ⟨Nat.le_refl _⟩, by repeat (first | exact Drawn0.refl _ | apply Drawn0.step)⟩
  case round =>
    clear H'
    obtain ⟨x2_1, x7_1, rfl, rfl, HA, HK1, ⟨m1, rfl⟩⟩ := hrel
    cases gk with
    | zero => exact absurd HA.out (by simp [commonmark_runeCount.l0])
    | succ k1 =>
      have H := HA.out
      clear HA
      simp only [commonmark_runeCount.l0] at H
      by_cases c2 : x7_1 < (l0.length : Int)
      · rw [if_pos c2] at H
        have c2b0 : decide (x7_1 < (l0.length : Int)) = true := decide_eq_true c2
        clear c2
        by_cases c3 : 0 ≤ x7_1
        · rw [if_pos c3] at H
          have c3b0 : decide (0 ≤ x7_1) = true := decide_eq_true c3
          clear c3
          by_cases c4 : x7_1 < (l0.length : Int)
          · rw [if_pos c4] at H
            have c4b0 : decide (x7_1 < (l0.length : Int)) = true := decide_eq_true c4
            clear c4
            by_cases c5 : (rd l0 x7_1) = 7
            · rw [if_pos c5] at H
              have c5b0 : ((rd l0 x7_1) == 7) = true := beq_iff_eq.mpr c5
              have c5b1 : ((rd l0 x7_1) != 7) = false := bne_eq_false_iff_eq.mpr c5
              clear c5
              have H' := Aside0.mk H
              clear H
              have p163 : 0 ≤ (x7_1 : Int) := of_decide_eq_true (by first | (with_reducible assumption) | assumption)
              have q163 : x7_1 < (l0.length : Int) := of_decide_eq_true (by first | (with_reducible assumption) | assumption)
              obtain ⟨ad163, e163, hx163_0⟩ := Kd.at_int HR0.out x7_1 p163 q163
              cases e163
              replace p163 := eq_true p163
              replace q163 := eq_true q163
              go_wp2
              go_roundg k1
              case measure => have := HK1.out; omega
              case rel => exact ⟨(x2_1), (wrap64 (x7_1 + 1)), (by first | rfl | (simp; done) | (simp [*]; done)), (by first | rfl | (simp; done) | (simp [*]; done)), H', ⟨by have := HK1.out; omega⟩, by repeat (first | exact Drawn0.refl _ | apply Drawn0.step)⟩
            · rw [if_neg c5] at H
              have c5b0 : ((rd l0 x7_1) == 7) = false := beq_eq_false_iff_ne.mpr c5
              have c5b1 : ((rd l0 x7_1) != 7) = true := bne_iff_ne.mpr c5
              have H' := Aside0.mk H
              clear H
              have p163 : 0 ≤ (x7_1 : Int) := of_decide_eq_true (by first | (with_reducible assumption) | assumption)
              have q163 : x7_1 < (l0.length : Int) := of_decide_eq_true (by first | (with_reducible assumption) | assumption)
              obtain ⟨ad163, e163, hx163_0⟩ := Kd.at_int HR0.out x7_1 p163 q163
              cases e163
              replace p163 := eq_true p163
              replace q163 := eq_true q163
              go_wp2
              go_roundg k1
              case measure => have := HK1.out; omega
              case rel => exact ⟨(wrap64 (x2_1 + 1)), (wrap64 (x7_1 + 1)), (by first | rfl | (simp; done) | (simp [*]; done)), (by first | rfl | (simp; done) | (simp [*]; done)), H', ⟨by have := HK1.out; omega⟩, by repeat (first | exact Drawn0.refl _ | apply Drawn0.step)⟩
          · rw [if_neg c4] at H
            exact absurd H (by simp)
        · rw [if_neg c3] at H
          exact absurd H (by simp)
      · rw [if_neg c2] at H
        have c2b0 : decide (x7_1 < (l0.length : Int)) = false := decide_eq_false c2
        clear c2
        obtain rfl := Option.some.inj H
        go_wp2
        go_ret
        exact ⟨by first | rfl | (simp; done) | (simp [*]; done), by repeat (first | exact Drawn0.refl _ | apply Drawn0.step)⟩

end Go.Proofs.Yticofikbijldiaa.GIn1
