-- made by a program of this session, after the kit's print
import Derived.Test.YticofikbijldiaaGItx0
namespace Go.Proofs.Yticofikbijldiaa.GIt
open Go.RowKit Go.Proofs.YticofikbijldiaaW.PrintWords Go.Proofs.YticofikbijldiaaW.PrintLast Go.Proofs.YticofikbijldiaaW.PrintMore
attribute [local go_sem] max2_int min2_int max_two min_two max_three min_three max_four min_four   -- for this text's walks alone
set_option linter.unusedVariables false
set_option linter.unusedSimpArgs false

/-! ### commonmark_zzReplaceBytes: function 90 -/
def commonmark_zzReplaceBytes.l0 : Nat → List Int → ByteArray → ByteArray → List Int → Int → Option (List Int)
  | 0, _, _, _, _, _ => none
  | k + 1, x0, x1, x2, x7, x8 => if x8 < (x0.length : Int) then (if (wrap64 (x8 + (x1.size : Int))) ≤ (x0.length : Int) then (if 0 ≤ x8 then (if x8 ≤ (wrap64 (x8 + (x1.size : Int))) then (if (strOfNums ((x0.take ((wrap64 (x8 + (x1.size : Int))) : Int).toNat).drop (x8 : Int).toNat)).toList = x1.toList then (if x7.length + x2.size < 140737488355328 then (commonmark_zzReplaceBytes.l0 k x0 x1 x2 (x7 ++ bytesOf x2) (wrap64 (x8 + (x1.size : Int)))) else (none)) else (if x7.length < 140737488355328 then (commonmark_zzReplaceBytes.l0 k x0 x1 x2 (x7 ++ [rd x0 x8]) (wrap64 (x8 + 1))) else (none))) else (none)) else (none)) else (if 0 ≤ x8 then (if x7.length < 140737488355328 then (commonmark_zzReplaceBytes.l0 k x0 x1 x2 (x7 ++ [rd x0 x8]) (wrap64 (x8 + 1))) else (none)) else (none))) else (some x7)
def commonmark_zzReplaceBytes.f (k : Nat) (l0 : List Int) (a1 : ByteArray) (a2 : ByteArray) : Option (List Int) := commonmark_zzReplaceBytes.l0 k l0 a1 a2 ([] : List Int) 0
theorem commonmark_zzReplaceBytes.mono_l : ∀ k, (∀ y0 y1 y2 y3 y4, LeO (commonmark_zzReplaceBytes.l0 k y0 y1 y2 y3 y4) (commonmark_zzReplaceBytes.l0 (k + 1) y0 y1 y2 y3 y4))
  | 0 => fun _ _ _ _ _ r h => by simp [commonmark_zzReplaceBytes.l0] at h
  | k + 1 => by
    have ih0 := commonmark_zzReplaceBytes.mono_l k
    · intro y0 y1 y2 y3 y4
      unfold commonmark_zzReplaceBytes.l0
      repeat' first
      | (with_reducible exact ih0 _ _ _ _ _)
      | (with_reducible exact LeO.refl _)
      | (with_reducible exact LeO.none _)
      | (with_reducible refine LeO.ite ?_ ?_)
      | (with_reducible refine LeO.bind ?_ (fun _ => ?_))
      | exact ih0 _ _ _ _ _
      | exact LeO.none _
      | refine LeO.ite ?_ ?_
      | refine LeO.bind ?_ (fun _ => ?_)
theorem commonmark_zzReplaceBytes.mono : ∀ a0 a1 a2 k, LeO (commonmark_zzReplaceBytes.f k a0 a1 a2) (commonmark_zzReplaceBytes.f (k + 1) a0 a1 a2) := by
  intro a0 a1 a2 k
  have ih0 := commonmark_zzReplaceBytes.mono_l k
  unfold commonmark_zzReplaceBytes.f
  repeat' first
      | (with_reducible exact ih0 _ _ _ _ _)
      | (with_reducible exact LeO.refl _)
      | (with_reducible exact LeO.none _)
      | (with_reducible refine LeO.ite ?_ ?_)
      | (with_reducible refine LeO.bind ?_ (fun _ => ?_))
      | exact ih0 _ _ _ _ _
      | exact LeO.none _
      | refine LeO.ite ?_ ?_
      | refine LeO.bind ?_ (fun _ => ?_)
set_option maxHeartbeats 8000000 in
set_option maxRecDepth 100000 in
theorem commonmark_zzReplaceBytes.calls (k : Nat) (A0 : Option Addr) (c0 : Nat) (l0 : List Int) (a1 : ByteArray) (a2 : ByteArray) (r : List Int) (w : World) (hr0 : Kd.C (Kd.int .u8) w A0 l0.length l0) (hc0 : l0.length ≤ c0) (h : commonmark_zzReplaceBytes.f k l0 a1 a2 = some r) :
    Calls Try.prog 90 #[.slice A0 l0.length c0, .string a1, .string a2] w fun e w' => ∃ v0_ : Value, e = .returned (v0_) ∧ Kd.R (Kd.int .u8) 5 w' w.heap.size (fun _ => True) v0_ r ∧ Below w.heap.size w w' := by
  have HR0 := Aside0.mk hr0
  have HC0 := Aside0.mk hc0
  clear hr0 hc0
  have HB := Aside0.mk (Below.refl w.heap.size w)
  have H : (commonmark_zzReplaceBytes.l0 k l0 a1 a2 ([] : List Int) 0) = some r := h
  clear h
  have H' := Aside0.mk H
  clear H
  go_enter Try.func90, Try.ntmps90
  go_wp2
  go_loopg [7, 8] k (fun kq v7 v8 w' => ∃ (x7_1 : List Int) (x8_1 : Int), v8 = .int .i64 x8_1 ∧ Aside0 (commonmark_zzReplaceBytes.l0 kq l0 a1 a2 x7_1 x8_1 = some r) ∧ Aside0 (kq ≤ k) ∧ Aside0 (Kd.R (Kd.int .u8) 5 w' w.heap.size (fun _ => True) v7 x7_1) ∧ Aside0 (Below w.heap.size w w'))
  case atStart => exact ⟨(([] : List Int)), (0), (by first | rfl | (simp; done) | (simp [*]; done)), H', ⟨Nat.le_refl _⟩, ⟨by first | exact Kd.R_nil _ _ _ _ _ | exact Kd.N_nil _ _ _ _ _ | exact Kd.V_nil _ _ _ _ _ | exact Kd.Q_nil _ _ _ _ _ | exact Kd.S_nil _ _ _ _ _⟩, ⟨by repeat (first | (with_reducible first | exact HB.out | apply below_alloc | apply pw_below_drewN | apply below_drew1) | exact HB.out)⟩⟩
  case round =>
    clear H'
    try clear p2
    obtain ⟨x7_1, x8_1, rfl, HA, HK1, HO_7, HB⟩ := hrel
    cases gk with
    | zero => exact absurd HA.out (by simp [commonmark_zzReplaceBytes.l0])
    | succ k1 =>
      have H := HA.out
      clear HA
      simp only [commonmark_zzReplaceBytes.l0] at H
      by_cases c4 : x8_1 < (l0.length : Int)
      · rw [if_pos c4] at H
        have c4b0 : decide (x8_1 < (l0.length : Int)) = true := decide_eq_true c4
        clear c4
        by_cases c5 : (wrap64 (x8_1 + (a1.size : Int))) ≤ (l0.length : Int)
        · rw [if_pos c5] at H
          have c5b0 : decide ((wrap64 (x8_1 + (a1.size : Int))) ≤ (l0.length : Int)) = true := decide_eq_true c5
          clear c5
          by_cases c6 : 0 ≤ x8_1
          · rw [if_pos c6] at H
            have c6b0 := eq_true c6
            have c6b1 : decide (0 ≤ x8_1) = true := decide_eq_true c6
            clear c6
            by_cases c7 : x8_1 ≤ (wrap64 (x8_1 + (a1.size : Int)))
            · rw [if_pos c7] at H
              have c7b0 := eq_true c7
              have c7b1 : decide (x8_1 ≤ (wrap64 (x8_1 + (a1.size : Int)))) = true := decide_eq_true c7
              have c8b0 := eq_true (of_decide_eq_true (by first | (with_reducible assumption) | assumption) : (wrap64 (x8_1 + (a1.size : Int))) ≤ (l0.length : Int))
              by_cases c9 : (strOfNums ((l0.take ((wrap64 (x8_1 + (a1.size : Int))) : Int).toNat).drop (x8_1 : Int).toNat)).toList = a1.toList
              · rw [if_pos c9] at H
                have c9b0 : ((strOfNums ((l0.take ((wrap64 (x8_1 + (a1.size : Int))) : Int).toNat).drop (x8_1 : Int).toNat)).toList == a1.toList) = true := beq_iff_eq.mpr c9
                have c9b1 : ((strOfNums ((l0.take ((wrap64 (x8_1 + (a1.size : Int))) : Int).toNat).drop (x8_1 : Int).toNat)).toList != a1.toList) = false := bne_eq_false_iff_eq.mpr c9
                clear c9
                by_cases c10 : x7_1.length + a2.size < 140737488355328
                · rw [if_pos c10] at H
                  have LMc10 := Aside0.mk c10
                  clear c10
                  obtain ⟨y102, hy102⟩ : ∃ y_ : List Int, y_ = (x7_1 ++ bytesOf a2) := ⟨_, rfl⟩
                  replace H : (commonmark_zzReplaceBytes.l0 k1 l0 a1 a2 y102 (wrap64 (x8_1 + (a1.size : Int)))) = some r := by first | (rw [hy102]; with_reducible exact H) | (have H2_ := (Option.bind_some _ _).symm.trans H; rw [hy102]; with_reducible exact H2_) | (have H2_ := (Option.bind_some _ _).symm.trans H; with_reducible exact H2_) | with_reducible exact H | (rw [hy102]; exact H) | exact H
                  have Ny102 := Aside0.mk hy102
                  clear hy102
                  have H' := Aside0.mk H
                  clear H
                  obtain ⟨i011, hi011, _, hsz11, _⟩ := info_parts info5
                  obtain ⟨A11, hcut11, hA11, hC11⟩ := print_mid_of (P := Try.prog) (Value.int .u8) 0 45 5 .i64 .i64 Try.underlying45 hi011 hsz11 A0 c0 l0 x8_1 (wrap64 (x8_1 + (a1.size : Int))) (of_decide_eq_true (by first | (with_reducible assumption) | assumption)) (by first | omega | exact of_decide_eq_true (by first | (with_reducible assumption) | assumption)) (of_decide_eq_true (by first | (with_reducible assumption) | assumption)) HC0.out
                  have HR101 := Aside0.mk (Kd.C_of_reads (h1 := fun _ => rfl) (hA11 _ (Kd.reads_of_C HR0.out)))
                  have HC101 := Aside0.mk hC11
                  clear hA11 hC11 hi011 hsz11
                  have hcv12 := Kd.C_string (P := Try.prog) (A := A11) (c := (c0 - x8_1.toNat)) Try.underlying45 Try.underlying5 Try.underlying9 (Kd.C_below HR101.out HB.out)
                  try rw [show ((l0.take ((wrap64 (x8_1 + (a1.size : Int))) : Int).toNat).drop (x8_1 : Int).toNat).length = ((wrap64 (x8_1 + (a1.size : Int))) : Int).toNat - (x8_1 : Int).toNat from cut_len (of_decide_eq_true (by first | (with_reducible assumption) | assumption))] at hcv12
                  go_wp2_with (first | (at_builtin; refine print_append_str (w0 := w) w.heap.size rfl (.tmp 32) _ 45 9 5 rfl Try.underlying45 Try.underlying9 info5 u7 x7_1 a2 rfl rfl ?aO ?aB ?aS ?aL ?_; (case aB => exact (by repeat (first | (with_reducible first | exact HB.out | apply below_alloc | apply pw_below_drewN | apply below_drew1) | exact HB.out))); (case aO => exact (Kd.own_of_R (by (with_reducible repeat (first | apply Kd.R_alloc | apply Kd.R_drewN | apply Kd.R_drew)); exact HO_7.out))); (case aS => exact (below_size (by repeat (first | (with_reducible first | exact HB.out | apply below_alloc | apply pw_below_drewN | apply below_drew1) | exact HB.out)))); (case aL => have := LMc10.out; (first | omega | (simp only [ByteArray.size, List.size_toArray, List.length_cons, List.length_nil]; omega))); intro v103 w13 ho0 hb hg; have ho := Kd.R_of_own (h1 := fun _ => rfl) (ok := fun _ => True) ho0 (fun _ _ => trivial); clear ho0; have hat := True.intro; rw [← Ny102.out] at ho; change Kd.R (Kd.int .u8) 5 w13 w.heap.size (fun _ => True) v103 y102 at ho; have n0_ := Aside0.mk (hb); have n1_ := Aside0.mk (ho); clear HB; clear HO_7; have HB := n0_; have HO104 := n1_; clear n0_ n1_; clear ho hb hg hat))
                  go_roundg k1
                  case measure => have := HK1.out; omega
                  case rel => exact ⟨(y102), (wrap64 (x8_1 + (a1.size : Int))), (by first | rfl | (simp; done) | (simp [*]; done)), H', ⟨by have := HK1.out; omega⟩, ⟨by (with_reducible repeat (first | apply Kd.R_alloc | apply Kd.R_drewN | apply Kd.R_drew)); exact HO104.out⟩, ⟨by repeat (first | (with_reducible first | exact HB.out | apply below_alloc | apply pw_below_drewN | apply below_drew1) | exact HB.out)⟩⟩
                · rw [if_neg c10] at H
                  exact absurd H (by simp)
              · rw [if_neg c9] at H
                have c9b0 : ((strOfNums ((l0.take ((wrap64 (x8_1 + (a1.size : Int))) : Int).toNat).drop (x8_1 : Int).toNat)).toList == a1.toList) = false := beq_eq_false_iff_ne.mpr c9
                have c9b1 : ((strOfNums ((l0.take ((wrap64 (x8_1 + (a1.size : Int))) : Int).toNat).drop (x8_1 : Int).toNat)).toList != a1.toList) = true := bne_iff_ne.mpr c9
                by_cases c14 : x7_1.length < 140737488355328
                · rw [if_pos c14] at H
                  have LMc14 := Aside0.mk c14
                  clear c14
                  obtain ⟨y106, hy106⟩ : ∃ y_ : List Int, y_ = (x7_1 ++ [rd l0 x8_1]) := ⟨_, rfl⟩
                  replace H : (commonmark_zzReplaceBytes.l0 k1 l0 a1 a2 y106 (wrap64 (x8_1 + 1))) = some r := by first | (rw [hy106]; with_reducible exact H) | (have H2_ := (Option.bind_some _ _).symm.trans H; rw [hy106]; with_reducible exact H2_) | (have H2_ := (Option.bind_some _ _).symm.trans H; with_reducible exact H2_) | with_reducible exact H | (rw [hy106]; exact H) | exact H
                  have Ny106 := Aside0.mk hy106
                  clear hy106
                  have H' := Aside0.mk H
                  clear H
                  obtain ⟨i015, hi015, _, hsz15, _⟩ := info_parts info5
                  obtain ⟨A15, hcut15, hA15, hC15⟩ := print_mid_of (P := Try.prog) (Value.int .u8) 0 45 5 .i64 .i64 Try.underlying45 hi015 hsz15 A0 c0 l0 x8_1 (wrap64 (x8_1 + (a1.size : Int))) (of_decide_eq_true (by first | (with_reducible assumption) | assumption)) (by first | omega | exact of_decide_eq_true (by first | (with_reducible assumption) | assumption)) (of_decide_eq_true (by first | (with_reducible assumption) | assumption)) HC0.out
                  have HR101 := Aside0.mk (Kd.C_of_reads (h1 := fun _ => rfl) (hA15 _ (Kd.reads_of_C HR0.out)))
                  have HC101 := Aside0.mk hC15
                  clear hA15 hC15 hi015 hsz15
                  have hcv16 := Kd.C_string (P := Try.prog) (A := A15) (c := (c0 - x8_1.toNat)) Try.underlying45 Try.underlying5 Try.underlying9 (Kd.C_below HR101.out HB.out)
                  try rw [show ((l0.take ((wrap64 (x8_1 + (a1.size : Int))) : Int).toNat).drop (x8_1 : Int).toNat).length = ((wrap64 (x8_1 + (a1.size : Int))) : Int).toNat - (x8_1 : Int).toNat from cut_len (of_decide_eq_true (by first | (with_reducible assumption) | assumption))] at hcv16
                  have p105 : 0 ≤ (x8_1 : Int) := of_decide_eq_true (by first | (with_reducible assumption) | assumption)
                  have q105 : x8_1 < (l0.length : Int) := of_decide_eq_true (by first | (with_reducible assumption) | assumption)
                  obtain ⟨ad105, e105, hx105_0⟩ := Kd.at_int HR0.out x8_1 p105 q105
                  cases e105
                  replace hx105_0 := (HB.out.cell (World.block_lt_of_cell? w _ hx105_0)).trans hx105_0
                  replace p105 := eq_true p105
                  replace q105 := eq_true q105
                  go_wp2_with (first | ((with_reducible refine gate_builtin (b := .append) (xs := #[.tmp 39, .tmp 44]) rfl ?_); (try (refine gate_guard (by rfl) ?_; dsimp only)); at_builtin; refine Kd.R_append (Kd.int .u8) (w0 := w) w.heap.size rfl (.tmp 39) (.tmp 44) 45 5 (.int .u8 0) 1 rfl Try.underlying45 info5 rfl (by decide) (by omega) u7 x7_1 (rd l0 x8_1) [.int .u8 (rd l0 x8_1)] (fun _ => True) (fun _ => False) rfl rfl ?aP (fun _ hk => hk.elim) ?aF ?aO ?aB ?aS ?aL ?_; (case aP => exact rfl); (case aB => exact (by repeat (first | (with_reducible first | exact HB.out | apply below_alloc | apply pw_below_drewN | apply below_drew1) | exact HB.out))); (case aF => exact (fun _ _ => trivial)); (case aO => exact (by (with_reducible repeat (first | apply Kd.R_alloc | apply Kd.R_drewN | apply Kd.R_drew)); exact HO_7.out)); (case aS => exact (below_size (by repeat (first | (with_reducible first | exact HB.out | apply below_alloc | apply pw_below_drewN | apply below_drew1) | exact HB.out)))); (case aL => have := LMc14.out; (first | omega | (simp only [ByteArray.size, List.size_toArray, List.length_cons, List.length_nil]; omega))); intro v107 w17 ho hb hg hat; rw [← Ny106.out] at ho; have n0_ := Aside0.mk (hb); have n1_ := Aside0.mk (ho); clear HB; clear HO_7; have HB := n0_; have HO108 := n1_; clear n0_ n1_; clear ho hb hg hat))
                  go_roundg k1
                  case measure => have := HK1.out; omega
                  case rel => exact ⟨(y106), (wrap64 (x8_1 + 1)), (by first | rfl | (simp; done) | (simp [*]; done)), H', ⟨by have := HK1.out; omega⟩, ⟨by (with_reducible repeat (first | apply Kd.R_alloc | apply Kd.R_drewN | apply Kd.R_drew)); exact HO108.out⟩, ⟨by repeat (first | (with_reducible first | exact HB.out | apply below_alloc | apply pw_below_drewN | apply below_drew1) | exact HB.out)⟩⟩
                · rw [if_neg c14] at H
                  exact absurd H (by simp)
            · rw [if_neg c7] at H
              exact absurd H (by simp)
          · rw [if_neg c6] at H
            exact absurd H (by simp)
        · rw [if_neg c5] at H
          have c5b0 : decide ((wrap64 (x8_1 + (a1.size : Int))) ≤ (l0.length : Int)) = false := decide_eq_false c5
          clear c5
          by_cases c18 : 0 ≤ x8_1
          · rw [if_pos c18] at H
            have c18b0 : decide (0 ≤ x8_1) = true := decide_eq_true c18
            clear c18
            by_cases c19 : x7_1.length < 140737488355328
            · rw [if_pos c19] at H
              have LMc19 := Aside0.mk c19
              clear c19
              obtain ⟨y110, hy110⟩ : ∃ y_ : List Int, y_ = (x7_1 ++ [rd l0 x8_1]) := ⟨_, rfl⟩
              replace H : (commonmark_zzReplaceBytes.l0 k1 l0 a1 a2 y110 (wrap64 (x8_1 + 1))) = some r := by first | (rw [hy110]; with_reducible exact H) | (have H2_ := (Option.bind_some _ _).symm.trans H; rw [hy110]; with_reducible exact H2_) | (have H2_ := (Option.bind_some _ _).symm.trans H; with_reducible exact H2_) | with_reducible exact H | (rw [hy110]; exact H) | exact H
              have Ny110 := Aside0.mk hy110
              clear hy110
              have H' := Aside0.mk H
              clear H
              have p109 : 0 ≤ (x8_1 : Int) := of_decide_eq_true (by first | (with_reducible assumption) | assumption)
              have q109 : x8_1 < (l0.length : Int) := of_decide_eq_true (by first | (with_reducible assumption) | assumption)
              obtain ⟨ad109, e109, hx109_0⟩ := Kd.at_int HR0.out x8_1 p109 q109
              cases e109
              replace hx109_0 := (HB.out.cell (World.block_lt_of_cell? w _ hx109_0)).trans hx109_0
              replace p109 := eq_true p109
              replace q109 := eq_true q109
              go_wp2_with (first | ((with_reducible refine gate_builtin (b := .append) (xs := #[.tmp 39, .tmp 44]) rfl ?_); (try (refine gate_guard (by rfl) ?_; dsimp only)); at_builtin; refine Kd.R_append (Kd.int .u8) (w0 := w) w.heap.size rfl (.tmp 39) (.tmp 44) 45 5 (.int .u8 0) 1 rfl Try.underlying45 info5 rfl (by decide) (by omega) u7 x7_1 (rd l0 x8_1) [.int .u8 (rd l0 x8_1)] (fun _ => True) (fun _ => False) rfl rfl ?aP (fun _ hk => hk.elim) ?aF ?aO ?aB ?aS ?aL ?_; (case aP => exact rfl); (case aB => exact (by repeat (first | (with_reducible first | exact HB.out | apply below_alloc | apply pw_below_drewN | apply below_drew1) | exact HB.out))); (case aF => exact (fun _ _ => trivial)); (case aO => exact (by (with_reducible repeat (first | apply Kd.R_alloc | apply Kd.R_drewN | apply Kd.R_drew)); exact HO_7.out)); (case aS => exact (below_size (by repeat (first | (with_reducible first | exact HB.out | apply below_alloc | apply pw_below_drewN | apply below_drew1) | exact HB.out)))); (case aL => have := LMc19.out; (first | omega | (simp only [ByteArray.size, List.size_toArray, List.length_cons, List.length_nil]; omega))); intro v111 w20 ho hb hg hat; rw [← Ny110.out] at ho; have n0_ := Aside0.mk (hb); have n1_ := Aside0.mk (ho); clear HB; clear HO_7; have HB := n0_; have HO112 := n1_; clear n0_ n1_; clear ho hb hg hat))
              go_roundg k1
              case measure => have := HK1.out; omega
              case rel => exact ⟨(y110), (wrap64 (x8_1 + 1)), (by first | rfl | (simp; done) | (simp [*]; done)), H', ⟨by have := HK1.out; omega⟩, ⟨by (with_reducible repeat (first | apply Kd.R_alloc | apply Kd.R_drewN | apply Kd.R_drew)); exact HO112.out⟩, ⟨by repeat (first | (with_reducible first | exact HB.out | apply below_alloc | apply pw_below_drewN | apply below_drew1) | exact HB.out)⟩⟩
            · rw [if_neg c19] at H
              exact absurd H (by simp)
          · rw [if_neg c18] at H
            exact absurd H (by simp)
      · rw [if_neg c4] at H
        have c4b0 : decide (x8_1 < (l0.length : Int)) = false := decide_eq_false c4
        clear c4
        obtain rfl := Option.some.inj H
        go_wp2
        go_ret
        exact ⟨_, by first | rfl | (simp [errW_none, errW_some] <;> rfl) | (simp [*, errW_none, errW_some] <;> rfl), by (with_reducible repeat (first | apply Kd.R_alloc | apply Kd.R_drewN | apply Kd.R_drew)); exact HO_7.out, by repeat (first | (with_reducible first | exact HB.out | apply below_alloc | apply pw_below_drewN | apply below_drew1) | exact HB.out)⟩

/-! ### spec_Lines: function 56 -/
def spec_Lines.l0 : Nat → ByteArray → List ByteArray → Int → Option (List ByteArray)
  | 0, _, _, _ => none
  | k + 1, x0, x3, x4 => if x4 < (x0.size : Int) then (if 0 ≤ x4 then (if (bt x0 x4) = 10 then (if x3.length < 8796093022208 then (spec_Lines.l0 k x0 (x3 ++ [(⟨#[]⟩ : ByteArray)]) (wrap64 (x4 + 1))) else (none)) else (if 0 ≤ (wrap64 ((x3.length : Int) - 1)) then (if (wrap64 ((x3.length : Int) - 1)) < (x3.length : Int) then (if x4 ≤ (wrap64 (x4 + 1)) then (if (wrap64 (x4 + 1)) ≤ (x0.size : Int) then (if (rdOf ByteArray.empty x3 (wrap64 ((x3.length : Int) - 1))).size + (x0.extract (x4 : Int).toNat ((wrap64 (x4 + 1)) : Int).toNat).size ≤ 9223372036854775807 then (spec_Lines.l0 k x0 (x3.set ((wrap64 ((x3.length : Int) - 1)) : Int).toNat ((rdOf ByteArray.empty x3 (wrap64 ((x3.length : Int) - 1))) ++ (x0.extract (x4 : Int).toNat ((wrap64 (x4 + 1)) : Int).toNat))) (wrap64 (x4 + 1))) else (none)) else (none)) else (none)) else (none)) else (none))) else (none)) else (some x3)
def spec_Lines.f (k : Nat) (a0 : ByteArray) : Option (List ByteArray) := spec_Lines.l0 k a0 (([(⟨#[]⟩ : ByteArray)] : List ByteArray)) 0
theorem spec_Lines.mono_l : ∀ k, (∀ y0 y1 y2, LeO (spec_Lines.l0 k y0 y1 y2) (spec_Lines.l0 (k + 1) y0 y1 y2))
  | 0 => fun _ _ _ r h => by simp [spec_Lines.l0] at h
  | k + 1 => by
    have ih0 := spec_Lines.mono_l k
    · intro y0 y1 y2
      unfold spec_Lines.l0
      repeat' first
      | (with_reducible exact ih0 _ _ _)
      | (with_reducible exact LeO.refl _)
      | (with_reducible exact LeO.none _)
      | (with_reducible refine LeO.ite ?_ ?_)
      | (with_reducible refine LeO.bind ?_ (fun _ => ?_))
      | exact ih0 _ _ _
      | exact LeO.none _
      | refine LeO.ite ?_ ?_
      | refine LeO.bind ?_ (fun _ => ?_)
theorem spec_Lines.mono : ∀ a0 k, LeO (spec_Lines.f k a0) (spec_Lines.f (k + 1) a0) := by
  intro a0 k
  have ih0 := spec_Lines.mono_l k
  unfold spec_Lines.f
  repeat' first
      | (with_reducible exact ih0 _ _ _)
      | (with_reducible exact LeO.refl _)
      | (with_reducible exact LeO.none _)
      | (with_reducible refine LeO.ite ?_ ?_)
      | (with_reducible refine LeO.bind ?_ (fun _ => ?_))
      | exact ih0 _ _ _
      | exact LeO.none _
      | refine LeO.ite ?_ ?_
      | refine LeO.bind ?_ (fun _ => ?_)
def spec_Lines.T7 : Bool × List (List Nat × List Nat) := (true, [([], []), ([], []), ([1], [1]), ([2], [2]), ([0, 3], [0, 3]), ([4], [4]), ([], []), ([], []), ([], []), ([8], [8]), ([6, 7, 9], [6, 7, 9]), ([5, 10], [5, 10]), ([0, 3, 0, 1, 2, 3, 4, 5, 6, 7, 8, 9, 10, 11], [0, 3]), ([12, 11, 0, 1, 2, 3, 4, 5, 6, 7, 8, 9, 10, 11], [11, 12])])
def spec_Lines.B7 : List Nat := [0, 0, 2, 6, 15, 31, 0, 0, 0, 256, 960, 2047, 4095, 8191]
theorem spec_Lines.tab7 : rtab .any (opsOf Try.f56 7) = spec_Lines.T7 := by kernel_rfl
theorem spec_Lines.bits7 : waitsOk spec_Lines.T7.2 spec_Lines.B7 = true := by kernel_rfl
set_option maxHeartbeats 8000000 in
set_option maxRecDepth 100000 in
theorem spec_Lines.calls (k : Nat) (a0 : ByteArray) (r : List ByteArray) (w : World) (h : spec_Lines.f k a0 = some r) :
    Calls Try.prog 56 #[.string a0] w fun e w' => ∃ v0_ : Value, e = .returned (v0_) ∧ Kd.R Kd.string 9 w' w.heap.size (fun _ => True) v0_ r ∧ Below w.heap.size w w' := by
  have HB := Aside0.mk (Below.refl w.heap.size w)
  have H : (spec_Lines.l0 k a0 (([(⟨#[]⟩ : ByteArray)] : List ByteArray)) 0) = some r := h
  clear h
  obtain ⟨y113, hy113⟩ : ∃ y_ : List ByteArray, y_ = (([(⟨#[]⟩ : ByteArray)] : List ByteArray)) := ⟨_, rfl⟩
  replace H : (spec_Lines.l0 k a0 y113 0) = some r := by first | (rw [hy113]; with_reducible exact H) | (have H2_ := (Option.bind_some _ _).symm.trans H; rw [hy113]; with_reducible exact H2_) | (have H2_ := (Option.bind_some _ _).symm.trans H; with_reducible exact H2_) | with_reducible exact H | (rw [hy113]; exact H) | exact H
  have Ny113 := Aside0.mk hy113
  clear hy113
  have H' := Aside0.mk H
  clear H
  go_enter Try.func56, Try.ntmps56
  go_wp2_with (first | ((with_reducible refine gate_dst (N := 5) rfl ?_); refine Kd.R_lit Kd.string _ 9 ?hg (N := 5) ?hd (xs := ([(⟨#[]⟩ : ByteArray)] : List ByteArray)) (inner := [.string (⟨#[]⟩ : ByteArray)]) (ok := fun _ => True) (okp := fun _ => True) ?hr ?hp (fun _ hk => hk) trivial (Below.refl _ _) (Nat.le_refl _) (by simp) ?_; (case hd => rfl); (case hg => rfl); (case hr => first | (go_simp; done) | (go_simp; rfl)); (case hp => exact (Reps.one (show Kd.M Kd.string _ _ _ (⟨#[]⟩ : ByteArray) [.string (⟨#[]⟩ : ByteArray)] from rfl) (Reps.none _ _))); intro v114 w2 ho3 hb hg_ hnew_; clear hg_ hnew_; (first | rw [← Ny113.out] at ho3 | (simp only [Int.reduceToNat] at ho3; rw [← Ny113.out] at ho3)); have n0_ := Aside0.mk (Kd.R_lower ho3 (below_size (by repeat (first | (with_reducible first | exact HB.out | apply below_alloc | apply pw_below_drewN | apply below_drew1) | exact HB.out)))); have n1_ := Aside0.mk (below_step (by repeat (first | (with_reducible first | exact HB.out | apply below_alloc | apply pw_below_drewN | apply below_drew1) | exact HB.out)) hb); clear HB; have HO115 := n0_; have HB := n1_; clear n0_ n1_; clear hb ho3))
  go_loopg [3, 4] k (fun kq v3 v4 w' => ∃ (x3_1 : List ByteArray) (x4_1 : Int), v4 = .int .i64 x4_1 ∧ Aside0 (spec_Lines.l0 kq a0 x3_1 x4_1 = some r) ∧ Aside0 (kq ≤ k) ∧ Aside0 (Kd.R Kd.string 9 w' w.heap.size (fun _ => True) v3 x3_1) ∧ Aside0 (Below w.heap.size w w'))
  case atStart => exact ⟨(y113), (0), (by first | rfl | (simp; done) | (simp [*]; done)), H', ⟨Nat.le_refl _⟩, ⟨by (with_reducible repeat (first | apply Kd.R_alloc | apply Kd.R_drewN | apply Kd.R_drew)); exact HO115.out⟩, ⟨by repeat (first | (with_reducible first | exact HB.out | apply below_alloc | apply pw_below_drewN | apply below_drew1) | exact HB.out)⟩⟩
  case round =>
    clear H'
    try clear p2
    obtain ⟨x3_1, x4_1, rfl, HA, HK1, HO_3, HB⟩ := hrel
    cases gk with
    | zero => exact absurd HA.out (by simp [spec_Lines.l0])
    | succ k1 =>
      have H := HA.out
      clear HA
      simp only [spec_Lines.l0] at H
      by_cases c4 : x4_1 < (a0.size : Int)
      · rw [if_pos c4] at H
        have c4b0 : decide (x4_1 < (a0.size : Int)) = true := decide_eq_true c4
        clear c4
        by_cases c5 : 0 ≤ x4_1
        · rw [if_pos c5] at H
          have c5b0 : decide (0 ≤ x4_1) = true := decide_eq_true c5
          clear c5
          by_cases c7 : (bt a0 x4_1) = 10
          · rw [if_pos c7] at H
            have c7b0 : ((bt a0 x4_1) == 10) = true := beq_iff_eq.mpr c7
            have c7b1 : ((bt a0 x4_1) != 10) = false := bne_eq_false_iff_eq.mpr c7
            clear c7
            by_cases c8 : x3_1.length < 8796093022208
            · rw [if_pos c8] at H
              have LMc8 := Aside0.mk c8
              clear c8
              obtain ⟨y116, hy116⟩ : ∃ y_ : List ByteArray, y_ = (x3_1 ++ [(⟨#[]⟩ : ByteArray)]) := ⟨_, rfl⟩
              replace H : (spec_Lines.l0 k1 a0 y116 (wrap64 (x4_1 + 1))) = some r := by first | (rw [hy116]; with_reducible exact H) | (have H2_ := (Option.bind_some _ _).symm.trans H; rw [hy116]; with_reducible exact H2_) | (have H2_ := (Option.bind_some _ _).symm.trans H; with_reducible exact H2_) | with_reducible exact H | (rw [hy116]; exact H) | exact H
              have Ny116 := Aside0.mk hy116
              clear hy116
              have H' := Aside0.mk H
              clear H
              have p6 : 0 ≤ (x4_1 : Int) := of_decide_eq_true (by first | (with_reducible assumption) | assumption)
              have q6 : x4_1 < (a0.size : Int) := of_decide_eq_true (by first | (with_reducible assumption) | assumption)
              have hx6 := bt_at a0 x4_1
              replace p6 := eq_true p6
              replace q6 := eq_true q6
              go_wp2_with (first | ((with_reducible refine gate_builtin (b := .append) (xs := #[.tmp 16, .tmp 17]) rfl ?_); at_builtin; refine Kd.R_append Kd.string (w0 := w) w.heap.size rfl (.tmp 16) (.tmp 17) 22 9 (.string ⟨#[]⟩) 16 rfl Try.underlying22 info9 rfl (by decide) (by omega) u3 x3_1 (⟨#[]⟩ : ByteArray) [.string (⟨#[]⟩ : ByteArray)] (fun _ => True) (fun _ => False) rfl rfl ?aP (fun _ hk => hk.elim) ?aF ?aO ?aB ?aS ?aL ?_; (case aP => exact rfl); (case aB => exact (by repeat (first | (with_reducible first | exact HB.out | apply below_alloc | apply pw_below_drewN | apply below_drew1) | exact HB.out))); (case aF => exact (fun _ _ => trivial)); (case aO => exact (by (with_reducible repeat (first | apply Kd.R_alloc | apply Kd.R_drewN | apply Kd.R_drew)); exact HO_3.out)); (case aS => exact (below_size (by repeat (first | (with_reducible first | exact HB.out | apply below_alloc | apply pw_below_drewN | apply below_drew1) | exact HB.out)))); (case aL => have := LMc8.out; (first | omega | (simp only [ByteArray.size, List.size_toArray, List.length_cons, List.length_nil]; omega))); intro v117 w9 ho hb hg hat; rw [← Ny116.out] at ho; have n0_ := Aside0.mk (hb); have n1_ := Aside0.mk (ho); clear HB; clear HO_3; have HB := n0_; have HO118 := n1_; clear n0_ n1_; clear ho hb hg hat))
              go_roundg k1
              case measure => have := HK1.out; omega
              case rel => exact ⟨(y116), (wrap64 (x4_1 + 1)), (by first | rfl | (simp; done) | (simp [*]; done)), H', ⟨by have := HK1.out; omega⟩, ⟨by (with_reducible repeat (first | apply Kd.R_alloc | apply Kd.R_drewN | apply Kd.R_drew)); exact HO118.out⟩, ⟨by repeat (first | (with_reducible first | exact HB.out | apply below_alloc | apply pw_below_drewN | apply below_drew1) | exact HB.out)⟩⟩
            · rw [if_neg c8] at H
              exact absurd H (by simp)
          · rw [if_neg c7] at H
            have c7b0 : ((bt a0 x4_1) == 10) = false := beq_eq_false_iff_ne.mpr c7
            have c7b1 : ((bt a0 x4_1) != 10) = true := bne_iff_ne.mpr c7
            obtain ⟨ji10, hji10⟩ : ∃ j_ : Int, (wrap64 ((x3_1.length : Int) - 1)) = j_ := ⟨_, rfl⟩
            replace H : (if 0 ≤ (ji10) then (if (ji10) < (x3_1.length : Int) then (if x4_1 ≤ (wrap64 (x4_1 + 1)) then (if (wrap64 (x4_1 + 1)) ≤ (a0.size : Int) then (if (rdOf ByteArray.empty x3_1 (ji10)).size + (a0.extract (x4_1 : Int).toNat ((wrap64 (x4_1 + 1)) : Int).toNat).size ≤ 9223372036854775807 then (spec_Lines.l0 k1 a0 (x3_1.set ((ji10) : Int).toNat ((rdOf ByteArray.empty x3_1 (ji10)) ++ (a0.extract (x4_1 : Int).toNat ((wrap64 (x4_1 + 1)) : Int).toNat))) (wrap64 (x4_1 + 1))) else (none)) else (none)) else (none)) else (none)) else (none)) = some r := by first | (rw [hji10] at H; exact H) | (simp only [hji10] at H ⊢; exact H)
            have hji10w : (IntKind.i64.wrap ((x3_1.length : Int) - 1)) = ji10 := (i64_w _).trans hji10
            by_cases c11 : 0 ≤ (ji10)
            · rw [if_pos c11] at H
              have c11b0 : decide (0 ≤ (ji10)) = true := decide_eq_true c11
              clear c11
              by_cases c12 : (ji10) < (x3_1.length : Int)
              · rw [if_pos c12] at H
                have c12b0 : decide ((ji10) < (x3_1.length : Int)) = true := decide_eq_true c12
                clear c12
                have c13b0 := eq_true (of_decide_eq_true (by first | (with_reducible assumption) | assumption) : 0 ≤ x4_1)
                by_cases c14 : x4_1 ≤ (wrap64 (x4_1 + 1))
                · rw [if_pos c14] at H
                  have c14b0 := eq_true c14
                  have c14b1 : decide (x4_1 ≤ (wrap64 (x4_1 + 1))) = true := decide_eq_true c14
                  by_cases c15 : (wrap64 (x4_1 + 1)) ≤ (a0.size : Int)
                  · rw [if_pos c15] at H
                    have c15b0 := eq_true c15
                    have c15b1 : decide ((wrap64 (x4_1 + 1)) ≤ (a0.size : Int)) = true := decide_eq_true c15
                    by_cases c16 : (rdOf ByteArray.empty x3_1 (ji10)).size + (a0.extract (x4_1 : Int).toNat ((wrap64 (x4_1 + 1)) : Int).toNat).size ≤ 9223372036854775807
                    · rw [if_pos c16] at H
                      have c16b0 := eq_true c16
                      have c16b1 : decide ((rdOf ByteArray.empty x3_1 (ji10)).size + (a0.extract (x4_1 : Int).toNat ((wrap64 (x4_1 + 1)) : Int).toNat).size ≤ 9223372036854775807) = true := decide_eq_true c16
                      try have c16b2 : (9223372036854775807 < (rdOf ByteArray.empty x3_1 (ji10)).size + (a0.extract (x4_1 : Int).toNat ((wrap64 (x4_1 + 1)) : Int).toNat).size) = False := eq_false (Nat.not_lt.2 c16)
                      have c16b3 : (9223372036854775807 < (rdOf ByteArray.empty x3_1 (ji10)).size + (((wrap64 (x4_1 + 1)) : Int).toNat - (x4_1 : Int).toNat)) = False := eq_false (Nat.not_lt.2 (by have h_ := c16; rw [ByteArray.size_extract, Nat.min_eq_left (Int.toNat_le.2 c15)] at h_; exact h_))
                      obtain ⟨y120, hy120⟩ : ∃ y_ : List ByteArray, y_ = (x3_1.set ((ji10) : Int).toNat ((rdOf ByteArray.empty x3_1 (ji10)) ++ (a0.extract (x4_1 : Int).toNat ((wrap64 (x4_1 + 1)) : Int).toNat))) := ⟨_, rfl⟩
                      replace H : (spec_Lines.l0 k1 a0 y120 (wrap64 (x4_1 + 1))) = some r := by first | (rw [hy120]; with_reducible exact H) | (have H2_ := (Option.bind_some _ _).symm.trans H; rw [hy120]; with_reducible exact H2_) | (have H2_ := (Option.bind_some _ _).symm.trans H; with_reducible exact H2_) | with_reducible exact H | (rw [hy120]; exact H) | exact H
                      have Ny120 := Aside0.mk hy120
                      clear hy120
                      have H' := Aside0.mk H
                      clear H
                      have p6 : 0 ≤ (x4_1 : Int) := of_decide_eq_true (by first | (with_reducible assumption) | assumption)
                      have q6 : x4_1 < (a0.size : Int) := of_decide_eq_true (by first | (with_reducible assumption) | assumption)
                      have hx6 := bt_at a0 x4_1
                      replace p6 := eq_true p6
                      replace q6 := eq_true q6
                      try go_wp2
                      have n0_ := Aside0.mk (Kd.R_drew HO_3.out)
                      have n1_ := Aside0.mk (below_drew1 HB.out)
                      clear HO_3
                      clear HB
                      have HO_3 := n0_
                      have HB := n1_
                      clear n0_ n1_
                      obtain ⟨Ao19, co19, eo19⟩ := Kd.R_slice HO_3.out
                      (first | subst eo19 | (injection eo19 with f1_ f2_ f3_; have f4_ := f1_.symm; have f5_ := f3_.symm; clear f1_ f2_ f3_; subst f4_; subst f5_))
                      have p119 : 0 ≤ ((ji10) : Int) := of_decide_eq_true (by first | (with_reducible assumption) | assumption)
                      have q119 : (ji10) < (x3_1.length : Int) := of_decide_eq_true (by first | (with_reducible assumption) | assumption)
                      obtain ⟨ad119, e119, hx119_0⟩ := Kd.at_string (Kd.R_reads' HO_3.out).2.2 (ji10) p119 q119
                      cases e119
                      replace p119 := eq_true p119
                      replace q119 := eq_true q119
                      have p17 : 0 ≤ ((ji10) : Int) := of_decide_eq_true (by first | (with_reducible assumption) | assumption)
                      have q17 : ((ji10) : Int) < ((x3_1.length : Int) : Int) := of_decide_eq_true (by first | (with_reducible assumption) | assumption)
                      obtain ⟨go17, co17, eo17, gb17, gl17, cl17, HG17⟩ := Kd.R_form HO_3.out (by omega)
                      (first | cases eo17 | (injection eo17 with ea_ en_ ec_; (first | subst ea_ | (injection ea_ with ea_; subst ea_)); subst ec_; clear en_))
                      have GB17 := Aside0.mk gb17
                      have GG17 := Aside0.mk HG17
                      clear gb17 gl17 HG17
                      (first | simp only [add_plain] at hx119_0 | skip)
                      obtain ⟨hx17_0, hf17_0⟩ := Kd.R_celln (⟨#[]⟩ : ByteArray) HO_3.out ((ji10) : Int) p17 q17
                      replace p17 := eq_true p17
                      replace q17 := eq_true q17
                      have HP20 := Kd.R_putn HO_3.out ((ji10) : Int) ((rdOf ByteArray.empty x3_1 (ji10)) ++ (a0.extract (x4_1 : Int).toNat ((wrap64 (x4_1 + 1)) : Int).toNat))
                      rw [← Ny120.out] at HP20
                      have HQ20 := Aside0.mk HP20
                      clear HP20
                      refine start_ (n := 14) (S := fun w' => w'.cell? ⟨go17, ((ji10)).toNat, none⟩ = some (.string (rdOf ByteArray.empty x3_1 (ji10)))) (ds := [13]) #[false, false, false, false, false, false, false, false, false, false, false, false, false, false] (by kernel_rfl) rfl rfl (hx119_0) (fun hHeld => ?_); refine with_tabW spec_Lines.tab7 spec_Lines.bits7 (fun HT_ HW_ => ?_)
                      generalize wr.drew = w18 at HO_3 HB GG17 HQ20 hf17_0 hx119_0 hx17_0 hHeld ⊢
                      refine pure_ (i := 0) (N := some 19) (v := ?_) (a' := ?_) #[true, false, false, false, false, false, false, false, false, false, false, false, false, false] rfl rfl (any_of HT_.out (by kernel_rfl)) (fun _ _ _ h => h) (Or.inl ⟨by rfl, ?_⟩) ?_ ?_
                      rotate_left
                      · intro w'
                        go_simp
                        with_reducible rfl
                      rotate_left
                      · simp only [Act.put, List.setIfInBounds_toArray, List.set_cons_zero, List.set_cons_succ, i64_w, i32_w]
                        rfl
                      refine pure_ (i := 1) (N := some 20) (v := ?_) (a' := ?_) #[true, true, false, false, false, false, false, false, false, false, false, false, false, false] rfl rfl (any_of HT_.out (by kernel_rfl)) (fun _ _ _ h => h) (Or.inl ⟨by rfl, ?_⟩) ?_ ?_
                      rotate_left
                      · intro w'
                        go_simp
                        with_reducible rfl
                      rotate_left
                      · simp only [Act.put, List.setIfInBounds_toArray, List.set_cons_zero, List.set_cons_succ, i64_w, i32_w]
                        rfl
                      refine pure_ (i := 2) (N := some 21) (v := ?_) (a' := ?_) #[true, true, true, false, false, false, false, false, false, false, false, false, false, false] rfl rfl (any_of HT_.out (by kernel_rfl)) (fun _ _ _ h => h) (Or.inl ⟨by rfl, ?_⟩) ?_ ?_
                      rotate_left
                      · intro w'
                        go_simp
                        with_reducible rfl
                      rotate_left
                      · simp only [Act.put, List.setIfInBounds_toArray, List.set_cons_zero, List.set_cons_succ, i64_w, i32_w]
                        rfl
                      refine pure_ (i := 3) (N := some 22) (v := ?_) (a' := ?_) #[true, true, true, true, false, false, false, false, false, false, false, false, false, false] rfl rfl (any_of HT_.out (by kernel_rfl)) (fun _ _ _ h => h) (Or.inl ⟨by rfl, ?_⟩) ?_ ?_
                      rotate_left
                      · intro w'
                        go_simp
                        with_reducible rfl
                      rotate_left
                      · simp only [Act.put, List.setIfInBounds_toArray, List.set_cons_zero, List.set_cons_succ, i64_w, i32_w]
                        rfl
                      refine pure_ (i := 4) (N := some 23) (v := ?_) (a' := ?_) #[true, true, true, true, true, false, false, false, false, false, false, false, false, false] rfl rfl (any_of HT_.out (by kernel_rfl)) (fun _ _ _ h => h) (Or.inl ⟨by rfl, ?_⟩) ?_ ?_
                      rotate_left
                      · intro w'
                        go_simp
                        with_reducible rfl
                      rotate_left
                      · simp only [Act.put, List.setIfInBounds_toArray, List.set_cons_zero, List.set_cons_succ, i64_w, i32_w]
                        rfl
                      refine pure_ (i := 6) (N := some 25) (v := ?_) (a' := ?_) #[true, true, true, true, true, false, true, false, false, false, false, false, false, false] rfl rfl (any_of HT_.out (by kernel_rfl)) (fun _ _ _ h => h) (Or.inl ⟨by rfl, ?_⟩) ?_ ?_
                      rotate_left
                      · intro w'
                        go_simp
                        with_reducible rfl
                      rotate_left
                      · simp only [Act.put, List.setIfInBounds_toArray, List.set_cons_zero, List.set_cons_succ, i64_w, i32_w]
                        rfl
                      refine pure_ (i := 7) (N := some 26) (v := ?_) (a' := ?_) #[true, true, true, true, true, false, true, true, false, false, false, false, false, false] rfl rfl (any_of HT_.out (by kernel_rfl)) (fun _ _ _ h => h) (Or.inl ⟨by rfl, ?_⟩) ?_ ?_
                      rotate_left
                      · intro w'
                        go_simp
                        with_reducible rfl
                      rotate_left
                      · simp only [Act.put, List.setIfInBounds_toArray, List.set_cons_zero, List.set_cons_succ, i64_w, i32_w]
                        rfl
                      refine pure_ (i := 8) (N := some 27) (v := ?_) (a' := ?_) #[true, true, true, true, true, false, true, true, true, false, false, false, false, false] rfl rfl (any_of HT_.out (by kernel_rfl)) (fun _ _ _ h => h) (Or.inl ⟨by rfl, ?_⟩) ?_ ?_
                      rotate_left
                      · intro w'
                        go_simp
                        with_reducible rfl
                      rotate_left
                      · simp only [Act.put, List.setIfInBounds_toArray, List.set_cons_zero, List.set_cons_succ, i64_w, i32_w]
                        rfl
                      refine pure_ (i := 9) (N := some 28) (v := ?_) (a' := ?_) #[true, true, true, true, true, false, true, true, true, true, false, false, false, false] rfl rfl (any_of HT_.out (by kernel_rfl)) (fun _ _ _ h => h) (Or.inl ⟨by rfl, ?_⟩) ?_ ?_
                      rotate_left
                      · intro w'
                        go_simp
                        with_reducible rfl
                      rotate_left
                      · simp only [Act.put, List.setIfInBounds_toArray, List.set_cons_zero, List.set_cons_succ, i64_w, i32_w]
                        rfl
                      refine pure_ (i := 10) (N := some 29) (v := ?_) (a' := ?_) #[true, true, true, true, true, false, true, true, true, true, true, false, false, false] rfl rfl (any_of HT_.out (by kernel_rfl)) (fun _ _ _ h => h) (Or.inl ⟨by rfl, ?_⟩) ?_ ?_
                      rotate_left
                      · intro w'
                        go_simp
                        with_reducible rfl
                      rotate_left
                      · simp only [Act.put, List.setIfInBounds_toArray, List.set_cons_zero, List.set_cons_succ, i64_w, i32_w]
                        rfl
                      refine take_ (i := 5) (N := some 24) (v := ?_) (a' := ?_) #[true, true, true, true, true, true, true, true, true, true, true, false, false, false] rfl rfl (take_ofW HT_.out HW_.out (by kernel_rfl)) (fun _ _ _ h => h) (Or.inl ⟨by rfl, ?_⟩) hHeld ?_ ?_
                      rotate_left
                      · intro w' s0
                        go_simp
                        with_reducible rfl
                      rotate_left
                      · simp only [Act.put, List.setIfInBounds_toArray, List.set_cons_zero, List.set_cons_succ, i64_w, i32_w]
                        rfl
                      refine pure_ (i := 11) (N := some 30) (v := ?_) (a' := ?_) #[true, true, true, true, true, true, true, true, true, true, true, true, false, false] rfl rfl (any_of HT_.out (by kernel_rfl)) (fun _ _ _ h => h) (Or.inl ⟨by rfl, ?_⟩) ?_ ?_
                      rotate_left
                      · intro w'
                        go_simp
                        with_reducible rfl
                      rotate_left
                      · simp only [Act.put, List.setIfInBounds_toArray, List.set_cons_zero, List.set_cons_succ, i64_w, i32_w]
                        rfl
                      refine pure_ (i := 12) (N := some 31) (v := ?_) (a' := ?_) #[true, true, true, true, true, true, true, true, true, true, true, true, true, false] rfl rfl (any_of HT_.out (by kernel_rfl)) (fun _ _ _ h => h) (Or.inl ⟨by rfl, ?_⟩) ?_ ?_
                      rotate_left
                      · intro w'
                        go_simp
                        with_reducible rfl
                      rotate_left
                      · simp only [Act.put, List.setIfInBounds_toArray, List.set_cons_zero, List.set_cons_succ, i64_w, i32_w]
                        rfl
                      refine last_ (i := 13) (N := none) #[true, true, true, true, true, true, true, true, true, true, true, true, true, true] rfl rfl (one_of HT_.out (by kernel_rfl)) (by decide) (fun K hK => ?_)
                      refine skip_ (w1 := ?_) (by rfl) rfl ?_ ?_
                      rotate_left
                      · go_simp
                        rfl
                      refine hK.out _ _ ?_
                      clear hK K
                      refine done_ (done_of HT_.out (by kernel_rfl)) ?_
                      try go_wp2
                      go_roundg k1
                      case measure => have := HK1.out; omega
                      case rel => exact ⟨(y120), (wrap64 (x4_1 + 1)), (by first | rfl | (simp; done) | (simp [*]; done)), H', ⟨by have := HK1.out; omega⟩, ⟨by (with_reducible repeat (first | apply Kd.R_alloc | apply Kd.R_drewN | apply Kd.R_drew)); exact HQ20.out⟩, ⟨by repeat (first | (with_reducible first | exact HB.out | apply below_alloc | apply pw_below_drewN | apply below_drew1 | refine below_set ?_ GB17.out) | exact HB.out)⟩⟩
                    · rw [if_neg c16] at H
                      exact absurd H (by simp)
                  · rw [if_neg c15] at H
                    exact absurd H (by simp)
                · rw [if_neg c14] at H
                  exact absurd H (by simp)
              · rw [if_neg c12] at H
                exact absurd H (by simp)
            · rw [if_neg c11] at H
              exact absurd H (by simp)
        · rw [if_neg c5] at H
          exact absurd H (by simp)
      · rw [if_neg c4] at H
        have c4b0 : decide (x4_1 < (a0.size : Int)) = false := decide_eq_false c4
        clear c4
        obtain rfl := Option.some.inj H
        go_wp2
        go_ret
        exact ⟨_, by first | rfl | (simp [errW_none, errW_some] <;> rfl) | (simp [*, errW_none, errW_some] <;> rfl), by (with_reducible repeat (first | apply Kd.R_alloc | apply Kd.R_drewN | apply Kd.R_drew)); exact HO_3.out, by repeat (first | (with_reducible first | exact HB.out | apply below_alloc | apply pw_below_drewN | apply below_drew1) | exact HB.out)⟩

/-! ### spec_Item: function 40 -/
mutual
def spec_Item.l0 : Nat → Int → ByteArray → List ByteArray → Int → Int → Option (ByteArray)
  | 0, _, _, _, _, _ => none
  | k + 1, x1, x5, x10, x11, x12 => if x12 < x11 then (if 0 ≤ x12 then (if x12 < (x10.length : Int) then (if x12 > 0 then (if x5.size + 1 ≤ 9223372036854775807 then (spec_Item.l1 k x1 (x5 ++ (⟨#[10]⟩ : ByteArray)) (rdOf ByteArray.empty x10 x12) 0 x10 x11 x12) else (none)) else (if x5.size + (rdOf ByteArray.empty x10 x12).size ≤ 9223372036854775807 then (spec_Item.l0 k x1 (x5 ++ (rdOf ByteArray.empty x10 x12)) x10 x11 (wrap64 (x12 + 1))) else (none))) else (none)) else (none)) else (some x5)
def spec_Item.l1 : Nat → Int → ByteArray → ByteArray → Int → List ByteArray → Int → Int → Option (ByteArray)
  | 0, _, _, _, _, _, _, _ => none
  | k + 1, x1, x5, x7, x8, x10, x11, x12 => if x8 < x1 then (if x5.size + 1 ≤ 9223372036854775807 then (spec_Item.l1 k x1 (x5 ++ (⟨#[32]⟩ : ByteArray)) x7 (wrap64 (x8 + 1)) x10 x11 x12) else (none)) else (if x5.size + x7.size ≤ 9223372036854775807 then (spec_Item.l0 k x1 (x5 ++ x7) x10 x11 (wrap64 (x12 + 1))) else (none))
end
def spec_Item.f (k : Nat) (a0 : ByteArray) (a1 : Int) : Option (ByteArray) := (spec_Lines.f k a0).bind fun t121 => (spec_Item.l0 k a1 (⟨#[]⟩ : ByteArray) t121 (t121.length : Int) 0)
theorem spec_Item.mono_l : ∀ k, (∀ y0 y1 y2 y3 y4, LeO (spec_Item.l0 k y0 y1 y2 y3 y4) (spec_Item.l0 (k + 1) y0 y1 y2 y3 y4)) ∧ (∀ y0 y1 y2 y3 y4 y5 y6, LeO (spec_Item.l1 k y0 y1 y2 y3 y4 y5 y6) (spec_Item.l1 (k + 1) y0 y1 y2 y3 y4 y5 y6))
  | 0 => ⟨fun _ _ _ _ _ r h => by simp [spec_Item.l0] at h, fun _ _ _ _ _ _ _ r h => by simp [spec_Item.l1] at h⟩
  | k + 1 => by
    obtain ⟨ih0, ih1⟩ := spec_Item.mono_l k
    refine ⟨?_, ?_⟩
    · intro y0 y1 y2 y3 y4
      unfold spec_Item.l0
      repeat' first
      | (with_reducible exact ih0 _ _ _ _ _)
      | (with_reducible exact ih1 _ _ _ _ _ _ _)
      | (with_reducible exact spec_Lines.mono _ _)
      | (with_reducible exact LeO.refl _)
      | (with_reducible exact LeO.none _)
      | (with_reducible refine LeO.ite ?_ ?_)
      | (with_reducible refine LeO.bind ?_ (fun _ => ?_))
      | exact ih0 _ _ _ _ _
      | exact ih1 _ _ _ _ _ _ _
      | exact spec_Lines.mono _ _
      | exact LeO.none _
      | refine LeO.ite ?_ ?_
      | refine LeO.bind ?_ (fun _ => ?_)
    · intro y0 y1 y2 y3 y4 y5 y6
      unfold spec_Item.l1
      repeat' first
      | (with_reducible exact ih0 _ _ _ _ _)
      | (with_reducible exact ih1 _ _ _ _ _ _ _)
      | (with_reducible exact spec_Lines.mono _ _)
      | (with_reducible exact LeO.refl _)
      | (with_reducible exact LeO.none _)
      | (with_reducible refine LeO.ite ?_ ?_)
      | (with_reducible refine LeO.bind ?_ (fun _ => ?_))
      | exact ih0 _ _ _ _ _
      | exact ih1 _ _ _ _ _ _ _
      | exact spec_Lines.mono _ _
      | exact LeO.none _
      | refine LeO.ite ?_ ?_
      | refine LeO.bind ?_ (fun _ => ?_)
theorem spec_Item.mono : ∀ a0 a1 k, LeO (spec_Item.f k a0 a1) (spec_Item.f (k + 1) a0 a1) := by
  intro a0 a1 k
  obtain ⟨ih0, ih1⟩ := spec_Item.mono_l k
  unfold spec_Item.f
  repeat' first
      | (with_reducible exact ih0 _ _ _ _ _)
      | (with_reducible exact ih1 _ _ _ _ _ _ _)
      | (with_reducible exact spec_Lines.mono _ _)
      | (with_reducible exact LeO.refl _)
      | (with_reducible exact LeO.none _)
      | (with_reducible refine LeO.ite ?_ ?_)
      | (with_reducible refine LeO.bind ?_ (fun _ => ?_))
      | exact ih0 _ _ _ _ _
      | exact ih1 _ _ _ _ _ _ _
      | exact spec_Lines.mono _ _
      | exact LeO.none _
      | refine LeO.ite ?_ ?_
      | refine LeO.bind ?_ (fun _ => ?_)
set_option maxHeartbeats 8000000 in
set_option maxRecDepth 100000 in
theorem spec_Item.calls (k : Nat) (a0 : ByteArray) (a1 : Int) (r : ByteArray) (w : World) (h : spec_Item.f k a0 a1 = some r) :
    Calls Try.prog 40 #[.string a0, .int .i64 a1] w fun e w' => e = .returned (.string r) ∧ Below w.heap.size w w' := by
  have HB := Aside0.mk (Below.refl w.heap.size w)
  have H : ((spec_Lines.f k a0).bind fun t121 => (spec_Item.l0 k a1 (⟨#[]⟩ : ByteArray) t121 (t121.length : Int) 0)) = some r := h
  clear h
  replace H := Option.bind_eq_some_iff.mp H
  obtain ⟨t121, A30, H⟩ := H
  replace H : (spec_Item.l0 k a1 (⟨#[]⟩ : ByteArray) t121 (t121.length : Int) 0) = some r := H
  have A3 := Aside0.mk A30
  clear A30
  have H' := Aside0.mk H
  clear H
  go_enter Try.func40, Try.ntmps40
  go_wp2_with (first | ((with_reducible refine gate_callee (f := 56) rfl ?_); refine goesL_ (some 10) rfl rfl Try.func56 (by kernel_rfl) rfl #[.string a0] rfl (by (try simp only [List.map_toArray, List.map_cons, List.map_nil]); first | done | rfl | (simp only [List.length_drop, List.length_take]; rfl)) ?_; (with_reducible refine (spec_Lines.calls k a0 t121 _ A3.out).mono ?_); rintro e w4 ⟨v122, rfl, ho0, hb⟩; refine ⟨_, rfl, ?_⟩; have n0_ := Aside0.mk (Kd.R_lower ho0 (below_size (by repeat (first | (with_reducible first | exact HB.out | apply below_alloc | apply pw_below_drewN | apply below_drew1) | exact HB.out)))); have n1_ := Aside0.mk (below_step (by repeat (first | (with_reducible first | exact HB.out | apply below_alloc | apply pw_below_drewN | apply below_drew1) | exact HB.out)) hb); clear HB; have HO123 := n0_; have HB := n1_; clear n0_ n1_; (try clear hb); (try clear hb2); (try clear hk); (try clear hi); (try clear ho0); obtain ⟨Ao5, co5, eo5⟩ := Kd.R_slice HO123.out; subst eo5))
  go_loopg [5, 12] k (fun kq v5 v12 w' => ∃ (x5_1 : ByteArray) (x12_1 : Int), v5 = .string x5_1 ∧ v12 = .int .i64 x12_1 ∧ Aside0 (spec_Item.l0 kq a1 x5_1 t121 (t121.length : Int) x12_1 = some r) ∧ Aside0 (kq ≤ k) ∧ Aside0 (Kd.R Kd.string 9 w' w.heap.size (fun _ => True) (.slice Ao5 t121.length co5) t121) ∧ Aside0 (Below w.heap.size w w'))
  case atStart => exact ⟨((⟨#[]⟩ : ByteArray)), (0), (by first | rfl | (simp; done) | (simp [*]; done)), (by first | rfl | (simp; done) | (simp [*]; done)), H', ⟨Nat.le_refl _⟩, ⟨by (with_reducible repeat (first | apply Kd.R_alloc | apply Kd.R_drewN | apply Kd.R_drew)); exact HO123.out⟩, ⟨by repeat (first | (with_reducible first | exact HB.out | apply below_alloc | apply pw_below_drewN | apply below_drew1) | exact HB.out)⟩⟩
  case round =>
    clear H'
    try clear p2
    try clear c4
    try clear c5
    obtain ⟨x5_1, x12_1, rfl, rfl, HA, HK1, HO_10, HB⟩ := hrel
    cases gk with
    | zero => exact absurd HA.out (by simp [spec_Item.l0])
    | succ k1 =>
      have H := HA.out
      clear HA
      simp only [spec_Item.l0] at H
      by_cases c6 : x12_1 < (t121.length : Int)
      · rw [if_pos c6] at H
        have c6b0 : decide (x12_1 < (t121.length : Int)) = true := decide_eq_true c6
        clear c6
        by_cases c7 : 0 ≤ x12_1
        · rw [if_pos c7] at H
          have c7b0 : decide (0 ≤ x12_1) = true := decide_eq_true c7
          clear c7
          by_cases c8 : x12_1 < (t121.length : Int)
          · rw [if_pos c8] at H
            have c8b0 : decide (x12_1 < (t121.length : Int)) = true := decide_eq_true c8
            clear c8
            by_cases c9 : x12_1 > 0
            · rw [if_pos c9] at H
              have c9b0 : decide (0 < x12_1) = true := decide_eq_true c9
              clear c9
              by_cases c10 : x5_1.size + 1 ≤ 9223372036854775807
              · rw [if_pos c10] at H
                have c10b0 := eq_true c10
                have c10b1 : decide (x5_1.size + 1 ≤ 9223372036854775807) = true := decide_eq_true c10
                try have c10b2 : (9223372036854775807 < x5_1.size + 1) = False := eq_false (Nat.not_lt.2 c10)
                have H' := Aside0.mk H
                clear H
                have p124 : 0 ≤ (x12_1 : Int) := of_decide_eq_true (by first | (with_reducible assumption) | assumption)
                have q124 : x12_1 < (t121.length : Int) := of_decide_eq_true (by first | (with_reducible assumption) | assumption)
                obtain ⟨ad124, e124, hx124_0⟩ := Kd.at_string (Kd.R_reads' HO_10.out).2.2 x12_1 p124 q124
                cases e124
                replace p124 := eq_true p124
                replace q124 := eq_true q124
                go_wp2
                go_loopg [5, 8] k1 (fun kq v5 v8 w' => ∃ (x5_2 : ByteArray) (x8_2 : Int), v5 = .string x5_2 ∧ v8 = .int .i64 x8_2 ∧ Aside0 (spec_Item.l1 kq a1 x5_2 (rdOf ByteArray.empty t121 x12_1) x8_2 t121 (t121.length : Int) x12_1 = some r) ∧ Aside0 (kq ≤ k1) ∧ Aside0 (Kd.R Kd.string 9 w' w.heap.size (fun _ => True) (.slice (some ad124) t121.length co5) t121) ∧ Aside0 (Below w.heap.size w w'))
                case atStart => exact ⟨(x5_1 ++ (⟨#[10]⟩ : ByteArray)), (0), (by first | rfl | (simp; done) | (simp [*]; done)), (by first | rfl | (simp; done) | (simp [*]; done)), H', ⟨Nat.le_refl _⟩, ⟨by (with_reducible repeat (first | apply Kd.R_alloc | apply Kd.R_drewN | apply Kd.R_drew)); exact HO_10.out⟩, ⟨by repeat (first | (with_reducible first | exact HB.out | apply below_alloc | apply pw_below_drewN | apply below_drew1) | exact HB.out)⟩⟩
                case round =>
                  clear H'
                  try clear c1
                  try clear p1
                  try clear q1
                  try clear hx1
                  try clear p2
                  try clear c4
                  try clear c5
                  try clear c6
                  try clear c6b0
                  try clear c7
                  try clear c7b0
                  try clear c8
                  try clear c8b0
                  try clear c9
                  try clear c9b0
                  try clear c10
                  try clear c10b0
                  try clear c10b1
                  try clear c10b2
                  try clear hx124_0
                  try clear p124
                  try clear p2
                  try clear q124
                  obtain ⟨x5_2, x8_2, rfl, rfl, HA, HK2, HO_10, HB⟩ := hrel
                  cases gk with
                  | zero => exact absurd HA.out (by simp [spec_Item.l1])
                  | succ k2 =>
                    have H := HA.out
                    clear HA
                    simp only [spec_Item.l1] at H
                    by_cases c11 : x8_2 < a1
                    · rw [if_pos c11] at H
                      have c11b0 : decide (x8_2 < a1) = true := decide_eq_true c11
                      clear c11
                      by_cases c12 : x5_2.size + 1 ≤ 9223372036854775807
                      · rw [if_pos c12] at H
                        have c12b0 := eq_true c12
                        have c12b1 : decide (x5_2.size + 1 ≤ 9223372036854775807) = true := decide_eq_true c12
                        try have c12b2 : (9223372036854775807 < x5_2.size + 1) = False := eq_false (Nat.not_lt.2 c12)
                        have H' := Aside0.mk H
                        clear H
                        go_wp2
                        go_roundg k2
                        case measure => have := HK1.out; have := HK2.out; omega
                        case rel => exact ⟨(x5_2 ++ (⟨#[32]⟩ : ByteArray)), (wrap64 (x8_2 + 1)), (by first | rfl | (simp; done) | (simp [*]; done)), (by first | rfl | (simp; done) | (simp [*]; done)), H', ⟨by have := HK1.out; have := HK2.out; omega⟩, ⟨by (with_reducible repeat (first | apply Kd.R_alloc | apply Kd.R_drewN | apply Kd.R_drew)); exact HO_10.out⟩, ⟨by repeat (first | (with_reducible first | exact HB.out | apply below_alloc | apply pw_below_drewN | apply below_drew1) | exact HB.out)⟩⟩
                      · rw [if_neg c12] at H
                        exact absurd H (by simp)
                    · rw [if_neg c11] at H
                      have c11b0 : decide (x8_2 < a1) = false := decide_eq_false c11
                      clear c11
                      by_cases c13 : x5_2.size + (rdOf ByteArray.empty t121 x12_1).size ≤ 9223372036854775807
                      · rw [if_pos c13] at H
                        have c13b0 := eq_true c13
                        have c13b1 : decide (x5_2.size + (rdOf ByteArray.empty t121 x12_1).size ≤ 9223372036854775807) = true := decide_eq_true c13
                        try have c13b2 : (9223372036854775807 < x5_2.size + (rdOf ByteArray.empty t121 x12_1).size) = False := eq_false (Nat.not_lt.2 c13)
                        have H' := Aside0.mk H
                        clear H
                        go_wp2
                        go_roundg k2
                        case measure => have := HK1.out; have := HK2.out; omega
                        case rel => exact ⟨(x5_2 ++ (rdOf ByteArray.empty t121 x12_1)), (wrap64 (x12_1 + 1)), (by first | rfl | (simp; done) | (simp [*]; done)), (by first | rfl | (simp; done) | (simp [*]; done)), H', ⟨by have := HK1.out; have := HK2.out; omega⟩, ⟨by (with_reducible repeat (first | apply Kd.R_alloc | apply Kd.R_drewN | apply Kd.R_drew)); exact HO_10.out⟩, ⟨by repeat (first | (with_reducible first | exact HB.out | apply below_alloc | apply pw_below_drewN | apply below_drew1) | exact HB.out)⟩⟩
                      · rw [if_neg c13] at H
                        exact absurd H (by simp)
              · rw [if_neg c10] at H
                exact absurd H (by simp)
            · rw [if_neg c9] at H
              have c9b0 : decide (0 < x12_1) = false := decide_eq_false c9
              clear c9
              by_cases c14 : x5_1.size + (rdOf ByteArray.empty t121 x12_1).size ≤ 9223372036854775807
              · rw [if_pos c14] at H
                have c14b0 := eq_true c14
                have c14b1 : decide (x5_1.size + (rdOf ByteArray.empty t121 x12_1).size ≤ 9223372036854775807) = true := decide_eq_true c14
                try have c14b2 : (9223372036854775807 < x5_1.size + (rdOf ByteArray.empty t121 x12_1).size) = False := eq_false (Nat.not_lt.2 c14)
                have H' := Aside0.mk H
                clear H
                have p124 : 0 ≤ (x12_1 : Int) := of_decide_eq_true (by first | (with_reducible assumption) | assumption)
                have q124 : x12_1 < (t121.length : Int) := of_decide_eq_true (by first | (with_reducible assumption) | assumption)
                obtain ⟨ad124, e124, hx124_0⟩ := Kd.at_string (Kd.R_reads' HO_10.out).2.2 x12_1 p124 q124
                cases e124
                replace p124 := eq_true p124
                replace q124 := eq_true q124
                go_wp2
                go_roundg k1
                case measure => have := HK1.out; omega
                case rel => exact ⟨(x5_1 ++ (rdOf ByteArray.empty t121 x12_1)), (wrap64 (x12_1 + 1)), (by first | rfl | (simp; done) | (simp [*]; done)), (by first | rfl | (simp; done) | (simp [*]; done)), H', ⟨by have := HK1.out; omega⟩, ⟨by (with_reducible repeat (first | apply Kd.R_alloc | apply Kd.R_drewN | apply Kd.R_drew)); exact HO_10.out⟩, ⟨by repeat (first | (with_reducible first | exact HB.out | apply below_alloc | apply pw_below_drewN | apply below_drew1) | exact HB.out)⟩⟩
              · rw [if_neg c14] at H
                exact absurd H (by simp)
          · rw [if_neg c8] at H
            exact absurd H (by simp)
        · rw [if_neg c7] at H
          exact absurd H (by simp)
      · rw [if_neg c6] at H
        have c6b0 : decide (x12_1 < (t121.length : Int)) = false := decide_eq_false c6
        clear c6
        obtain rfl := Option.some.inj H
        go_wp2
        go_ret
        exact ⟨by first | rfl | (simp [errW_none, errW_some] <;> rfl) | (simp [*, errW_none, errW_some] <;> rfl), by repeat (first | (with_reducible first | exact HB.out | apply below_alloc | apply pw_below_drewN | apply below_drew1) | exact HB.out)⟩

-- NOT PRINTED: function 93 (bits_Mul32)

-- NOT PRINTED: function 94 (bits_Mul64)

-- NOT PRINTED: function 91 (bits_Mul)

-- NOT PRINTED: function 92 (bytealg_MakeNoZero)

-- NOT PRINTED: function 89 (bytes_Repeat)

end Go.Proofs.Yticofikbijldiaa.GIt
