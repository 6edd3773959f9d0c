-- made by a program of this session, after the kit's print
import Derived.Test.YtlallihdiffheaaGTx0
import Derived.Test.YtlallihdiffheaaGTx8
namespace Go.Proofs.Ytlallihdiffheaa.GT
open Go.RowKit Go.Proofs.YtlallihdiffheaaW.PrintWords Go.Proofs.YtlallihdiffheaaW.PrintLast Go.Proofs.YtlallihdiffheaaW.PrintMore
attribute [local go_sem] max2_int min2_int max_two min_two max_three min_three max_four min_four   -- for this text's walks alone
set_option linter.unusedVariables false
set_option linter.unusedSimpArgs false

/-! ### laws_path29: function 30 -/
def laws_path29.l0 : Nat → List Int → List Int → Int → Int → Option (Bool)
  | 0, _, _, _, _ => none
  | k + 1, x0, x1, x12, x13 => if x13 < x12 then (if 0 ≤ x13 then (if x13 < (x0.length : Int) then (if x13 < (x1.length : Int) then (if (rd x0 x13) = (rd x1 x13) then (laws_path29.l0 k x0 x1 x12 (wrap64 (x13 + 1))) else (some false)) else (none)) else (none)) else (none)) else (some true)
def laws_path29.f (k : Nat) (l0 : List Int) (l1 : List Int) : Option (Bool) := if (l0.length : Int) = (l1.length : Int) then (laws_path29.l0 k l0 l1 (l0.length : Int) 0) else (some false)
theorem laws_path29.mono_l : ∀ k, (∀ y0 y1 y2 y3, LeO (laws_path29.l0 k y0 y1 y2 y3) (laws_path29.l0 (k + 1) y0 y1 y2 y3))
  | 0 => fun _ _ _ _ r h => by simp [laws_path29.l0] at h
  | k + 1 => by
    have ih0 := laws_path29.mono_l k
    · intro y0 y1 y2 y3
      unfold laws_path29.l0
      repeat' first
      | (with_reducible exact ih0 _ _ _ _)
      | (with_reducible exact LeO.refl _)
      | (with_reducible exact LeO.none _)
      | (with_reducible refine LeO.ite ?_ ?_)
      | (with_reducible refine LeO.bind ?_ (fun _ => ?_))
      | exact ih0 _ _ _ _
      | exact LeO.none _
      | refine LeO.ite ?_ ?_
      | refine LeO.bind ?_ (fun _ => ?_)
theorem laws_path29.mono : ∀ a0 a1 k, LeO (laws_path29.f k a0 a1) (laws_path29.f (k + 1) a0 a1) := by
  intro a0 a1 k
  have ih0 := laws_path29.mono_l k
  unfold laws_path29.f
  repeat' first
      | (with_reducible exact ih0 _ _ _ _)
      | (with_reducible exact LeO.refl _)
      | (with_reducible exact LeO.none _)
      | (with_reducible refine LeO.ite ?_ ?_)
      | (with_reducible refine LeO.bind ?_ (fun _ => ?_))
      | exact ih0 _ _ _ _
      | exact LeO.none _
      | refine LeO.ite ?_ ?_
      | refine LeO.bind ?_ (fun _ => ?_)
set_option maxHeartbeats 8000000 in
set_option maxRecDepth 100000 in
theorem laws_path29.calls (k : Nat) (A0 : Option Addr) (c0 : Nat) (l0 : List Int) (A1 : Option Addr) (c1 : Nat) (l1 : List Int) (r : Bool) (w : World) (hr0 : Kd.C (Kd.int .i64) w A0 l0.length l0) (hc0 : l0.length ≤ c0) (hr1 : Kd.C (Kd.int .i64) w A1 l1.length l1) (hc1 : l1.length ≤ c1) (h : laws_path29.f k l0 l1 = some r) :
    Calls Try.prog 30 #[.slice A0 l0.length c0, .slice A1 l1.length c1] w fun e w' => e = .returned (.bool r) ∧ Drawn0 w w' := by
  have HR0 := Aside0.mk hr0
  have HC0 := Aside0.mk hc0
  clear hr0 hc0
  have HR1 := Aside0.mk hr1
  have HC1 := Aside0.mk hc1
  clear hr1 hc1
  have H : (if (l0.length : Int) = (l1.length : Int) then (laws_path29.l0 k l0 l1 (l0.length : Int) 0) else (some false)) = some r := h
  clear h
  by_cases c3 : (l0.length : Int) = (l1.length : Int)
  · rw [if_pos c3] at H
    have c3b0 : ((l0.length : Int) == (l1.length : Int)) = true := beq_iff_eq.mpr c3
    have c3b1 : ((l0.length : Int) != (l1.length : Int)) = false := bne_eq_false_iff_eq.mpr c3
    have c3b2 : (l0.length == l1.length) = true := by first | simpa using c3 | (simp at c3 ⊢; omega)
    clear c3
    have H' := Aside0.mk H
    clear H
    go_enter Try.func30, Try.ntmps30
    go_wp2
    repeat (go_quiet (fail); try go_wp2)
    go_loopg [13] k (fun kq v13 w' => ∃ (x13_1 : Int), v13 = .int .i64 x13_1 ∧ Aside0 (laws_path29.l0 kq l0 l1 (l0.length : Int) x13_1 = some r) ∧ Aside0 (kq ≤ k) ∧ Drawn0 w w')
    case atStart => exact ⟨(0), (by first | rfl | (simp; done) | (simp [*]; done)), H', ⟨Nat.le_refl _⟩, by repeat (first | exact Drawn0.refl _ | apply Drawn0.step)⟩
    case round =>
      clear H'
      try clear c1
      try clear p2
      try clear c3
      try clear c3b0
      try clear c3b1
      try clear c3b2
      obtain ⟨x13_1, rfl, HA, HK1, ⟨m1, rfl⟩⟩ := hrel
      cases gk with
      | zero => exact absurd HA.out (by simp [laws_path29.l0])
      | succ k1 =>
        have H := HA.out
        clear HA
        simp only [laws_path29.l0] at H
        by_cases c4 : x13_1 < (l0.length : Int)
        · rw [if_pos c4] at H
          have c4b0 : decide (x13_1 < (l0.length : Int)) = true := decide_eq_true c4
          clear c4
          by_cases c5 : 0 ≤ x13_1
          · rw [if_pos c5] at H
            have c5b0 : decide (0 ≤ x13_1) = true := decide_eq_true c5
            clear c5
            by_cases c6 : x13_1 < (l0.length : Int)
            · rw [if_pos c6] at H
              have c6b0 : decide (x13_1 < (l0.length : Int)) = true := decide_eq_true c6
              clear c6
              by_cases c7 : x13_1 < (l1.length : Int)
              · rw [if_pos c7] at H
                have c7b0 : decide (x13_1 < (l1.length : Int)) = true := decide_eq_true c7
                clear c7
                by_cases c8 : (rd l0 x13_1) = (rd l1 x13_1)
                · rw [if_pos c8] at H
                  have c8b0 : ((rd l0 x13_1) == (rd l1 x13_1)) = true := beq_iff_eq.mpr c8
                  have c8b1 : ((rd l0 x13_1) != (rd l1 x13_1)) = false := bne_eq_false_iff_eq.mpr c8
                  clear c8
                  have H' := Aside0.mk H
                  clear H
                  have p218 : 0 ≤ (x13_1 : Int) := of_decide_eq_true (by first | (with_reducible assumption) | assumption)
                  have q218 : x13_1 < (l0.length : Int) := of_decide_eq_true (by first | (with_reducible assumption) | assumption)
                  obtain ⟨ad218, e218, hx218_0⟩ := Kd.at_int HR0.out x13_1 p218 q218
                  cases e218
                  replace p218 := eq_true p218
                  replace q218 := eq_true q218
                  have p219 : 0 ≤ (x13_1 : Int) := of_decide_eq_true (by first | (with_reducible assumption) | assumption)
                  have q219 : x13_1 < (l1.length : Int) := of_decide_eq_true (by first | (with_reducible assumption) | assumption)
                  obtain ⟨ad219, e219, hx219_0⟩ := Kd.at_int HR1.out x13_1 p219 q219
                  cases e219
                  replace p219 := eq_true p219
                  replace q219 := eq_true q219
                  go_wp2
                  repeat (go_quiet (fail); try go_wp2)
                  go_roundg k1
                  case measure => have := HK1.out; omega
                  case rel => exact ⟨(wrap64 (x13_1 + 1)), (by first | rfl | (simp; done) | (simp [*]; done)), H', ⟨by have := HK1.out; omega⟩, by repeat (first | exact Drawn0.refl _ | apply Drawn0.step)⟩
                · rw [if_neg c8] at H
                  have c8b0 : ((rd l0 x13_1) == (rd l1 x13_1)) = false := beq_eq_false_iff_ne.mpr c8
                  have c8b1 : ((rd l0 x13_1) != (rd l1 x13_1)) = true := bne_iff_ne.mpr c8
                  obtain rfl := Option.some.inj H
                  have p218 : 0 ≤ (x13_1 : Int) := of_decide_eq_true (by first | (with_reducible assumption) | assumption)
                  have q218 : x13_1 < (l0.length : Int) := of_decide_eq_true (by first | (with_reducible assumption) | assumption)
                  obtain ⟨ad218, e218, hx218_0⟩ := Kd.at_int HR0.out x13_1 p218 q218
                  cases e218
                  replace p218 := eq_true p218
                  replace q218 := eq_true q218
                  have p219 : 0 ≤ (x13_1 : Int) := of_decide_eq_true (by first | (with_reducible assumption) | assumption)
                  have q219 : x13_1 < (l1.length : Int) := of_decide_eq_true (by first | (with_reducible assumption) | assumption)
                  obtain ⟨ad219, e219, hx219_0⟩ := Kd.at_int HR1.out x13_1 p219 q219
                  cases e219
                  replace p219 := eq_true p219
                  replace q219 := eq_true q219
                  go_wp2
                  repeat (go_quiet (fail); try go_wp2)
                  go_ret
                  exact ⟨by first | rfl | (simp; done) | (simp [*]; done), by repeat (first | exact Drawn0.refl _ | apply Drawn0.step)⟩
              · rw [if_neg c7] at H
                exact absurd H (by simp)
            · rw [if_neg c6] at H
              exact absurd H (by simp)
          · rw [if_neg c5] at H
            exact absurd H (by simp)
        · rw [if_neg c4] at H
          have c4b0 : decide (x13_1 < (l0.length : Int)) = false := decide_eq_false c4
          clear c4
          obtain rfl := Option.some.inj H
          go_wp2
          repeat (go_quiet (fail); try go_wp2)
          go_ret
          exact ⟨by first | rfl | (simp; done) | (simp [*]; done), by repeat (first | exact Drawn0.refl _ | apply Drawn0.step)⟩
  · rw [if_neg c3] at H
    have c3b0 : ((l0.length : Int) == (l1.length : Int)) = false := beq_eq_false_iff_ne.mpr c3
    have c3b1 : ((l0.length : Int) != (l1.length : Int)) = true := bne_iff_ne.mpr c3
    have c3b2 : (l0.length == l1.length) = false := by first | simpa using c3 | (simp at c3 ⊢; omega)
    obtain rfl := Option.some.inj H
    go_enter Try.func30, Try.ntmps30
    go_wp2
    repeat (go_quiet (fail); try go_wp2)
    go_ret
    exact ⟨by first | rfl | (simp; done) | (simp [*]; done), by repeat (first | exact Drawn0.refl _ | apply Drawn0.step)⟩

/-! ### spec_Under29: function 24 -/
def spec_Under29.f (l0 : List Int) (a1 : Int) : Option (List Int) := (some (([] : List Int) : List Int)).bind fun y223 => (if y223.length + l0.length < 17592186044416 then ((some (y223 ++ l0 : List Int)).bind fun y226 => (if y226.length < 17592186044416 then (some (y226 ++ [a1])) else (none))) else (none))
set_option maxHeartbeats 8000000 in
set_option maxRecDepth 100000 in
theorem spec_Under29.calls (A0 : Option Addr) (c0 : Nat) (l0 : List Int) (a1 : Int) (r : List Int) (w : World) (hr0 : Kd.C (Kd.int .i64) w A0 l0.length l0) (hc0 : l0.length ≤ c0) (h : spec_Under29.f l0 a1 = some r) :
    Calls Try.prog 24 #[.slice A0 l0.length c0, .int .i64 a1] w fun e w' => ∃ v0_ : Value, e = .returned (v0_) ∧ Kd.R (Kd.int .i64) 3 w' w.heap.size (fun _ => True) v0_ r ∧ Below w.heap.size w w' := by
  have HR0 := Aside0.mk hr0
  have HC0 := Aside0.mk hc0
  clear hr0 hc0
  have HB := Aside0.mk (Below.refl w.heap.size w)
  have H : ((some (([] : List Int) : List Int)).bind fun y223 => (if y223.length + l0.length < 17592186044416 then ((some (y223 ++ l0 : List Int)).bind fun y226 => (if y226.length < 17592186044416 then (some (y226 ++ [a1])) else (none))) else (none))) = some r := h
  clear h
  obtain ⟨y223, hy223⟩ : ∃ y_ : List Int, y_ = (([] : List Int)) := ⟨_, rfl⟩
  replace H : (if y223.length + l0.length < 17592186044416 then ((some (y223 ++ l0 : List Int)).bind fun y226 => (if y226.length < 17592186044416 then (some (y226 ++ [a1])) else (none))) else (none)) = some r := by first | (rw [hy223]; with_reducible exact H) | (have H2_ := (Option.bind_some _ _).symm.trans H; rw [hy223]; with_reducible exact H2_) | (have H2_ := (Option.bind_some _ _).symm.trans H; with_reducible exact H2_) | with_reducible exact H | (rw [hy223]; exact H) | exact H
  have Ny223 := Aside0.mk hy223
  clear hy223
  by_cases c3 : y223.length + l0.length < 17592186044416
  · rw [if_pos c3] at H
    have LMc3 := Aside0.mk c3
    clear c3
    obtain ⟨y226, hy226⟩ : ∃ y_ : List Int, y_ = (y223 ++ l0) := ⟨_, rfl⟩
    replace H : (if y226.length < 17592186044416 then (some (y226 ++ [a1])) else (none)) = some r := by first | (rw [hy226]; with_reducible exact H) | (have H2_ := (Option.bind_some _ _).symm.trans H; rw [hy226]; with_reducible exact H2_) | (have H2_ := (Option.bind_some _ _).symm.trans H; with_reducible exact H2_) | with_reducible exact H | (rw [hy226]; exact H) | exact H
    have Ny226 := Aside0.mk hy226
    clear hy226
    by_cases c4 : y226.length < 17592186044416
    · rw [if_pos c4] at H
      have LMc4 := Aside0.mk c4
      clear c4
      obtain ⟨y229, hy229⟩ : ∃ y_ : List Int, y_ = (y226 ++ [a1]) := ⟨_, rfl⟩
      replace H : (some y229) = some r := by first | (rw [hy229]; with_reducible exact H) | (have H2_ := (Option.bind_some _ _).symm.trans H; rw [hy229]; with_reducible exact H2_) | (have H2_ := (Option.bind_some _ _).symm.trans H; with_reducible exact H2_) | with_reducible exact H | (rw [hy229]; exact H) | exact H
      have Ny229 := Aside0.mk hy229
      clear hy229
      obtain rfl := Option.some.inj H
      go_enter Try.func24, Try.ntmps24
      go_wp2_with (first | ((with_reducible refine gate_dst (N := 5) rfl ?_); refine Kd.R_lit (Kd.int .i64) _ 3 ?hg (N := 5) ?hd (xs := ([] : List Int)) (inner := []) (ok := fun _ => True) (okp := fun _ => True) ?hr ?hp (fun _ hk => hk) trivial (Below.refl _ _) (Nat.le_refl _) (by simp) ?_; (case hd => rfl); (case hg => rfl); (case hr => first | (go_simp; done) | (go_simp; rfl)); (case hp => exact (Reps.none _ _)); intro v224 w5 ho6 hb hg_ hnew_; clear hg_ hnew_; (first | rw [← Ny223.out] at ho6 | (simp only [Int.reduceToNat] at ho6; rw [← Ny223.out] at ho6)); have n0_ := Aside0.mk (Kd.R_lower ho6 (below_size (by repeat (first | (with_reducible first | exact HB.out | apply below_alloc | apply pw_below_drewN | apply below_drew1) | exact HB.out)))); have n1_ := Aside0.mk (below_step (by repeat (first | (with_reducible first | exact HB.out | apply below_alloc | apply pw_below_drewN | apply below_drew1) | exact HB.out)) hb); clear HB; have HO225 := n0_; have HB := n1_; clear n0_ n1_; clear hb ho6) | ((with_reducible refine gate_builtin (b := .append) (xs := #[.tmp 5, .tmp 6]) rfl ?_); at_builtin; refine Kd.R_append_rows (Kd.int .i64) (w0 := w) w.heap.size rfl (.tmp 5) (.tmp 6) 26 3 (.int .i64 0) 8 rfl Try.underlying26 info3 rfl (by decide) (by omega) v224 y223 l0 _ _ _ (fun _ => True) (fun _ => False) rfl rfl ?aO ?aR (fun _ _ h => h) (fun _ h => h.elim) ?aF ?aB ?aS ?aL ?_; (case aR => repeat (first | exact (Kd.C_below HR0.out HB.out) | (with_reducible refine Kd.C_alloc ?_ _) | (with_reducible refine Kd.C_drewN ?_ _) | (with_reducible refine Kd.C_drew ?_))); (case aB => exact (by repeat (first | (with_reducible first | exact HB.out | apply below_alloc | apply pw_below_drewN | apply below_drew1) | exact HB.out))); (case aF => exact (fun _ _ => trivial)); (case aO => exact (by (with_reducible repeat (first | apply Kd.R_alloc | apply Kd.R_drewN | apply Kd.R_drew)); exact HO225.out)); (case aS => exact (below_size (by repeat (first | (with_reducible first | exact HB.out | apply below_alloc | apply pw_below_drewN | apply below_drew1) | exact HB.out)))); (case aL => have := LMc3.out; (first | omega | (simp only [ByteArray.size, List.size_toArray, List.length_cons, List.length_nil]; omega))); intro v227 w7 ho hb hg hat; rw [← Ny226.out] at ho; have n0_ := Aside0.mk (hb); have n1_ := Aside0.mk (ho); clear HB; clear HO225; have HB := n0_; have HO228 := n1_; clear n0_ n1_; clear ho hb hg hat) | ((with_reducible refine gate_builtin (b := .append) (xs := #[.tmp 7, .tmp 9]) rfl ?_); at_builtin; refine Kd.R_append (Kd.int .i64) (w0 := w) w.heap.size rfl (.tmp 7) (.tmp 9) 26 3 (.int .i64 0) 8 rfl Try.underlying26 info3 rfl (by decide) (by omega) v227 y226 a1 [.int .i64 a1] (fun _ => True) (fun _ => False) rfl rfl ?aP (fun _ hk => hk.elim) ?aF ?aO ?aB ?aS ?aL ?_; (case aP => exact rfl); (case aB => exact (by repeat (first | (with_reducible first | exact HB.out | apply below_alloc | apply pw_below_drewN | apply below_drew1) | exact HB.out))); (case aF => exact (fun _ _ => trivial)); (case aO => exact (by (with_reducible repeat (first | apply Kd.R_alloc | apply Kd.R_drewN | apply Kd.R_drew)); exact HO228.out)); (case aS => exact (below_size (by repeat (first | (with_reducible first | exact HB.out | apply below_alloc | apply pw_below_drewN | apply below_drew1) | exact HB.out)))); (case aL => have := LMc4.out; (first | omega | (simp only [ByteArray.size, List.size_toArray, List.length_cons, List.length_nil]; omega))); intro v230 w8 ho hb hg hat; rw [← Ny229.out] at ho; have n0_ := Aside0.mk (hb); have n1_ := Aside0.mk (ho); clear HB; clear HO228; have HB := n0_; have HO231 := n1_; clear n0_ n1_; clear ho hb hg hat))
      go_ret
      exact ⟨_, by first | rfl | (simp [errW_none, errW_some] <;> rfl) | (simp [*, errW_none, errW_some] <;> rfl), by (with_reducible repeat (first | apply Kd.R_alloc | apply Kd.R_drewN | apply Kd.R_drew)); exact HO231.out, by repeat (first | (with_reducible first | exact HB.out | apply below_alloc | apply pw_below_drewN | apply below_drew1) | exact HB.out)⟩
    · rw [if_neg c4] at H
      exact absurd H (by simp)
  · rw [if_neg c3] at H
    exact absurd H (by simp)

/-! ### spec_among29: function 108 -/
def spec_among29.f (a0_0 : Int) (a0_1 : ByteArray) (a0_2 : ByteArray) (l0_3 : List (S34)) (l0_4 : List (S25)) (a1 : Bool) : Option (Bool) := if a1 = true then (some (a0_0 == 0)) else (some true)
set_option maxHeartbeats 8000000 in
set_option maxRecDepth 100000 in
theorem spec_among29.calls (a0_0 : Int) (a0_1 : ByteArray) (a0_2 : ByteArray) (A0_3 : Option Addr) (c0_3 : Nat) (l0_3 : List (S34)) (A0_4 : Option Addr) (c0_4 : Nat) (l0_4 : List (S25)) (a1 : Bool) (r : Bool) (w : World) (hr0_3 : Kd.C k34 w A0_3 l0_3.length l0_3) (hc0_3 : l0_3.length ≤ c0_3) (hr0_4 : Kd.C k25 w A0_4 l0_4.length l0_4) (hc0_4 : l0_4.length ≤ c0_4) (h : spec_among29.f a0_0 a0_1 a0_2 l0_3 l0_4 a1 = some r) :
    Calls Try.prog 108 #[.agg #[.int .i64 a0_0, .string a0_1, .string a0_2, .slice A0_3 l0_3.length c0_3, .slice A0_4 l0_4.length c0_4], .bool a1] w fun e w' => e = .returned (.bool r) ∧ Below w.heap.size w w' := by
  have hu25 := Try.underlying25
  have HR0_3 := Aside0.mk hr0_3
  have HC0_3 := Aside0.mk hc0_3
  clear hr0_3 hc0_3
  have HR0_4 := Aside0.mk hr0_4
  have HC0_4 := Aside0.mk hc0_4
  clear hr0_4 hc0_4
  have HB := Aside0.mk (Below.refl w.heap.size w)
  have H : (if a1 = true then (some (a0_0 == 0)) else (some true)) = some r := h
  clear h
  by_cases c3 : a1 = true
  · subst c3
    have H1 : (some (a0_0 == 0)) = some r := by rw [if_pos rfl] at H; exact H
    clear H
    have H := H1
    clear H1
    obtain rfl := Option.some.inj H
    go_enter Try.func108, Try.ntmps108
    go_wp2_with (first | ((with_reducible refine gate_dst (N := 2) rfl ?_); refine box_event ?hg (N := 2) ?hd (cs := #[.int .i64 a0_0, .string a0_1, .string a0_2, .slice A0_3 l0_3.length c0_3, .slice A0_4 l0_4.length c0_4]) (t := 25) ?hr ?_; (case hd => rfl); (case hg => rfl); (case hr => first | (go_simp; done) | (go_simp; rfl)); intro gb232 hg w4 hbox hb; have n0_ := Aside0.mk (below_step (by repeat (first | (with_reducible first | exact HB.out | apply below_alloc | apply pw_below_drewN | apply below_drew1) | exact HB.out)) hb); have n1_ := Aside0.mk (hbox); have n2_ := Aside0.mk ((by rw [hg]; exact (below_size (by repeat (first | (with_reducible first | exact HB.out | apply below_alloc | apply pw_below_drewN | apply below_drew1) | exact HB.out))) : w.heap.size ≤ gb232)); have n3_ := Aside0.mk ((by rw [hg]; exact (below_size (by repeat (first | (with_reducible first | exact HB.out | apply below_alloc | apply pw_below_drewN | apply below_drew1) | exact HB.out))) : w.heap.size ≤ gb232)); clear HB; have HB := n0_; have BK232 := n1_; have GW232 := n2_; have GE232 := n3_; clear n0_ n1_ n2_ n3_; clear hb hbox hg; have hcz5_0 : w4.cell? ⟨gb232, 0, none⟩ = some (.int .i64 a0_0) := (blk_cell BK232.out 0).trans rfl; have hcz5_1 : w4.cell? ⟨gb232, 1, none⟩ = some (.string a0_1) := (blk_cell BK232.out 1).trans rfl; have hcz5_2 : w4.cell? ⟨gb232, 2, none⟩ = some (.string a0_2) := (blk_cell BK232.out 2).trans rfl; have hcz5_3 : w4.cell? ⟨gb232, 3, none⟩ = some (.slice A0_3 l0_3.length c0_3) := (blk_cell BK232.out 3).trans rfl; have hcz5_4 : w4.cell? ⟨gb232, 4, none⟩ = some (.slice A0_4 l0_4.length c0_4) := (blk_cell BK232.out 4).trans rfl; have hfz5_0 := blk_frozen BK232.out 0; have hfz5_1 := blk_frozen BK232.out 1; have hfz5_2 := blk_frozen BK232.out 2; have hfz5_3 := blk_frozen BK232.out 3; have hfz5_4 := blk_frozen BK232.out 4))
    go_ret
    exact ⟨by first | rfl | (simp [errW_none, errW_some] <;> rfl) | (simp [*, errW_none, errW_some] <;> rfl), by repeat (first | (with_reducible first | exact HB.out | apply below_alloc | apply pw_below_drewN | apply below_drew1 | refine below_set ?_ GE232.out) | exact HB.out)⟩
  · replace c3 := Bool.eq_false_iff.mpr c3
    subst c3
    have H1 : (some true) = some r := by rw [if_neg (show ¬ (false = true) by decide)] at H; exact H
    clear H
    have H := H1
    clear H1
    obtain rfl := Option.some.inj H
    go_enter Try.func108, Try.ntmps108
    go_wp2_with (first | ((with_reducible refine gate_dst (N := 2) rfl ?_); refine box_event ?hg (N := 2) ?hd (cs := #[.int .i64 a0_0, .string a0_1, .string a0_2, .slice A0_3 l0_3.length c0_3, .slice A0_4 l0_4.length c0_4]) (t := 25) ?hr ?_; (case hd => rfl); (case hg => rfl); (case hr => first | (go_simp; done) | (go_simp; rfl)); intro gb232 hg w6 hbox hb; have n0_ := Aside0.mk (below_step (by repeat (first | (with_reducible first | exact HB.out | apply below_alloc | apply pw_below_drewN | apply below_drew1) | exact HB.out)) hb); have n1_ := Aside0.mk (hbox); have n2_ := Aside0.mk ((by rw [hg]; exact (below_size (by repeat (first | (with_reducible first | exact HB.out | apply below_alloc | apply pw_below_drewN | apply below_drew1) | exact HB.out))) : w.heap.size ≤ gb232)); have n3_ := Aside0.mk ((by rw [hg]; exact (below_size (by repeat (first | (with_reducible first | exact HB.out | apply below_alloc | apply pw_below_drewN | apply below_drew1) | exact HB.out))) : w.heap.size ≤ gb232)); clear HB; have HB := n0_; have BK232 := n1_; have GW232 := n2_; have GE232 := n3_; clear n0_ n1_ n2_ n3_; clear hb hbox hg))
    go_ret
    exact ⟨by first | rfl | (simp [errW_none, errW_some] <;> rfl) | (simp [*, errW_none, errW_some] <;> rfl), by repeat (first | (with_reducible first | exact HB.out | apply below_alloc | apply pw_below_drewN | apply below_drew1 | refine below_set ?_ GE232.out) | exact HB.out)⟩

/-! ### spec_First29: function 69 -/
def spec_First29.l0 : Nat → List Int → Bool → List (S25) → Int → Int → Option (List Int × Bool)
  | 0, _, _, _, _, _ => none
  | k + 1, x1, x2, x19, x20, x21 => if x21 < x20 then (if 0 ≤ x21 then (if x21 < (x19.length : Int) then ((spec_among29.f ((rd_T25 x19 x21).f0) ((rd_T25 x19 x21).f1) ((rd_T25 x19 x21).f2) ((rd_T25 x19 x21).f3) ((rd_T25 x19 x21).f4) x2).bind fun t247 => (if t247 = true then ((spec_Under29.f x1 x21).bind fun t248 => (some (t248, true))) else (spec_First29.l0 k x1 x2 x19 x20 (wrap64 (x21 + 1))))) else (none)) else (none)) else (some (([] : List Int), false))
def spec_First29.f (k : Nat) (a0_0 : Int) (a0_1 : ByteArray) (a0_2 : ByteArray) (l0_3 : List (S34)) (l0_4 : List (S25)) (l1 : List Int) (a2 : Bool) : Option (List Int × Bool) := (spec_At29.f k a0_0 a0_1 a0_2 l0_3 l0_4 l1).bind fun bt234 => (spec_First29.l0 k l1 a2 bt234.2.2.2.2.1 (bt234.2.2.2.2.1.length : Int) 0)
theorem spec_First29.mono_l : ∀ k, (∀ y0 y1 y2 y3 y4, LeO (spec_First29.l0 k y0 y1 y2 y3 y4) (spec_First29.l0 (k + 1) y0 y1 y2 y3 y4))
  | 0 => fun _ _ _ _ _ r h => by simp [spec_First29.l0] at h
  | k + 1 => by
    have ih0 := spec_First29.mono_l k
    · intro y0 y1 y2 y3 y4
      unfold spec_First29.l0
      repeat' first
      | (with_reducible exact ih0 _ _ _ _ _)
      | (with_reducible exact spec_At29.mono _ _ _ _ _ _ _)
      | (with_reducible exact LeO.refl _)
      | (with_reducible exact LeO.none _)
      | (with_reducible refine LeO.ite ?_ ?_)
      | (with_reducible refine LeO.bind ?_ (fun _ => ?_))
      | exact ih0 _ _ _ _ _
      | exact spec_At29.mono _ _ _ _ _ _ _
      | exact LeO.none _
      | refine LeO.ite ?_ ?_
      | refine LeO.bind ?_ (fun _ => ?_)
theorem spec_First29.mono : ∀ a0 a1 a2 a3 a4 a5 a6 k, LeO (spec_First29.f k a0 a1 a2 a3 a4 a5 a6) (spec_First29.f (k + 1) a0 a1 a2 a3 a4 a5 a6) := by
  intro a0 a1 a2 a3 a4 a5 a6 k
  have ih0 := spec_First29.mono_l k
  unfold spec_First29.f
  repeat' first
      | (with_reducible exact ih0 _ _ _ _ _)
      | (with_reducible exact spec_At29.mono _ _ _ _ _ _ _)
      | (with_reducible exact LeO.refl _)
      | (with_reducible exact LeO.none _)
      | (with_reducible refine LeO.ite ?_ ?_)
      | (with_reducible refine LeO.bind ?_ (fun _ => ?_))
      | exact ih0 _ _ _ _ _
      | exact spec_At29.mono _ _ _ _ _ _ _
      | exact LeO.none _
      | refine LeO.ite ?_ ?_
      | refine LeO.bind ?_ (fun _ => ?_)
set_option maxHeartbeats 8000000 in
set_option maxRecDepth 100000 in
theorem spec_First29.calls (k : Nat) (a0_0 : Int) (a0_1 : ByteArray) (a0_2 : ByteArray) (A0_3 : Option Addr) (c0_3 : Nat) (l0_3 : List (S34)) (A0_4 : Option Addr) (c0_4 : Nat) (l0_4 : List (S25)) (A1 : Option Addr) (c1 : Nat) (l1 : List Int) (a2 : Bool) (r1 : List Int) (r2 : Bool) (w : World) (hr0_3 : Kd.C k34 w A0_3 l0_3.length l0_3) (hc0_3 : l0_3.length ≤ c0_3) (hr0_4 : Kd.C k25 w A0_4 l0_4.length l0_4) (hc0_4 : l0_4.length ≤ c0_4) (hr1 : Kd.C (Kd.int .i64) w A1 l1.length l1) (hc1 : l1.length ≤ c1) (h : spec_First29.f k a0_0 a0_1 a0_2 l0_3 l0_4 l1 a2 = some (r1, r2)) :
    Calls Try.prog 69 #[.agg #[.int .i64 a0_0, .string a0_1, .string a0_2, .slice A0_3 l0_3.length c0_3, .slice A0_4 l0_4.length c0_4], .slice A1 l1.length c1, .bool a2] w fun e w' => ∃ v0_ : Value, e = .returned (.tuple #[v0_, .bool r2]) ∧ Kd.R (Kd.int .i64) 3 w' w.heap.size (fun _ => True) v0_ r1 ∧ Below w.heap.size w w' := by
  have hu25 := Try.underlying25
  have HR0_3 := Aside0.mk hr0_3
  have HC0_3 := Aside0.mk hc0_3
  clear hr0_3 hc0_3
  have HR0_4 := Aside0.mk hr0_4
  have HC0_4 := Aside0.mk hc0_4
  clear hr0_4 hc0_4
  have HR1 := Aside0.mk hr1
  have HC1 := Aside0.mk hc1
  clear hr1 hc1
  have HB := Aside0.mk (Below.refl w.heap.size w)
  have H : ((spec_At29.f k a0_0 a0_1 a0_2 l0_3 l0_4 l1).bind fun bt234 => (spec_First29.l0 k l1 a2 bt234.2.2.2.2.1 (bt234.2.2.2.2.1.length : Int) 0)) = some (r1, r2) := h
  clear h
  replace H := Option.bind_eq_some_iff.mp H
  obtain ⟨⟨t234, t235, t236, t237, t240, t243⟩, A40, H⟩ := H
  replace H : (spec_First29.l0 k l1 a2 t240 (t240.length : Int) 0) = some (r1, r2) := H
  have A4 := Aside0.mk A40
  clear A40
  have H' := Aside0.mk H
  clear H
  go_enter Try.func69, Try.ntmps69
  go_wp2_with (first | ((with_reducible refine gate_dst (N := 3) rfl ?_); refine box_event ?hg (N := 3) ?hd (cs := #[.int .i64 a0_0, .string a0_1, .string a0_2, .slice A0_3 l0_3.length c0_3, .slice A0_4 l0_4.length c0_4]) (t := 25) ?hr ?_; (case hd => rfl); (case hg => rfl); (case hr => first | (go_simp; done) | (go_simp; rfl)); intro gb233 hg w5 hbox hb; have n0_ := Aside0.mk (below_step (by repeat (first | (with_reducible first | exact HB.out | apply below_alloc | apply pw_below_drewN | apply below_drew1) | exact HB.out)) hb); have n1_ := Aside0.mk (hbox); have n2_ := Aside0.mk ((by rw [hg]; exact (below_size (by repeat (first | (with_reducible first | exact HB.out | apply below_alloc | apply pw_below_drewN | apply below_drew1) | exact HB.out))) : w.heap.size ≤ gb233)); have n3_ := Aside0.mk ((by rw [hg]; exact (below_size (by repeat (first | (with_reducible first | exact HB.out | apply below_alloc | apply pw_below_drewN | apply below_drew1) | exact HB.out))) : w.heap.size ≤ gb233)); clear HB; have HB := n0_; have BK233 := n1_; have GW233 := n2_; have GE233 := n3_; clear n0_ n1_ n2_ n3_; clear hb hbox hg; have hcz6_0 : w5.cell? ⟨gb233, 0, none⟩ = some (.int .i64 a0_0) := (blk_cell BK233.out 0).trans rfl; have hcz6_1 : w5.cell? ⟨gb233, 1, none⟩ = some (.string a0_1) := (blk_cell BK233.out 1).trans rfl; have hcz6_2 : w5.cell? ⟨gb233, 2, none⟩ = some (.string a0_2) := (blk_cell BK233.out 2).trans rfl; have hcz6_3 : w5.cell? ⟨gb233, 3, none⟩ = some (.slice A0_3 l0_3.length c0_3) := (blk_cell BK233.out 3).trans rfl; have hcz6_4 : w5.cell? ⟨gb233, 4, none⟩ = some (.slice A0_4 l0_4.length c0_4) := (blk_cell BK233.out 4).trans rfl; have hfz6_0 := blk_frozen BK233.out 0; have hfz6_1 := blk_frozen BK233.out 1; have hfz6_2 := blk_frozen BK233.out 2; have hfz6_3 := blk_frozen BK233.out 3; have hfz6_4 := blk_frozen BK233.out 4) | ((with_reducible refine gate_callee (f := 23) rfl ?_); refine goesL_ (some 15) rfl rfl Try.func23 (by kernel_rfl) rfl #[.agg #[.int .i64 a0_0, .string a0_1, .string a0_2, .slice A0_3 l0_3.length c0_3, .slice A0_4 l0_4.length c0_4], .slice A1 l1.length c1] rfl (by (try simp only [List.map_toArray, List.map_cons, List.map_nil]); first | done | rfl | (simp only [List.length_drop, List.length_take]; rfl)) ?_; (with_reducible refine (spec_At29.calls k a0_0 a0_1 a0_2 (fun k_ => k_ < w.heap.size) _ _ l0_3 (fun k_ => k_ < w.heap.size) _ _ l0_4 _ _ l1 t234 t235 t236 t237 t240 t243 _ ?side1 ?side2 ?side3 ?side4 A4.out).mono ?_); (case side1 => exact Kd.V_mk HC0_3.out (Kd.F_below (Kd.C_F k34_heap HR0_3.out) (by repeat (first | (with_reducible first | exact HB.out | apply below_alloc | apply pw_below_drewN | apply below_drew1 | refine below_set ?_ GE233.out) | exact HB.out)))); (case side2 => exact Kd.V_mk HC0_4.out (Kd.F_below (Kd.C_F k25_heap HR0_4.out) (by repeat (first | (with_reducible first | exact HB.out | apply below_alloc | apply pw_below_drewN | apply below_drew1 | refine below_set ?_ GE233.out) | exact HB.out)))); (case side3 => repeat (first | exact (Kd.C_below HR1.out HB.out) | (with_reducible refine Kd.C_alloc ?_ _) | (with_reducible refine Kd.C_drewN ?_ _) | (with_reducible refine Kd.C_drew ?_))); (case side4 => exact HC1.out); rintro e w7 ⟨v238, v241, rfl, ho0, ho1, hb⟩; refine ⟨_, rfl, ?_⟩; have n0_ := Aside0.mk (Kd.V_lower (Kd.V_mono (ok' := fun k_ => k_ ≠ gb233) ho0 (fun k_ hk_ => Or.elim hk_ (fun hs_ => Or.elim hs_ (fun hs_ => fun e_ => Nat.not_le.2 hs_ (by rw [e_]; exact GW233.out)) (fun hs_ => fun e_ => Nat.not_le.2 hs_ (by rw [e_]; exact GW233.out))) (fun hn_ => (Kd.freshB (g := gb233) (o := .cells #[.int .i64 a0_0, .string a0_1, .string a0_2, .slice A0_3 l0_3.length c0_3, .slice A0_4 l0_4.length c0_4] 25 (0, 0)) (by (with_reducible repeat (first | refine blk_drewN ?_ _ | refine blk_drew ?_ | refine blk_alloc ?_ _)); exact BK233.out) k_ hn_)))) (below_size (by repeat (first | (with_reducible first | exact HB.out | apply below_alloc | apply pw_below_drewN | apply below_drew1 | refine below_set ?_ GE233.out) | exact HB.out)))); have n1_ := Aside0.mk (Kd.V_lower (Kd.V_mono (ok' := fun k_ => k_ ≠ gb233) ho1 (fun k_ hk_ => Or.elim hk_ (fun hs_ => Or.elim hs_ (fun hs_ => fun e_ => Nat.not_le.2 hs_ (by rw [e_]; exact GW233.out)) (fun hs_ => fun e_ => Nat.not_le.2 hs_ (by rw [e_]; exact GW233.out))) (fun hn_ => (Kd.freshB (g := gb233) (o := .cells #[.int .i64 a0_0, .string a0_1, .string a0_2, .slice A0_3 l0_3.length c0_3, .slice A0_4 l0_4.length c0_4] 25 (0, 0)) (by (with_reducible repeat (first | refine blk_drewN ?_ _ | refine blk_drew ?_ | refine blk_alloc ?_ _)); exact BK233.out) k_ hn_)))) (below_size (by repeat (first | (with_reducible first | exact HB.out | apply below_alloc | apply pw_below_drewN | apply below_drew1 | refine below_set ?_ GE233.out) | exact HB.out)))); have n2_ := Aside0.mk (blk_below (g := gb233) (o := .cells #[.int .i64 a0_0, .string a0_1, .string a0_2, .slice A0_3 l0_3.length c0_3, .slice A0_4 l0_4.length c0_4] 25 (0, 0)) (by (with_reducible repeat (first | refine blk_drewN ?_ _ | refine blk_drew ?_ | refine blk_alloc ?_ _)); exact BK233.out) hb); have n3_ := Aside0.mk (below_step (by repeat (first | (with_reducible first | exact HB.out | apply below_alloc | apply pw_below_drewN | apply below_drew1 | refine below_set ?_ GE233.out) | exact HB.out)) hb); clear BK233; clear HB; have HO239 := n0_; have HO242 := n1_; have BK233 := n2_; have HB := n3_; clear n0_ n1_ n2_ n3_; (try clear hb); (try clear hb2); (try clear hk); (try clear hi); (try clear ho0); (try clear ho1)) | ((with_reducible refine gate_dst (N := 8) rfl ?_); refine box_event ?hg (N := 8) ?hd (cs := #[.int .i64 0, .string (⟨#[]⟩ : ByteArray), .string (⟨#[]⟩ : ByteArray), .slice none 0 0, .slice none 0 0]) (t := 25) ?hr ?_; (case hd => rfl); (case hg => rfl); (case hr => first | (go_simp; done) | (go_simp; rfl)); intro gb244 hg w8 hbox hb; have n0_ := Aside0.mk (Kd.V_below (Kd.V_elderB (by (with_reducible repeat (first | apply Kd.V_alloc | apply Kd.V_drewN | apply Kd.V_drew)); exact HO239.out) gb244 (Nat.le_of_eq hg.symm)) hb); have n1_ := Aside0.mk (Kd.V_below (Kd.V_elderB (by (with_reducible repeat (first | apply Kd.V_alloc | apply Kd.V_drewN | apply Kd.V_drew)); exact HO242.out) gb244 (Nat.le_of_eq hg.symm)) hb); have n2_ := Aside0.mk (blk_below (g := gb233) (o := .cells #[.int .i64 a0_0, .string a0_1, .string a0_2, .slice A0_3 l0_3.length c0_3, .slice A0_4 l0_4.length c0_4] 25 (0, 0)) (by (with_reducible repeat (first | refine blk_drewN ?_ _ | refine blk_drew ?_ | refine blk_alloc ?_ _)); exact BK233.out) hb); have n3_ := Aside0.mk (below_step (by repeat (first | (with_reducible first | exact HB.out | apply below_alloc | apply pw_below_drewN | apply below_drew1 | refine below_set ?_ GE233.out) | exact HB.out)) hb); have n4_ := Aside0.mk (hbox); have n5_ := Aside0.mk ((by rw [hg]; exact (below_size (by repeat (first | (with_reducible first | exact HB.out | apply below_alloc | apply pw_below_drewN | apply below_drew1 | refine below_set ?_ GE233.out) | exact HB.out))) : w.heap.size ≤ gb244)); have n6_ := Aside0.mk ((by rw [hg]; exact (below_size (by repeat (first | (with_reducible first | exact HB.out | apply below_alloc | apply pw_below_drewN | apply below_drew1 | refine below_set ?_ GE233.out) | exact HB.out))) : w.heap.size ≤ gb244)); have n7_ := Aside0.mk ((by rw [hg]; exact Nat.ne_of_lt (blk_lt (g := gb233) (o := .cells #[.int .i64 a0_0, .string a0_1, .string a0_2, .slice A0_3 l0_3.length c0_3, .slice A0_4 l0_4.length c0_4] 25 (0, 0)) (by (with_reducible repeat (first | refine blk_drewN ?_ _ | refine blk_drew ?_ | refine blk_alloc ?_ _)); exact BK233.out)) : gb233 ≠ gb244)); have n8_ := Aside0.mk ((by rw [hg]; exact Nat.ne_of_gt (blk_lt (g := gb233) (o := .cells #[.int .i64 a0_0, .string a0_1, .string a0_2, .slice A0_3 l0_3.length c0_3, .slice A0_4 l0_4.length c0_4] 25 (0, 0)) (by (with_reducible repeat (first | refine blk_drewN ?_ _ | refine blk_drew ?_ | refine blk_alloc ?_ _)); exact BK233.out)) : gb244 ≠ gb233)); clear HO239; clear HO242; clear BK233; clear HB; have HO239 := n0_; have HO242 := n1_; have BK233 := n2_; have HB := n3_; have BK244 := n4_; have GW244 := n5_; have GE244 := n6_; have NB233_244 := n7_; have NB244_233 := n8_; clear n0_ n1_ n2_ n3_ n4_ n5_ n6_ n7_ n8_; clear hb hbox hg; have hnb9 := NB244_233.out; have hnc9 := NB233_244.out; have hcz10_0 : w8.cell? ⟨gb244, 0, none⟩ = some (.int .i64 0) := (blk_cell BK244.out 0).trans rfl; have hcz10_1 : w8.cell? ⟨gb244, 1, none⟩ = some (.string (⟨#[]⟩ : ByteArray)) := (blk_cell BK244.out 1).trans rfl; have hcz10_2 : w8.cell? ⟨gb244, 2, none⟩ = some (.string (⟨#[]⟩ : ByteArray)) := (blk_cell BK244.out 2).trans rfl; have hcz10_3 : w8.cell? ⟨gb244, 3, none⟩ = some (.slice none 0 0) := (blk_cell BK244.out 3).trans rfl; have hcz10_4 : w8.cell? ⟨gb244, 4, none⟩ = some (.slice none 0 0) := (blk_cell BK244.out 4).trans rfl; have hfz10_0 := blk_frozen BK244.out 0; have hfz10_1 := blk_frozen BK244.out 1; have hfz10_2 := blk_frozen BK244.out 2; have hfz10_3 := blk_frozen BK244.out 3; have hfz10_4 := blk_frozen BK244.out 4; obtain ⟨Ao11, co11, eo11⟩ := Kd.V_slice HO239.out; subst eo11; obtain ⟨Ao12, co12, eo12⟩ := Kd.V_slice HO242.out; subst eo12))
  go_loopg [21] k (fun kq v21 w' => ∃ (x21_1 : Int), v21 = .int .i64 x21_1 ∧ Aside0 (spec_First29.l0 kq l1 a2 t240 (t240.length : Int) x21_1 = some (r1, r2)) ∧ Aside0 (kq ≤ k) ∧ Aside0 (Kd.V k25 25 w' w.heap.size (fun k_ => k_ ≠ gb233 ∧ k_ ≠ gb244) (.slice Ao12 t240.length co12) t240) ∧ Aside0 (Kd.V k34 34 w' w.heap.size (fun k_ => k_ ≠ gb233 ∧ k_ ≠ gb244) (.slice Ao11 t237.length co11) t237) ∧ Aside0 (Kd.V k25 25 w' w.heap.size (fun k_ => k_ ≠ gb233 ∧ k_ ≠ gb244) (.slice Ao12 t240.length co12) t240) ∧ Aside0 (w'.heap[gb233]? = some (.cells #[.int .i64 a0_0, .string a0_1, .string a0_2, (.slice A0_3 l0_3.length c0_3), (.slice A0_4 l0_4.length c0_4)] 25 (0, 0))) ∧ Aside0 (w'.heap[gb244]? = some (.cells #[.int .i64 t234, .string t235, .string t236, (.slice Ao11 t237.length co11), (.slice Ao12 t240.length co12)] 25 (0, 0))) ∧ Aside0 (Below w.heap.size w w'))
  case atStart => exact ⟨(0), (by first | rfl | (simp; done) | (simp [*]; done)), H', ⟨Nat.le_refl _⟩, ⟨by (with_reducible repeat (first | apply Kd.V_alloc | apply Kd.V_drewN | apply Kd.V_drew)); exact Kd.V_mono (Kd.V_far (p := ⟨gb244, 4, none⟩) (Kd.V_far (p := ⟨gb244, 3, none⟩) (Kd.V_far (p := ⟨gb244, 2, none⟩) (Kd.V_far (p := ⟨gb244, 1, none⟩) (Kd.V_far (p := ⟨gb244, 0, none⟩) (Kd.V_mono HO242.out (fun k_ hk => (⟨hk, hk.2⟩ : _ ∧ k_ ≠ gb244))) (fun _ hk => hk.2) (.int .i64 t234)) (fun _ hk => hk.2) (.string t235)) (fun _ hk => hk.2) (.string t236)) (fun _ hk => hk.2) (.slice Ao11 t237.length co11)) (fun _ hk => hk.2) (.slice Ao12 t240.length co12)) (fun _ hk => ⟨hk.1.1, hk.1.2⟩)⟩, ⟨by (with_reducible repeat (first | apply Kd.V_alloc | apply Kd.V_drewN | apply Kd.V_drew)); exact Kd.V_mono (Kd.V_far (p := ⟨gb244, 4, none⟩) (Kd.V_far (p := ⟨gb244, 3, none⟩) (Kd.V_far (p := ⟨gb244, 2, none⟩) (Kd.V_far (p := ⟨gb244, 1, none⟩) (Kd.V_far (p := ⟨gb244, 0, none⟩) (Kd.V_mono HO239.out (fun k_ hk => (⟨hk, hk.2⟩ : _ ∧ k_ ≠ gb244))) (fun _ hk => hk.2) (.int .i64 t234)) (fun _ hk => hk.2) (.string t235)) (fun _ hk => hk.2) (.string t236)) (fun _ hk => hk.2) (.slice Ao11 t237.length co11)) (fun _ hk => hk.2) (.slice Ao12 t240.length co12)) (fun _ hk => ⟨hk.1.1, hk.1.2⟩)⟩, ⟨by (with_reducible repeat (first | apply Kd.V_alloc | apply Kd.V_drewN | apply Kd.V_drew)); exact Kd.V_mono (Kd.V_far (p := ⟨gb244, 4, none⟩) (Kd.V_far (p := ⟨gb244, 3, none⟩) (Kd.V_far (p := ⟨gb244, 2, none⟩) (Kd.V_far (p := ⟨gb244, 1, none⟩) (Kd.V_far (p := ⟨gb244, 0, none⟩) (Kd.V_mono HO242.out (fun k_ hk => (⟨hk, hk.2⟩ : _ ∧ k_ ≠ gb244))) (fun _ hk => hk.2) (.int .i64 t234)) (fun _ hk => hk.2) (.string t235)) (fun _ hk => hk.2) (.string t236)) (fun _ hk => hk.2) (.slice Ao11 t237.length co11)) (fun _ hk => hk.2) (.slice Ao12 t240.length co12)) (fun _ hk => ⟨hk.1.1, hk.1.2⟩)⟩, ⟨by (with_reducible repeat (first | refine blk_drewN ?_ _ | refine blk_drew ?_ | refine blk_alloc ?_ _)); refine blk_far ?_ NB233_244.out _; (with_reducible repeat (first | refine blk_drewN ?_ _ | refine blk_drew ?_ | refine blk_alloc ?_ _)); refine blk_far ?_ NB233_244.out _; (with_reducible repeat (first | refine blk_drewN ?_ _ | refine blk_drew ?_ | refine blk_alloc ?_ _)); refine blk_far ?_ NB233_244.out _; (with_reducible repeat (first | refine blk_drewN ?_ _ | refine blk_drew ?_ | refine blk_alloc ?_ _)); refine blk_far ?_ NB233_244.out _; (with_reducible repeat (first | refine blk_drewN ?_ _ | refine blk_drew ?_ | refine blk_alloc ?_ _)); refine blk_far ?_ NB233_244.out _; (with_reducible repeat (first | refine blk_drewN ?_ _ | refine blk_drew ?_ | refine blk_alloc ?_ _)); exact BK233.out⟩, ⟨by (with_reducible repeat (first | refine blk_drewN ?_ _ | refine blk_drew ?_ | refine blk_alloc ?_ _)); refine blk_put (cs := #[.int .i64 t234, .string t235, .string t236, .slice Ao11 t237.length co11, .slice none 0 0]) ?_ 4 _ rfl; (with_reducible repeat (first | refine blk_drewN ?_ _ | refine blk_drew ?_ | refine blk_alloc ?_ _)); refine blk_put (cs := #[.int .i64 t234, .string t235, .string t236, .slice none 0 0, .slice none 0 0]) ?_ 3 _ rfl; (with_reducible repeat (first | refine blk_drewN ?_ _ | refine blk_drew ?_ | refine blk_alloc ?_ _)); refine blk_put (cs := #[.int .i64 t234, .string t235, .string (⟨#[]⟩ : ByteArray), .slice none 0 0, .slice none 0 0]) ?_ 2 _ rfl; (with_reducible repeat (first | refine blk_drewN ?_ _ | refine blk_drew ?_ | refine blk_alloc ?_ _)); refine blk_put (cs := #[.int .i64 t234, .string (⟨#[]⟩ : ByteArray), .string (⟨#[]⟩ : ByteArray), .slice none 0 0, .slice none 0 0]) ?_ 1 _ rfl; (with_reducible repeat (first | refine blk_drewN ?_ _ | refine blk_drew ?_ | refine blk_alloc ?_ _)); refine blk_put (cs := #[.int .i64 0, .string (⟨#[]⟩ : ByteArray), .string (⟨#[]⟩ : ByteArray), .slice none 0 0, .slice none 0 0]) ?_ 0 _ rfl; (with_reducible repeat (first | refine blk_drewN ?_ _ | refine blk_drew ?_ | refine blk_alloc ?_ _)); exact BK244.out⟩, ⟨by repeat (first | (with_reducible first | exact HB.out | apply below_alloc | apply pw_below_drewN | apply below_drew1 | refine below_set ?_ GE233.out | refine below_set ?_ GE244.out) | exact HB.out)⟩⟩
  case round =>
    clear H'
    try clear c1
    try clear c2
    try clear p2
    try clear c6
    try clear c9
    try clear hcz10_0
    try clear hcz10_1
    try clear hcz10_2
    try clear hcz10_3
    try clear hcz10_4
    try clear hcz6_0
    try clear hcz6_1
    try clear hcz6_2
    try clear hcz6_3
    try clear hcz6_4
    try clear hfz10_0
    try clear hfz10_1
    try clear hfz10_2
    try clear hfz10_3
    try clear hfz10_4
    try clear hfz6_0
    try clear hfz6_1
    try clear hfz6_2
    try clear hfz6_3
    try clear hfz6_4
    obtain ⟨x21_1, rfl, HA, HK1, HO_19, HO_245003, HO_245004, BK233, BK244, HB⟩ := hrel
    cases gk with
    | zero => exact absurd HA.out (by simp [spec_First29.l0])
    | succ k1 =>
      have H := HA.out
      clear HA
      simp only [spec_First29.l0] at H
      by_cases c13 : x21_1 < (t240.length : Int)
      · rw [if_pos c13] at H
        have c13b0 : decide (x21_1 < (t240.length : Int)) = true := decide_eq_true c13
        clear c13
        by_cases c14 : 0 ≤ x21_1
        · rw [if_pos c14] at H
          have c14b0 : decide (0 ≤ x21_1) = true := decide_eq_true c14
          clear c14
          by_cases c15 : x21_1 < (t240.length : Int)
          · rw [if_pos c15] at H
            have c15b0 : decide (x21_1 < (t240.length : Int)) = true := decide_eq_true c15
            clear c15
            replace H := Option.bind_eq_some_iff.mp H
            obtain ⟨t247, A160, H⟩ := H
            replace H : (if t247 = true then ((spec_Under29.f l1 x21_1).bind fun t248 => (some (t248, true))) else (spec_First29.l0 k1 l1 a2 t240 (t240.length : Int) (wrap64 (x21_1 + 1)))) = some (r1, r2) := H
            have A16 := Aside0.mk A160
            clear A160
            by_cases c17 : t247 = true
            · subst c17
              have H1 : ((spec_Under29.f l1 x21_1).bind fun t248 => (some (t248, true))) = some (r1, r2) := by rw [if_pos rfl] at H; exact H
              clear H
              have H := H1
              clear H1
              replace H := Option.bind_eq_some_iff.mp H
              obtain ⟨t248, A180, H⟩ := H
              replace H : (some (t248, true)) = some (r1, r2) := H
              have A18 := Aside0.mk A180
              clear A180
              simp only [Option.some.injEq, Prod.mk.injEq] at H
              obtain ⟨rfl, rfl⟩ := H
              have p245 : 0 ≤ (x21_1 : Int) := of_decide_eq_true (by first | (with_reducible assumption) | assumption)
              have q245 : x21_1 < (t240.length : Int) := of_decide_eq_true (by first | (with_reducible assumption) | assumption)
              obtain ⟨ad245, A245_3, c245_3, A245_4, c245_4, e245, hx245_0, hx245_1, hx245_2, hx245_3, hx245_4, hl245_3, hi245_3, hl245_4, hi245_4⟩ := at_T25 (Kd.V_reads' HO_19.out).2.2 x21_1 p245 q245
              cases e245
              obtain ⟨ce245, hce245, hMe245, hcc245⟩ := Kd.V_get HO_19.out z25 x21_1 p245 (by first | exact q245 | exact of_decide_eq_true (by first | (with_reducible assumption) | assumption) | (have e_ := (Kd.V_reads' HO_19.out).1; omega))
              obtain ⟨ua245_3, uc245_3, ua245_4, uc245_4, rfl, ul245_3, ge245_3, ul245_4, ge245_4⟩ := k25_openF hMe245
              have hv245_3 := hcc245 3 _ rfl
              rw [add_field _ _ 3 (by omega)] at hv245_3
              replace hv245_3 := Option.some.inj (hv245_3.symm.trans hx245_3)
              injection hv245_3 with hva_ hvn_ hvc_
              rw [hva_] at ge245_3
              rw [hvc_] at ul245_3
              have HL245_3 := Aside0.mk (show Kd.V k34 34 _ w.heap.size _ _ ((rd_T25 t240 x21_1).f3) from Kd.V_mk ul245_3 ge245_3)
              clear hva_ hvn_ hvc_ ge245_3 ul245_3
              have hv245_4 := hcc245 4 _ rfl
              rw [add_field _ _ 4 (by omega)] at hv245_4
              replace hv245_4 := Option.some.inj (hv245_4.symm.trans hx245_4)
              injection hv245_4 with hva_ hvn_ hvc_
              rw [hva_] at ge245_4
              rw [hvc_] at ul245_4
              have HL245_4 := Aside0.mk (show Kd.V k25 25 _ w.heap.size _ _ ((rd_T25 t240 x21_1).f4) from Kd.V_mk ul245_4 ge245_4)
              clear hva_ hvn_ hvc_ ge245_4 ul245_4
              clear hcc245 hce245
              have HR245_3 := Aside0.mk hi245_3
              have HC245_3 := Aside0.mk hl245_3
              clear hi245_3 hl245_3
              have HR245_4 := Aside0.mk hi245_4
              have HC245_4 := Aside0.mk hl245_4
              clear hi245_4 hl245_4
              replace p245 := eq_true p245
              replace q245 := eq_true q245
              go_wp2_with (first | ((with_reducible refine gate_dst (N := 11) rfl ?_); refine box_event ?hg (N := 11) ?hd (cs := #[.int .i64 0, .string (⟨#[]⟩ : ByteArray), .string (⟨#[]⟩ : ByteArray), .slice none 0 0, .slice none 0 0]) (t := 25) ?hr ?_; (case hd => rfl); (case hg => rfl); (case hr => first | (go_simp; done) | (go_simp; rfl)); intro gb246 hg w19 hbox hb; have n0_ := Aside0.mk (Kd.V_below (Kd.V_elderB (by (with_reducible repeat (first | apply Kd.V_alloc | apply Kd.V_drewN | apply Kd.V_drew)); exact HO_19.out) gb246 (Nat.le_of_eq hg.symm)) hb); have n1_ := Aside0.mk (Kd.V_below (Kd.V_elderB (by (with_reducible repeat (first | apply Kd.V_alloc | apply Kd.V_drewN | apply Kd.V_drew)); exact HO_245003.out) gb246 (Nat.le_of_eq hg.symm)) hb); have n2_ := Aside0.mk (Kd.V_below (Kd.V_elderB (by (with_reducible repeat (first | apply Kd.V_alloc | apply Kd.V_drewN | apply Kd.V_drew)); exact HO_245004.out) gb246 (Nat.le_of_eq hg.symm)) hb); have n3_ := Aside0.mk (Kd.V_below (Kd.V_elderB (by (with_reducible repeat (first | apply Kd.V_alloc | apply Kd.V_drewN | apply Kd.V_drew)); exact HL245_3.out) gb246 (Nat.le_of_eq hg.symm)) hb); have n4_ := Aside0.mk (Kd.V_below (Kd.V_elderB (by (with_reducible repeat (first | apply Kd.V_alloc | apply Kd.V_drewN | apply Kd.V_drew)); exact HL245_4.out) gb246 (Nat.le_of_eq hg.symm)) hb); have n5_ := Aside0.mk (blk_below (g := gb233) (o := .cells #[.int .i64 a0_0, .string a0_1, .string a0_2, .slice A0_3 l0_3.length c0_3, .slice A0_4 l0_4.length c0_4] 25 (0, 0)) (by (with_reducible repeat (first | refine blk_drewN ?_ _ | refine blk_drew ?_ | refine blk_alloc ?_ _)); exact BK233.out) hb); have n6_ := Aside0.mk (blk_below (g := gb244) (o := .cells #[.int .i64 t234, .string t235, .string t236, .slice Ao11 t237.length co11, .slice (some ad245) t240.length co12] 25 (0, 0)) (by (with_reducible repeat (first | refine blk_drewN ?_ _ | refine blk_drew ?_ | refine blk_alloc ?_ _)); exact BK244.out) hb); have n7_ := Aside0.mk (Kd.C_below (by repeat (first | (with_reducible exact HR245_3.out) | (with_reducible refine Kd.C_alloc ?_ _) | (with_reducible refine Kd.C_drewN ?_ _) | (with_reducible refine Kd.C_drew ?_) | exact HR245_3.out)) hb); have n8_ := Aside0.mk (Kd.C_below (by repeat (first | (with_reducible exact HR245_4.out) | (with_reducible refine Kd.C_alloc ?_ _) | (with_reducible refine Kd.C_drewN ?_ _) | (with_reducible refine Kd.C_drew ?_) | exact HR245_4.out)) hb); have n9_ := Aside0.mk (below_step (by repeat (first | (with_reducible first | exact HB.out | apply below_alloc | apply pw_below_drewN | apply below_drew1 | refine below_set ?_ GE233.out | refine below_set ?_ GE244.out) | exact HB.out)) hb); have n10_ := Aside0.mk (hbox); have n11_ := Aside0.mk ((by rw [hg]; exact (below_size (by repeat (first | (with_reducible first | exact HB.out | apply below_alloc | apply pw_below_drewN | apply below_drew1 | refine below_set ?_ GE233.out | refine below_set ?_ GE244.out) | exact HB.out))) : w.heap.size ≤ gb246)); have n12_ := Aside0.mk ((by rw [hg]; exact (below_size (by repeat (first | (with_reducible first | exact HB.out | apply below_alloc | apply pw_below_drewN | apply below_drew1 | refine below_set ?_ GE233.out | refine below_set ?_ GE244.out) | exact HB.out))) : w.heap.size ≤ gb246)); have n13_ := Aside0.mk ((by rw [hg]; exact Nat.ne_of_lt (blk_lt (g := gb233) (o := .cells #[.int .i64 a0_0, .string a0_1, .string a0_2, .slice A0_3 l0_3.length c0_3, .slice A0_4 l0_4.length c0_4] 25 (0, 0)) (by (with_reducible repeat (first | refine blk_drewN ?_ _ | refine blk_drew ?_ | refine blk_alloc ?_ _)); exact BK233.out)) : gb233 ≠ gb246)); have n14_ := Aside0.mk ((by rw [hg]; exact Nat.ne_of_gt (blk_lt (g := gb233) (o := .cells #[.int .i64 a0_0, .string a0_1, .string a0_2, .slice A0_3 l0_3.length c0_3, .slice A0_4 l0_4.length c0_4] 25 (0, 0)) (by (with_reducible repeat (first | refine blk_drewN ?_ _ | refine blk_drew ?_ | refine blk_alloc ?_ _)); exact BK233.out)) : gb246 ≠ gb233)); have n15_ := Aside0.mk ((by rw [hg]; exact Nat.ne_of_lt (blk_lt (g := gb244) (o := .cells #[.int .i64 t234, .string t235, .string t236, .slice Ao11 t237.length co11, .slice (some ad245) t240.length co12] 25 (0, 0)) (by (with_reducible repeat (first | refine blk_drewN ?_ _ | refine blk_drew ?_ | refine blk_alloc ?_ _)); exact BK244.out)) : gb244 ≠ gb246)); have n16_ := Aside0.mk ((by rw [hg]; exact Nat.ne_of_gt (blk_lt (g := gb244) (o := .cells #[.int .i64 t234, .string t235, .string t236, .slice Ao11 t237.length co11, .slice (some ad245) t240.length co12] 25 (0, 0)) (by (with_reducible repeat (first | refine blk_drewN ?_ _ | refine blk_drew ?_ | refine blk_alloc ?_ _)); exact BK244.out)) : gb246 ≠ gb244)); clear HO_19; clear HO_245003; clear HO_245004; clear HL245_3; clear HL245_4; clear BK233; clear BK244; clear HR245_3; clear HR245_4; clear HB; have HO_19 := n0_; have HO_245003 := n1_; have HO_245004 := n2_; have HL245_3 := n3_; have HL245_4 := n4_; have BK233 := n5_; have BK244 := n6_; have HR245_3 := n7_; have HR245_4 := n8_; have HB := n9_; have BK246 := n10_; have GW246 := n11_; have GE246 := n12_; have NB233_246 := n13_; have NB246_233 := n14_; have NB244_246 := n15_; have NB246_244 := n16_; clear n0_ n1_ n2_ n3_ n4_ n5_ n6_ n7_ n8_ n9_ n10_ n11_ n12_ n13_ n14_ n15_ n16_; clear hb hbox hg; have hnb20 := NB246_233.out; have hnc20 := NB233_246.out; have hnb21 := NB246_244.out; have hnc21 := NB244_246.out; have hcz22_0 : w19.cell? ⟨gb246, 0, none⟩ = some (.int .i64 0) := (blk_cell BK246.out 0).trans rfl; have hcz22_1 : w19.cell? ⟨gb246, 1, none⟩ = some (.string (⟨#[]⟩ : ByteArray)) := (blk_cell BK246.out 1).trans rfl; have hcz22_2 : w19.cell? ⟨gb246, 2, none⟩ = some (.string (⟨#[]⟩ : ByteArray)) := (blk_cell BK246.out 2).trans rfl; have hcz22_3 : w19.cell? ⟨gb246, 3, none⟩ = some (.slice none 0 0) := (blk_cell BK246.out 3).trans rfl; have hcz22_4 : w19.cell? ⟨gb246, 4, none⟩ = some (.slice none 0 0) := (blk_cell BK246.out 4).trans rfl; have hfz22_0 := blk_frozen BK246.out 0; have hfz22_1 := blk_frozen BK246.out 1; have hfz22_2 := blk_frozen BK246.out 2; have hfz22_3 := blk_frozen BK246.out 3; have hfz22_4 := blk_frozen BK246.out 4) | ((with_reducible refine gate_callee (f := 108) rfl ?_); refine goesL_ (some 28) rfl rfl Try.func108 (by kernel_rfl) rfl #[.agg #[.int .i64 ((rd_T25 t240 x21_1).f0), .string ((rd_T25 t240 x21_1).f1), .string ((rd_T25 t240 x21_1).f2), .slice A245_3 ((rd_T25 t240 x21_1).f3).length c245_3, .slice A245_4 ((rd_T25 t240 x21_1).f4).length c245_4], .bool a2] rfl (by (try simp only [List.map_toArray, List.map_cons, List.map_nil]); first | done | rfl | (simp only [List.length_drop, List.length_take]; rfl)) ?_; (with_reducible refine (spec_among29.calls ((rd_T25 t240 x21_1).f0) ((rd_T25 t240 x21_1).f1) ((rd_T25 t240 x21_1).f2) _ _ ((rd_T25 t240 x21_1).f3) _ _ ((rd_T25 t240 x21_1).f4) a2 true _ ?side1 ?side2 ?side3 ?side4 A16.out).mono ?_); (case side1 => repeat (first | exact ((Kd.V_reads' (by (with_reducible repeat (first | apply Kd.V_alloc | apply Kd.V_drewN | apply Kd.V_drew)); exact (Kd.V_mono (Kd.V_far (p := ⟨gb246, 4, none⟩) (Kd.V_far (p := ⟨gb246, 3, none⟩) (Kd.V_far (p := ⟨gb246, 2, none⟩) (Kd.V_far (p := ⟨gb246, 1, none⟩) (Kd.V_far (p := ⟨gb246, 0, none⟩) (Kd.V_mono HL245_3.out (fun k_ hk => (⟨hk, hk.2⟩ : _ ∧ k_ ≠ gb246))) (fun _ hk => hk.2) (.int .i64 ((rd_T25 t240 x21_1).f0))) (fun _ hk => hk.2) (.string ((rd_T25 t240 x21_1).f1))) (fun _ hk => hk.2) (.string ((rd_T25 t240 x21_1).f2))) (fun _ hk => hk.2) (.slice A245_3 ((rd_T25 t240 x21_1).f3).length c245_3)) (fun _ hk => hk.2) (.slice A245_4 ((rd_T25 t240 x21_1).f4).length c245_4)) (fun _ h_ => h_.1)))).2.2) | (with_reducible refine Kd.C_alloc ?_ _) | (with_reducible refine Kd.C_drewN ?_ _) | (with_reducible refine Kd.C_drew ?_))); (case side2 => exact HC245_3.out); (case side3 => repeat (first | exact ((Kd.V_reads' (by (with_reducible repeat (first | apply Kd.V_alloc | apply Kd.V_drewN | apply Kd.V_drew)); exact (Kd.V_mono (Kd.V_far (p := ⟨gb246, 4, none⟩) (Kd.V_far (p := ⟨gb246, 3, none⟩) (Kd.V_far (p := ⟨gb246, 2, none⟩) (Kd.V_far (p := ⟨gb246, 1, none⟩) (Kd.V_far (p := ⟨gb246, 0, none⟩) (Kd.V_mono HL245_4.out (fun k_ hk => (⟨hk, hk.2⟩ : _ ∧ k_ ≠ gb246))) (fun _ hk => hk.2) (.int .i64 ((rd_T25 t240 x21_1).f0))) (fun _ hk => hk.2) (.string ((rd_T25 t240 x21_1).f1))) (fun _ hk => hk.2) (.string ((rd_T25 t240 x21_1).f2))) (fun _ hk => hk.2) (.slice A245_3 ((rd_T25 t240 x21_1).f3).length c245_3)) (fun _ hk => hk.2) (.slice A245_4 ((rd_T25 t240 x21_1).f4).length c245_4)) (fun _ h_ => h_.1)))).2.2) | (with_reducible refine Kd.C_alloc ?_ _) | (with_reducible refine Kd.C_drewN ?_ _) | (with_reducible refine Kd.C_drew ?_))); (case side4 => exact HC245_4.out); rintro e w23 ⟨rfl, hb⟩; refine ⟨_, rfl, ?_⟩; have n0_ := Aside0.mk (Kd.V_below (by (with_reducible repeat (first | apply Kd.V_alloc | apply Kd.V_drewN | apply Kd.V_drew)); exact (Kd.V_mono (Kd.V_far (p := ⟨gb246, 4, none⟩) (Kd.V_far (p := ⟨gb246, 3, none⟩) (Kd.V_far (p := ⟨gb246, 2, none⟩) (Kd.V_far (p := ⟨gb246, 1, none⟩) (Kd.V_far (p := ⟨gb246, 0, none⟩) (Kd.V_mono HO_19.out (fun k_ hk => (⟨hk, hk.2⟩ : _ ∧ k_ ≠ gb246))) (fun _ hk => hk.2) (.int .i64 ((rd_T25 t240 x21_1).f0))) (fun _ hk => hk.2) (.string ((rd_T25 t240 x21_1).f1))) (fun _ hk => hk.2) (.string ((rd_T25 t240 x21_1).f2))) (fun _ hk => hk.2) (.slice A245_3 ((rd_T25 t240 x21_1).f3).length c245_3)) (fun _ hk => hk.2) (.slice A245_4 ((rd_T25 t240 x21_1).f4).length c245_4)) (fun _ h_ => h_.1))) hb); have n1_ := Aside0.mk (Kd.V_below (by (with_reducible repeat (first | apply Kd.V_alloc | apply Kd.V_drewN | apply Kd.V_drew)); exact (Kd.V_mono (Kd.V_far (p := ⟨gb246, 4, none⟩) (Kd.V_far (p := ⟨gb246, 3, none⟩) (Kd.V_far (p := ⟨gb246, 2, none⟩) (Kd.V_far (p := ⟨gb246, 1, none⟩) (Kd.V_far (p := ⟨gb246, 0, none⟩) (Kd.V_mono HO_245003.out (fun k_ hk => (⟨hk, hk.2⟩ : _ ∧ k_ ≠ gb246))) (fun _ hk => hk.2) (.int .i64 ((rd_T25 t240 x21_1).f0))) (fun _ hk => hk.2) (.string ((rd_T25 t240 x21_1).f1))) (fun _ hk => hk.2) (.string ((rd_T25 t240 x21_1).f2))) (fun _ hk => hk.2) (.slice A245_3 ((rd_T25 t240 x21_1).f3).length c245_3)) (fun _ hk => hk.2) (.slice A245_4 ((rd_T25 t240 x21_1).f4).length c245_4)) (fun _ h_ => h_.1))) hb); have n2_ := Aside0.mk (Kd.V_below (by (with_reducible repeat (first | apply Kd.V_alloc | apply Kd.V_drewN | apply Kd.V_drew)); exact (Kd.V_mono (Kd.V_far (p := ⟨gb246, 4, none⟩) (Kd.V_far (p := ⟨gb246, 3, none⟩) (Kd.V_far (p := ⟨gb246, 2, none⟩) (Kd.V_far (p := ⟨gb246, 1, none⟩) (Kd.V_far (p := ⟨gb246, 0, none⟩) (Kd.V_mono HO_245004.out (fun k_ hk => (⟨hk, hk.2⟩ : _ ∧ k_ ≠ gb246))) (fun _ hk => hk.2) (.int .i64 ((rd_T25 t240 x21_1).f0))) (fun _ hk => hk.2) (.string ((rd_T25 t240 x21_1).f1))) (fun _ hk => hk.2) (.string ((rd_T25 t240 x21_1).f2))) (fun _ hk => hk.2) (.slice A245_3 ((rd_T25 t240 x21_1).f3).length c245_3)) (fun _ hk => hk.2) (.slice A245_4 ((rd_T25 t240 x21_1).f4).length c245_4)) (fun _ h_ => h_.1))) hb); have n3_ := Aside0.mk (Kd.V_below (by (with_reducible repeat (first | apply Kd.V_alloc | apply Kd.V_drewN | apply Kd.V_drew)); exact (Kd.V_mono (Kd.V_far (p := ⟨gb246, 4, none⟩) (Kd.V_far (p := ⟨gb246, 3, none⟩) (Kd.V_far (p := ⟨gb246, 2, none⟩) (Kd.V_far (p := ⟨gb246, 1, none⟩) (Kd.V_far (p := ⟨gb246, 0, none⟩) (Kd.V_mono HL245_3.out (fun k_ hk => (⟨hk, hk.2⟩ : _ ∧ k_ ≠ gb246))) (fun _ hk => hk.2) (.int .i64 ((rd_T25 t240 x21_1).f0))) (fun _ hk => hk.2) (.string ((rd_T25 t240 x21_1).f1))) (fun _ hk => hk.2) (.string ((rd_T25 t240 x21_1).f2))) (fun _ hk => hk.2) (.slice A245_3 ((rd_T25 t240 x21_1).f3).length c245_3)) (fun _ hk => hk.2) (.slice A245_4 ((rd_T25 t240 x21_1).f4).length c245_4)) (fun _ h_ => h_.1))) hb); have n4_ := Aside0.mk (Kd.V_below (by (with_reducible repeat (first | apply Kd.V_alloc | apply Kd.V_drewN | apply Kd.V_drew)); exact (Kd.V_mono (Kd.V_far (p := ⟨gb246, 4, none⟩) (Kd.V_far (p := ⟨gb246, 3, none⟩) (Kd.V_far (p := ⟨gb246, 2, none⟩) (Kd.V_far (p := ⟨gb246, 1, none⟩) (Kd.V_far (p := ⟨gb246, 0, none⟩) (Kd.V_mono HL245_4.out (fun k_ hk => (⟨hk, hk.2⟩ : _ ∧ k_ ≠ gb246))) (fun _ hk => hk.2) (.int .i64 ((rd_T25 t240 x21_1).f0))) (fun _ hk => hk.2) (.string ((rd_T25 t240 x21_1).f1))) (fun _ hk => hk.2) (.string ((rd_T25 t240 x21_1).f2))) (fun _ hk => hk.2) (.slice A245_3 ((rd_T25 t240 x21_1).f3).length c245_3)) (fun _ hk => hk.2) (.slice A245_4 ((rd_T25 t240 x21_1).f4).length c245_4)) (fun _ h_ => h_.1))) hb); have n5_ := Aside0.mk (blk_below (g := gb233) (o := .cells #[.int .i64 a0_0, .string a0_1, .string a0_2, .slice A0_3 l0_3.length c0_3, .slice A0_4 l0_4.length c0_4] 25 (0, 0)) (by (with_reducible repeat (first | refine blk_drewN ?_ _ | refine blk_drew ?_ | refine blk_alloc ?_ _)); refine blk_far ?_ NB233_246.out _; (with_reducible repeat (first | refine blk_drewN ?_ _ | refine blk_drew ?_ | refine blk_alloc ?_ _)); refine blk_far ?_ NB233_246.out _; (with_reducible repeat (first | refine blk_drewN ?_ _ | refine blk_drew ?_ | refine blk_alloc ?_ _)); refine blk_far ?_ NB233_246.out _; (with_reducible repeat (first | refine blk_drewN ?_ _ | refine blk_drew ?_ | refine blk_alloc ?_ _)); refine blk_far ?_ NB233_246.out _; (with_reducible repeat (first | refine blk_drewN ?_ _ | refine blk_drew ?_ | refine blk_alloc ?_ _)); refine blk_far ?_ NB233_246.out _; (with_reducible repeat (first | refine blk_drewN ?_ _ | refine blk_drew ?_ | refine blk_alloc ?_ _)); exact BK233.out) hb); have n6_ := Aside0.mk (blk_below (g := gb244) (o := .cells #[.int .i64 t234, .string t235, .string t236, .slice Ao11 t237.length co11, .slice (some ad245) t240.length co12] 25 (0, 0)) (by (with_reducible repeat (first | refine blk_drewN ?_ _ | refine blk_drew ?_ | refine blk_alloc ?_ _)); refine blk_far ?_ NB244_246.out _; (with_reducible repeat (first | refine blk_drewN ?_ _ | refine blk_drew ?_ | refine blk_alloc ?_ _)); refine blk_far ?_ NB244_246.out _; (with_reducible repeat (first | refine blk_drewN ?_ _ | refine blk_drew ?_ | refine blk_alloc ?_ _)); refine blk_far ?_ NB244_246.out _; (with_reducible repeat (first | refine blk_drewN ?_ _ | refine blk_drew ?_ | refine blk_alloc ?_ _)); refine blk_far ?_ NB244_246.out _; (with_reducible repeat (first | refine blk_drewN ?_ _ | refine blk_drew ?_ | refine blk_alloc ?_ _)); refine blk_far ?_ NB244_246.out _; (with_reducible repeat (first | refine blk_drewN ?_ _ | refine blk_drew ?_ | refine blk_alloc ?_ _)); exact BK244.out) hb); have n7_ := Aside0.mk (Kd.C_below ((Kd.V_reads' (by (with_reducible repeat (first | apply Kd.V_alloc | apply Kd.V_drewN | apply Kd.V_drew)); exact (Kd.V_mono (Kd.V_far (p := ⟨gb246, 4, none⟩) (Kd.V_far (p := ⟨gb246, 3, none⟩) (Kd.V_far (p := ⟨gb246, 2, none⟩) (Kd.V_far (p := ⟨gb246, 1, none⟩) (Kd.V_far (p := ⟨gb246, 0, none⟩) (Kd.V_mono HL245_3.out (fun k_ hk => (⟨hk, hk.2⟩ : _ ∧ k_ ≠ gb246))) (fun _ hk => hk.2) (.int .i64 ((rd_T25 t240 x21_1).f0))) (fun _ hk => hk.2) (.string ((rd_T25 t240 x21_1).f1))) (fun _ hk => hk.2) (.string ((rd_T25 t240 x21_1).f2))) (fun _ hk => hk.2) (.slice A245_3 ((rd_T25 t240 x21_1).f3).length c245_3)) (fun _ hk => hk.2) (.slice A245_4 ((rd_T25 t240 x21_1).f4).length c245_4)) (fun _ h_ => h_.1)))).2.2) hb); have n8_ := Aside0.mk (Kd.C_below ((Kd.V_reads' (by (with_reducible repeat (first | apply Kd.V_alloc | apply Kd.V_drewN | apply Kd.V_drew)); exact (Kd.V_mono (Kd.V_far (p := ⟨gb246, 4, none⟩) (Kd.V_far (p := ⟨gb246, 3, none⟩) (Kd.V_far (p := ⟨gb246, 2, none⟩) (Kd.V_far (p := ⟨gb246, 1, none⟩) (Kd.V_far (p := ⟨gb246, 0, none⟩) (Kd.V_mono HL245_4.out (fun k_ hk => (⟨hk, hk.2⟩ : _ ∧ k_ ≠ gb246))) (fun _ hk => hk.2) (.int .i64 ((rd_T25 t240 x21_1).f0))) (fun _ hk => hk.2) (.string ((rd_T25 t240 x21_1).f1))) (fun _ hk => hk.2) (.string ((rd_T25 t240 x21_1).f2))) (fun _ hk => hk.2) (.slice A245_3 ((rd_T25 t240 x21_1).f3).length c245_3)) (fun _ hk => hk.2) (.slice A245_4 ((rd_T25 t240 x21_1).f4).length c245_4)) (fun _ h_ => h_.1)))).2.2) hb); have n9_ := Aside0.mk (blk_below (g := gb246) (o := .cells #[.int .i64 ((rd_T25 t240 x21_1).f0), .string ((rd_T25 t240 x21_1).f1), .string ((rd_T25 t240 x21_1).f2), .slice A245_3 ((rd_T25 t240 x21_1).f3).length c245_3, .slice A245_4 ((rd_T25 t240 x21_1).f4).length c245_4] 25 (0, 0)) (by (with_reducible repeat (first | refine blk_drewN ?_ _ | refine blk_drew ?_ | refine blk_alloc ?_ _)); refine blk_put (cs := #[.int .i64 ((rd_T25 t240 x21_1).f0), .string ((rd_T25 t240 x21_1).f1), .string ((rd_T25 t240 x21_1).f2), .slice A245_3 ((rd_T25 t240 x21_1).f3).length c245_3, .slice none 0 0]) ?_ 4 _ rfl; (with_reducible repeat (first | refine blk_drewN ?_ _ | refine blk_drew ?_ | refine blk_alloc ?_ _)); refine blk_put (cs := #[.int .i64 ((rd_T25 t240 x21_1).f0), .string ((rd_T25 t240 x21_1).f1), .string ((rd_T25 t240 x21_1).f2), .slice none 0 0, .slice none 0 0]) ?_ 3 _ rfl; (with_reducible repeat (first | refine blk_drewN ?_ _ | refine blk_drew ?_ | refine blk_alloc ?_ _)); refine blk_put (cs := #[.int .i64 ((rd_T25 t240 x21_1).f0), .string ((rd_T25 t240 x21_1).f1), .string (⟨#[]⟩ : ByteArray), .slice none 0 0, .slice none 0 0]) ?_ 2 _ rfl; (with_reducible repeat (first | refine blk_drewN ?_ _ | refine blk_drew ?_ | refine blk_alloc ?_ _)); refine blk_put (cs := #[.int .i64 ((rd_T25 t240 x21_1).f0), .string (⟨#[]⟩ : ByteArray), .string (⟨#[]⟩ : ByteArray), .slice none 0 0, .slice none 0 0]) ?_ 1 _ rfl; (with_reducible repeat (first | refine blk_drewN ?_ _ | refine blk_drew ?_ | refine blk_alloc ?_ _)); refine blk_put (cs := #[.int .i64 0, .string (⟨#[]⟩ : ByteArray), .string (⟨#[]⟩ : ByteArray), .slice none 0 0, .slice none 0 0]) ?_ 0 _ rfl; (with_reducible repeat (first | refine blk_drewN ?_ _ | refine blk_drew ?_ | refine blk_alloc ?_ _)); exact BK246.out) hb); have n10_ := Aside0.mk (below_step (by repeat (first | (with_reducible first | exact HB.out | apply below_alloc | apply pw_below_drewN | apply below_drew1 | refine below_set ?_ GE233.out | refine below_set ?_ GE244.out | refine below_set ?_ GE246.out) | exact HB.out)) hb); clear HO_19; clear HO_245003; clear HO_245004; clear HL245_3; clear HL245_4; clear BK233; clear BK244; clear HR245_3; clear HR245_4; clear BK246; clear HB; have HO_19 := n0_; have HO_245003 := n1_; have HO_245004 := n2_; have HL245_3 := n3_; have HL245_4 := n4_; have BK233 := n5_; have BK244 := n6_; have HR245_3 := n7_; have HR245_4 := n8_; have BK246 := n9_; have HB := n10_; clear n0_ n1_ n2_ n3_ n4_ n5_ n6_ n7_ n8_ n9_ n10_; (try clear hb); (try clear hb2); (try clear hk); (try clear hi)) | ((with_reducible refine gate_callee (f := 24) rfl ?_); refine goesL_ (some 31) rfl rfl Try.func24 (by kernel_rfl) rfl #[.slice A1 l1.length c1, .int .i64 x21_1] rfl (by (try simp only [List.map_toArray, List.map_cons, List.map_nil]); first | done | rfl | (simp only [List.length_drop, List.length_take]; rfl)) ?_; (with_reducible refine (spec_Under29.calls _ _ l1 x21_1 t248 _ ?side1 ?side2 A18.out).mono ?_); (case side1 => repeat (first | exact (Kd.C_below HR1.out HB.out) | (with_reducible refine Kd.C_alloc ?_ _) | (with_reducible refine Kd.C_drewN ?_ _) | (with_reducible refine Kd.C_drew ?_))); (case side2 => exact HC1.out); rintro e w24 ⟨v249, rfl, ho0, hb⟩; refine ⟨_, rfl, ?_⟩; have n0_ := Aside0.mk (Kd.V_elder' (by (with_reducible repeat (first | apply Kd.V_alloc | apply Kd.V_drewN | apply Kd.V_drew)); exact HO_19.out) (Kd.R_base ho0) hb); have n1_ := Aside0.mk (Kd.V_elder' (by (with_reducible repeat (first | apply Kd.V_alloc | apply Kd.V_drewN | apply Kd.V_drew)); exact HO_245003.out) (Kd.R_base ho0) hb); have n2_ := Aside0.mk (Kd.V_elder' (by (with_reducible repeat (first | apply Kd.V_alloc | apply Kd.V_drewN | apply Kd.V_drew)); exact HO_245004.out) (Kd.R_base ho0) hb); have n3_ := Aside0.mk (Kd.V_elder' (by (with_reducible repeat (first | apply Kd.V_alloc | apply Kd.V_drewN | apply Kd.V_drew)); exact HL245_3.out) (Kd.R_base ho0) hb); have n4_ := Aside0.mk (Kd.V_elder' (by (with_reducible repeat (first | apply Kd.V_alloc | apply Kd.V_drewN | apply Kd.V_drew)); exact HL245_4.out) (Kd.R_base ho0) hb); have n5_ := Aside0.mk (Kd.R_lower ho0 (below_size (by repeat (first | (with_reducible first | exact HB.out | apply below_alloc | apply pw_below_drewN | apply below_drew1 | refine below_set ?_ GE233.out | refine below_set ?_ GE244.out | refine below_set ?_ GE246.out) | exact HB.out)))); have n6_ := Aside0.mk (blk_below (g := gb233) (o := .cells #[.int .i64 a0_0, .string a0_1, .string a0_2, .slice A0_3 l0_3.length c0_3, .slice A0_4 l0_4.length c0_4] 25 (0, 0)) (by (with_reducible repeat (first | refine blk_drewN ?_ _ | refine blk_drew ?_ | refine blk_alloc ?_ _)); exact BK233.out) hb); have n7_ := Aside0.mk (blk_below (g := gb244) (o := .cells #[.int .i64 t234, .string t235, .string t236, .slice Ao11 t237.length co11, .slice (some ad245) t240.length co12] 25 (0, 0)) (by (with_reducible repeat (first | refine blk_drewN ?_ _ | refine blk_drew ?_ | refine blk_alloc ?_ _)); exact BK244.out) hb); have n8_ := Aside0.mk (Kd.C_below (by repeat (first | (with_reducible exact HR245_3.out) | (with_reducible refine Kd.C_alloc ?_ _) | (with_reducible refine Kd.C_drewN ?_ _) | (with_reducible refine Kd.C_drew ?_) | exact HR245_3.out)) hb); have n9_ := Aside0.mk (Kd.C_below (by repeat (first | (with_reducible exact HR245_4.out) | (with_reducible refine Kd.C_alloc ?_ _) | (with_reducible refine Kd.C_drewN ?_ _) | (with_reducible refine Kd.C_drew ?_) | exact HR245_4.out)) hb); have n10_ := Aside0.mk (blk_below (g := gb246) (o := .cells #[.int .i64 ((rd_T25 t240 x21_1).f0), .string ((rd_T25 t240 x21_1).f1), .string ((rd_T25 t240 x21_1).f2), .slice A245_3 ((rd_T25 t240 x21_1).f3).length c245_3, .slice A245_4 ((rd_T25 t240 x21_1).f4).length c245_4] 25 (0, 0)) (by (with_reducible repeat (first | refine blk_drewN ?_ _ | refine blk_drew ?_ | refine blk_alloc ?_ _)); exact BK246.out) hb); have n11_ := Aside0.mk (below_step (by repeat (first | (with_reducible first | exact HB.out | apply below_alloc | apply pw_below_drewN | apply below_drew1 | refine below_set ?_ GE233.out | refine below_set ?_ GE244.out | refine below_set ?_ GE246.out) | exact HB.out)) hb); clear HO_19; clear HO_245003; clear HO_245004; clear HL245_3; clear HL245_4; clear BK233; clear BK244; clear HR245_3; clear HR245_4; clear BK246; clear HB; have HO_19 := n0_; have HO_245003 := n1_; have HO_245004 := n2_; have HL245_3 := n3_; have HL245_4 := n4_; have HO250 := n5_; have BK233 := n6_; have BK244 := n7_; have HR245_3 := n8_; have HR245_4 := n9_; have BK246 := n10_; have HB := n11_; clear n0_ n1_ n2_ n3_ n4_ n5_ n6_ n7_ n8_ n9_ n10_ n11_; (try clear hb); (try clear hb2); (try clear hk); (try clear hi); (try clear ho0)))
              go_ret2
              exact ⟨_, by first | rfl | (simp [errW_none, errW_some] <;> rfl) | (simp [*, errW_none, errW_some] <;> rfl), by (with_reducible repeat (first | apply Kd.R_alloc | apply Kd.R_drewN | apply Kd.R_drew)); exact HO250.out, by repeat (first | (with_reducible first | exact HB.out | apply below_alloc | apply pw_below_drewN | apply below_drew1 | refine below_set ?_ GE233.out | refine below_set ?_ GE244.out | refine below_set ?_ GE246.out) | exact HB.out)⟩
            · replace c17 := Bool.eq_false_iff.mpr c17
              subst c17
              have H1 : (spec_First29.l0 k1 l1 a2 t240 (t240.length : Int) (wrap64 (x21_1 + 1))) = some (r1, r2) := by rw [if_neg (show ¬ (false = true) by decide)] at H; exact H
              clear H
              have H := H1
              clear H1
              have H' := Aside0.mk H
              clear H
              have p245 : 0 ≤ (x21_1 : Int) := of_decide_eq_true (by first | (with_reducible assumption) | assumption)
              have q245 : x21_1 < (t240.length : Int) := of_decide_eq_true (by first | (with_reducible assumption) | assumption)
              obtain ⟨ad245, A245_3, c245_3, A245_4, c245_4, e245, hx245_0, hx245_1, hx245_2, hx245_3, hx245_4, hl245_3, hi245_3, hl245_4, hi245_4⟩ := at_T25 (Kd.V_reads' HO_19.out).2.2 x21_1 p245 q245
              cases e245
              obtain ⟨ce245, hce245, hMe245, hcc245⟩ := Kd.V_get HO_19.out z25 x21_1 p245 (by first | exact q245 | exact of_decide_eq_true (by first | (with_reducible assumption) | assumption) | (have e_ := (Kd.V_reads' HO_19.out).1; omega))
              obtain ⟨ua245_3, uc245_3, ua245_4, uc245_4, rfl, ul245_3, ge245_3, ul245_4, ge245_4⟩ := k25_openF hMe245
              have hv245_3 := hcc245 3 _ rfl
              rw [add_field _ _ 3 (by omega)] at hv245_3
              replace hv245_3 := Option.some.inj (hv245_3.symm.trans hx245_3)
              injection hv245_3 with hva_ hvn_ hvc_
              rw [hva_] at ge245_3
              rw [hvc_] at ul245_3
              have HL245_3 := Aside0.mk (show Kd.V k34 34 _ w.heap.size _ _ ((rd_T25 t240 x21_1).f3) from Kd.V_mk ul245_3 ge245_3)
              clear hva_ hvn_ hvc_ ge245_3 ul245_3
              have hv245_4 := hcc245 4 _ rfl
              rw [add_field _ _ 4 (by omega)] at hv245_4
              replace hv245_4 := Option.some.inj (hv245_4.symm.trans hx245_4)
              injection hv245_4 with hva_ hvn_ hvc_
              rw [hva_] at ge245_4
              rw [hvc_] at ul245_4
              have HL245_4 := Aside0.mk (show Kd.V k25 25 _ w.heap.size _ _ ((rd_T25 t240 x21_1).f4) from Kd.V_mk ul245_4 ge245_4)
              clear hva_ hvn_ hvc_ ge245_4 ul245_4
              clear hcc245 hce245
              have HR245_3 := Aside0.mk hi245_3
              have HC245_3 := Aside0.mk hl245_3
              clear hi245_3 hl245_3
              have HR245_4 := Aside0.mk hi245_4
              have HC245_4 := Aside0.mk hl245_4
              clear hi245_4 hl245_4
              replace p245 := eq_true p245
              replace q245 := eq_true q245
              go_wp2_with (first | ((with_reducible refine gate_dst (N := 11) rfl ?_); refine box_event ?hg (N := 11) ?hd (cs := #[.int .i64 0, .string (⟨#[]⟩ : ByteArray), .string (⟨#[]⟩ : ByteArray), .slice none 0 0, .slice none 0 0]) (t := 25) ?hr ?_; (case hd => rfl); (case hg => rfl); (case hr => first | (go_simp; done) | (go_simp; rfl)); intro gb246 hg w25 hbox hb; have n0_ := Aside0.mk (Kd.V_below (Kd.V_elderB (by (with_reducible repeat (first | apply Kd.V_alloc | apply Kd.V_drewN | apply Kd.V_drew)); exact HO_19.out) gb246 (Nat.le_of_eq hg.symm)) hb); have n1_ := Aside0.mk (Kd.V_below (Kd.V_elderB (by (with_reducible repeat (first | apply Kd.V_alloc | apply Kd.V_drewN | apply Kd.V_drew)); exact HO_245003.out) gb246 (Nat.le_of_eq hg.symm)) hb); have n2_ := Aside0.mk (Kd.V_below (Kd.V_elderB (by (with_reducible repeat (first | apply Kd.V_alloc | apply Kd.V_drewN | apply Kd.V_drew)); exact HO_245004.out) gb246 (Nat.le_of_eq hg.symm)) hb); have n3_ := Aside0.mk (Kd.V_below (Kd.V_elderB (by (with_reducible repeat (first | apply Kd.V_alloc | apply Kd.V_drewN | apply Kd.V_drew)); exact HL245_3.out) gb246 (Nat.le_of_eq hg.symm)) hb); have n4_ := Aside0.mk (Kd.V_below (Kd.V_elderB (by (with_reducible repeat (first | apply Kd.V_alloc | apply Kd.V_drewN | apply Kd.V_drew)); exact HL245_4.out) gb246 (Nat.le_of_eq hg.symm)) hb); have n5_ := Aside0.mk (blk_below (g := gb233) (o := .cells #[.int .i64 a0_0, .string a0_1, .string a0_2, .slice A0_3 l0_3.length c0_3, .slice A0_4 l0_4.length c0_4] 25 (0, 0)) (by (with_reducible repeat (first | refine blk_drewN ?_ _ | refine blk_drew ?_ | refine blk_alloc ?_ _)); exact BK233.out) hb); have n6_ := Aside0.mk (blk_below (g := gb244) (o := .cells #[.int .i64 t234, .string t235, .string t236, .slice Ao11 t237.length co11, .slice (some ad245) t240.length co12] 25 (0, 0)) (by (with_reducible repeat (first | refine blk_drewN ?_ _ | refine blk_drew ?_ | refine blk_alloc ?_ _)); exact BK244.out) hb); have n7_ := Aside0.mk (Kd.C_below (by repeat (first | (with_reducible exact HR245_3.out) | (with_reducible refine Kd.C_alloc ?_ _) | (with_reducible refine Kd.C_drewN ?_ _) | (with_reducible refine Kd.C_drew ?_) | exact HR245_3.out)) hb); have n8_ := Aside0.mk (Kd.C_below (by repeat (first | (with_reducible exact HR245_4.out) | (with_reducible refine Kd.C_alloc ?_ _) | (with_reducible refine Kd.C_drewN ?_ _) | (with_reducible refine Kd.C_drew ?_) | exact HR245_4.out)) hb); have n9_ := Aside0.mk (below_step (by repeat (first | (with_reducible first | exact HB.out | apply below_alloc | apply pw_below_drewN | apply below_drew1 | refine below_set ?_ GE233.out | refine below_set ?_ GE244.out) | exact HB.out)) hb); have n10_ := Aside0.mk (hbox); have n11_ := Aside0.mk ((by rw [hg]; exact (below_size (by repeat (first | (with_reducible first | exact HB.out | apply below_alloc | apply pw_below_drewN | apply below_drew1 | refine below_set ?_ GE233.out | refine below_set ?_ GE244.out) | exact HB.out))) : w.heap.size ≤ gb246)); have n12_ := Aside0.mk ((by rw [hg]; exact (below_size (by repeat (first | (with_reducible first | exact HB.out | apply below_alloc | apply pw_below_drewN | apply below_drew1 | refine below_set ?_ GE233.out | refine below_set ?_ GE244.out) | exact HB.out))) : w.heap.size ≤ gb246)); have n13_ := Aside0.mk ((by rw [hg]; exact Nat.ne_of_lt (blk_lt (g := gb233) (o := .cells #[.int .i64 a0_0, .string a0_1, .string a0_2, .slice A0_3 l0_3.length c0_3, .slice A0_4 l0_4.length c0_4] 25 (0, 0)) (by (with_reducible repeat (first | refine blk_drewN ?_ _ | refine blk_drew ?_ | refine blk_alloc ?_ _)); exact BK233.out)) : gb233 ≠ gb246)); have n14_ := Aside0.mk ((by rw [hg]; exact Nat.ne_of_gt (blk_lt (g := gb233) (o := .cells #[.int .i64 a0_0, .string a0_1, .string a0_2, .slice A0_3 l0_3.length c0_3, .slice A0_4 l0_4.length c0_4] 25 (0, 0)) (by (with_reducible repeat (first | refine blk_drewN ?_ _ | refine blk_drew ?_ | refine blk_alloc ?_ _)); exact BK233.out)) : gb246 ≠ gb233)); have n15_ := Aside0.mk ((by rw [hg]; exact Nat.ne_of_lt (blk_lt (g := gb244) (o := .cells #[.int .i64 t234, .string t235, .string t236, .slice Ao11 t237.length co11, .slice (some ad245) t240.length co12] 25 (0, 0)) (by (with_reducible repeat (first | refine blk_drewN ?_ _ | refine blk_drew ?_ | refine blk_alloc ?_ _)); exact BK244.out)) : gb244 ≠ gb246)); have n16_ := Aside0.mk ((by rw [hg]; exact Nat.ne_of_gt (blk_lt (g := gb244) (o := .cells #[.int .i64 t234, .string t235, .string t236, .slice Ao11 t237.length co11, .slice (some ad245) t240.length co12] 25 (0, 0)) (by (with_reducible repeat (first | refine blk_drewN ?_ _ | refine blk_drew ?_ | refine blk_alloc ?_ _)); exact BK244.out)) : gb246 ≠ gb244)); clear HO_19; clear HO_245003; clear HO_245004; clear HL245_3; clear HL245_4; clear BK233; clear BK244; clear HR245_3; clear HR245_4; clear HB; have HO_19 := n0_; have HO_245003 := n1_; have HO_245004 := n2_; have HL245_3 := n3_; have HL245_4 := n4_; have BK233 := n5_; have BK244 := n6_; have HR245_3 := n7_; have HR245_4 := n8_; have HB := n9_; have BK246 := n10_; have GW246 := n11_; have GE246 := n12_; have NB233_246 := n13_; have NB246_233 := n14_; have NB244_246 := n15_; have NB246_244 := n16_; clear n0_ n1_ n2_ n3_ n4_ n5_ n6_ n7_ n8_ n9_ n10_ n11_ n12_ n13_ n14_ n15_ n16_; clear hb hbox hg; have hnb26 := NB246_233.out; have hnc26 := NB233_246.out; have hnb27 := NB246_244.out; have hnc27 := NB244_246.out; have hcz28_0 : w25.cell? ⟨gb246, 0, none⟩ = some (.int .i64 0) := (blk_cell BK246.out 0).trans rfl; have hcz28_1 : w25.cell? ⟨gb246, 1, none⟩ = some (.string (⟨#[]⟩ : ByteArray)) := (blk_cell BK246.out 1).trans rfl; have hcz28_2 : w25.cell? ⟨gb246, 2, none⟩ = some (.string (⟨#[]⟩ : ByteArray)) := (blk_cell BK246.out 2).trans rfl; have hcz28_3 : w25.cell? ⟨gb246, 3, none⟩ = some (.slice none 0 0) := (blk_cell BK246.out 3).trans rfl; have hcz28_4 : w25.cell? ⟨gb246, 4, none⟩ = some (.slice none 0 0) := (blk_cell BK246.out 4).trans rfl; have hfz28_0 := blk_frozen BK246.out 0; have hfz28_1 := blk_frozen BK246.out 1; have hfz28_2 := blk_frozen BK246.out 2; have hfz28_3 := blk_frozen BK246.out 3; have hfz28_4 := blk_frozen BK246.out 4) | ((with_reducible refine gate_callee (f := 108) rfl ?_); refine goesL_ (some 28) rfl rfl Try.func108 (by kernel_rfl) rfl #[.agg #[.int .i64 ((rd_T25 t240 x21_1).f0), .string ((rd_T25 t240 x21_1).f1), .string ((rd_T25 t240 x21_1).f2), .slice A245_3 ((rd_T25 t240 x21_1).f3).length c245_3, .slice A245_4 ((rd_T25 t240 x21_1).f4).length c245_4], .bool a2] rfl (by (try simp only [List.map_toArray, List.map_cons, List.map_nil]); first | done | rfl | (simp only [List.length_drop, List.length_take]; rfl)) ?_; (with_reducible refine (spec_among29.calls ((rd_T25 t240 x21_1).f0) ((rd_T25 t240 x21_1).f1) ((rd_T25 t240 x21_1).f2) _ _ ((rd_T25 t240 x21_1).f3) _ _ ((rd_T25 t240 x21_1).f4) a2 false _ ?side1 ?side2 ?side3 ?side4 A16.out).mono ?_); (case side1 => repeat (first | exact ((Kd.V_reads' (by (with_reducible repeat (first | apply Kd.V_alloc | apply Kd.V_drewN | apply Kd.V_drew)); exact (Kd.V_mono (Kd.V_far (p := ⟨gb246, 4, none⟩) (Kd.V_far (p := ⟨gb246, 3, none⟩) (Kd.V_far (p := ⟨gb246, 2, none⟩) (Kd.V_far (p := ⟨gb246, 1, none⟩) (Kd.V_far (p := ⟨gb246, 0, none⟩) (Kd.V_mono HL245_3.out (fun k_ hk => (⟨hk, hk.2⟩ : _ ∧ k_ ≠ gb246))) (fun _ hk => hk.2) (.int .i64 ((rd_T25 t240 x21_1).f0))) (fun _ hk => hk.2) (.string ((rd_T25 t240 x21_1).f1))) (fun _ hk => hk.2) (.string ((rd_T25 t240 x21_1).f2))) (fun _ hk => hk.2) (.slice A245_3 ((rd_T25 t240 x21_1).f3).length c245_3)) (fun _ hk => hk.2) (.slice A245_4 ((rd_T25 t240 x21_1).f4).length c245_4)) (fun _ h_ => h_.1)))).2.2) | (with_reducible refine Kd.C_alloc ?_ _) | (with_reducible refine Kd.C_drewN ?_ _) | (with_reducible refine Kd.C_drew ?_))); (case side2 => exact HC245_3.out); (case side3 => repeat (first | exact ((Kd.V_reads' (by (with_reducible repeat (first | apply Kd.V_alloc | apply Kd.V_drewN | apply Kd.V_drew)); exact (Kd.V_mono (Kd.V_far (p := ⟨gb246, 4, none⟩) (Kd.V_far (p := ⟨gb246, 3, none⟩) (Kd.V_far (p := ⟨gb246, 2, none⟩) (Kd.V_far (p := ⟨gb246, 1, none⟩) (Kd.V_far (p := ⟨gb246, 0, none⟩) (Kd.V_mono HL245_4.out (fun k_ hk => (⟨hk, hk.2⟩ : _ ∧ k_ ≠ gb246))) (fun _ hk => hk.2) (.int .i64 ((rd_T25 t240 x21_1).f0))) (fun _ hk => hk.2) (.string ((rd_T25 t240 x21_1).f1))) (fun _ hk => hk.2) (.string ((rd_T25 t240 x21_1).f2))) (fun _ hk => hk.2) (.slice A245_3 ((rd_T25 t240 x21_1).f3).length c245_3)) (fun _ hk => hk.2) (.slice A245_4 ((rd_T25 t240 x21_1).f4).length c245_4)) (fun _ h_ => h_.1)))).2.2) | (with_reducible refine Kd.C_alloc ?_ _) | (with_reducible refine Kd.C_drewN ?_ _) | (with_reducible refine Kd.C_drew ?_))); (case side4 => exact HC245_4.out); rintro e w29 ⟨rfl, hb⟩; refine ⟨_, rfl, ?_⟩; have n0_ := Aside0.mk (Kd.V_below (by (with_reducible repeat (first | apply Kd.V_alloc | apply Kd.V_drewN | apply Kd.V_drew)); exact (Kd.V_mono (Kd.V_far (p := ⟨gb246, 4, none⟩) (Kd.V_far (p := ⟨gb246, 3, none⟩) (Kd.V_far (p := ⟨gb246, 2, none⟩) (Kd.V_far (p := ⟨gb246, 1, none⟩) (Kd.V_far (p := ⟨gb246, 0, none⟩) (Kd.V_mono HO_19.out (fun k_ hk => (⟨hk, hk.2⟩ : _ ∧ k_ ≠ gb246))) (fun _ hk => hk.2) (.int .i64 ((rd_T25 t240 x21_1).f0))) (fun _ hk => hk.2) (.string ((rd_T25 t240 x21_1).f1))) (fun _ hk => hk.2) (.string ((rd_T25 t240 x21_1).f2))) (fun _ hk => hk.2) (.slice A245_3 ((rd_T25 t240 x21_1).f3).length c245_3)) (fun _ hk => hk.2) (.slice A245_4 ((rd_T25 t240 x21_1).f4).length c245_4)) (fun _ h_ => h_.1))) hb); have n1_ := Aside0.mk (Kd.V_below (by (with_reducible repeat (first | apply Kd.V_alloc | apply Kd.V_drewN | apply Kd.V_drew)); exact (Kd.V_mono (Kd.V_far (p := ⟨gb246, 4, none⟩) (Kd.V_far (p := ⟨gb246, 3, none⟩) (Kd.V_far (p := ⟨gb246, 2, none⟩) (Kd.V_far (p := ⟨gb246, 1, none⟩) (Kd.V_far (p := ⟨gb246, 0, none⟩) (Kd.V_mono HO_245003.out (fun k_ hk => (⟨hk, hk.2⟩ : _ ∧ k_ ≠ gb246))) (fun _ hk => hk.2) (.int .i64 ((rd_T25 t240 x21_1).f0))) (fun _ hk => hk.2) (.string ((rd_T25 t240 x21_1).f1))) (fun _ hk => hk.2) (.string ((rd_T25 t240 x21_1).f2))) (fun _ hk => hk.2) (.slice A245_3 ((rd_T25 t240 x21_1).f3).length c245_3)) (fun _ hk => hk.2) (.slice A245_4 ((rd_T25 t240 x21_1).f4).length c245_4)) (fun _ h_ => h_.1))) hb); have n2_ := Aside0.mk (Kd.V_below (by (with_reducible repeat (first | apply Kd.V_alloc | apply Kd.V_drewN | apply Kd.V_drew)); exact (Kd.V_mono (Kd.V_far (p := ⟨gb246, 4, none⟩) (Kd.V_far (p := ⟨gb246, 3, none⟩) (Kd.V_far (p := ⟨gb246, 2, none⟩) (Kd.V_far (p := ⟨gb246, 1, none⟩) (Kd.V_far (p := ⟨gb246, 0, none⟩) (Kd.V_mono HO_245004.out (fun k_ hk => (⟨hk, hk.2⟩ : _ ∧ k_ ≠ gb246))) (fun _ hk => hk.2) (.int .i64 ((rd_T25 t240 x21_1).f0))) (fun _ hk => hk.2) (.string ((rd_T25 t240 x21_1).f1))) (fun _ hk => hk.2) (.string ((rd_T25 t240 x21_1).f2))) (fun _ hk => hk.2) (.slice A245_3 ((rd_T25 t240 x21_1).f3).length c245_3)) (fun _ hk => hk.2) (.slice A245_4 ((rd_T25 t240 x21_1).f4).length c245_4)) (fun _ h_ => h_.1))) hb); have n3_ := Aside0.mk (Kd.V_below (by (with_reducible repeat (first | apply Kd.V_alloc | apply Kd.V_drewN | apply Kd.V_drew)); exact (Kd.V_mono (Kd.V_far (p := ⟨gb246, 4, none⟩) (Kd.V_far (p := ⟨gb246, 3, none⟩) (Kd.V_far (p := ⟨gb246, 2, none⟩) (Kd.V_far (p := ⟨gb246, 1, none⟩) (Kd.V_far (p := ⟨gb246, 0, none⟩) (Kd.V_mono HL245_3.out (fun k_ hk => (⟨hk, hk.2⟩ : _ ∧ k_ ≠ gb246))) (fun _ hk => hk.2) (.int .i64 ((rd_T25 t240 x21_1).f0))) (fun _ hk => hk.2) (.string ((rd_T25 t240 x21_1).f1))) (fun _ hk => hk.2) (.string ((rd_T25 t240 x21_1).f2))) (fun _ hk => hk.2) (.slice A245_3 ((rd_T25 t240 x21_1).f3).length c245_3)) (fun _ hk => hk.2) (.slice A245_4 ((rd_T25 t240 x21_1).f4).length c245_4)) (fun _ h_ => h_.1))) hb); have n4_ := Aside0.mk (Kd.V_below (by (with_reducible repeat (first | apply Kd.V_alloc | apply Kd.V_drewN | apply Kd.V_drew)); exact (Kd.V_mono (Kd.V_far (p := ⟨gb246, 4, none⟩) (Kd.V_far (p := ⟨gb246, 3, none⟩) (Kd.V_far (p := ⟨gb246, 2, none⟩) (Kd.V_far (p := ⟨gb246, 1, none⟩) (Kd.V_far (p := ⟨gb246, 0, none⟩) (Kd.V_mono HL245_4.out (fun k_ hk => (⟨hk, hk.2⟩ : _ ∧ k_ ≠ gb246))) (fun _ hk => hk.2) (.int .i64 ((rd_T25 t240 x21_1).f0))) (fun _ hk => hk.2) (.string ((rd_T25 t240 x21_1).f1))) (fun _ hk => hk.2) (.string ((rd_T25 t240 x21_1).f2))) (fun _ hk => hk.2) (.slice A245_3 ((rd_T25 t240 x21_1).f3).length c245_3)) (fun _ hk => hk.2) (.slice A245_4 ((rd_T25 t240 x21_1).f4).length c245_4)) (fun _ h_ => h_.1))) hb); have n5_ := Aside0.mk (blk_below (g := gb233) (o := .cells #[.int .i64 a0_0, .string a0_1, .string a0_2, .slice A0_3 l0_3.length c0_3, .slice A0_4 l0_4.length c0_4] 25 (0, 0)) (by (with_reducible repeat (first | refine blk_drewN ?_ _ | refine blk_drew ?_ | refine blk_alloc ?_ _)); refine blk_far ?_ NB233_246.out _; (with_reducible repeat (first | refine blk_drewN ?_ _ | refine blk_drew ?_ | refine blk_alloc ?_ _)); refine blk_far ?_ NB233_246.out _; (with_reducible repeat (first | refine blk_drewN ?_ _ | refine blk_drew ?_ | refine blk_alloc ?_ _)); refine blk_far ?_ NB233_246.out _; (with_reducible repeat (first | refine blk_drewN ?_ _ | refine blk_drew ?_ | refine blk_alloc ?_ _)); refine blk_far ?_ NB233_246.out _; (with_reducible repeat (first | refine blk_drewN ?_ _ | refine blk_drew ?_ | refine blk_alloc ?_ _)); refine blk_far ?_ NB233_246.out _; (with_reducible repeat (first | refine blk_drewN ?_ _ | refine blk_drew ?_ | refine blk_alloc ?_ _)); exact BK233.out) hb); have n6_ := Aside0.mk (blk_below (g := gb244) (o := .cells #[.int .i64 t234, .string t235, .string t236, .slice Ao11 t237.length co11, .slice (some ad245) t240.length co12] 25 (0, 0)) (by (with_reducible repeat (first | refine blk_drewN ?_ _ | refine blk_drew ?_ | refine blk_alloc ?_ _)); refine blk_far ?_ NB244_246.out _; (with_reducible repeat (first | refine blk_drewN ?_ _ | refine blk_drew ?_ | refine blk_alloc ?_ _)); refine blk_far ?_ NB244_246.out _; (with_reducible repeat (first | refine blk_drewN ?_ _ | refine blk_drew ?_ | refine blk_alloc ?_ _)); refine blk_far ?_ NB244_246.out _; (with_reducible repeat (first | refine blk_drewN ?_ _ | refine blk_drew ?_ | refine blk_alloc ?_ _)); refine blk_far ?_ NB244_246.out _; (with_reducible repeat (first | refine blk_drewN ?_ _ | refine blk_drew ?_ | refine blk_alloc ?_ _)); refine blk_far ?_ NB244_246.out _; (with_reducible repeat (first | refine blk_drewN ?_ _ | refine blk_drew ?_ | refine blk_alloc ?_ _)); exact BK244.out) hb); have n7_ := Aside0.mk (Kd.C_below ((Kd.V_reads' (by (with_reducible repeat (first | apply Kd.V_alloc | apply Kd.V_drewN | apply Kd.V_drew)); exact (Kd.V_mono (Kd.V_far (p := ⟨gb246, 4, none⟩) (Kd.V_far (p := ⟨gb246, 3, none⟩) (Kd.V_far (p := ⟨gb246, 2, none⟩) (Kd.V_far (p := ⟨gb246, 1, none⟩) (Kd.V_far (p := ⟨gb246, 0, none⟩) (Kd.V_mono HL245_3.out (fun k_ hk => (⟨hk, hk.2⟩ : _ ∧ k_ ≠ gb246))) (fun _ hk => hk.2) (.int .i64 ((rd_T25 t240 x21_1).f0))) (fun _ hk => hk.2) (.string ((rd_T25 t240 x21_1).f1))) (fun _ hk => hk.2) (.string ((rd_T25 t240 x21_1).f2))) (fun _ hk => hk.2) (.slice A245_3 ((rd_T25 t240 x21_1).f3).length c245_3)) (fun _ hk => hk.2) (.slice A245_4 ((rd_T25 t240 x21_1).f4).length c245_4)) (fun _ h_ => h_.1)))).2.2) hb); have n8_ := Aside0.mk (Kd.C_below ((Kd.V_reads' (by (with_reducible repeat (first | apply Kd.V_alloc | apply Kd.V_drewN | apply Kd.V_drew)); exact (Kd.V_mono (Kd.V_far (p := ⟨gb246, 4, none⟩) (Kd.V_far (p := ⟨gb246, 3, none⟩) (Kd.V_far (p := ⟨gb246, 2, none⟩) (Kd.V_far (p := ⟨gb246, 1, none⟩) (Kd.V_far (p := ⟨gb246, 0, none⟩) (Kd.V_mono HL245_4.out (fun k_ hk => (⟨hk, hk.2⟩ : _ ∧ k_ ≠ gb246))) (fun _ hk => hk.2) (.int .i64 ((rd_T25 t240 x21_1).f0))) (fun _ hk => hk.2) (.string ((rd_T25 t240 x21_1).f1))) (fun _ hk => hk.2) (.string ((rd_T25 t240 x21_1).f2))) (fun _ hk => hk.2) (.slice A245_3 ((rd_T25 t240 x21_1).f3).length c245_3)) (fun _ hk => hk.2) (.slice A245_4 ((rd_T25 t240 x21_1).f4).length c245_4)) (fun _ h_ => h_.1)))).2.2) hb); have n9_ := Aside0.mk (blk_below (g := gb246) (o := .cells #[.int .i64 ((rd_T25 t240 x21_1).f0), .string ((rd_T25 t240 x21_1).f1), .string ((rd_T25 t240 x21_1).f2), .slice A245_3 ((rd_T25 t240 x21_1).f3).length c245_3, .slice A245_4 ((rd_T25 t240 x21_1).f4).length c245_4] 25 (0, 0)) (by (with_reducible repeat (first | refine blk_drewN ?_ _ | refine blk_drew ?_ | refine blk_alloc ?_ _)); refine blk_put (cs := #[.int .i64 ((rd_T25 t240 x21_1).f0), .string ((rd_T25 t240 x21_1).f1), .string ((rd_T25 t240 x21_1).f2), .slice A245_3 ((rd_T25 t240 x21_1).f3).length c245_3, .slice none 0 0]) ?_ 4 _ rfl; (with_reducible repeat (first | refine blk_drewN ?_ _ | refine blk_drew ?_ | refine blk_alloc ?_ _)); refine blk_put (cs := #[.int .i64 ((rd_T25 t240 x21_1).f0), .string ((rd_T25 t240 x21_1).f1), .string ((rd_T25 t240 x21_1).f2), .slice none 0 0, .slice none 0 0]) ?_ 3 _ rfl; (with_reducible repeat (first | refine blk_drewN ?_ _ | refine blk_drew ?_ | refine blk_alloc ?_ _)); refine blk_put (cs := #[.int .i64 ((rd_T25 t240 x21_1).f0), .string ((rd_T25 t240 x21_1).f1), .string (⟨#[]⟩ : ByteArray), .slice none 0 0, .slice none 0 0]) ?_ 2 _ rfl; (with_reducible repeat (first | refine blk_drewN ?_ _ | refine blk_drew ?_ | refine blk_alloc ?_ _)); refine blk_put (cs := #[.int .i64 ((rd_T25 t240 x21_1).f0), .string (⟨#[]⟩ : ByteArray), .string (⟨#[]⟩ : ByteArray), .slice none 0 0, .slice none 0 0]) ?_ 1 _ rfl; (with_reducible repeat (first | refine blk_drewN ?_ _ | refine blk_drew ?_ | refine blk_alloc ?_ _)); refine blk_put (cs := #[.int .i64 0, .string (⟨#[]⟩ : ByteArray), .string (⟨#[]⟩ : ByteArray), .slice none 0 0, .slice none 0 0]) ?_ 0 _ rfl; (with_reducible repeat (first | refine blk_drewN ?_ _ | refine blk_drew ?_ | refine blk_alloc ?_ _)); exact BK246.out) hb); have n10_ := Aside0.mk (below_step (by repeat (first | (with_reducible first | exact HB.out | apply below_alloc | apply pw_below_drewN | apply below_drew1 | refine below_set ?_ GE233.out | refine below_set ?_ GE244.out | refine below_set ?_ GE246.out) | exact HB.out)) hb); clear HO_19; clear HO_245003; clear HO_245004; clear HL245_3; clear HL245_4; clear BK233; clear BK244; clear HR245_3; clear HR245_4; clear BK246; clear HB; have HO_19 := n0_; have HO_245003 := n1_; have HO_245004 := n2_; have HL245_3 := n3_; have HL245_4 := n4_; have BK233 := n5_; have BK244 := n6_; have HR245_3 := n7_; have HR245_4 := n8_; have BK246 := n9_; have HB := n10_; clear n0_ n1_ n2_ n3_ n4_ n5_ n6_ n7_ n8_ n9_ n10_; (try clear hb); (try clear hb2); (try clear hk); (try clear hi)))
              go_roundg k1
              case measure => have := HK1.out; omega
              case rel => exact ⟨(wrap64 (x21_1 + 1)), (by first | rfl | (simp; done) | (simp [*]; done)), H', ⟨by have := HK1.out; omega⟩, ⟨by (with_reducible repeat (first | apply Kd.V_alloc | apply Kd.V_drewN | apply Kd.V_drew)); exact Kd.V_mono HO_19.out (fun _ hk => ⟨hk.1.1, hk.1.2⟩)⟩, ⟨by (with_reducible repeat (first | apply Kd.V_alloc | apply Kd.V_drewN | apply Kd.V_drew)); exact Kd.V_mono HO_245003.out (fun _ hk => ⟨hk.1.1, hk.1.2⟩)⟩, ⟨by (with_reducible repeat (first | apply Kd.V_alloc | apply Kd.V_drewN | apply Kd.V_drew)); exact Kd.V_mono HO_245004.out (fun _ hk => ⟨hk.1.1, hk.1.2⟩)⟩, ⟨by (with_reducible repeat (first | refine blk_drewN ?_ _ | refine blk_drew ?_ | refine blk_alloc ?_ _)); exact BK233.out⟩, ⟨by (with_reducible repeat (first | refine blk_drewN ?_ _ | refine blk_drew ?_ | refine blk_alloc ?_ _)); exact BK244.out⟩, ⟨by repeat (first | (with_reducible first | exact HB.out | apply below_alloc | apply pw_below_drewN | apply below_drew1 | refine below_set ?_ GE233.out | refine below_set ?_ GE244.out | refine below_set ?_ GE246.out) | exact HB.out)⟩⟩
          · rw [if_neg c15] at H
            exact absurd H (by simp)
        · rw [if_neg c14] at H
          exact absurd H (by simp)
      · rw [if_neg c13] at H
        have c13b0 : decide (x21_1 < (t240.length : Int)) = false := decide_eq_false c13
        clear c13
        simp only [Option.some.injEq, Prod.mk.injEq] at H
        obtain ⟨rfl, rfl⟩ := H
        go_wp2
        go_ret2
        exact ⟨_, by first | rfl | (simp [errW_none, errW_some] <;> rfl) | (simp [*, errW_none, errW_some] <;> rfl), by first | exact Kd.R_nil _ _ _ _ _ | exact Kd.N_nil _ _ _ _ _ | exact Kd.V_nil _ _ _ _ _ | exact Kd.Q_nil _ _ _ _ _ | exact Kd.S_nil _ _ _ _ _, by repeat (first | (with_reducible first | exact HB.out | apply below_alloc | apply pw_below_drewN | apply below_drew1 | refine below_set ?_ GE233.out | refine below_set ?_ GE244.out) | exact HB.out)⟩

end Go.Proofs.Ytlallihdiffheaa.GT
