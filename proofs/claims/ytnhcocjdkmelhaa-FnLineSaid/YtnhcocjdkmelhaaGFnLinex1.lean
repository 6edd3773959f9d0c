-- made by a program of this session, after the kit's print
import Derived.Test.YtnhcocjdkmelhaaGFnLinex0
namespace Go.Proofs.Ytnhcocjdkmelhaa.GFnLine
open Go.RowKit Go.Proofs.YtnhcocjdkmelhaaW.PrintWords Go.Proofs.YtnhcocjdkmelhaaW.PrintLast Go.Proofs.YtnhcocjdkmelhaaW.PrintMore
attribute [local go_sem] max2_int min2_int max_two min_two max_three min_three max_four min_four   -- for this text's walks alone
set_option linter.unusedVariables false
set_option linter.unusedSimpArgs false

/-! ### laws_zzFits5: function 11 -/
def laws_zzFits5.l0 : Nat → List ByteArray → Int → Int → Option (Bool)
  | 0, _, _, _ => none
  | k + 1, x8, x9, x10 => if x10 < x9 then (if 0 ≤ x10 then (if x10 < (x8.length : Int) then (if ((rdOf ByteArray.empty x8 x10).size : Int) > 2147483647 then (some false) else (laws_zzFits5.l0 k x8 x9 (wrap64 (x10 + 1)))) else (none)) else (none)) else (some true)
def laws_zzFits5.f (k : Nat) (l0 : List ByteArray) : Option (Bool) := if (l0.length : Int) > 2147483647 then (some false) else (laws_zzFits5.l0 k l0 (l0.length : Int) 0)
theorem laws_zzFits5.mono_l : ∀ k, (∀ y0 y1 y2, LeO (laws_zzFits5.l0 k y0 y1 y2) (laws_zzFits5.l0 (k + 1) y0 y1 y2))
  | 0 => fun _ _ _ r h => by simp [laws_zzFits5.l0] at h
  | k + 1 => by
    have ih0 := laws_zzFits5.mono_l k
    · intro y0 y1 y2
      unfold laws_zzFits5.l0
      repeat' first
      | (with_reducible exact ih0 _ _ _)
      | (with_reducible exact LeO.refl _)
      | (with_reducible exact LeO.none _)
      | (with_reducible refine LeO.ite ?_ ?_)
      | (with_reducible refine LeO.bind ?_ (fun _ => ?_))
      | exact ih0 _ _ _
      | exact LeO.none _
      | refine LeO.ite ?_ ?_
      | refine LeO.bind ?_ (fun _ => ?_)
theorem laws_zzFits5.mono : ∀ a0 k, LeO (laws_zzFits5.f k a0) (laws_zzFits5.f (k + 1) a0) := by
  intro a0 k
  have ih0 := laws_zzFits5.mono_l k
  unfold laws_zzFits5.f
  repeat' first
      | (with_reducible exact ih0 _ _ _)
      | (with_reducible exact LeO.refl _)
      | (with_reducible exact LeO.none _)
      | (with_reducible refine LeO.ite ?_ ?_)
      | (with_reducible refine LeO.bind ?_ (fun _ => ?_))
      | exact ih0 _ _ _
      | exact LeO.none _
      | refine LeO.ite ?_ ?_
      | refine LeO.bind ?_ (fun _ => ?_)
set_option maxHeartbeats 8000000 in
set_option maxRecDepth 100000 in
theorem laws_zzFits5.calls (k : Nat) (A0 : Option Addr) (c0 : Nat) (l0 : List ByteArray) (r : Bool) (w : World) (hr0 : Kd.C Kd.string w A0 l0.length l0) (hc0 : l0.length ≤ c0) (h : laws_zzFits5.f k l0 = some r) :
    Calls Try.prog 11 #[.slice A0 l0.length c0] w fun e w' => e = .returned (.bool r) ∧ Drawn0 w w' := by
  have HR0 := Aside0.mk hr0
  have HC0 := Aside0.mk hc0
  clear hr0 hc0
  have H : (if (l0.length : Int) > 2147483647 then (some false) else (laws_zzFits5.l0 k l0 (l0.length : Int) 0)) = some r := h
  clear h
  by_cases c2 : (l0.length : Int) > 2147483647
  · rw [if_pos c2] at H
    have c2b0 : decide (2147483647 < (l0.length : Int)) = true := decide_eq_true c2
    have c2b1 : decide (2147483647 < l0.length) = true := decide_eq_true (by omega)
    clear c2
    obtain rfl := Option.some.inj H
    go_enter Try.func11, Try.ntmps11
    go_wp2
    go_ret
    exact ⟨by first | rfl | (simp; done) | (simp [*]; done), by repeat (first | exact Drawn0.refl _ | apply Drawn0.step)⟩
  · rw [if_neg c2] at H
    have c2b0 : decide (2147483647 < (l0.length : Int)) = false := decide_eq_false c2
    have c2b1 : decide (2147483647 < l0.length) = false := decide_eq_false (by omega)
    clear c2
    have H' := Aside0.mk H
    clear H
    go_enter Try.func11, Try.ntmps11
    go_wp2
    go_loopg [10] k (fun kq v10 w' => ∃ (x10_1 : Int), v10 = .int .i64 x10_1 ∧ Aside0 (laws_zzFits5.l0 kq l0 (l0.length : Int) x10_1 = some r) ∧ Aside0 (kq ≤ k) ∧ Drawn0 w w')
    case atStart => exact ⟨(0), (by first | rfl | (simp; done) | (simp [*]; done)), H', ⟨Nat.le_refl _⟩, by repeat (first | exact Drawn0.refl _ | apply Drawn0.step)⟩
    case round =>
      clear H'
      try clear c1
      try clear c2
      try clear c2b0
      try clear c2b1
      try clear p2
      obtain ⟨x10_1, rfl, HA, HK1, ⟨m1, rfl⟩⟩ := hrel
      cases gk with
      | zero => exact absurd HA.out (by simp [laws_zzFits5.l0])
      | succ k1 =>
        have H := HA.out
        clear HA
        simp only [laws_zzFits5.l0] at H
        by_cases c3 : x10_1 < (l0.length : Int)
        · rw [if_pos c3] at H
          have c3b0 : decide (x10_1 < (l0.length : Int)) = true := decide_eq_true c3
          clear c3
          by_cases c4 : 0 ≤ x10_1
          · rw [if_pos c4] at H
            have c4b0 : decide (0 ≤ x10_1) = true := decide_eq_true c4
            clear c4
            by_cases c5 : x10_1 < (l0.length : Int)
            · rw [if_pos c5] at H
              have c5b0 : decide (x10_1 < (l0.length : Int)) = true := decide_eq_true c5
              clear c5
              by_cases c6 : ((rdOf ByteArray.empty l0 x10_1).size : Int) > 2147483647
              · rw [if_pos c6] at H
                have c6b0 : decide (2147483647 < ((rdOf ByteArray.empty l0 x10_1).size : Int)) = true := decide_eq_true c6
                have c6b1 : decide (2147483647 < (rdOf ByteArray.empty l0 x10_1).size) = true := decide_eq_true (by omega)
                clear c6
                obtain rfl := Option.some.inj H
                have p101 : 0 ≤ (x10_1 : Int) := of_decide_eq_true (by first | (with_reducible assumption) | assumption)
                have q101 : x10_1 < (l0.length : Int) := of_decide_eq_true (by first | (with_reducible assumption) | assumption)
                obtain ⟨ad101, e101, hx101_0⟩ := Kd.at_string HR0.out x10_1 p101 q101
                cases e101
                replace p101 := eq_true p101
                replace q101 := eq_true q101
                go_wp2
                go_ret
                exact ⟨by first | rfl | (simp; done) | (simp [*]; done), by repeat (first | exact Drawn0.refl _ | apply Drawn0.step)⟩
              · rw [if_neg c6] at H
                have c6b0 : decide (2147483647 < ((rdOf ByteArray.empty l0 x10_1).size : Int)) = false := decide_eq_false c6
                have c6b1 : decide (2147483647 < (rdOf ByteArray.empty l0 x10_1).size) = false := decide_eq_false (by omega)
                clear c6
                have H' := Aside0.mk H
                clear H
                have p101 : 0 ≤ (x10_1 : Int) := of_decide_eq_true (by first | (with_reducible assumption) | assumption)
                have q101 : x10_1 < (l0.length : Int) := of_decide_eq_true (by first | (with_reducible assumption) | assumption)
                obtain ⟨ad101, e101, hx101_0⟩ := Kd.at_string HR0.out x10_1 p101 q101
                cases e101
                replace p101 := eq_true p101
                replace q101 := eq_true q101
                go_wp2
                go_roundg k1
                case measure => have := HK1.out; omega
                case rel => exact ⟨(wrap64 (x10_1 + 1)), (by first | rfl | (simp; done) | (simp [*]; done)), H', ⟨by have := HK1.out; omega⟩, by repeat (first | exact Drawn0.refl _ | apply Drawn0.step)⟩
            · rw [if_neg c5] at H
              exact absurd H (by simp)
          · rw [if_neg c4] at H
            exact absurd H (by simp)
        · rw [if_neg c3] at H
          have c3b0 : decide (x10_1 < (l0.length : Int)) = false := decide_eq_false c3
          clear c3
          obtain rfl := Option.some.inj H
          go_wp2
          go_ret
          exact ⟨by first | rfl | (simp; done) | (simp [*]; done), by repeat (first | exact Drawn0.refl _ | apply Drawn0.step)⟩

/-! ### spec_Times29: function 12 -/
def spec_Times29.l0 : Nat → ByteArray → List Int → Int → Int → Option (ByteArray)
  | 0, _, _, _, _ => none
  | k + 1, x0, x5, x7, x8 => if x8 < x7 then (if x5.length + x0.size < 140737488355328 then (spec_Times29.l0 k x0 (x5 ++ bytesOf x0) x7 (wrap64 (x8 + 1))) else (none)) else (some (strOfNums x5))
def spec_Times29.f (k : Nat) (a0 : ByteArray) (a1 : Int) : Option (ByteArray) := spec_Times29.l0 k a0 (([] : List Int)) a1 0
theorem spec_Times29.mono_l : ∀ k, (∀ y0 y1 y2 y3, LeO (spec_Times29.l0 k y0 y1 y2 y3) (spec_Times29.l0 (k + 1) y0 y1 y2 y3))
  | 0 => fun _ _ _ _ r h => by simp [spec_Times29.l0] at h
  | k + 1 => by
    have ih0 := spec_Times29.mono_l k
    · intro y0 y1 y2 y3
      unfold spec_Times29.l0
      repeat' first
      | (with_reducible exact ih0 _ _ _ _)
      | (with_reducible exact LeO.refl _)
      | (with_reducible exact LeO.none _)
      | (with_reducible refine LeO.ite ?_ ?_)
      | (with_reducible refine LeO.bind ?_ (fun _ => ?_))
      | exact ih0 _ _ _ _
      | exact LeO.none _
      | refine LeO.ite ?_ ?_
      | refine LeO.bind ?_ (fun _ => ?_)
theorem spec_Times29.mono : ∀ a0 a1 k, LeO (spec_Times29.f k a0 a1) (spec_Times29.f (k + 1) a0 a1) := by
  intro a0 a1 k
  have ih0 := spec_Times29.mono_l k
  unfold spec_Times29.f
  repeat' first
      | (with_reducible exact ih0 _ _ _ _)
      | (with_reducible exact LeO.refl _)
      | (with_reducible exact LeO.none _)
      | (with_reducible refine LeO.ite ?_ ?_)
      | (with_reducible refine LeO.bind ?_ (fun _ => ?_))
      | exact ih0 _ _ _ _
      | exact LeO.none _
      | refine LeO.ite ?_ ?_
      | refine LeO.bind ?_ (fun _ => ?_)
set_option maxHeartbeats 8000000 in
set_option maxRecDepth 100000 in
theorem spec_Times29.calls (k : Nat) (a0 : ByteArray) (a1 : Int) (r : ByteArray) (w : World) (h : spec_Times29.f k a0 a1 = some r) :
    Calls Try.prog 12 #[.string a0, .int .i64 a1] w fun e w' => e = .returned (.string r) ∧ Below w.heap.size w w' := by
  have HB := Aside0.mk (Below.refl w.heap.size w)
  have H : (spec_Times29.l0 k a0 (([] : List Int)) a1 0) = some r := h
  clear h
  obtain ⟨y102, hy102⟩ : ∃ y_ : List Int, y_ = (([] : List Int)) := ⟨_, rfl⟩
  replace H : (spec_Times29.l0 k a0 y102 a1 0) = some r := by first | (rw [hy102]; with_reducible exact H) | (have H2_ := (Option.bind_some _ _).symm.trans H; rw [hy102]; with_reducible exact H2_) | (have H2_ := (Option.bind_some _ _).symm.trans H; with_reducible exact H2_) | with_reducible exact H | (rw [hy102]; exact H) | exact H
  have Ny102 := Aside0.mk hy102
  clear hy102
  have H' := Aside0.mk H
  clear H
  go_enter Try.func12, Try.ntmps12
  go_wp2_with (first | ((with_reducible refine gate_dst (N := 6) rfl ?_); refine Kd.R_lit (Kd.int .u8) _ 5 ?hg (N := 6) ?hd (xs := ([] : List Int)) (inner := []) (ok := fun _ => True) (okp := fun _ => True) ?hr ?hp (fun _ hk => hk) trivial (Below.refl _ _) (Nat.le_refl _) (by simp) ?_; (case hd => rfl); (case hg => rfl); (case hr => first | (go_simp; done) | (go_simp; rfl)); (case hp => exact (Reps.none _ _)); intro v103 w3 ho4 hb hg_ hnew_; clear hg_ hnew_; (first | rw [← Ny102.out] at ho4 | (simp only [Int.reduceToNat] at ho4; rw [← Ny102.out] at ho4)); have n0_ := Aside0.mk (Kd.R_lower ho4 (below_size (by repeat (first | (with_reducible first | exact HB.out | apply below_alloc | apply pw_below_drewN | apply below_drew1) | exact HB.out)))); have n1_ := Aside0.mk (below_step (by repeat (first | (with_reducible first | exact HB.out | apply below_alloc | apply pw_below_drewN | apply below_drew1) | exact HB.out)) hb); clear HB; have HO104 := n0_; have HB := n1_; clear n0_ n1_; clear hb ho4))
  go_loopg [5, 8] k (fun kq v5 v8 w' => ∃ (x5_1 : List Int) (x8_1 : Int), v8 = .int .i64 x8_1 ∧ Aside0 (spec_Times29.l0 kq a0 x5_1 a1 x8_1 = some r) ∧ Aside0 (kq ≤ k) ∧ Aside0 (Kd.R (Kd.int .u8) 5 w' w.heap.size (fun _ => True) v5 x5_1) ∧ Aside0 (Below w.heap.size w w'))
  case atStart => exact ⟨(y102), (0), (by first | rfl | (simp; done) | (simp [*]; done)), H', ⟨Nat.le_refl _⟩, ⟨by (with_reducible repeat (first | apply Kd.R_alloc | apply Kd.R_drewN | apply Kd.R_drew)); exact HO104.out⟩, ⟨by repeat (first | (with_reducible first | exact HB.out | apply below_alloc | apply pw_below_drewN | apply below_drew1) | exact HB.out)⟩⟩
  case round =>
    clear H'
    try clear c1
    try clear p2
    obtain ⟨x5_1, x8_1, rfl, HA, HK1, HO_5, HB⟩ := hrel
    cases gk with
    | zero => exact absurd HA.out (by simp [spec_Times29.l0])
    | succ k1 =>
      have H := HA.out
      clear HA
      simp only [spec_Times29.l0] at H
      by_cases c5 : x8_1 < a1
      · rw [if_pos c5] at H
        have c5b0 : decide (x8_1 < a1) = true := decide_eq_true c5
        clear c5
        by_cases c6 : x5_1.length + a0.size < 140737488355328
        · rw [if_pos c6] at H
          have LMc6 := Aside0.mk c6
          clear c6
          obtain ⟨y105, hy105⟩ : ∃ y_ : List Int, y_ = (x5_1 ++ bytesOf a0) := ⟨_, rfl⟩
          replace H : (spec_Times29.l0 k1 a0 y105 a1 (wrap64 (x8_1 + 1))) = some r := by first | (rw [hy105]; with_reducible exact H) | (have H2_ := (Option.bind_some _ _).symm.trans H; rw [hy105]; with_reducible exact H2_) | (have H2_ := (Option.bind_some _ _).symm.trans H; with_reducible exact H2_) | with_reducible exact H | (rw [hy105]; exact H) | exact H
          have Ny105 := Aside0.mk hy105
          clear hy105
          have H' := Aside0.mk H
          clear H
          go_wp2_with (first | (at_builtin; refine print_append_str (w0 := w) w.heap.size rfl (.tmp 10) _ 46 9 5 rfl Try.underlying46 Try.underlying9 info5 u5 x5_1 a0 rfl rfl ?aO ?aB ?aS ?aL ?_; (case aB => exact (by repeat (first | (with_reducible first | exact HB.out | apply below_alloc | apply pw_below_drewN | apply below_drew1) | exact HB.out))); (case aO => exact (Kd.own_of_R (by (with_reducible repeat (first | apply Kd.R_alloc | apply Kd.R_drewN | apply Kd.R_drew)); exact HO_5.out))); (case aS => exact (below_size (by repeat (first | (with_reducible first | exact HB.out | apply below_alloc | apply pw_below_drewN | apply below_drew1) | exact HB.out)))); (case aL => have := LMc6.out; (first | omega | (simp only [ByteArray.size, List.size_toArray, List.length_cons, List.length_nil]; omega))); intro v106 w7 ho0 hb hg; have ho := Kd.R_of_own (h1 := fun _ => rfl) (ok := fun _ => True) ho0 (fun _ _ => trivial); clear ho0; have hat := True.intro; rw [← Ny105.out] at ho; change Kd.R (Kd.int .u8) 5 w7 w.heap.size (fun _ => True) v106 y105 at ho; have n0_ := Aside0.mk (hb); have n1_ := Aside0.mk (ho); clear HB; clear HO_5; have HB := n0_; have HO107 := n1_; clear n0_ n1_; clear ho hb hg hat))
          go_roundg k1
          case measure => have := HK1.out; omega
          case rel => exact ⟨(y105), (wrap64 (x8_1 + 1)), (by first | rfl | (simp; done) | (simp [*]; done)), H', ⟨by have := HK1.out; omega⟩, ⟨by (with_reducible repeat (first | apply Kd.R_alloc | apply Kd.R_drewN | apply Kd.R_drew)); exact HO107.out⟩, ⟨by repeat (first | (with_reducible first | exact HB.out | apply below_alloc | apply pw_below_drewN | apply below_drew1) | exact HB.out)⟩⟩
        · rw [if_neg c6] at H
          exact absurd H (by simp)
      · rw [if_neg c5] at H
        have c5b0 : decide (x8_1 < a1) = false := decide_eq_false c5
        clear c5
        obtain rfl := Option.some.inj H
        have hcv8 := own_string (P := Try.prog) Try.underlying46 Try.underlying5 Try.underlying9 (Kd.own_of_R HO_5.out)
        go_wp2
        go_ret
        exact ⟨by first | rfl | (simp [errW_none, errW_some] <;> rfl) | (simp [*, errW_none, errW_some] <;> rfl), by repeat (first | (with_reducible first | exact HB.out | apply below_alloc | apply pw_below_drewN | apply below_drew1) | exact HB.out)⟩

-- GIVEN: function 13 (impl_Line)

end Go.Proofs.Ytnhcocjdkmelhaa.GFnLine
