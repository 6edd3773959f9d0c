-- made by a program of this session, after the kit's print
import Derived.Test.YticofikbijldiaaGFnPercentx0
import Derived.Test.YticofikbijldiaaGivFnPercent
namespace Go.Proofs.Yticofikbijldiaa.GFnPercent
open Go.RowKit Go.Proofs.YticofikbijldiaaW.PrintWords Go.Proofs.YticofikbijldiaaW.PrintLast Go.Proofs.YticofikbijldiaaW.PrintMore
attribute [local go_sem] max2_int min2_int max_two min_two max_three min_three max_four min_four   -- for this text's walks alone
set_option linter.unusedVariables false
set_option linter.unusedSimpArgs false

/-! ### laws_inlineHex: function 69 -/
mutual
def laws_inlineHex.j0 : Nat → Int → Bool → Option (Int)
  | 0, _, _ => none
  | k + 1, x0, x3 => if x3 = true then (some ((x0 - 48) % 256)) else (if x0 ≥ 65 then (laws_inlineHex.j1 k x0 (decide (x0 ≤ 70))) else (laws_inlineHex.j1 k x0 false))
def laws_inlineHex.j1 : Nat → Int → Bool → Option (Int)
  | 0, _, _ => none
  | k + 1, x0, x13 => if x13 = true then (some (((x0 - 65) % 256) + 10)) else (if x0 ≥ 97 then (if x0 ≤ 102 then (some (((x0 - 97) % 256) + 10)) else (some (-1))) else (some (-1)))
end
def laws_inlineHex.f (k : Nat) (a0 : Int) : Option (Int) := if a0 ≥ 48 then (laws_inlineHex.j0 k a0 (decide (a0 ≤ 57))) else (laws_inlineHex.j0 k a0 false)
theorem laws_inlineHex.mono_l : ∀ k, (∀ y0 y1, LeO (laws_inlineHex.j0 k y0 y1) (laws_inlineHex.j0 (k + 1) y0 y1)) ∧ (∀ y0 y1, LeO (laws_inlineHex.j1 k y0 y1) (laws_inlineHex.j1 (k + 1) y0 y1))
  | 0 => ⟨fun _ _ r h => by simp [laws_inlineHex.j0] at h, fun _ _ r h => by simp [laws_inlineHex.j1] at h⟩
  | k + 1 => by
    obtain ⟨ih0, ih1⟩ := laws_inlineHex.mono_l k
    refine ⟨?_, ?_⟩
    · intro y0 y1
      unfold laws_inlineHex.j0
      repeat' first
      | (with_reducible exact ih0 _ _)
      | (with_reducible exact ih1 _ _)
      | (with_reducible exact LeO.refl _)
      | (with_reducible exact LeO.none _)
      | (with_reducible refine LeO.ite ?_ ?_)
      | (with_reducible refine LeO.bind ?_ (fun _ => ?_))
      | exact ih0 _ _
      | exact ih1 _ _
      | exact LeO.none _
      | refine LeO.ite ?_ ?_
      | refine LeO.bind ?_ (fun _ => ?_)
    · intro y0 y1
      unfold laws_inlineHex.j1
      repeat' first
      | (with_reducible exact ih0 _ _)
      | (with_reducible exact ih1 _ _)
      | (with_reducible exact LeO.refl _)
      | (with_reducible exact LeO.none _)
      | (with_reducible refine LeO.ite ?_ ?_)
      | (with_reducible refine LeO.bind ?_ (fun _ => ?_))
      | exact ih0 _ _
      | exact ih1 _ _
      | exact LeO.none _
      | refine LeO.ite ?_ ?_
      | refine LeO.bind ?_ (fun _ => ?_)
theorem laws_inlineHex.mono : ∀ a0 k, LeO (laws_inlineHex.f k a0) (laws_inlineHex.f (k + 1) a0) := by
  intro a0 k
  obtain ⟨ih0, ih1⟩ := laws_inlineHex.mono_l k
  unfold laws_inlineHex.f
  repeat' first
      | (with_reducible exact ih0 _ _)
      | (with_reducible exact ih1 _ _)
      | (with_reducible exact LeO.refl _)
      | (with_reducible exact LeO.none _)
      | (with_reducible refine LeO.ite ?_ ?_)
      | (with_reducible refine LeO.bind ?_ (fun _ => ?_))
      | exact ih0 _ _
      | exact ih1 _ _
      | exact LeO.none _
      | refine LeO.ite ?_ ?_
      | refine LeO.bind ?_ (fun _ => ?_)
set_option maxHeartbeats 8000000 in
set_option maxRecDepth 100000 in
theorem laws_inlineHex.calls (k : Nat) (a0 : Int) (r : Int) (w : World) (h : laws_inlineHex.f k a0 = some r) :
    Calls Try.prog 69 #[.int .u8 a0] w fun e w' => e = .returned (.int .i64 r) ∧ Drawn0 w w' := by
  have H : (if a0 ≥ 48 then (laws_inlineHex.j0 k a0 (decide (a0 ≤ 57))) else (laws_inlineHex.j0 k a0 false)) = some r := h
  clear h
  have HC2 := Aside0.mk H
  clear H
  go_enter Try.func69, Try.ntmps69
  go_upto_region 1 with (fail)
  go_cut [3] (fun v3 wc => ∃ (kq : Nat) (x3_1 : Bool), v3 = .bool x3_1 ∧ Aside0 (laws_inlineHex.j0 kq a0 x3_1 = some r) ∧ Aside0 (kq ≤ k) ∧ Drawn0 w wc)
  case first =>
    have H := HC2.out
    clear HC2
    by_cases c3 : a0 ≥ 48
    · rw [if_pos c3] at H
      have c3b0 : decide (48 ≤ a0) = true := decide_eq_true c3
      clear c3
      (first | rw [c3b0] | (simp only [i64_w, i32_w]; rw [c3b0]) | skip)
      have H' := Aside0.mk H
      clear H
      go_wp2
      go_meet
      case rel => exact ⟨_, (decide (a0 ≤ 57)), (by first | rfl | (simp; done) | (simp [*]; done)), H', ⟨by first | omega | exact Nat.le_refl _⟩, by repeat (first | exact Drawn0.refl _ | apply Drawn0.step)⟩
    · rw [if_neg c3] at H
      have c3b0 : decide (48 ≤ a0) = false := decide_eq_false c3
      clear c3
      (first | rw [c3b0] | (simp only [i64_w, i32_w]; rw [c3b0]) | skip)
      have H' := Aside0.mk H
      clear H
      go_wp2
      go_meet
      case rel => exact ⟨_, (false), (by first | rfl | (simp; done) | (simp [*]; done)), H', ⟨by first | omega | exact Nat.le_refl _⟩, by repeat (first | exact Drawn0.refl _ | apply Drawn0.step)⟩
  case rest =>
    clear HC2
    try clear p2
    try clear c3
    try clear c3b0
    obtain ⟨kq, x3_1, rfl, HA, HJ1, ⟨mc1, rfl⟩⟩ := hcut
    cases kq with
    | zero => exact absurd HA.out (by simp [laws_inlineHex.j0])
    | succ kj1 =>
      have H := HA.out
      clear HA
      simp only [laws_inlineHex.j0] at H
      by_cases c4 : x3_1 = true
      · subst c4
        have H1 : (some ((a0 - 48) % 256)) = some r := by rw [if_pos rfl] at H; exact H
        clear H
        have H := H1
        clear H1
        obtain rfl := Option.some.inj H
        go_wp2
        go_ret
        exact ⟨by first | rfl | (simp; done) | (simp [*]; done), by repeat (first | exact Drawn0.refl _ | apply Drawn0.step)⟩
      · replace c4 := Bool.eq_false_iff.mpr c4
        subst c4
        have H1 : (if a0 ≥ 65 then (laws_inlineHex.j1 kj1 a0 (decide (a0 ≤ 70))) else (laws_inlineHex.j1 kj1 a0 false)) = some r := by rw [if_neg (show ¬ (false = true) by decide)] at H; exact H
        clear H
        have H := H1
        clear H1
        have HC5 := Aside0.mk H
        clear H
        go_upto_region 3 with (fail)
        go_cut [13] (fun v13 wc => ∃ (kq : Nat) (x13_4 : Bool), v13 = .bool x13_4 ∧ Aside0 (laws_inlineHex.j1 kq a0 x13_4 = some r) ∧ Aside0 (kq ≤ kj1) ∧ Drawn0 w wc)
        case first =>
          have H := HC5.out
          clear HC5
          by_cases c6 : a0 ≥ 65
          · rw [if_pos c6] at H
            have c6b0 : decide (65 ≤ a0) = true := decide_eq_true c6
            clear c6
            (first | rw [c6b0] | (simp only [i64_w, i32_w]; rw [c6b0]) | skip)
            have H' := Aside0.mk H
            clear H
            go_wp2
            go_meet
            case rel => exact ⟨_, (decide (a0 ≤ 70)), (by first | rfl | (simp; done) | (simp [*]; done)), H', ⟨by have := HJ1.out; first | omega | exact Nat.le_refl _⟩, by repeat (first | exact Drawn0.refl _ | apply Drawn0.step)⟩
          · rw [if_neg c6] at H
            have c6b0 : decide (65 ≤ a0) = false := decide_eq_false c6
            clear c6
            (first | rw [c6b0] | (simp only [i64_w, i32_w]; rw [c6b0]) | skip)
            have H' := Aside0.mk H
            clear H
            go_wp2
            go_meet
            case rel => exact ⟨_, (false), (by first | rfl | (simp; done) | (simp [*]; done)), H', ⟨by have := HJ1.out; first | omega | exact Nat.le_refl _⟩, by repeat (first | exact Drawn0.refl _ | apply Drawn0.step)⟩
        case rest =>
          clear HC5
          try clear c1
          try clear p2
          try clear c3
          try clear c3b0
          try clear c4
          try clear c6
          try clear c6b0
          try clear p2
          obtain ⟨kq, x13_4, rfl, HA, HJ4, ⟨mc4, rfl⟩⟩ := hcut
          cases kq with
          | zero => exact absurd HA.out (by simp [laws_inlineHex.j1])
          | succ kj4 =>
            have H := HA.out
            clear HA
            simp only [laws_inlineHex.j1] at H
            by_cases c7 : x13_4 = true
            · subst c7
              have H1 : (some (((a0 - 65) % 256) + 10)) = some r := by rw [if_pos rfl] at H; exact H
              clear H
              have H := H1
              clear H1
              obtain rfl := Option.some.inj H
              go_wp2
              go_ret
              exact ⟨by first | rfl | (simp; done) | (simp [*]; done), by repeat (first | exact Drawn0.refl _ | apply Drawn0.step)⟩
            · replace c7 := Bool.eq_false_iff.mpr c7
              subst c7
              have H1 : (if a0 ≥ 97 then (if a0 ≤ 102 then (some (((a0 - 97) % 256) + 10)) else (some (-1))) else (some (-1))) = some r := by rw [if_neg (show ¬ (false = true) by decide)] at H; exact H
              clear H
              have H := H1
              clear H1
              by_cases c8 : a0 ≥ 97
              · rw [if_pos c8] at H
                have c8b0 : decide (97 ≤ a0) = true := decide_eq_true c8
                clear c8
                by_cases c9 : a0 ≤ 102
                · rw [if_pos c9] at H
                  have c9b0 : decide (a0 ≤ 102) = true := decide_eq_true c9
                  clear c9
                  obtain rfl := Option.some.inj H
                  go_wp2
                  go_ret
                  exact ⟨by first | rfl | (simp; done) | (simp [*]; done), by repeat (first | exact Drawn0.refl _ | apply Drawn0.step)⟩
                · rw [if_neg c9] at H
                  have c9b0 : decide (a0 ≤ 102) = false := decide_eq_false c9
                  clear c9
                  obtain rfl := Option.some.inj H
                  go_wp2
                  go_ret
                  exact ⟨by first | rfl | (simp; done) | (simp [*]; done), by repeat (first | exact Drawn0.refl _ | apply Drawn0.step)⟩
              · rw [if_neg c8] at H
                have c8b0 : decide (97 ≤ a0) = false := decide_eq_false c8
                clear c8
                obtain rfl := Option.some.inj H
                go_wp2
                go_ret
                exact ⟨by first | rfl | (simp; done) | (simp [*]; done), by repeat (first | exact Drawn0.refl _ | apply Drawn0.step)⟩

/-! ### laws_inlineRead: function 43 -/
mutual
def laws_inlineRead.l0 : Nat → ByteArray → List Int → Int → Option (ByteArray)
  | 0, _, _, _ => none
  | k + 1, x0, x3, x4 => if x4 < (x0.size : Int) then (if 0 ≤ x4 then (if (bt x0 x4) = 37 then (if (wrap64 (x4 + 2)) < (x0.size : Int) then (if 0 ≤ (wrap64 (x4 + 1)) then (if (wrap64 (x4 + 1)) < (x0.size : Int) then ((laws_inlineHex.f k (bt x0 (wrap64 (x4 + 1)))).bind fun t151 => (if t151 ≥ 0 then (if 0 ≤ (wrap64 (x4 + 2)) then ((laws_inlineHex.f k (bt x0 (wrap64 (x4 + 2)))).bind fun t152 => (laws_inlineRead.j1 k x0 x3 x4 (decide (t152 ≥ 0)))) else (none)) else (laws_inlineRead.j1 k x0 x3 x4 false))) else (none)) else (none)) else (laws_inlineRead.j1 k x0 x3 x4 false)) else (laws_inlineRead.j1 k x0 x3 x4 false)) else (none)) else (some (strOfNums x3))
def laws_inlineRead.j1 : Nat → ByteArray → List Int → Int → Bool → Option (ByteArray)
  | 0, _, _, _, _ => none
  | k + 1, x0, x3, x4, x38 => if x38 = true then (if 0 ≤ (wrap64 (x4 + 1)) then (if (wrap64 (x4 + 1)) < (x0.size : Int) then ((laws_inlineHex.f k (bt x0 (wrap64 (x4 + 1)))).bind fun t153 => (if 0 ≤ (wrap64 (x4 + 2)) then (if (wrap64 (x4 + 2)) < (x0.size : Int) then ((laws_inlineHex.f k (bt x0 (wrap64 (x4 + 2)))).bind fun t154 => (if x3.length < 140737488355328 then (laws_inlineRead.l0 k x0 (x3 ++ [(wrap64 ((wrap64 (16 * t153)) + t154)) % 256]) (wrap64 ((wrap64 (x4 + 2)) + 1))) else (none))) else (none)) else (none))) else (none)) else (none)) else (if 0 ≤ x4 then (if x4 < (x0.size : Int) then (if x3.length < 140737488355328 then (laws_inlineRead.l0 k x0 (x3 ++ [bt x0 x4]) (wrap64 (x4 + 1))) else (none)) else (none)) else (none))
end
def laws_inlineRead.f (k : Nat) (a0 : ByteArray) : Option (ByteArray) := laws_inlineRead.l0 k a0 (([] : List Int)) 0
theorem laws_inlineRead.mono_l : ∀ k, (∀ y0 y1 y2, LeO (laws_inlineRead.l0 k y0 y1 y2) (laws_inlineRead.l0 (k + 1) y0 y1 y2)) ∧ (∀ y0 y1 y2 y3, LeO (laws_inlineRead.j1 k y0 y1 y2 y3) (laws_inlineRead.j1 (k + 1) y0 y1 y2 y3))
  | 0 => ⟨fun _ _ _ r h => by simp [laws_inlineRead.l0] at h, fun _ _ _ _ r h => by simp [laws_inlineRead.j1] at h⟩
  | k + 1 => by
    obtain ⟨ih0, ih1⟩ := laws_inlineRead.mono_l k
    refine ⟨?_, ?_⟩
    · intro y0 y1 y2
      unfold laws_inlineRead.l0
      repeat' first
      | (with_reducible exact ih0 _ _ _)
      | (with_reducible exact ih1 _ _ _ _)
      | (with_reducible exact laws_inlineHex.mono _ _)
      | (with_reducible exact LeO.refl _)
      | (with_reducible exact LeO.none _)
      | (with_reducible refine LeO.ite ?_ ?_)
      | (with_reducible refine LeO.bind ?_ (fun _ => ?_))
      | exact ih0 _ _ _
      | exact ih1 _ _ _ _
      | exact laws_inlineHex.mono _ _
      | exact LeO.none _
      | refine LeO.ite ?_ ?_
      | refine LeO.bind ?_ (fun _ => ?_)
    · intro y0 y1 y2 y3
      unfold laws_inlineRead.j1
      repeat' first
      | (with_reducible exact ih0 _ _ _)
      | (with_reducible exact ih1 _ _ _ _)
      | (with_reducible exact laws_inlineHex.mono _ _)
      | (with_reducible exact LeO.refl _)
      | (with_reducible exact LeO.none _)
      | (with_reducible refine LeO.ite ?_ ?_)
      | (with_reducible refine LeO.bind ?_ (fun _ => ?_))
      | exact ih0 _ _ _
      | exact ih1 _ _ _ _
      | exact laws_inlineHex.mono _ _
      | exact LeO.none _
      | refine LeO.ite ?_ ?_
      | refine LeO.bind ?_ (fun _ => ?_)
theorem laws_inlineRead.mono : ∀ a0 k, LeO (laws_inlineRead.f k a0) (laws_inlineRead.f (k + 1) a0) := by
  intro a0 k
  obtain ⟨ih0, ih1⟩ := laws_inlineRead.mono_l k
  unfold laws_inlineRead.f
  repeat' first
      | (with_reducible exact ih0 _ _ _)
      | (with_reducible exact ih1 _ _ _ _)
      | (with_reducible exact laws_inlineHex.mono _ _)
      | (with_reducible exact LeO.refl _)
      | (with_reducible exact LeO.none _)
      | (with_reducible refine LeO.ite ?_ ?_)
      | (with_reducible refine LeO.bind ?_ (fun _ => ?_))
      | exact ih0 _ _ _
      | exact ih1 _ _ _ _
      | exact laws_inlineHex.mono _ _
      | exact LeO.none _
      | refine LeO.ite ?_ ?_
      | refine LeO.bind ?_ (fun _ => ?_)
def laws_inlineRead.T6 : Bool × List (List Nat × List Nat) := (true, [([], []), ([], []), ([], []), ([2], [2]), ([1, 3], [1, 3]), ([4], [4]), ([5], [5]), ([], []), ([], []), ([8], [8]), ([7, 9], [7, 9]), ([10, 5], [10]), ([6, 11], [6, 11]), ([12], [12]), ([13], [13]), ([0, 14, 11], [0, 14]), ([15, 15, 0, 1, 2, 3, 4, 5, 6, 7, 8, 9, 10, 11, 12, 13, 14, 15], [0, 15])])
def laws_inlineRead.B6 : List Nat := [0, 0, 0, 4, 14, 30, 62, 0, 0, 256, 896, 1982, 4094, 8190, 16382, 32767, 65535]
theorem laws_inlineRead.tab6 : rtab .any (opsOf Try.f43 6) = laws_inlineRead.T6 := by kernel_rfl
theorem laws_inlineRead.bits6 : waitsOk laws_inlineRead.T6.2 laws_inlineRead.B6 = true := by kernel_rfl
set_option maxHeartbeats 8000000 in
set_option maxRecDepth 100000 in
theorem laws_inlineRead.calls (k : Nat) (a0 : ByteArray) (r : ByteArray) (w : World) (h : laws_inlineRead.f k a0 = some r) :
    Calls Try.prog 43 #[.string a0] w fun e w' => e = .returned (.string r) ∧ Below w.heap.size w w' := by
  have HB := Aside0.mk (Below.refl w.heap.size w)
  have H : (laws_inlineRead.l0 k a0 (([] : List Int)) 0) = some r := h
  clear h
  obtain ⟨y148, hy148⟩ : ∃ y_ : List Int, y_ = (([] : List Int)) := ⟨_, rfl⟩
  replace H : (laws_inlineRead.l0 k a0 y148 0) = some r := by first | (rw [hy148]; with_reducible exact H) | (have H2_ := (Option.bind_some _ _).symm.trans H; rw [hy148]; with_reducible exact H2_) | (have H2_ := (Option.bind_some _ _).symm.trans H; with_reducible exact H2_) | with_reducible exact H | (rw [hy148]; exact H) | exact H
  have Ny148 := Aside0.mk hy148
  clear hy148
  have H' := Aside0.mk H
  clear H
  go_enter Try.func43, Try.ntmps43
  go_wp2_with (first | ((with_reducible refine gate_dst (N := 5) rfl ?_); (try (refine gate_guard (by rfl) ?_; dsimp only)); refine Kd.R_lit (Kd.int .u8) _ 5 ?hg (N := 5) ?hd (xs := ([] : List Int)) (inner := []) (ok := fun _ => True) (okp := fun _ => True) ?hr ?hp (fun _ hk => hk) trivial (Below.refl _ _) (Nat.le_refl _) (by simp) ?_; (case hd => rfl); (case hg => rfl); (case hr => first | (go_simp; done) | (go_simp; rfl)); (case hp => exact (Reps.none _ _)); intro v149 w2 ho3 hb hg_ hnew_; clear hg_ hnew_; (first | rw [← Ny148.out] at ho3 | (simp only [Int.reduceToNat] at ho3; rw [← Ny148.out] at ho3)); have n0_ := Aside0.mk (Kd.R_lower ho3 (below_size (by repeat (first | (with_reducible first | exact HB.out | apply below_alloc | apply pw_below_drewN | apply below_drew1) | exact HB.out)))); have n1_ := Aside0.mk (below_step (by repeat (first | (with_reducible first | exact HB.out | apply below_alloc | apply pw_below_drewN | apply below_drew1) | exact HB.out)) hb); clear HB; have HO150 := n0_; have HB := n1_; clear n0_ n1_; clear hb ho3))
  go_loopg [3, 4] k (fun kq v3 v4 w' => ∃ (x3_1 : List Int) (x4_1 : Int), v4 = .int .i64 x4_1 ∧ Aside0 (laws_inlineRead.l0 kq a0 x3_1 x4_1 = some r) ∧ Aside0 (kq ≤ k) ∧ Aside0 (Kd.R (Kd.int .u8) 5 w' w.heap.size (fun _ => True) v3 x3_1) ∧ Aside0 (Below w.heap.size w w'))
  case atStart => exact ⟨(y148), (0), (by first | rfl | (simp; done) | (simp [*]; done)), H', ⟨Nat.le_refl _⟩, ⟨by (with_reducible repeat (first | apply Kd.R_alloc | apply Kd.R_drewN | apply Kd.R_drew)); exact HO150.out⟩, ⟨by repeat (first | (with_reducible first | exact HB.out | apply below_alloc | apply pw_below_drewN | apply below_drew1) | exact HB.out)⟩⟩
  case round =>
    clear H'
    try clear p2
    obtain ⟨x3_1, x4_1, rfl, HA, HK1, HO_3, HB⟩ := hrel
    cases gk with
    | zero => exact absurd HA.out (by simp [laws_inlineRead.l0])
    | succ k1 =>
      have H := HA.out
      clear HA
      simp only [laws_inlineRead.l0] at H
      by_cases c4 : x4_1 < (a0.size : Int)
      · rw [if_pos c4] at H
        have c4b0 : decide (x4_1 < (a0.size : Int)) = true := decide_eq_true c4
        clear c4
        have HC5 := Aside0.mk H
        clear H
        go_upto_region 5 with (fail)
        go_cut [38] (fun v38 wc => ∃ (kq : Nat) (x38_4 : Bool), v38 = .bool x38_4 ∧ Aside0 (laws_inlineRead.j1 kq a0 x3_1 x4_1 x38_4 = some r) ∧ Aside0 (kq ≤ k1) ∧ Aside0 (Kd.R (Kd.int .u8) 5 wc w.heap.size (fun _ => True) u3 x3_1) ∧ Aside0 (Below w.heap.size w wc))
        case first =>
          have H := HC5.out
          clear HC5
          by_cases c6 : 0 ≤ x4_1
          · rw [if_pos c6] at H
            have c6b0 : decide (0 ≤ x4_1) = true := decide_eq_true c6
            clear c6
            (first | rw [c6b0] | (simp only [i64_w, i32_w]; rw [c6b0]) | skip)
            by_cases c8 : (bt a0 x4_1) = 37
            · rw [if_pos c8] at H
              have c8b0 : ((bt a0 x4_1) == 37) = true := beq_iff_eq.mpr c8
              have c8b1 : ((bt a0 x4_1) != 37) = false := bne_eq_false_iff_eq.mpr c8
              clear c8
              by_cases c9 : (wrap64 (x4_1 + 2)) < (a0.size : Int)
              · rw [if_pos c9] at H
                have c9b0 : decide ((wrap64 (x4_1 + 2)) < (a0.size : Int)) = true := decide_eq_true c9
                clear c9
                obtain ⟨ji10, hji10⟩ : ∃ j_ : Int, (wrap64 (x4_1 + 1)) = j_ := ⟨_, rfl⟩
                replace H : (if 0 ≤ (ji10) then (if (ji10) < (a0.size : Int) then ((laws_inlineHex.f k1 (bt a0 (ji10))).bind fun t151 => (if t151 ≥ 0 then (if 0 ≤ (wrap64 (x4_1 + 2)) then ((laws_inlineHex.f k1 (bt a0 (wrap64 (x4_1 + 2)))).bind fun t152 => (laws_inlineRead.j1 k1 a0 x3_1 x4_1 (decide (t152 ≥ 0)))) else (none)) else (laws_inlineRead.j1 k1 a0 x3_1 x4_1 false))) else (none)) else (none)) = some r := by first | (rw [hji10] at H; exact H) | (simp only [hji10] at H ⊢; exact H)
                have hji10w : (IntKind.i64.wrap (x4_1 + 1)) = ji10 := (i64_w _).trans hji10
                by_cases c11 : 0 ≤ (ji10)
                · rw [if_pos c11] at H
                  have c11b0 : decide (0 ≤ (ji10)) = true := decide_eq_true c11
                  clear c11
                  by_cases c12 : (ji10) < (a0.size : Int)
                  · rw [if_pos c12] at H
                    have c12b0 : decide ((ji10) < (a0.size : Int)) = true := decide_eq_true c12
                    clear c12
                    replace H := Option.bind_eq_some_iff.mp H
                    obtain ⟨t151, A140, H⟩ := H
                    replace H : (if t151 ≥ 0 then (if 0 ≤ (wrap64 (x4_1 + 2)) then ((laws_inlineHex.f k1 (bt a0 (wrap64 (x4_1 + 2)))).bind fun t152 => (laws_inlineRead.j1 k1 a0 x3_1 x4_1 (decide (t152 ≥ 0)))) else (none)) else (laws_inlineRead.j1 k1 a0 x3_1 x4_1 false)) = some r := H
                    have A14 := Aside0.mk A140
                    clear A140
                    by_cases c15 : t151 ≥ 0
                    · rw [if_pos c15] at H
                      have c15b0 : decide (0 ≤ t151) = true := decide_eq_true c15
                      clear c15
                      obtain ⟨ji16, hji16⟩ : ∃ j_ : Int, (wrap64 (x4_1 + 2)) = j_ := ⟨_, rfl⟩
                      replace H : (if 0 ≤ (ji16) then ((laws_inlineHex.f k1 (bt a0 (ji16))).bind fun t152 => (laws_inlineRead.j1 k1 a0 x3_1 x4_1 (decide (t152 ≥ 0)))) else (none)) = some r := by first | (rw [hji16] at H; exact H) | (simp only [hji16] at H ⊢; exact H)
                      (try rw [hji16] at c9b0)
                      (try rw [hji16] at A14)
                      have hji16w : (IntKind.i64.wrap (x4_1 + 2)) = ji16 := (i64_w _).trans hji16
                      by_cases c17 : 0 ≤ (ji16)
                      · rw [if_pos c17] at H
                        have c17b0 : decide (0 ≤ (ji16)) = true := decide_eq_true c17
                        clear c17
                        replace H := Option.bind_eq_some_iff.mp H
                        obtain ⟨t152, A190, H⟩ := H
                        replace H : (laws_inlineRead.j1 k1 a0 x3_1 x4_1 (decide (t152 ≥ 0))) = some r := H
                        have A19 := Aside0.mk A190
                        clear A190
                        have H' := Aside0.mk H
                        clear H
                        have p7 : 0 ≤ (x4_1 : Int) := of_decide_eq_true (by first | (with_reducible assumption) | assumption)
                        have q7 : x4_1 < (a0.size : Int) := of_decide_eq_true (by first | (with_reducible assumption) | assumption)
                        have hx7 := bt_at a0 x4_1
                        replace p7 := eq_true p7
                        replace q7 := eq_true q7
                        have p13 : 0 ≤ ((ji10) : Int) := of_decide_eq_true (by first | (with_reducible assumption) | assumption)
                        have q13 : (ji10) < (a0.size : Int) := of_decide_eq_true (by first | (with_reducible assumption) | assumption)
                        have hx13 := bt_at a0 (ji10)
                        replace p13 := eq_true p13
                        replace q13 := eq_true q13
                        go_wp2_with (first | (go_at_call 69; (with_reducible refine (laws_inlineHex.calls k1 (bt a0 (ji10)) t151 _ A14.out).mono ?_); rintro e w' ⟨rfl, ⟨nd, rfl⟩⟩; have p18 : 0 ≤ ((ji16) : Int) := of_decide_eq_true (by first | (with_reducible assumption) | assumption); have q18 : (ji16) < (a0.size : Int) := of_decide_eq_true (by first | (with_reducible assumption) | assumption); have hx18 := bt_at a0 (ji16); replace p18 := eq_true p18; replace q18 := eq_true q18) | (go_at_call 69; (with_reducible refine (laws_inlineHex.calls k1 (bt a0 (ji16)) t152 _ A19.out).mono ?_); rintro e w' ⟨rfl, ⟨nd, rfl⟩⟩))
                        go_meet
                        case rel => exact ⟨_, (decide (t152 ≥ 0)), (by first | rfl | (simp; done) | (simp [*]; done)), H', ⟨by have := HK1.out; first | omega | exact Nat.le_refl _⟩, ⟨by (with_reducible repeat (first | apply Kd.R_alloc | apply Kd.R_drewN | apply Kd.R_drew)); exact HO_3.out⟩, ⟨by repeat (first | (with_reducible first | exact HB.out | apply below_alloc | apply pw_below_drewN | apply below_drew1) | exact HB.out)⟩⟩
                      · rw [if_neg c17] at H
                        exact absurd H (by simp)
                    · rw [if_neg c15] at H
                      have c15b0 : decide (0 ≤ t151) = false := decide_eq_false c15
                      clear c15
                      have H' := Aside0.mk H
                      clear H
                      have p7 : 0 ≤ (x4_1 : Int) := of_decide_eq_true (by first | (with_reducible assumption) | assumption)
                      have q7 : x4_1 < (a0.size : Int) := of_decide_eq_true (by first | (with_reducible assumption) | assumption)
                      have hx7 := bt_at a0 x4_1
                      replace p7 := eq_true p7
                      replace q7 := eq_true q7
                      have p13 : 0 ≤ ((ji10) : Int) := of_decide_eq_true (by first | (with_reducible assumption) | assumption)
                      have q13 : (ji10) < (a0.size : Int) := of_decide_eq_true (by first | (with_reducible assumption) | assumption)
                      have hx13 := bt_at a0 (ji10)
                      replace p13 := eq_true p13
                      replace q13 := eq_true q13
                      go_wp2_with (first | (go_at_call 69; (with_reducible refine (laws_inlineHex.calls k1 (bt a0 (ji10)) t151 _ A14.out).mono ?_); rintro e w' ⟨rfl, ⟨nd, rfl⟩⟩))
                      go_meet
                      case rel => exact ⟨_, (false), (by first | rfl | (simp; done) | (simp [*]; done)), H', ⟨by have := HK1.out; first | omega | exact Nat.le_refl _⟩, ⟨by (with_reducible repeat (first | apply Kd.R_alloc | apply Kd.R_drewN | apply Kd.R_drew)); exact HO_3.out⟩, ⟨by repeat (first | (with_reducible first | exact HB.out | apply below_alloc | apply pw_below_drewN | apply below_drew1) | exact HB.out)⟩⟩
                  · rw [if_neg c12] at H
                    exact absurd H (by simp)
                · rw [if_neg c11] at H
                  exact absurd H (by simp)
              · rw [if_neg c9] at H
                have c9b0 : decide ((wrap64 (x4_1 + 2)) < (a0.size : Int)) = false := decide_eq_false c9
                clear c9
                have H' := Aside0.mk H
                clear H
                have p7 : 0 ≤ (x4_1 : Int) := of_decide_eq_true (by first | (with_reducible assumption) | assumption)
                have q7 : x4_1 < (a0.size : Int) := of_decide_eq_true (by first | (with_reducible assumption) | assumption)
                have hx7 := bt_at a0 x4_1
                replace p7 := eq_true p7
                replace q7 := eq_true q7
                go_wp2
                go_meet
                case rel => exact ⟨_, (false), (by first | rfl | (simp; done) | (simp [*]; done)), H', ⟨by have := HK1.out; first | omega | exact Nat.le_refl _⟩, ⟨by (with_reducible repeat (first | apply Kd.R_alloc | apply Kd.R_drewN | apply Kd.R_drew)); exact HO_3.out⟩, ⟨by repeat (first | (with_reducible first | exact HB.out | apply below_alloc | apply pw_below_drewN | apply below_drew1) | exact HB.out)⟩⟩
            · rw [if_neg c8] at H
              have c8b0 : ((bt a0 x4_1) == 37) = false := beq_eq_false_iff_ne.mpr c8
              have c8b1 : ((bt a0 x4_1) != 37) = true := bne_iff_ne.mpr c8
              have H' := Aside0.mk H
              clear H
              have p7 : 0 ≤ (x4_1 : Int) := of_decide_eq_true (by first | (with_reducible assumption) | assumption)
              have q7 : x4_1 < (a0.size : Int) := of_decide_eq_true (by first | (with_reducible assumption) | assumption)
              have hx7 := bt_at a0 x4_1
              replace p7 := eq_true p7
              replace q7 := eq_true q7
              go_wp2
              go_meet
              case rel => exact ⟨_, (false), (by first | rfl | (simp; done) | (simp [*]; done)), H', ⟨by have := HK1.out; first | omega | exact Nat.le_refl _⟩, ⟨by (with_reducible repeat (first | apply Kd.R_alloc | apply Kd.R_drewN | apply Kd.R_drew)); exact HO_3.out⟩, ⟨by repeat (first | (with_reducible first | exact HB.out | apply below_alloc | apply pw_below_drewN | apply below_drew1) | exact HB.out)⟩⟩
          · rw [if_neg c6] at H
            exact absurd H (by simp)
        case rest =>
          clear HC5
          try clear c1
          try clear p1
          try clear q1
          try clear hx1
          try clear p2
          try clear c4
          try clear c4b0
          try clear c6
          try clear c6b0
          try clear p6
          try clear p7
          try clear q7
          try clear hx7
          try clear c8
          try clear c8b0
          try clear c8b1
          try clear c9
          try clear c9b0
          try clear c11
          try clear c11b0
          try clear c12
          try clear c12b0
          try clear p13
          try clear q13
          try clear hx13
          try clear c15
          try clear c15b0
          try clear c17
          try clear c17b0
          try clear p18
          try clear q18
          try clear hx18
          try clear p13
          try clear p18
          try clear p2
          try clear p7
          try clear q13
          try clear q18
          try clear q7
          obtain ⟨kq, x38_4, rfl, HA, HJ4, HO_3, HB⟩ := hcut
          cases kq with
          | zero => exact absurd HA.out (by simp [laws_inlineRead.j1])
          | succ kj4 =>
            have H := HA.out
            clear HA
            simp only [laws_inlineRead.j1] at H
            by_cases c20 : x38_4 = true
            · subst c20
              have H1 : (if 0 ≤ (wrap64 (x4_1 + 1)) then (if (wrap64 (x4_1 + 1)) < (a0.size : Int) then ((laws_inlineHex.f kj4 (bt a0 (wrap64 (x4_1 + 1)))).bind fun t153 => (if 0 ≤ (wrap64 (x4_1 + 2)) then (if (wrap64 (x4_1 + 2)) < (a0.size : Int) then ((laws_inlineHex.f kj4 (bt a0 (wrap64 (x4_1 + 2)))).bind fun t154 => (if x3_1.length < 140737488355328 then (laws_inlineRead.l0 kj4 a0 (x3_1 ++ [(wrap64 ((wrap64 (16 * t153)) + t154)) % 256]) (wrap64 ((wrap64 (x4_1 + 2)) + 1))) else (none))) else (none)) else (none))) else (none)) else (none)) = some r := by rw [if_pos rfl] at H; exact H
              clear H
              have H := H1
              clear H1
              obtain ⟨ji21, hji21⟩ : ∃ j_ : Int, (wrap64 (x4_1 + 1)) = j_ := ⟨_, rfl⟩
              replace H : (if 0 ≤ (ji21) then (if (ji21) < (a0.size : Int) then ((laws_inlineHex.f kj4 (bt a0 (ji21))).bind fun t153 => (if 0 ≤ (wrap64 (x4_1 + 2)) then (if (wrap64 (x4_1 + 2)) < (a0.size : Int) then ((laws_inlineHex.f kj4 (bt a0 (wrap64 (x4_1 + 2)))).bind fun t154 => (if x3_1.length < 140737488355328 then (laws_inlineRead.l0 kj4 a0 (x3_1 ++ [(wrap64 ((wrap64 (16 * t153)) + t154)) % 256]) (wrap64 ((wrap64 (x4_1 + 2)) + 1))) else (none))) else (none)) else (none))) else (none)) else (none)) = some r := by first | (rw [hji21] at H; exact H) | (simp only [hji21] at H ⊢; exact H)
              have hji21w : (IntKind.i64.wrap (x4_1 + 1)) = ji21 := (i64_w _).trans hji21
              by_cases c22 : 0 ≤ (ji21)
              · rw [if_pos c22] at H
                have c22b0 : decide (0 ≤ (ji21)) = true := decide_eq_true c22
                clear c22
                by_cases c23 : (ji21) < (a0.size : Int)
                · rw [if_pos c23] at H
                  have c23b0 : decide ((ji21) < (a0.size : Int)) = true := decide_eq_true c23
                  clear c23
                  replace H := Option.bind_eq_some_iff.mp H
                  obtain ⟨t153, A250, H⟩ := H
                  replace H : (if 0 ≤ (wrap64 (x4_1 + 2)) then (if (wrap64 (x4_1 + 2)) < (a0.size : Int) then ((laws_inlineHex.f kj4 (bt a0 (wrap64 (x4_1 + 2)))).bind fun t154 => (if x3_1.length < 140737488355328 then (laws_inlineRead.l0 kj4 a0 (x3_1 ++ [(wrap64 ((wrap64 (16 * t153)) + t154)) % 256]) (wrap64 ((wrap64 (x4_1 + 2)) + 1))) else (none))) else (none)) else (none)) = some r := H
                  have A25 := Aside0.mk A250
                  clear A250
                  obtain ⟨ji26, hji26⟩ : ∃ j_ : Int, (wrap64 (x4_1 + 2)) = j_ := ⟨_, rfl⟩
                  replace H : (if 0 ≤ (ji26) then (if (ji26) < (a0.size : Int) then ((laws_inlineHex.f kj4 (bt a0 (ji26))).bind fun t154 => (if x3_1.length < 140737488355328 then (laws_inlineRead.l0 kj4 a0 (x3_1 ++ [(wrap64 ((wrap64 (16 * t153)) + t154)) % 256]) (wrap64 ((ji26) + 1))) else (none))) else (none)) else (none)) = some r := by first | (rw [hji26] at H; exact H) | (simp only [hji26] at H ⊢; exact H)
                  (try rw [hji26] at A25)
                  have hji26w : (IntKind.i64.wrap (x4_1 + 2)) = ji26 := (i64_w _).trans hji26
                  by_cases c27 : 0 ≤ (ji26)
                  · rw [if_pos c27] at H
                    have c27b0 : decide (0 ≤ (ji26)) = true := decide_eq_true c27
                    clear c27
                    by_cases c28 : (ji26) < (a0.size : Int)
                    · rw [if_pos c28] at H
                      have c28b0 : decide ((ji26) < (a0.size : Int)) = true := decide_eq_true c28
                      clear c28
                      replace H := Option.bind_eq_some_iff.mp H
                      obtain ⟨t154, A300, H⟩ := H
                      replace H : (if x3_1.length < 140737488355328 then (laws_inlineRead.l0 kj4 a0 (x3_1 ++ [(wrap64 ((wrap64 (16 * t153)) + t154)) % 256]) (wrap64 ((ji26) + 1))) else (none)) = some r := H
                      have A30 := Aside0.mk A300
                      clear A300
                      by_cases c31 : x3_1.length < 140737488355328
                      · rw [if_pos c31] at H
                        have LMc31 := Aside0.mk c31
                        clear c31
                        obtain ⟨y155, hy155⟩ : ∃ y_ : List Int, y_ = (x3_1 ++ [(wrap64 ((wrap64 (16 * t153)) + t154)) % 256]) := ⟨_, rfl⟩
                        replace H : (laws_inlineRead.l0 kj4 a0 y155 (wrap64 ((ji26) + 1))) = some r := by first | (rw [hy155]; with_reducible exact H) | (have H2_ := (Option.bind_some _ _).symm.trans H; rw [hy155]; with_reducible exact H2_) | (have H2_ := (Option.bind_some _ _).symm.trans H; with_reducible exact H2_) | with_reducible exact H | (rw [hy155]; exact H) | exact H
                        have Ny155 := Aside0.mk hy155
                        clear hy155
                        have H' := Aside0.mk H
                        clear H
                        try go_wp2
                        have n0_ := Aside0.mk (Kd.R_drew HO_3.out)
                        have n1_ := Aside0.mk (below_drew1 HB.out)
                        clear HO_3
                        clear HB
                        have HO_3 := n0_
                        have HB := n1_
                        clear n0_ n1_
                        have p24 : 0 ≤ ((ji21) : Int) := of_decide_eq_true (by first | (with_reducible assumption) | assumption)
                        have q24 : (ji21) < (a0.size : Int) := of_decide_eq_true (by first | (with_reducible assumption) | assumption)
                        have hx24 := bt_at a0 (ji21)
                        replace p24 := eq_true p24
                        replace q24 := eq_true q24
                        have p29 : 0 ≤ ((ji26) : Int) := of_decide_eq_true (by first | (with_reducible assumption) | assumption)
                        have q29 : (ji26) < (a0.size : Int) := of_decide_eq_true (by first | (with_reducible assumption) | assumption)
                        have hx29 := bt_at a0 (ji26)
                        replace p29 := eq_true p29
                        replace q29 := eq_true q29
                        refine start_ (n := 17) (S := fun w' => True) (ds := []) #[false, false, false, false, false, false, false, false, false, false, false, false, false, false, false, false, false] (by kernel_rfl) rfl rfl trivial (fun hHeld => ?_); refine with_tabW laws_inlineRead.tab6 laws_inlineRead.bits6 (fun HT_ HW_ => ?_)
                        generalize wc.drew = w32 at HO_3 HB hHeld ⊢
                        refine pure_ (i := 0) (N := some 39) (v := ?_) (a' := ?_) #[true, false, false, false, false, false, false, false, false, false, false, false, false, false, false, false, false] rfl rfl (any_of HT_.out (by kernel_rfl)) (fun _ _ _ h => h) (Or.inl ⟨by rfl, ?_⟩) ?_ ?_
                        rotate_left
                        · intro w'
                          go_simp
                          with_reducible rfl
                        rotate_left
                        · simp only [Act.put, List.setIfInBounds_toArray, List.set_cons_zero, List.set_cons_succ, i64_w, i32_w]
                          rfl
                        refine pure_ (i := 1) (N := some 40) (v := ?_) (a' := ?_) #[true, true, false, false, false, false, false, false, false, false, false, false, false, false, false, false, false] rfl rfl (any_of HT_.out (by kernel_rfl)) (fun _ _ _ h => h) (Or.inl ⟨by rfl, ?_⟩) ?_ ?_
                        rotate_left
                        · intro w'
                          go_simp
                          with_reducible rfl
                        rotate_left
                        · simp only [Act.put, List.setIfInBounds_toArray, List.set_cons_zero, List.set_cons_succ, i64_w, i32_w]
                          rfl
                        refine pure_ (i := 2) (N := some 41) (v := ?_) (a' := ?_) #[true, true, true, false, false, false, false, false, false, false, false, false, false, false, false, false, false] rfl rfl (any_of HT_.out (by kernel_rfl)) (fun _ _ _ h => h) (Or.inl ⟨by rfl, ?_⟩) ?_ ?_
                        rotate_left
                        · intro w'
                          go_simp
                          with_reducible rfl
                        rotate_left
                        · simp only [Act.put, List.setIfInBounds_toArray, List.set_cons_zero, List.set_cons_succ, i64_w, i32_w]
                          rfl
                        refine pure_ (i := 3) (N := some 42) (v := ?_) (a' := ?_) #[true, true, true, true, false, false, false, false, false, false, false, false, false, false, false, false, false] rfl rfl (any_of HT_.out (by kernel_rfl)) (fun _ _ _ h => h) (Or.inl ⟨by rfl, ?_⟩) ?_ ?_
                        rotate_left
                        · intro w'
                          go_simp
                          with_reducible rfl
                        rotate_left
                        · simp only [Act.put, List.setIfInBounds_toArray, List.set_cons_zero, List.set_cons_succ, i64_w, i32_w]
                          rfl
                        refine pure_ (i := 7) (N := some 46) (v := ?_) (a' := ?_) #[true, true, true, true, false, false, false, true, false, false, false, false, false, false, false, false, false] rfl rfl (any_of HT_.out (by kernel_rfl)) (fun _ _ _ h => h) (Or.inl ⟨by rfl, ?_⟩) ?_ ?_
                        rotate_left
                        · intro w'
                          go_simp
                          with_reducible rfl
                        rotate_left
                        · simp only [Act.put, List.setIfInBounds_toArray, List.set_cons_zero, List.set_cons_succ, i64_w, i32_w]
                          rfl
                        refine pure_ (i := 8) (N := some 47) (v := ?_) (a' := ?_) #[true, true, true, true, false, false, false, true, true, false, false, false, false, false, false, false, false] rfl rfl (any_of HT_.out (by kernel_rfl)) (fun _ _ _ h => h) (Or.inl ⟨by rfl, ?_⟩) ?_ ?_
                        rotate_left
                        · intro w'
                          go_simp
                          with_reducible rfl
                        rotate_left
                        · simp only [Act.put, List.setIfInBounds_toArray, List.set_cons_zero, List.set_cons_succ, i64_w, i32_w]
                          rfl
                        refine pure_ (i := 9) (N := some 48) (v := ?_) (a' := ?_) #[true, true, true, true, false, false, false, true, true, true, false, false, false, false, false, false, false] rfl rfl (any_of HT_.out (by kernel_rfl)) (fun _ _ _ h => h) (Or.inl ⟨by rfl, ?_⟩) ?_ ?_
                        rotate_left
                        · intro w'
                          go_simp
                          with_reducible rfl
                        rotate_left
                        · simp only [Act.put, List.setIfInBounds_toArray, List.set_cons_zero, List.set_cons_succ, i64_w, i32_w]
                          rfl
                        refine take_ (i := 4) (N := some 43) (v := ?_) (a' := ?_) #[true, true, true, true, true, false, false, true, true, true, false, false, false, false, false, false, false] rfl rfl (take_ofW HT_.out HW_.out (by kernel_rfl)) (fun _ _ _ h => h) (Or.inl ⟨by rfl, ?_⟩) hHeld ?_ ?_
                        rotate_left
                        · intro w' _
                          go_simp
                          with_reducible rfl
                        rotate_left
                        · simp only [Act.put, List.setIfInBounds_toArray, List.set_cons_zero, List.set_cons_succ, i64_w, i32_w]
                          rfl
                        refine take_ (i := 10) (N := some 49) (v := ?_) (a' := ?_) #[true, true, true, true, true, false, false, true, true, true, true, false, false, false, false, false, false] rfl rfl (take_ofW HT_.out HW_.out (by kernel_rfl)) (fun _ _ _ h => h) (Or.inl ⟨by rfl, ?_⟩) hHeld ?_ ?_
                        rotate_left
                        · intro w' _
                          go_simp
                          with_reducible rfl
                        rotate_left
                        · simp only [Act.put, List.setIfInBounds_toArray, List.set_cons_zero, List.set_cons_succ, i64_w, i32_w]
                          rfl
                        refine one_ (i := 5) (N := some 44) #[true, true, true, true, true, true, false, true, true, true, true, false, false, false, false, false, false] rfl rfl (one_of HT_.out (by kernel_rfl)) (by decide) (fun K hK => ?_)
                        refine goes_ Try.func69 (by kernel_rfl) rfl #[.int .u8 (bt a0 (ji21))] (by rfl) rfl rfl (by (try simp only [List.map_toArray, List.map_cons, List.map_nil]); first | done | (simp only [hji21]; rfl) | rfl | (simp only [List.length_drop, List.length_take]; rfl)) ?_
                        with_reducible refine (laws_inlineHex.calls kj4 (bt a0 (ji21)) t153 _ A25.out).mono ?_
                        rintro e w' ⟨rfl, ⟨nd, rfl⟩⟩
                        refine ⟨_, rfl, ?_⟩
                        refine hK.out _ _ trivial (fun hHeld => ?_)
                        clear hK K
                        refine norm_ (a' := ?_) ?_ ?_
                        rotate_left
                        · show Act.put _ (some 44) _ = _
                          simp only [Act.put, List.setIfInBounds_toArray, List.set_cons_zero, List.set_cons_succ, i64_w, i32_w]
                          rfl
                        refine pure_ (i := 6) (N := some 45) (v := ?_) (a' := ?_) #[true, true, true, true, true, true, true, true, true, true, true, false, false, false, false, false, false] rfl rfl (any_of HT_.out (by kernel_rfl)) (fun _ _ _ h => h) (Or.inl ⟨by rfl, ?_⟩) ?_ ?_
                        rotate_left
                        · intro w'
                          go_simp
                          with_reducible rfl
                        rotate_left
                        · simp only [Act.put, List.setIfInBounds_toArray, List.set_cons_zero, List.set_cons_succ, i64_w, i32_w]
                          rfl
                        refine one_ (i := 11) (N := some 50) #[true, true, true, true, true, true, true, true, true, true, true, true, false, false, false, false, false] rfl rfl (one_of HT_.out (by kernel_rfl)) (by decide) (fun K hK => ?_)
                        refine goes_ Try.func69 (by kernel_rfl) rfl #[.int .u8 (bt a0 (ji26))] (by rfl) rfl rfl (by (try simp only [List.map_toArray, List.map_cons, List.map_nil]); first | done | (simp only [hji26]; rfl) | rfl | (simp only [List.length_drop, List.length_take]; rfl)) ?_
                        with_reducible refine (laws_inlineHex.calls kj4 (bt a0 (ji26)) t154 _ A30.out).mono ?_
                        rintro e w' ⟨rfl, ⟨nd, rfl⟩⟩
                        refine ⟨_, rfl, ?_⟩
                        refine hK.out _ _ trivial (fun hHeld => ?_)
                        clear hK K
                        refine norm_ (a' := ?_) ?_ ?_
                        rotate_left
                        · show Act.put _ (some 50) _ = _
                          simp only [Act.put, List.setIfInBounds_toArray, List.set_cons_zero, List.set_cons_succ, i64_w, i32_w]
                          rfl
                        refine pure_ (i := 12) (N := some 51) (v := ?_) (a' := ?_) #[true, true, true, true, true, true, true, true, true, true, true, true, true, false, false, false, false] rfl rfl (any_of HT_.out (by kernel_rfl)) (fun _ _ _ h => h) (Or.inl ⟨by rfl, ?_⟩) ?_ ?_
                        rotate_left
                        · intro w'
                          go_simp
                          with_reducible rfl
                        rotate_left
                        · simp only [Act.put, List.setIfInBounds_toArray, List.set_cons_zero, List.set_cons_succ, i64_w, i32_w]
                          rfl
                        refine pure_ (i := 13) (N := some 52) (v := ?_) (a' := ?_) #[true, true, true, true, true, true, true, true, true, true, true, true, true, true, false, false, false] rfl rfl (any_of HT_.out (by kernel_rfl)) (fun _ _ _ h => h) (Or.inl ⟨by rfl, ?_⟩) ?_ ?_
                        rotate_left
                        · intro w'
                          go_simp
                          with_reducible rfl
                        rotate_left
                        · simp only [Act.put, List.setIfInBounds_toArray, List.set_cons_zero, List.set_cons_succ, i64_w, i32_w]
                          rfl
                        refine one_ (i := 14) (N := some 53) #[true, true, true, true, true, true, true, true, true, true, true, true, true, true, true, false, false] rfl rfl (one_of HT_.out (by kernel_rfl)) (by decide) (fun K hK => ?_)
                        refine value_ (w1 := ?_) (v := ?_) (by rfl) rfl ?_ ?_
                        rotate_left 2
                        · go_simp
                          constructor
                          · rfl
                          · rfl
                        refine hK.out _ _ trivial (fun hHeld => ?_)
                        clear hK K
                        refine norm_ (a' := ?_) ?_ ?_
                        rotate_left
                        · show Act.put _ (some 53) _ = _
                          simp only [Act.put, List.setIfInBounds_toArray, List.set_cons_zero, List.set_cons_succ, i64_w, i32_w]
                          rfl
                        refine one_ (i := 15) (N := some 54) #[true, true, true, true, true, true, true, true, true, true, true, true, true, true, true, true, false] rfl rfl (one_of HT_.out (by kernel_rfl)) (by decide) (fun K hK => ?_)
                        refine Kd.R_append_step (Kd.int .u8) (w0 := w) w.heap.size (by rfl) (.tmp 39) (.tmp 53) 45 5 (.int .u8 0) 1 rfl Try.underlying45 info5 rfl (by decide) (by omega) u3 x3_1 ((wrap64 ((wrap64 (16 * t153)) + t154)) % 256) [.int .u8 ((wrap64 ((wrap64 (16 * t153)) + t154)) % 256)] (fun _ => True) (fun _ => False) rfl rfl ?aP (fun _ hk => hk.elim) ?aF ?aO ?aB ?aS ?aL ?_
                        (case aP => exact rfl)
                        (case aB => exact (by repeat (first | (with_reducible first | exact HB.out | apply below_alloc | apply pw_below_drewN | apply below_drew1) | exact HB.out)))
                        (case aF => exact (fun _ _ => trivial))
                        (case aO => exact (by (with_reducible repeat (first | apply Kd.R_alloc | apply Kd.R_drewN | apply Kd.R_drew)); exact HO_3.out))
                        (case aS => exact (below_size (by repeat (first | (with_reducible first | exact HB.out | apply below_alloc | apply pw_below_drewN | apply below_drew1) | exact HB.out))))
                        (case aL => have := LMc31.out; (first | omega | (simp only [ByteArray.size, List.size_toArray, List.length_cons, List.length_nil]; omega)))
                        intro v156 w33 ho hb hg hat
                        rw [← Ny155.out] at ho
                        have n0_ := Aside0.mk (hb)
                        have n1_ := Aside0.mk (ho)
                        clear HB
                        clear HO_3
                        have HB := n0_
                        have HO157 := n1_
                        clear n0_ n1_
                        clear ho hb hg hat
                        refine hK.out _ _ trivial (fun hHeld => ?_)
                        clear hK K
                        refine norm_ (a' := ?_) ?_ ?_
                        rotate_left
                        · show Act.put _ (some 54) _ = _
                          simp only [Act.put, List.setIfInBounds_toArray, List.set_cons_zero, List.set_cons_succ, i64_w, i32_w]
                          rfl
                        refine pure_ (i := 16) (N := some 3) (v := ?_) (a' := ?_) #[true, true, true, true, true, true, true, true, true, true, true, true, true, true, true, true, true] rfl rfl (any_of HT_.out (by kernel_rfl)) (fun _ _ _ h => h) (Or.inl ⟨by rfl, ?_⟩) ?_ ?_
                        rotate_left
                        · intro w'
                          go_simp
                          with_reducible rfl
                        rotate_left
                        · simp only [Act.put, List.setIfInBounds_toArray, List.set_cons_zero, List.set_cons_succ, i64_w, i32_w]
                          rfl
                        refine done_ (done_of HT_.out (by kernel_rfl)) ?_
                        try go_wp2
                        go_roundg kj4
                        case measure => have := HK1.out; have := HJ4.out; omega
                        case rel => exact ⟨(y155), (wrap64 ((ji26) + 1)), (by first | rfl | (simp; done) | (simp only [← hji26] <;> (first | rfl | simp)) | (simp [*]; done)), H', ⟨by have := HK1.out; have := HJ4.out; omega⟩, ⟨by (with_reducible repeat (first | apply Kd.R_alloc | apply Kd.R_drewN | apply Kd.R_drew)); exact HO157.out⟩, ⟨by repeat (first | (with_reducible first | exact HB.out | apply below_alloc | apply pw_below_drewN | apply below_drew1) | exact HB.out)⟩⟩
                      · rw [if_neg c31] at H
                        exact absurd H (by simp)
                    · rw [if_neg c28] at H
                      exact absurd H (by simp)
                  · rw [if_neg c27] at H
                    exact absurd H (by simp)
                · rw [if_neg c23] at H
                  exact absurd H (by simp)
              · rw [if_neg c22] at H
                exact absurd H (by simp)
            · replace c20 := Bool.eq_false_iff.mpr c20
              subst c20
              have H1 : (if 0 ≤ x4_1 then (if x4_1 < (a0.size : Int) then (if x3_1.length < 140737488355328 then (laws_inlineRead.l0 kj4 a0 (x3_1 ++ [bt a0 x4_1]) (wrap64 (x4_1 + 1))) else (none)) else (none)) else (none)) = some r := by rw [if_neg (show ¬ (false = true) by decide)] at H; exact H
              clear H
              have H := H1
              clear H1
              by_cases c34 : 0 ≤ x4_1
              · rw [if_pos c34] at H
                have c34b0 : decide (0 ≤ x4_1) = true := decide_eq_true c34
                clear c34
                by_cases c35 : x4_1 < (a0.size : Int)
                · rw [if_pos c35] at H
                  have c35b0 : decide (x4_1 < (a0.size : Int)) = true := decide_eq_true c35
                  clear c35
                  by_cases c37 : x3_1.length < 140737488355328
                  · rw [if_pos c37] at H
                    have LMc37 := Aside0.mk c37
                    clear c37
                    obtain ⟨y158, hy158⟩ : ∃ y_ : List Int, y_ = (x3_1 ++ [bt a0 x4_1]) := ⟨_, rfl⟩
                    replace H : (laws_inlineRead.l0 kj4 a0 y158 (wrap64 (x4_1 + 1))) = some r := by first | (rw [hy158]; with_reducible exact H) | (have H2_ := (Option.bind_some _ _).symm.trans H; rw [hy158]; with_reducible exact H2_) | (have H2_ := (Option.bind_some _ _).symm.trans H; with_reducible exact H2_) | with_reducible exact H | (rw [hy158]; exact H) | exact H
                    have Ny158 := Aside0.mk hy158
                    clear hy158
                    have H' := Aside0.mk H
                    clear H
                    have p36 : 0 ≤ (x4_1 : Int) := of_decide_eq_true (by first | (with_reducible assumption) | assumption)
                    have q36 : x4_1 < (a0.size : Int) := of_decide_eq_true (by first | (with_reducible assumption) | assumption)
                    have hx36 := bt_at a0 x4_1
                    replace p36 := eq_true p36
                    replace q36 := eq_true q36
                    go_wp2_with (first | ((with_reducible refine gate_builtin (b := .append) (xs := #[.tmp 57, .tmp 61]) rfl ?_); (try (refine gate_guard (by rfl) ?_; dsimp only)); at_builtin; refine Kd.R_append (Kd.int .u8) (w0 := w) w.heap.size rfl (.tmp 57) (.tmp 61) 45 5 (.int .u8 0) 1 rfl Try.underlying45 info5 rfl (by decide) (by omega) u3 x3_1 (bt a0 x4_1) [.int .u8 (bt a0 x4_1)] (fun _ => True) (fun _ => False) rfl rfl ?aP (fun _ hk => hk.elim) ?aF ?aO ?aB ?aS ?aL ?_; (case aP => exact rfl); (case aB => exact (by repeat (first | (with_reducible first | exact HB.out | apply below_alloc | apply pw_below_drewN | apply below_drew1) | exact HB.out))); (case aF => exact (fun _ _ => trivial)); (case aO => exact (by (with_reducible repeat (first | apply Kd.R_alloc | apply Kd.R_drewN | apply Kd.R_drew)); exact HO_3.out)); (case aS => exact (below_size (by repeat (first | (with_reducible first | exact HB.out | apply below_alloc | apply pw_below_drewN | apply below_drew1) | exact HB.out)))); (case aL => have := LMc37.out; (first | omega | (simp only [ByteArray.size, List.size_toArray, List.length_cons, List.length_nil]; omega))); intro v159 w38 ho hb hg hat; rw [← Ny158.out] at ho; have n0_ := Aside0.mk (hb); have n1_ := Aside0.mk (ho); clear HB; clear HO_3; have HB := n0_; have HO160 := n1_; clear n0_ n1_; clear ho hb hg hat))
                    go_roundg kj4
                    case measure => have := HK1.out; have := HJ4.out; omega
                    case rel => exact ⟨(y158), (wrap64 (x4_1 + 1)), (by first | rfl | (simp; done) | (simp [*]; done)), H', ⟨by have := HK1.out; have := HJ4.out; omega⟩, ⟨by (with_reducible repeat (first | apply Kd.R_alloc | apply Kd.R_drewN | apply Kd.R_drew)); exact HO160.out⟩, ⟨by repeat (first | (with_reducible first | exact HB.out | apply below_alloc | apply pw_below_drewN | apply below_drew1) | exact HB.out)⟩⟩
                  · rw [if_neg c37] at H
                    exact absurd H (by simp)
                · rw [if_neg c35] at H
                  exact absurd H (by simp)
              · rw [if_neg c34] at H
                exact absurd H (by simp)
      · rw [if_neg c4] at H
        have c4b0 : decide (x4_1 < (a0.size : Int)) = false := decide_eq_false c4
        clear c4
        obtain rfl := Option.some.inj H
        have hcv39 := own_string (P := Try.prog) Try.underlying45 Try.underlying5 Try.underlying9 (Kd.own_of_R HO_3.out)
        go_wp2
        go_ret
        exact ⟨by first | rfl | (simp [errW_none, errW_some] <;> rfl) | (simp [*, errW_none, errW_some] <;> rfl), by repeat (first | (with_reducible first | exact HB.out | apply below_alloc | apply pw_below_drewN | apply below_drew1) | exact HB.out)⟩

end Go.Proofs.Yticofikbijldiaa.GFnPercent
