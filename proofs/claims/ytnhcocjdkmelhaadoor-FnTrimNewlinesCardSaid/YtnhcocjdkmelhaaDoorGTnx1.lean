-- made by a program of this session, after the kit's print
import Derived.Test.YtnhcocjdkmelhaaDoorGTnx0
import Derived.Test.YtnhcocjdkmelhaaDoorGivSlow
namespace Go.Proofs.YtnhcocjdkmelhaaDoor.GTn
open Go.RowKit Go.Proofs.YtnhcocjdkmelhaaDoorW.PrintWords Go.Proofs.YtnhcocjdkmelhaaDoorW.PrintLast Go.Proofs.YtnhcocjdkmelhaaDoorW.PrintMore
attribute [local go_sem] max2_int min2_int max_two min_two max_three min_three max_four min_four   -- for this text's walks alone
set_option linter.unusedVariables false
set_option linter.unusedSimpArgs false

-- GIVEN: function 44 (utf8_decodeRuneSlow)

/-! ### utf8_DecodeRune: function 30 -/
def utf8_DecodeRune.l0 : Nat → List Int → List Int → Int → Int → Option (Int × Int)
  | 0, _, _, _, _ => none
  | k + 1, x0, x6, x7, x8 => if x8 < x7 then (if 0 ≤ x8 then (if x8 < (x6.length : Int) then (if (rd x6 x8) < 128 then (some (wrap32 (rd x6 x8), 1)) else ((utf8_decodeRuneSlow.f x0).bind fun bt102 => (some (bt102.1, bt102.2)))) else (none)) else (none)) else ((utf8_decodeRuneSlow.f x0).bind fun bt104 => (some (bt104.1, bt104.2)))
def utf8_DecodeRune.f (k : Nat) (l0 : List Int) : Option (Int × Int) := utf8_DecodeRune.l0 k l0 l0 (l0.length : Int) 0
theorem utf8_DecodeRune.mono_l : ∀ k, (∀ y0 y1 y2 y3, LeO (utf8_DecodeRune.l0 k y0 y1 y2 y3) (utf8_DecodeRune.l0 (k + 1) y0 y1 y2 y3))
  | 0 => fun _ _ _ _ r h => by simp [utf8_DecodeRune.l0] at h
  | k + 1 => by
    have ih0 := utf8_DecodeRune.mono_l k
    · intro y0 y1 y2 y3
      unfold utf8_DecodeRune.l0
      repeat' first
      | (with_reducible exact ih0 _ _ _ _)
      | (with_reducible exact LeO.refl _)
      | (with_reducible exact LeO.none _)
      | (with_reducible refine LeO.ite ?_ ?_)
      | (with_reducible refine LeO.bind ?_ (fun _ => ?_))
      | exact ih0 _ _ _ _
      | exact LeO.none _
      | refine LeO.ite ?_ ?_
      | refine LeO.bind ?_ (fun _ => ?_)
theorem utf8_DecodeRune.mono : ∀ a0 k, LeO (utf8_DecodeRune.f k a0) (utf8_DecodeRune.f (k + 1) a0) := by
  intro a0 k
  have ih0 := utf8_DecodeRune.mono_l k
  unfold utf8_DecodeRune.f
  repeat' first
      | (with_reducible exact ih0 _ _ _ _)
      | (with_reducible exact LeO.refl _)
      | (with_reducible exact LeO.none _)
      | (with_reducible refine LeO.ite ?_ ?_)
      | (with_reducible refine LeO.bind ?_ (fun _ => ?_))
      | exact ih0 _ _ _ _
      | exact LeO.none _
      | refine LeO.ite ?_ ?_
      | refine LeO.bind ?_ (fun _ => ?_)
set_option maxHeartbeats 8000000 in
set_option maxRecDepth 100000 in
theorem utf8_DecodeRune.calls (k : Nat) (A0 : Option Addr) (c0 : Nat) (l0 : List Int) (r1 : Int) (r2 : Int) (w : World) (hr0 : Kd.C (Kd.int .u8) w A0 l0.length l0) (hc0 : l0.length ≤ c0) (h : utf8_DecodeRune.f k l0 = some (r1, r2)) :
    Calls Tryd.prog 30 #[.slice A0 l0.length c0] w fun e w' => e = .returned (.tuple #[.int .i32 r1, .int .i64 r2]) ∧ Below w.heap.size w w' := by
  have HR0 := Aside0.mk hr0
  have HC0 := Aside0.mk hc0
  clear hr0 hc0
  have HB := Aside0.mk (Below.refl w.heap.size w)
  have H : (utf8_DecodeRune.l0 k l0 l0 (l0.length : Int) 0) = some (r1, r2) := h
  clear h
  have H' := Aside0.mk H
  clear H
  go_enter Tryd.func30, Tryd.ntmps30
  go_wp2
  go_loopg [8] k (fun kq v8 w' => ∃ (x8_1 : Int), v8 = .int .i64 x8_1 ∧ Aside0 (utf8_DecodeRune.l0 kq l0 l0 (l0.length : Int) x8_1 = some (r1, r2)) ∧ Aside0 (kq ≤ k) ∧ Aside0 (Below w.heap.size w w'))
  case atStart => exact ⟨(0), (by first | rfl | (simp; done) | (simp [*]; done)), H', ⟨Nat.le_refl _⟩, ⟨by repeat (first | (with_reducible first | exact HB.out | apply below_alloc | apply pw_below_drewN | apply below_drew1) | exact HB.out)⟩⟩
  case round =>
    clear H'
    obtain ⟨x8_1, rfl, HA, HK1, HB⟩ := hrel
    cases gk with
    | zero => exact absurd HA.out (by simp [utf8_DecodeRune.l0])
    | succ k1 =>
      have H := HA.out
      clear HA
      simp only [utf8_DecodeRune.l0] at H
      by_cases c2 : x8_1 < (l0.length : Int)
      · rw [if_pos c2] at H
        have c2b0 : decide (x8_1 < (l0.length : Int)) = true := decide_eq_true c2
        clear c2
        by_cases c3 : 0 ≤ x8_1
        · rw [if_pos c3] at H
          have c3b0 : decide (0 ≤ x8_1) = true := decide_eq_true c3
          clear c3
          by_cases c4 : x8_1 < (l0.length : Int)
          · rw [if_pos c4] at H
            have c4b0 : decide (x8_1 < (l0.length : Int)) = true := decide_eq_true c4
            clear c4
            by_cases c5 : (rd l0 x8_1) < 128
            · rw [if_pos c5] at H
              have c5b0 : decide ((rd l0 x8_1) < 128) = true := decide_eq_true c5
              clear c5
              simp only [Option.some.injEq, Prod.mk.injEq] at H
              obtain ⟨rfl, rfl⟩ := H
              have p101 : 0 ≤ (x8_1 : Int) := of_decide_eq_true (by first | (with_reducible assumption) | assumption)
              have q101 : x8_1 < (l0.length : Int) := of_decide_eq_true (by first | (with_reducible assumption) | assumption)
              obtain ⟨ad101, e101, hx101_0⟩ := Kd.at_int HR0.out x8_1 p101 q101
              cases e101
              replace hx101_0 := (HB.out.cell (World.block_lt_of_cell? w _ hx101_0)).trans hx101_0
              replace p101 := eq_true p101
              replace q101 := eq_true q101
              go_wp2
              go_ret2
              exact ⟨by first | rfl | (simp [errW_none, errW_some] <;> rfl) | (simp [*, errW_none, errW_some] <;> rfl), by repeat (first | (with_reducible first | exact HB.out | apply below_alloc | apply pw_below_drewN | apply below_drew1) | exact HB.out)⟩
            · rw [if_neg c5] at H
              have c5b0 : decide ((rd l0 x8_1) < 128) = false := decide_eq_false c5
              clear c5
              replace H := Option.bind_eq_some_iff.mp H
              obtain ⟨⟨t102, t103⟩, A60, H⟩ := H
              replace H : (some (t102, t103)) = some (r1, r2) := H
              have A6 := Aside0.mk A60
              clear A60
              simp only [Option.some.injEq, Prod.mk.injEq] at H
              obtain ⟨rfl, rfl⟩ := H
              have p101 : 0 ≤ (x8_1 : Int) := of_decide_eq_true (by first | (with_reducible assumption) | assumption)
              have q101 : x8_1 < (l0.length : Int) := of_decide_eq_true (by first | (with_reducible assumption) | assumption)
              obtain ⟨ad101, e101, hx101_0⟩ := Kd.at_int HR0.out x8_1 p101 q101
              cases e101
              replace hx101_0 := (HB.out.cell (World.block_lt_of_cell? w _ hx101_0)).trans hx101_0
              replace p101 := eq_true p101
              replace q101 := eq_true q101
              go_wp2_with (first | ((with_reducible refine gate_callee (f := 44) rfl ?_); refine goesL_ (some 19) rfl rfl Tryd.func44 (by kernel_rfl) rfl #[.slice (some ad101) l0.length c0] rfl (by (try simp only [List.map_toArray, List.map_cons, List.map_nil]); first | done | rfl | (simp only [List.length_drop, List.length_take]; rfl)) ?_; (with_reducible refine (utf8_decodeRuneSlow.calls _ _ l0 t102 t103 _ ?side1 ?side2 A6.out).mono ?_); (case side1 => repeat (first | exact (Kd.C_below HR0.out HB.out) | (with_reducible refine Kd.C_alloc ?_ _) | (with_reducible refine Kd.C_drewN ?_ _) | (with_reducible refine Kd.C_drew ?_))); (case side2 => exact HC0.out); rintro e w7 ⟨rfl, hb⟩; refine ⟨_, rfl, ?_⟩; have n0_ := Aside0.mk (below_step (by repeat (first | (with_reducible first | exact HB.out | apply below_alloc | apply pw_below_drewN | apply below_drew1) | exact HB.out)) hb); clear HB; have HB := n0_; clear n0_; (try clear hb); (try clear hb2); (try clear hk); (try clear hi)))
              go_ret2
              exact ⟨by first | rfl | (simp [errW_none, errW_some] <;> rfl) | (simp [*, errW_none, errW_some] <;> rfl), by repeat (first | (with_reducible first | exact HB.out | apply below_alloc | apply pw_below_drewN | apply below_drew1) | exact HB.out)⟩
          · rw [if_neg c4] at H
            exact absurd H (by simp)
        · rw [if_neg c3] at H
          exact absurd H (by simp)
      · rw [if_neg c2] at H
        have c2b0 : decide (x8_1 < (l0.length : Int)) = false := decide_eq_false c2
        clear c2
        replace H := Option.bind_eq_some_iff.mp H
        obtain ⟨⟨t104, t105⟩, A80, H⟩ := H
        replace H : (some (t104, t105)) = some (r1, r2) := H
        have A8 := Aside0.mk A80
        clear A80
        simp only [Option.some.injEq, Prod.mk.injEq] at H
        obtain ⟨rfl, rfl⟩ := H
        go_wp2_with (first | ((with_reducible refine gate_callee (f := 44) rfl ?_); refine goesL_ (some 19) rfl rfl Tryd.func44 (by kernel_rfl) rfl #[.slice A0 l0.length c0] rfl (by (try simp only [List.map_toArray, List.map_cons, List.map_nil]); first | done | rfl | (simp only [List.length_drop, List.length_take]; rfl)) ?_; (with_reducible refine (utf8_decodeRuneSlow.calls _ _ l0 t104 t105 _ ?side1 ?side2 A8.out).mono ?_); (case side1 => repeat (first | exact (Kd.C_below HR0.out HB.out) | (with_reducible refine Kd.C_alloc ?_ _) | (with_reducible refine Kd.C_drewN ?_ _) | (with_reducible refine Kd.C_drew ?_))); (case side2 => exact HC0.out); rintro e w9 ⟨rfl, hb⟩; refine ⟨_, rfl, ?_⟩; have n0_ := Aside0.mk (below_step (by repeat (first | (with_reducible first | exact HB.out | apply below_alloc | apply pw_below_drewN | apply below_drew1) | exact HB.out)) hb); clear HB; have HB := n0_; clear n0_; (try clear hb); (try clear hb2); (try clear hk); (try clear hi)))
        go_ret2
        exact ⟨by first | rfl | (simp [errW_none, errW_some] <;> rfl) | (simp [*, errW_none, errW_some] <;> rfl), by repeat (first | (with_reducible first | exact HB.out | apply below_alloc | apply pw_below_drewN | apply below_drew1) | exact HB.out)⟩

/-! ### textutils_TrimConsecutiveNewlines: function 20 -/
def textutils_TrimConsecutiveNewlines.l0 : Nat → List Int → List Int → Int → List Int → Int → Option (List Int)
  | 0, _, _, _, _, _ => none
  | k + 1, x0, x3, x4, x5, x6 => if x6 < (x0.length : Int) then (if 0 ≤ x6 then (if x6 ≤ (x0.length : Int) then ((utf8_DecodeRune.f k (x0.drop (x6 : Int).toNat)).bind fun bt113 => (if bt113.1 = 10 then (if (wrap64 (x4 + 1)) ≤ 2 then (if x3.length + x5.length < 140737488355328 then ((some (x3 ++ x5 : List Int)).bind fun y115 => (if y115.length < 140737488355328 then (if 0 ≤ (x5.length : Int) then (textutils_TrimConsecutiveNewlines.l0 k x0 (y115 ++ [10]) (wrap64 (x4 + 1)) (x5.take (0 : Int).toNat) (wrap64 (x6 + bt113.2))) else (none)) else (none))) else (none)) else (if 0 ≤ (x5.length : Int) then (textutils_TrimConsecutiveNewlines.l0 k x0 x3 (wrap64 (x4 + 1)) (x5.take (0 : Int).toNat) (wrap64 (x6 + bt113.2))) else (none))) else (if bt113.1 = 32 then (if x6 ≤ (wrap64 (x6 + bt113.2)) then (if (wrap64 (x6 + bt113.2)) ≤ (x0.length : Int) then (if x5.length + ((x0.take ((wrap64 (x6 + bt113.2)) : Int).toNat).drop (x6 : Int).toNat).length < 140737488355328 then (textutils_TrimConsecutiveNewlines.l0 k x0 x3 x4 (x5 ++ ((x0.take ((wrap64 (x6 + bt113.2)) : Int).toNat).drop (x6 : Int).toNat)) (wrap64 (x6 + bt113.2))) else (none)) else (none)) else (none)) else (if x3.length + x5.length < 140737488355328 then ((some (x3 ++ x5 : List Int)).bind fun y131 => (if x6 ≤ (wrap64 (x6 + bt113.2)) then (if (wrap64 (x6 + bt113.2)) ≤ (x0.length : Int) then (if y131.length + ((x0.take ((wrap64 (x6 + bt113.2)) : Int).toNat).drop (x6 : Int).toNat).length < 140737488355328 then (if 0 ≤ (x5.length : Int) then (textutils_TrimConsecutiveNewlines.l0 k x0 (y131 ++ ((x0.take ((wrap64 (x6 + bt113.2)) : Int).toNat).drop (x6 : Int).toNat)) 0 (x5.take (0 : Int).toNat) (wrap64 (x6 + bt113.2))) else (none)) else (none)) else (none)) else (none))) else (none))))) else (none)) else (none)) else (if x3.length + x5.length < 140737488355328 then (some (x3 ++ x5)) else (none))
def textutils_TrimConsecutiveNewlines.f (k : Nat) (l0 : List Int) : Option (List Int) := textutils_TrimConsecutiveNewlines.l0 k l0 ([] : List Int) 0 (([] : List Int)) 0
theorem textutils_TrimConsecutiveNewlines.mono_l : ∀ k, (∀ y0 y1 y2 y3 y4, LeO (textutils_TrimConsecutiveNewlines.l0 k y0 y1 y2 y3 y4) (textutils_TrimConsecutiveNewlines.l0 (k + 1) y0 y1 y2 y3 y4))
  | 0 => fun _ _ _ _ _ r h => by simp [textutils_TrimConsecutiveNewlines.l0] at h
  | k + 1 => by
    have ih0 := textutils_TrimConsecutiveNewlines.mono_l k
    · intro y0 y1 y2 y3 y4
      unfold textutils_TrimConsecutiveNewlines.l0
      repeat' first
      | (with_reducible exact ih0 _ _ _ _ _)
      | (with_reducible exact utf8_DecodeRune.mono _ _)
      | (with_reducible exact LeO.refl _)
      | (with_reducible exact LeO.none _)
      | (with_reducible refine LeO.ite ?_ ?_)
      | (with_reducible refine LeO.bind ?_ (fun _ => ?_))
      | exact ih0 _ _ _ _ _
      | exact utf8_DecodeRune.mono _ _
      | exact LeO.none _
      | refine LeO.ite ?_ ?_
      | refine LeO.bind ?_ (fun _ => ?_)
theorem textutils_TrimConsecutiveNewlines.mono : ∀ a0 k, LeO (textutils_TrimConsecutiveNewlines.f k a0) (textutils_TrimConsecutiveNewlines.f (k + 1) a0) := by
  intro a0 k
  have ih0 := textutils_TrimConsecutiveNewlines.mono_l k
  unfold textutils_TrimConsecutiveNewlines.f
  repeat' first
      | (with_reducible exact ih0 _ _ _ _ _)
      | (with_reducible exact utf8_DecodeRune.mono _ _)
      | (with_reducible exact LeO.refl _)
      | (with_reducible exact LeO.none _)
      | (with_reducible refine LeO.ite ?_ ?_)
      | (with_reducible refine LeO.bind ?_ (fun _ => ?_))
      | exact ih0 _ _ _ _ _
      | exact utf8_DecodeRune.mono _ _
      | exact LeO.none _
      | refine LeO.ite ?_ ?_
      | refine LeO.bind ?_ (fun _ => ?_)
set_option maxHeartbeats 8000000 in
set_option maxRecDepth 100000 in
theorem textutils_TrimConsecutiveNewlines.calls (k : Nat) (A0 : Option Addr) (c0 : Nat) (l0 : List Int) (r : List Int) (w : World) (hr0 : Kd.C (Kd.int .u8) w A0 l0.length l0) (hc0 : l0.length ≤ c0) (h : textutils_TrimConsecutiveNewlines.f k l0 = some r) :
    Calls Tryd.prog 20 #[.slice A0 l0.length c0] w fun e w' => ∃ v0_ : Value, e = .returned (v0_) ∧ Kd.R (Kd.int .u8) 5 w' w.heap.size (fun _ => True) v0_ r ∧ Below w.heap.size w w' := by
  have HR0 := Aside0.mk hr0
  have HC0 := Aside0.mk hc0
  clear hr0 hc0
  have HB := Aside0.mk (Below.refl w.heap.size w)
  have H : (textutils_TrimConsecutiveNewlines.l0 k l0 ([] : List Int) 0 (([] : List Int)) 0) = some r := h
  clear h
  obtain ⟨y106, hy106⟩ : ∃ y_ : List Int, y_ = (([] : List Int)) := ⟨_, rfl⟩
  replace H : (textutils_TrimConsecutiveNewlines.l0 k l0 ([] : List Int) 0 y106 0) = some r := by first | (rw [hy106]; with_reducible exact H) | (have H2_ := (Option.bind_some _ _).symm.trans H; rw [hy106]; with_reducible exact H2_) | (have H2_ := (Option.bind_some _ _).symm.trans H; with_reducible exact H2_) | with_reducible exact H | (rw [hy106]; exact H) | exact H
  have Ny106 := Aside0.mk hy106
  clear hy106
  have H' := Aside0.mk H
  clear H
  go_enter Tryd.func20, Tryd.ntmps20
  go_wp2_with (first | ((with_reducible refine gate_dst (N := 9) rfl ?_); refine Kd.R_lit (Kd.int .u8) _ 5 ?hg (N := 9) ?hd (xs := ([] : List Int)) (inner := []) (ok := fun _ => True) (okp := fun _ => True) ?hr ?hp (fun _ hk => hk) trivial (Below.refl _ _) (Nat.le_refl _) (by simp) ?_; (case hd => rfl); (case hg => rfl); (case hr => first | (go_simp; done) | (go_simp; rfl)); (case hp => exact (Reps.none _ _)); intro v107 w2 ho3 hb hg_ hnew_; clear hg_ hnew_; (first | rw [← Ny106.out] at ho3 | (simp only [Int.reduceToNat] at ho3; rw [← Ny106.out] at ho3)); have n0_ := Aside0.mk (Kd.R_lower ho3 (below_size (by repeat (first | (with_reducible first | exact HB.out | apply below_alloc | apply pw_below_drewN | apply below_drew1) | exact HB.out)))); have n1_ := Aside0.mk (below_step (by repeat (first | (with_reducible first | exact HB.out | apply below_alloc | apply pw_below_drewN | apply below_drew1) | exact HB.out)) hb); clear HB; have HO108 := n0_; have HB := n1_; clear n0_ n1_; clear hb ho3))
  go_loopg [3, 4, 5, 6] k (fun kq v3 v4 v5 v6 w' => ∃ (x3_1 : List Int) (x4_1 : Int) (x5_1 : List Int) (x6_1 : Int), v4 = .int .i64 x4_1 ∧ v6 = .int .i64 x6_1 ∧ Aside0 (textutils_TrimConsecutiveNewlines.l0 kq l0 x3_1 x4_1 x5_1 x6_1 = some r) ∧ Aside0 (kq ≤ k) ∧ Aside0 (Kd.R (Kd.int .u8) 5 w' w.heap.size (fun k_ => some k_ ≠ (v5 : Value).ownBlock) v3 x3_1) ∧ Aside0 (Kd.R (Kd.int .u8) 5 w' w.heap.size (fun k_ => some k_ ≠ (v3 : Value).ownBlock) v5 x5_1) ∧ Aside0 (Below w.heap.size w w'))
  case atStart => exact ⟨(([] : List Int)), (0), (y106), (0), (by first | rfl | (simp; done) | (simp [*]; done)), (by first | rfl | (simp; done) | (simp [*]; done)), H', ⟨Nat.le_refl _⟩, ⟨by first | exact Kd.R_nil _ _ _ _ _ | exact Kd.N_nil _ _ _ _ _ | exact Kd.V_nil _ _ _ _ _ | exact Kd.Q_nil _ _ _ _ _ | exact Kd.S_nil _ _ _ _ _⟩, ⟨by (with_reducible repeat (first | apply Kd.R_alloc | apply Kd.R_drewN | apply Kd.R_drew)); exact Kd.R_mono HO108.out (fun _ hk => (by simp [Value.ownBlock]))⟩, ⟨by repeat (first | (with_reducible first | exact HB.out | apply below_alloc | apply pw_below_drewN | apply below_drew1) | exact HB.out)⟩⟩
  case round =>
    clear H'
    try clear c2
    try clear p2
    obtain ⟨x3_1, x4_1, x5_1, x6_1, rfl, rfl, HA, HK1, HO_3, HO_5, HB⟩ := hrel
    cases gk with
    | zero => exact absurd HA.out (by simp [textutils_TrimConsecutiveNewlines.l0])
    | succ k1 =>
      have H := HA.out
      clear HA
      simp only [textutils_TrimConsecutiveNewlines.l0] at H
      by_cases c4 : x6_1 < (l0.length : Int)
      · rw [if_pos c4] at H
        have c4b0 : decide (x6_1 < (l0.length : Int)) = true := decide_eq_true c4
        clear c4
        by_cases c5 : 0 ≤ x6_1
        · rw [if_pos c5] at H
          have c5b0 := eq_true c5
          have c5b1 : decide (0 ≤ x6_1) = true := decide_eq_true c5
          clear c5
          by_cases c6 : x6_1 ≤ (l0.length : Int)
          · rw [if_pos c6] at H
            have c6b0 := eq_true c6
            have c6b1 : decide (x6_1 ≤ (l0.length : Int)) = true := decide_eq_true c6
            clear c6
            replace H := Option.bind_eq_some_iff.mp H
            obtain ⟨⟨t113, t114⟩, A70, H⟩ := H
            replace H : (if t113 = 10 then (if (wrap64 (x4_1 + 1)) ≤ 2 then (if x3_1.length + x5_1.length < 140737488355328 then ((some (x3_1 ++ x5_1 : List Int)).bind fun y115 => (if y115.length < 140737488355328 then (if 0 ≤ (x5_1.length : Int) then (textutils_TrimConsecutiveNewlines.l0 k1 l0 (y115 ++ [10]) (wrap64 (x4_1 + 1)) (x5_1.take (0 : Int).toNat) (wrap64 (x6_1 + t114))) else (none)) else (none))) else (none)) else (if 0 ≤ (x5_1.length : Int) then (textutils_TrimConsecutiveNewlines.l0 k1 l0 x3_1 (wrap64 (x4_1 + 1)) (x5_1.take (0 : Int).toNat) (wrap64 (x6_1 + t114))) else (none))) else (if t113 = 32 then (if x6_1 ≤ (wrap64 (x6_1 + t114)) then (if (wrap64 (x6_1 + t114)) ≤ (l0.length : Int) then (if x5_1.length + ((l0.take ((wrap64 (x6_1 + t114)) : Int).toNat).drop (x6_1 : Int).toNat).length < 140737488355328 then (textutils_TrimConsecutiveNewlines.l0 k1 l0 x3_1 x4_1 (x5_1 ++ ((l0.take ((wrap64 (x6_1 + t114)) : Int).toNat).drop (x6_1 : Int).toNat)) (wrap64 (x6_1 + t114))) else (none)) else (none)) else (none)) else (if x3_1.length + x5_1.length < 140737488355328 then ((some (x3_1 ++ x5_1 : List Int)).bind fun y131 => (if x6_1 ≤ (wrap64 (x6_1 + t114)) then (if (wrap64 (x6_1 + t114)) ≤ (l0.length : Int) then (if y131.length + ((l0.take ((wrap64 (x6_1 + t114)) : Int).toNat).drop (x6_1 : Int).toNat).length < 140737488355328 then (if 0 ≤ (x5_1.length : Int) then (textutils_TrimConsecutiveNewlines.l0 k1 l0 (y131 ++ ((l0.take ((wrap64 (x6_1 + t114)) : Int).toNat).drop (x6_1 : Int).toNat)) 0 (x5_1.take (0 : Int).toNat) (wrap64 (x6_1 + t114))) else (none)) else (none)) else (none)) else (none))) else (none)))) = some r := H
            have A7 := Aside0.mk A70
            clear A70
            by_cases c8 : t113 = 10
            · rw [if_pos c8] at H
              have c8b0 : (t113 == 10) = true := beq_iff_eq.mpr c8
              have c8b1 : (t113 != 10) = false := bne_eq_false_iff_eq.mpr c8
              clear c8
              by_cases c9 : (wrap64 (x4_1 + 1)) ≤ 2
              · rw [if_pos c9] at H
                have c9b0 : decide ((wrap64 (x4_1 + 1)) ≤ 2) = true := decide_eq_true c9
                clear c9
                by_cases c10 : x3_1.length + x5_1.length < 140737488355328
                · rw [if_pos c10] at H
                  have LMc10 := Aside0.mk c10
                  clear c10
                  obtain ⟨y115, hy115⟩ : ∃ y_ : List Int, y_ = (x3_1 ++ x5_1) := ⟨_, rfl⟩
                  replace H : (if y115.length < 140737488355328 then (if 0 ≤ (x5_1.length : Int) then (textutils_TrimConsecutiveNewlines.l0 k1 l0 (y115 ++ [10]) (wrap64 (x4_1 + 1)) (x5_1.take (0 : Int).toNat) (wrap64 (x6_1 + t114))) else (none)) else (none)) = some r := by first | (rw [hy115]; with_reducible exact H) | (have H2_ := (Option.bind_some _ _).symm.trans H; rw [hy115]; with_reducible exact H2_) | (have H2_ := (Option.bind_some _ _).symm.trans H; with_reducible exact H2_) | with_reducible exact H | (rw [hy115]; exact H) | exact H
                  have Ny115 := Aside0.mk hy115
                  clear hy115
                  by_cases c11 : y115.length < 140737488355328
                  · rw [if_pos c11] at H
                    have LMc11 := Aside0.mk c11
                    clear c11
                    obtain ⟨y118, hy118⟩ : ∃ y_ : List Int, y_ = (y115 ++ [10]) := ⟨_, rfl⟩
                    replace H : (if 0 ≤ (x5_1.length : Int) then (textutils_TrimConsecutiveNewlines.l0 k1 l0 y118 (wrap64 (x4_1 + 1)) (x5_1.take (0 : Int).toNat) (wrap64 (x6_1 + t114))) else (none)) = some r := by first | (rw [hy118]; with_reducible exact H) | (have H2_ := (Option.bind_some _ _).symm.trans H; rw [hy118]; with_reducible exact H2_) | (have H2_ := (Option.bind_some _ _).symm.trans H; with_reducible exact H2_) | with_reducible exact H | (rw [hy118]; exact H) | exact H
                    have Ny118 := Aside0.mk hy118
                    clear hy118
                    by_cases c12 : 0 ≤ (x5_1.length : Int)
                    · rw [if_pos c12] at H
                      have c12b0 := eq_true c12
                      have c12b1 : decide (0 ≤ (x5_1.length : Int)) = true := decide_eq_true c12
                      clear c12
                      obtain ⟨y121, hy121⟩ : ∃ y_ : List Int, y_ = (x5_1.take (0 : Int).toNat) := ⟨_, rfl⟩
                      replace H : (textutils_TrimConsecutiveNewlines.l0 k1 l0 y118 (wrap64 (x4_1 + 1)) y121 (wrap64 (x6_1 + t114))) = some r := by first | (rw [hy121]; with_reducible exact H) | (have H2_ := (Option.bind_some _ _).symm.trans H; rw [hy121]; with_reducible exact H2_) | (have H2_ := (Option.bind_some _ _).symm.trans H; with_reducible exact H2_) | with_reducible exact H | (rw [hy121]; exact H) | exact H
                      have Ny121 := Aside0.mk hy121
                      clear hy121
                      have H' := Aside0.mk H
                      clear H
                      obtain ⟨i013, hi013, _, hsz13, _⟩ := info_parts info5
                      obtain ⟨A13, hcut13, hA13, hC13⟩ := print_drop_of (P := Tryd.prog) (Value.int .u8) 0 33 5 .i64 Tryd.underlying33 hi013 hsz13 A0 c0 l0 x6_1 (of_decide_eq_true (by first | (with_reducible assumption) | assumption)) (of_decide_eq_true (by first | (with_reducible assumption) | assumption)) HC0.out
                      have HR112 := Aside0.mk (Kd.C_of_reads (h1 := fun _ => rfl) (hA13 _ (Kd.reads_of_C HR0.out)))
                      have HC112 := Aside0.mk hC13
                      clear hA13 hC13 hi013 hsz13
                      go_wp2_with (first | ((with_reducible refine gate_callee (f := 30) rfl ?_); refine goesL_ (some 18) rfl rfl Tryd.func30 (by kernel_rfl) rfl #[.slice A13 (l0.drop (x6_1 : Int).toNat).length (c0 - x6_1.toNat)] rfl (by (try simp only [List.map_toArray, List.map_cons, List.map_nil]); first | done | (rw [show (l0.drop (x6_1 : Int).toNat).length = (l0.length - x6_1.toNat) from List.length_drop] <;> rfl) | rfl | (simp only [List.length_drop, List.length_take]; rfl)) ?_; (with_reducible refine (utf8_DecodeRune.calls k1 _ _ (l0.drop (x6_1 : Int).toNat) t113 t114 _ ?side1 ?side2 A7.out).mono ?_); (case side1 => repeat (first | exact (Kd.C_below HR112.out HB.out) | (with_reducible refine Kd.C_alloc ?_ _) | (with_reducible refine Kd.C_drewN ?_ _) | (with_reducible refine Kd.C_drew ?_))); (case side2 => exact HC112.out); rintro e w14 ⟨rfl, hb⟩; refine ⟨_, rfl, ?_⟩; have n0_ := Aside0.mk (Kd.R_below (by (with_reducible repeat (first | apply Kd.R_alloc | apply Kd.R_drewN | apply Kd.R_drew)); exact HO_3.out) hb); have n1_ := Aside0.mk (Kd.R_below (by (with_reducible repeat (first | apply Kd.R_alloc | apply Kd.R_drewN | apply Kd.R_drew)); exact HO_5.out) hb); have n2_ := Aside0.mk (below_step (by repeat (first | (with_reducible first | exact HB.out | apply below_alloc | apply pw_below_drewN | apply below_drew1) | exact HB.out)) hb); clear HO_3; clear HO_5; clear HB; have HO_3 := n0_; have HO_5 := n1_; have HB := n2_; clear n0_ n1_ n2_; (try clear hb); (try clear hb2); (try clear hk); (try clear hi); obtain ⟨Ao16, co16, eo16⟩ := Kd.R_slice HO_5.out; subst eo16) | ((with_reducible refine gate_builtin (b := .append) (xs := #[.tmp 27, .tmp 28]) rfl ?_); at_builtin; refine Kd.R_append_rows (Kd.int .u8) (w0 := w) w.heap.size rfl (.tmp 27) (.tmp 28) 33 5 (.int .u8 0) 1 rfl Tryd.underlying33 info5 rfl (by decide) (by omega) u3 x3_1 x5_1 _ _ _ (fun k_ => some k_ ≠ (.slice Ao16 x5_1.length co16 : Value).ownBlock) (fun _ => False) rfl rfl ?aO ?aR (fun _ _ h => h) (fun _ h => h.elim) ?aF ?aB ?aS ?aL ?_; (case aR => repeat (first | exact (Kd.R_reads' HO_5.out).2.2 | (with_reducible refine Kd.C_alloc ?_ _) | (with_reducible refine Kd.C_drewN ?_ _) | (with_reducible refine Kd.C_drew ?_))); (case aB => exact (by repeat (first | (with_reducible first | exact HB.out | apply below_alloc | apply pw_below_drewN | apply below_drew1) | exact HB.out))); (case aF => exact (fun k_ hk => Kd.fresh' (Kd.R_lt (by (with_reducible repeat (first | apply Kd.R_alloc | apply Kd.R_drewN | apply Kd.R_drew)); exact HO_5.out)) k_ hk)); (case aO => exact (by (with_reducible repeat (first | apply Kd.R_alloc | apply Kd.R_drewN | apply Kd.R_drew)); exact HO_3.out)); (case aS => exact (below_size (by repeat (first | (with_reducible first | exact HB.out | apply below_alloc | apply pw_below_drewN | apply below_drew1) | exact HB.out)))); (case aL => have := LMc10.out; (first | omega | (simp only [ByteArray.size, List.size_toArray, List.length_cons, List.length_nil]; omega))); intro v116 w15 ho hb hg hat; rw [← Ny115.out] at ho; have n0_ := Aside0.mk (Kd.R_after (ok := (fun _ => True)) (by (with_reducible repeat (first | apply Kd.R_alloc | apply Kd.R_drewN | apply Kd.R_drew)); exact Kd.R_mono HO_5.out (fun _ hk => ⟨trivial, hk⟩)) hg hat); have n1_ := Aside0.mk (hb); have n2_ := Aside0.mk (ho); clear HO_5; clear HB; clear HO_3; have HO_5 := n0_; have HB := n1_; have HO117 := n2_; clear n0_ n1_ n2_; clear ho hb hg hat) | ((with_reducible refine gate_builtin (b := .append) (xs := #[.tmp 30, .tmp 31]) rfl ?_); at_builtin; refine Kd.R_append (Kd.int .u8) (w0 := w) w.heap.size rfl (.tmp 30) (.tmp 31) 33 5 (.int .u8 0) 1 rfl Tryd.underlying33 info5 rfl (by decide) (by omega) v116 y115 10 [.int .u8 10] (fun k_ => some k_ ≠ (.slice Ao16 x5_1.length co16 : Value).ownBlock) (fun _ => False) rfl rfl ?aP (fun _ hk => hk.elim) ?aF ?aO ?aB ?aS ?aL ?_; (case aP => exact rfl); (case aB => exact (by repeat (first | (with_reducible first | exact HB.out | apply below_alloc | apply pw_below_drewN | apply below_drew1) | exact HB.out))); (case aF => exact (fun k_ hk => Kd.fresh' (Kd.R_lt (by (with_reducible repeat (first | apply Kd.R_alloc | apply Kd.R_drewN | apply Kd.R_drew)); exact HO_5.out)) k_ hk)); (case aO => exact (by (with_reducible repeat (first | apply Kd.R_alloc | apply Kd.R_drewN | apply Kd.R_drew)); exact HO117.out)); (case aS => exact (below_size (by repeat (first | (with_reducible first | exact HB.out | apply below_alloc | apply pw_below_drewN | apply below_drew1) | exact HB.out)))); (case aL => have := LMc11.out; (first | omega | (simp only [ByteArray.size, List.size_toArray, List.length_cons, List.length_nil]; omega))); intro v119 w17 ho hb hg hat; rw [← Ny118.out] at ho; have n0_ := Aside0.mk (Kd.R_after (ok := (fun _ => True)) (by (with_reducible repeat (first | apply Kd.R_alloc | apply Kd.R_drewN | apply Kd.R_drew)); exact HO_5.out) hg hat); have n1_ := Aside0.mk (hb); have n2_ := Aside0.mk (ho); clear HO_5; clear HB; clear HO117; have HO_5 := n0_; have HB := n1_; have HO120 := n2_; clear n0_ n1_ n2_; clear ho hb hg hat; have q18 : (0 : Int) ≤ ((x5_1.length : Int) : Int) := of_decide_eq_true (by first | (with_reducible assumption) | assumption); obtain ⟨i018, hi018, _, hsz18, _⟩ := info_parts info5; have hcut18 := cut_to (P := Tryd.prog) 33 5 .i64 Tryd.underlying33 hi018 Ao16 x5_1.length co16 0 (by omega) q18 (Kd.R_reads' HO_5.out).2.1; have hr18 := Kd.R_take (m := (0 : Int).toNat) HO_5.out (by omega); have hy18 : y121.length = (0 : Int).toNat := (by rw [Ny121.out, List.length_take]; omega); rw [← Ny121.out] at hr18; rw [← hy18] at hr18 hcut18; clear hy18 hi018 hsz18 HO_5; have HO123 := Aside0.mk hr18; clear hr18; replace q18 := eq_true q18))
                      go_roundg k1
                      case measure => have := HK1.out; omega
                      case rel => exact ⟨(y118), (wrap64 (x4_1 + 1)), (y121), (wrap64 (x6_1 + t114)), (by first | rfl | (simp; done) | (simp [*]; done)), (by first | rfl | (simp; done) | (simp [*]; done)), H', ⟨by have := HK1.out; omega⟩, ⟨by (with_reducible repeat (first | apply Kd.R_alloc | apply Kd.R_drewN | apply Kd.R_drew)); first | exact HO120.out | exact own_len_R HO120.out⟩, ⟨by (with_reducible repeat (first | apply Kd.R_alloc | apply Kd.R_drewN | apply Kd.R_drew)); exact Kd.R_mono HO123.out (fun _ hk => hk.2)⟩, ⟨by repeat (first | (with_reducible first | exact HB.out | apply below_alloc | apply pw_below_drewN | apply below_drew1) | exact HB.out)⟩⟩
                    · rw [if_neg c12] at H
                      exact absurd H (by simp)
                  · rw [if_neg c11] at H
                    exact absurd H (by simp)
                · rw [if_neg c10] at H
                  exact absurd H (by simp)
              · rw [if_neg c9] at H
                have c9b0 : decide ((wrap64 (x4_1 + 1)) ≤ 2) = false := decide_eq_false c9
                clear c9
                by_cases c19 : 0 ≤ (x5_1.length : Int)
                · rw [if_pos c19] at H
                  have c19b0 := eq_true c19
                  have c19b1 : decide (0 ≤ (x5_1.length : Int)) = true := decide_eq_true c19
                  clear c19
                  obtain ⟨y124, hy124⟩ : ∃ y_ : List Int, y_ = (x5_1.take (0 : Int).toNat) := ⟨_, rfl⟩
                  replace H : (textutils_TrimConsecutiveNewlines.l0 k1 l0 x3_1 (wrap64 (x4_1 + 1)) y124 (wrap64 (x6_1 + t114))) = some r := by first | (rw [hy124]; with_reducible exact H) | (have H2_ := (Option.bind_some _ _).symm.trans H; rw [hy124]; with_reducible exact H2_) | (have H2_ := (Option.bind_some _ _).symm.trans H; with_reducible exact H2_) | with_reducible exact H | (rw [hy124]; exact H) | exact H
                  have Ny124 := Aside0.mk hy124
                  clear hy124
                  have H' := Aside0.mk H
                  clear H
                  obtain ⟨i020, hi020, _, hsz20, _⟩ := info_parts info5
                  obtain ⟨A20, hcut20, hA20, hC20⟩ := print_drop_of (P := Tryd.prog) (Value.int .u8) 0 33 5 .i64 Tryd.underlying33 hi020 hsz20 A0 c0 l0 x6_1 (of_decide_eq_true (by first | (with_reducible assumption) | assumption)) (of_decide_eq_true (by first | (with_reducible assumption) | assumption)) HC0.out
                  have HR112 := Aside0.mk (Kd.C_of_reads (h1 := fun _ => rfl) (hA20 _ (Kd.reads_of_C HR0.out)))
                  have HC112 := Aside0.mk hC20
                  clear hA20 hC20 hi020 hsz20
                  go_wp2_with (first | ((with_reducible refine gate_callee (f := 30) rfl ?_); refine goesL_ (some 18) rfl rfl Tryd.func30 (by kernel_rfl) rfl #[.slice A20 (l0.drop (x6_1 : Int).toNat).length (c0 - x6_1.toNat)] rfl (by (try simp only [List.map_toArray, List.map_cons, List.map_nil]); first | done | (rw [show (l0.drop (x6_1 : Int).toNat).length = (l0.length - x6_1.toNat) from List.length_drop] <;> rfl) | rfl | (simp only [List.length_drop, List.length_take]; rfl)) ?_; (with_reducible refine (utf8_DecodeRune.calls k1 _ _ (l0.drop (x6_1 : Int).toNat) t113 t114 _ ?side1 ?side2 A7.out).mono ?_); (case side1 => repeat (first | exact (Kd.C_below HR112.out HB.out) | (with_reducible refine Kd.C_alloc ?_ _) | (with_reducible refine Kd.C_drewN ?_ _) | (with_reducible refine Kd.C_drew ?_))); (case side2 => exact HC112.out); rintro e w21 ⟨rfl, hb⟩; refine ⟨_, rfl, ?_⟩; have n0_ := Aside0.mk (Kd.R_below (by (with_reducible repeat (first | apply Kd.R_alloc | apply Kd.R_drewN | apply Kd.R_drew)); exact HO_3.out) hb); have n1_ := Aside0.mk (Kd.R_below (by (with_reducible repeat (first | apply Kd.R_alloc | apply Kd.R_drewN | apply Kd.R_drew)); exact HO_5.out) hb); have n2_ := Aside0.mk (below_step (by repeat (first | (with_reducible first | exact HB.out | apply below_alloc | apply pw_below_drewN | apply below_drew1) | exact HB.out)) hb); clear HO_3; clear HO_5; clear HB; have HO_3 := n0_; have HO_5 := n1_; have HB := n2_; clear n0_ n1_ n2_; (try clear hb); (try clear hb2); (try clear hk); (try clear hi); obtain ⟨Ao22, co22, eo22⟩ := Kd.R_slice HO_5.out; subst eo22; have q23 : (0 : Int) ≤ ((x5_1.length : Int) : Int) := of_decide_eq_true (by first | (with_reducible assumption) | assumption); obtain ⟨i023, hi023, _, hsz23, _⟩ := info_parts info5; have hcut23 := cut_to (P := Tryd.prog) 33 5 .i64 Tryd.underlying33 hi023 Ao22 x5_1.length co22 0 (by omega) q23 (Kd.R_reads' HO_5.out).2.1; have hr23 := Kd.R_take (m := (0 : Int).toNat) HO_5.out (by omega); have hy23 : y124.length = (0 : Int).toNat := (by rw [Ny124.out, List.length_take]; omega); rw [← Ny124.out] at hr23; rw [← hy23] at hr23 hcut23; clear hy23 hi023 hsz23 HO_5; have HO126 := Aside0.mk hr23; clear hr23; replace q23 := eq_true q23))
                  go_roundg k1
                  case measure => have := HK1.out; omega
                  case rel => exact ⟨(x3_1), (wrap64 (x4_1 + 1)), (y124), (wrap64 (x6_1 + t114)), (by first | rfl | (simp; done) | (simp [*]; done)), (by first | rfl | (simp; done) | (simp [*]; done)), H', ⟨by have := HK1.out; omega⟩, ⟨by (with_reducible repeat (first | apply Kd.R_alloc | apply Kd.R_drewN | apply Kd.R_drew)); first | exact HO_3.out | exact own_len_R HO_3.out⟩, ⟨by (with_reducible repeat (first | apply Kd.R_alloc | apply Kd.R_drewN | apply Kd.R_drew)); first | exact HO126.out | exact own_len_R HO126.out⟩, ⟨by repeat (first | (with_reducible first | exact HB.out | apply below_alloc | apply pw_below_drewN | apply below_drew1) | exact HB.out)⟩⟩
                · rw [if_neg c19] at H
                  exact absurd H (by simp)
            · rw [if_neg c8] at H
              have c8b0 : (t113 == 10) = false := beq_eq_false_iff_ne.mpr c8
              have c8b1 : (t113 != 10) = true := bne_iff_ne.mpr c8
              by_cases c24 : t113 = 32
              · rw [if_pos c24] at H
                have c24b0 : (t113 == 32) = true := beq_iff_eq.mpr c24
                have c24b1 : (t113 != 32) = false := bne_eq_false_iff_eq.mpr c24
                clear c24
                have c25b0 := eq_true (of_decide_eq_true (by first | (with_reducible assumption) | assumption) : 0 ≤ x6_1)
                by_cases c26 : x6_1 ≤ (wrap64 (x6_1 + t114))
                · rw [if_pos c26] at H
                  have c26b0 := eq_true c26
                  have c26b1 : decide (x6_1 ≤ (wrap64 (x6_1 + t114))) = true := decide_eq_true c26
                  by_cases c27 : (wrap64 (x6_1 + t114)) ≤ (l0.length : Int)
                  · rw [if_pos c27] at H
                    have c27b0 := eq_true c27
                    have c27b1 : decide ((wrap64 (x6_1 + t114)) ≤ (l0.length : Int)) = true := decide_eq_true c27
                    by_cases c28 : x5_1.length + ((l0.take ((wrap64 (x6_1 + t114)) : Int).toNat).drop (x6_1 : Int).toNat).length < 140737488355328
                    · rw [if_pos c28] at H
                      have LMc28 := Aside0.mk c28
                      clear c28
                      obtain ⟨y128, hy128⟩ : ∃ y_ : List Int, y_ = (x5_1 ++ ((l0.take ((wrap64 (x6_1 + t114)) : Int).toNat).drop (x6_1 : Int).toNat)) := ⟨_, rfl⟩
                      replace H : (textutils_TrimConsecutiveNewlines.l0 k1 l0 x3_1 x4_1 y128 (wrap64 (x6_1 + t114))) = some r := by first | (rw [hy128]; with_reducible exact H) | (have H2_ := (Option.bind_some _ _).symm.trans H; rw [hy128]; with_reducible exact H2_) | (have H2_ := (Option.bind_some _ _).symm.trans H; with_reducible exact H2_) | with_reducible exact H | (rw [hy128]; exact H) | exact H
                      have Ny128 := Aside0.mk hy128
                      clear hy128
                      have H' := Aside0.mk H
                      clear H
                      obtain ⟨i029, hi029, _, hsz29, _⟩ := info_parts info5
                      obtain ⟨A29, hcut29, hA29, hC29⟩ := print_drop_of (P := Tryd.prog) (Value.int .u8) 0 33 5 .i64 Tryd.underlying33 hi029 hsz29 A0 c0 l0 x6_1 (of_decide_eq_true (by first | (with_reducible assumption) | assumption)) (of_decide_eq_true (by first | (with_reducible assumption) | assumption)) HC0.out
                      have HR112 := Aside0.mk (Kd.C_of_reads (h1 := fun _ => rfl) (hA29 _ (Kd.reads_of_C HR0.out)))
                      have HC112 := Aside0.mk hC29
                      clear hA29 hC29 hi029 hsz29
                      go_wp2_with (first | ((with_reducible refine gate_callee (f := 30) rfl ?_); refine goesL_ (some 18) rfl rfl Tryd.func30 (by kernel_rfl) rfl #[.slice A29 (l0.drop (x6_1 : Int).toNat).length (c0 - x6_1.toNat)] rfl (by (try simp only [List.map_toArray, List.map_cons, List.map_nil]); first | done | (rw [show (l0.drop (x6_1 : Int).toNat).length = (l0.length - x6_1.toNat) from List.length_drop] <;> rfl) | rfl | (simp only [List.length_drop, List.length_take]; rfl)) ?_; (with_reducible refine (utf8_DecodeRune.calls k1 _ _ (l0.drop (x6_1 : Int).toNat) t113 t114 _ ?side1 ?side2 A7.out).mono ?_); (case side1 => repeat (first | exact (Kd.C_below HR112.out HB.out) | (with_reducible refine Kd.C_alloc ?_ _) | (with_reducible refine Kd.C_drewN ?_ _) | (with_reducible refine Kd.C_drew ?_))); (case side2 => exact HC112.out); rintro e w30 ⟨rfl, hb⟩; refine ⟨_, rfl, ?_⟩; have n0_ := Aside0.mk (Kd.R_below (by (with_reducible repeat (first | apply Kd.R_alloc | apply Kd.R_drewN | apply Kd.R_drew)); exact HO_3.out) hb); have n1_ := Aside0.mk (Kd.R_below (by (with_reducible repeat (first | apply Kd.R_alloc | apply Kd.R_drewN | apply Kd.R_drew)); exact HO_5.out) hb); have n2_ := Aside0.mk (below_step (by repeat (first | (with_reducible first | exact HB.out | apply below_alloc | apply pw_below_drewN | apply below_drew1) | exact HB.out)) hb); clear HO_3; clear HO_5; clear HB; have HO_3 := n0_; have HO_5 := n1_; have HB := n2_; clear n0_ n1_ n2_; (try clear hb); (try clear hb2); (try clear hk); (try clear hi); obtain ⟨i031, hi031, _, hsz31, _⟩ := info_parts info5; obtain ⟨A31, hcut31, hA31, hC31⟩ := print_mid_of (P := Tryd.prog) (Value.int .u8) 0 33 5 .i64 .i64 Tryd.underlying33 hi031 hsz31 A0 c0 l0 x6_1 (wrap64 (x6_1 + t114)) (of_decide_eq_true (by first | (with_reducible assumption) | assumption)) (by first | omega | exact of_decide_eq_true (by first | (with_reducible assumption) | assumption)) (of_decide_eq_true (by first | (with_reducible assumption) | assumption)) HC0.out; have HR127 := Aside0.mk (Kd.C_of_reads (h1 := fun _ => rfl) (hA31 _ (Kd.reads_of_C HR0.out))); have HC127 := Aside0.mk hC31; clear hA31 hC31 hi031 hsz31) | ((with_reducible refine gate_builtin (b := .append) (xs := #[.tmp 39, .tmp 45]) rfl ?_); at_builtin; refine Kd.R_append_rows (Kd.int .u8) (w0 := w) w.heap.size rfl (.tmp 39) (.tmp 45) 33 5 (.int .u8 0) 1 rfl Tryd.underlying33 info5 rfl (by decide) (by omega) u5 x5_1 ((l0.take ((wrap64 (x6_1 + t114)) : Int).toNat).drop (x6_1 : Int).toNat) _ _ _ (fun k_ => some k_ ≠ (u3 : Value).ownBlock) (fun _ => False) rfl rfl ?aO ?aR (fun _ _ h => h) (fun _ h => h.elim) ?aF ?aB ?aS ?aL ?_; (case aR => first | (rw [← show ((l0.take ((wrap64 (x6_1 + t114)) : Int).toNat).drop (x6_1 : Int).toNat).length = ((wrap64 (x6_1 + t114)).toNat - x6_1.toNat) from (by rw [List.length_drop, List.length_take]; have h_ : ((wrap64 (x6_1 + t114)) : Int) ≤ (l0.length : Int) := of_decide_eq_true (by first | (with_reducible assumption) | assumption); omega)]; repeat (first | exact (Kd.C_below HR127.out HB.out) | (with_reducible refine Kd.C_alloc ?_ _) | (with_reducible refine Kd.C_drewN ?_ _) | (with_reducible refine Kd.C_drew ?_))) | (repeat (first | exact (Kd.C_below HR127.out HB.out) | (with_reducible refine Kd.C_alloc ?_ _) | (with_reducible refine Kd.C_drewN ?_ _) | (with_reducible refine Kd.C_drew ?_)))); (case aB => exact (by repeat (first | (with_reducible first | exact HB.out | apply below_alloc | apply pw_below_drewN | apply below_drew1) | exact HB.out))); (case aF => exact (fun k_ hk => Kd.fresh' (Kd.R_lt (by (with_reducible repeat (first | apply Kd.R_alloc | apply Kd.R_drewN | apply Kd.R_drew)); exact HO_3.out)) k_ hk)); (case aO => exact (by (with_reducible repeat (first | apply Kd.R_alloc | apply Kd.R_drewN | apply Kd.R_drew)); exact HO_5.out)); (case aS => exact (below_size (by repeat (first | (with_reducible first | exact HB.out | apply below_alloc | apply pw_below_drewN | apply below_drew1) | exact HB.out)))); (case aL => have := LMc28.out; have hlx_ := (show ((l0.take ((wrap64 (x6_1 + t114)) : Int).toNat).drop (x6_1 : Int).toNat).length = ((wrap64 (x6_1 + t114)).toNat - x6_1.toNat) from (by rw [List.length_drop, List.length_take]; have h_ : ((wrap64 (x6_1 + t114)) : Int) ≤ (l0.length : Int) := of_decide_eq_true (by first | (with_reducible assumption) | assumption); omega)); (first | omega | (simp only [ByteArray.size, List.size_toArray, List.length_cons, List.length_nil]; omega))); intro v129 w32 ho hb hg hat; rw [← Ny128.out] at ho; have n0_ := Aside0.mk (Kd.R_after (ok := (fun _ => True)) (by (with_reducible repeat (first | apply Kd.R_alloc | apply Kd.R_drewN | apply Kd.R_drew)); exact Kd.R_mono HO_3.out (fun _ hk => ⟨trivial, hk⟩)) hg hat); have n1_ := Aside0.mk (hb); have n2_ := Aside0.mk (ho); clear HO_3; clear HB; clear HO_5; have HO_3 := n0_; have HB := n1_; have HO130 := n2_; clear n0_ n1_ n2_; clear ho hb hg hat))
                      go_roundg k1
                      case measure => have := HK1.out; omega
                      case rel => exact ⟨(x3_1), (x4_1), (y128), (wrap64 (x6_1 + t114)), (by first | rfl | (simp; done) | (simp [*]; done)), (by first | rfl | (simp; done) | (simp [*]; done)), H', ⟨by have := HK1.out; omega⟩, ⟨by (with_reducible repeat (first | apply Kd.R_alloc | apply Kd.R_drewN | apply Kd.R_drew)); exact Kd.R_mono HO_3.out (fun _ hk => hk.2)⟩, ⟨by (with_reducible repeat (first | apply Kd.R_alloc | apply Kd.R_drewN | apply Kd.R_drew)); first | exact HO130.out | exact own_len_R HO130.out⟩, ⟨by repeat (first | (with_reducible first | exact HB.out | apply below_alloc | apply pw_below_drewN | apply below_drew1) | exact HB.out)⟩⟩
                    · rw [if_neg c28] at H
                      exact absurd H (by simp)
                  · rw [if_neg c27] at H
                    exact absurd H (by simp)
                · rw [if_neg c26] at H
                  exact absurd H (by simp)
              · rw [if_neg c24] at H
                have c24b0 : (t113 == 32) = false := beq_eq_false_iff_ne.mpr c24
                have c24b1 : (t113 != 32) = true := bne_iff_ne.mpr c24
                by_cases c33 : x3_1.length + x5_1.length < 140737488355328
                · rw [if_pos c33] at H
                  have LMc33 := Aside0.mk c33
                  clear c33
                  obtain ⟨y131, hy131⟩ : ∃ y_ : List Int, y_ = (x3_1 ++ x5_1) := ⟨_, rfl⟩
                  replace H : (if x6_1 ≤ (wrap64 (x6_1 + t114)) then (if (wrap64 (x6_1 + t114)) ≤ (l0.length : Int) then (if y131.length + ((l0.take ((wrap64 (x6_1 + t114)) : Int).toNat).drop (x6_1 : Int).toNat).length < 140737488355328 then (if 0 ≤ (x5_1.length : Int) then (textutils_TrimConsecutiveNewlines.l0 k1 l0 (y131 ++ ((l0.take ((wrap64 (x6_1 + t114)) : Int).toNat).drop (x6_1 : Int).toNat)) 0 (x5_1.take (0 : Int).toNat) (wrap64 (x6_1 + t114))) else (none)) else (none)) else (none)) else (none)) = some r := by first | (rw [hy131]; with_reducible exact H) | (have H2_ := (Option.bind_some _ _).symm.trans H; rw [hy131]; with_reducible exact H2_) | (have H2_ := (Option.bind_some _ _).symm.trans H; with_reducible exact H2_) | with_reducible exact H | (rw [hy131]; exact H) | exact H
                  have Ny131 := Aside0.mk hy131
                  clear hy131
                  have c34b0 := eq_true (of_decide_eq_true (by first | (with_reducible assumption) | assumption) : 0 ≤ x6_1)
                  by_cases c35 : x6_1 ≤ (wrap64 (x6_1 + t114))
                  · rw [if_pos c35] at H
                    have c35b0 := eq_true c35
                    have c35b1 : decide (x6_1 ≤ (wrap64 (x6_1 + t114))) = true := decide_eq_true c35
                    by_cases c36 : (wrap64 (x6_1 + t114)) ≤ (l0.length : Int)
                    · rw [if_pos c36] at H
                      have c36b0 := eq_true c36
                      have c36b1 : decide ((wrap64 (x6_1 + t114)) ≤ (l0.length : Int)) = true := decide_eq_true c36
                      by_cases c37 : y131.length + ((l0.take ((wrap64 (x6_1 + t114)) : Int).toNat).drop (x6_1 : Int).toNat).length < 140737488355328
                      · rw [if_pos c37] at H
                        have LMc37 := Aside0.mk c37
                        clear c37
                        obtain ⟨y135, hy135⟩ : ∃ y_ : List Int, y_ = (y131 ++ ((l0.take ((wrap64 (x6_1 + t114)) : Int).toNat).drop (x6_1 : Int).toNat)) := ⟨_, rfl⟩
                        replace H : (if 0 ≤ (x5_1.length : Int) then (textutils_TrimConsecutiveNewlines.l0 k1 l0 y135 0 (x5_1.take (0 : Int).toNat) (wrap64 (x6_1 + t114))) else (none)) = some r := by first | (rw [hy135]; with_reducible exact H) | (have H2_ := (Option.bind_some _ _).symm.trans H; rw [hy135]; with_reducible exact H2_) | (have H2_ := (Option.bind_some _ _).symm.trans H; with_reducible exact H2_) | with_reducible exact H | (rw [hy135]; exact H) | exact H
                        have Ny135 := Aside0.mk hy135
                        clear hy135
                        by_cases c38 : 0 ≤ (x5_1.length : Int)
                        · rw [if_pos c38] at H
                          have c38b0 := eq_true c38
                          have c38b1 : decide (0 ≤ (x5_1.length : Int)) = true := decide_eq_true c38
                          clear c38
                          obtain ⟨y138, hy138⟩ : ∃ y_ : List Int, y_ = (x5_1.take (0 : Int).toNat) := ⟨_, rfl⟩
                          replace H : (textutils_TrimConsecutiveNewlines.l0 k1 l0 y135 0 y138 (wrap64 (x6_1 + t114))) = some r := by first | (rw [hy138]; with_reducible exact H) | (have H2_ := (Option.bind_some _ _).symm.trans H; rw [hy138]; with_reducible exact H2_) | (have H2_ := (Option.bind_some _ _).symm.trans H; with_reducible exact H2_) | with_reducible exact H | (rw [hy138]; exact H) | exact H
                          have Ny138 := Aside0.mk hy138
                          clear hy138
                          have H' := Aside0.mk H
                          clear H
                          obtain ⟨i039, hi039, _, hsz39, _⟩ := info_parts info5
                          obtain ⟨A39, hcut39, hA39, hC39⟩ := print_drop_of (P := Tryd.prog) (Value.int .u8) 0 33 5 .i64 Tryd.underlying33 hi039 hsz39 A0 c0 l0 x6_1 (of_decide_eq_true (by first | (with_reducible assumption) | assumption)) (of_decide_eq_true (by first | (with_reducible assumption) | assumption)) HC0.out
                          have HR112 := Aside0.mk (Kd.C_of_reads (h1 := fun _ => rfl) (hA39 _ (Kd.reads_of_C HR0.out)))
                          have HC112 := Aside0.mk hC39
                          clear hA39 hC39 hi039 hsz39
                          go_wp2_with (first | ((with_reducible refine gate_callee (f := 30) rfl ?_); refine goesL_ (some 18) rfl rfl Tryd.func30 (by kernel_rfl) rfl #[.slice A39 (l0.drop (x6_1 : Int).toNat).length (c0 - x6_1.toNat)] rfl (by (try simp only [List.map_toArray, List.map_cons, List.map_nil]); first | done | (rw [show (l0.drop (x6_1 : Int).toNat).length = (l0.length - x6_1.toNat) from List.length_drop] <;> rfl) | rfl | (simp only [List.length_drop, List.length_take]; rfl)) ?_; (with_reducible refine (utf8_DecodeRune.calls k1 _ _ (l0.drop (x6_1 : Int).toNat) t113 t114 _ ?side1 ?side2 A7.out).mono ?_); (case side1 => repeat (first | exact (Kd.C_below HR112.out HB.out) | (with_reducible refine Kd.C_alloc ?_ _) | (with_reducible refine Kd.C_drewN ?_ _) | (with_reducible refine Kd.C_drew ?_))); (case side2 => exact HC112.out); rintro e w40 ⟨rfl, hb⟩; refine ⟨_, rfl, ?_⟩; have n0_ := Aside0.mk (Kd.R_below (by (with_reducible repeat (first | apply Kd.R_alloc | apply Kd.R_drewN | apply Kd.R_drew)); exact HO_3.out) hb); have n1_ := Aside0.mk (Kd.R_below (by (with_reducible repeat (first | apply Kd.R_alloc | apply Kd.R_drewN | apply Kd.R_drew)); exact HO_5.out) hb); have n2_ := Aside0.mk (below_step (by repeat (first | (with_reducible first | exact HB.out | apply below_alloc | apply pw_below_drewN | apply below_drew1) | exact HB.out)) hb); clear HO_3; clear HO_5; clear HB; have HO_3 := n0_; have HO_5 := n1_; have HB := n2_; clear n0_ n1_ n2_; (try clear hb); (try clear hb2); (try clear hk); (try clear hi); obtain ⟨Ao42, co42, eo42⟩ := Kd.R_slice HO_5.out; subst eo42) | ((with_reducible refine gate_builtin (b := .append) (xs := #[.tmp 47, .tmp 48]) rfl ?_); at_builtin; refine Kd.R_append_rows (Kd.int .u8) (w0 := w) w.heap.size rfl (.tmp 47) (.tmp 48) 33 5 (.int .u8 0) 1 rfl Tryd.underlying33 info5 rfl (by decide) (by omega) u3 x3_1 x5_1 _ _ _ (fun k_ => some k_ ≠ (.slice Ao42 x5_1.length co42 : Value).ownBlock) (fun _ => False) rfl rfl ?aO ?aR (fun _ _ h => h) (fun _ h => h.elim) ?aF ?aB ?aS ?aL ?_; (case aR => repeat (first | exact (Kd.R_reads' HO_5.out).2.2 | (with_reducible refine Kd.C_alloc ?_ _) | (with_reducible refine Kd.C_drewN ?_ _) | (with_reducible refine Kd.C_drew ?_))); (case aB => exact (by repeat (first | (with_reducible first | exact HB.out | apply below_alloc | apply pw_below_drewN | apply below_drew1) | exact HB.out))); (case aF => exact (fun k_ hk => Kd.fresh' (Kd.R_lt (by (with_reducible repeat (first | apply Kd.R_alloc | apply Kd.R_drewN | apply Kd.R_drew)); exact HO_5.out)) k_ hk)); (case aO => exact (by (with_reducible repeat (first | apply Kd.R_alloc | apply Kd.R_drewN | apply Kd.R_drew)); exact HO_3.out)); (case aS => exact (below_size (by repeat (first | (with_reducible first | exact HB.out | apply below_alloc | apply pw_below_drewN | apply below_drew1) | exact HB.out)))); (case aL => have := LMc33.out; (first | omega | (simp only [ByteArray.size, List.size_toArray, List.length_cons, List.length_nil]; omega))); intro v132 w41 ho hb hg hat; rw [← Ny131.out] at ho; have n0_ := Aside0.mk (Kd.R_after (ok := (fun _ => True)) (by (with_reducible repeat (first | apply Kd.R_alloc | apply Kd.R_drewN | apply Kd.R_drew)); exact Kd.R_mono HO_5.out (fun _ hk => ⟨trivial, hk⟩)) hg hat); have n1_ := Aside0.mk (hb); have n2_ := Aside0.mk (ho); clear HO_5; clear HB; clear HO_3; have HO_5 := n0_; have HB := n1_; have HO133 := n2_; clear n0_ n1_ n2_; clear ho hb hg hat; obtain ⟨i043, hi043, _, hsz43, _⟩ := info_parts info5; obtain ⟨A43, hcut43, hA43, hC43⟩ := print_mid_of (P := Tryd.prog) (Value.int .u8) 0 33 5 .i64 .i64 Tryd.underlying33 hi043 hsz43 A0 c0 l0 x6_1 (wrap64 (x6_1 + t114)) (of_decide_eq_true (by first | (with_reducible assumption) | assumption)) (by first | omega | exact of_decide_eq_true (by first | (with_reducible assumption) | assumption)) (of_decide_eq_true (by first | (with_reducible assumption) | assumption)) HC0.out; have HR134 := Aside0.mk (Kd.C_of_reads (h1 := fun _ => rfl) (hA43 _ (Kd.reads_of_C HR0.out))); have HC134 := Aside0.mk hC43; clear hA43 hC43 hi043 hsz43) | ((with_reducible refine gate_builtin (b := .append) (xs := #[.tmp 50, .tmp 56]) rfl ?_); at_builtin; refine Kd.R_append_rows (Kd.int .u8) (w0 := w) w.heap.size rfl (.tmp 50) (.tmp 56) 33 5 (.int .u8 0) 1 rfl Tryd.underlying33 info5 rfl (by decide) (by omega) v132 y131 ((l0.take ((wrap64 (x6_1 + t114)) : Int).toNat).drop (x6_1 : Int).toNat) _ _ _ (fun k_ => some k_ ≠ (.slice Ao42 x5_1.length co42 : Value).ownBlock) (fun _ => False) rfl rfl ?aO ?aR (fun _ _ h => h) (fun _ h => h.elim) ?aF ?aB ?aS ?aL ?_; (case aR => first | (rw [← show ((l0.take ((wrap64 (x6_1 + t114)) : Int).toNat).drop (x6_1 : Int).toNat).length = ((wrap64 (x6_1 + t114)).toNat - x6_1.toNat) from (by rw [List.length_drop, List.length_take]; have h_ : ((wrap64 (x6_1 + t114)) : Int) ≤ (l0.length : Int) := of_decide_eq_true (by first | (with_reducible assumption) | assumption); omega)]; repeat (first | exact (Kd.C_below HR134.out HB.out) | (with_reducible refine Kd.C_alloc ?_ _) | (with_reducible refine Kd.C_drewN ?_ _) | (with_reducible refine Kd.C_drew ?_))) | (repeat (first | exact (Kd.C_below HR134.out HB.out) | (with_reducible refine Kd.C_alloc ?_ _) | (with_reducible refine Kd.C_drewN ?_ _) | (with_reducible refine Kd.C_drew ?_)))); (case aB => exact (by repeat (first | (with_reducible first | exact HB.out | apply below_alloc | apply pw_below_drewN | apply below_drew1) | exact HB.out))); (case aF => exact (fun k_ hk => Kd.fresh' (Kd.R_lt (by (with_reducible repeat (first | apply Kd.R_alloc | apply Kd.R_drewN | apply Kd.R_drew)); exact HO_5.out)) k_ hk)); (case aO => exact (by (with_reducible repeat (first | apply Kd.R_alloc | apply Kd.R_drewN | apply Kd.R_drew)); exact HO133.out)); (case aS => exact (below_size (by repeat (first | (with_reducible first | exact HB.out | apply below_alloc | apply pw_below_drewN | apply below_drew1) | exact HB.out)))); (case aL => have := LMc37.out; have hlx_ := (show ((l0.take ((wrap64 (x6_1 + t114)) : Int).toNat).drop (x6_1 : Int).toNat).length = ((wrap64 (x6_1 + t114)).toNat - x6_1.toNat) from (by rw [List.length_drop, List.length_take]; have h_ : ((wrap64 (x6_1 + t114)) : Int) ≤ (l0.length : Int) := of_decide_eq_true (by first | (with_reducible assumption) | assumption); omega)); (first | omega | (simp only [ByteArray.size, List.size_toArray, List.length_cons, List.length_nil]; omega))); intro v136 w44 ho hb hg hat; rw [← Ny135.out] at ho; have n0_ := Aside0.mk (Kd.R_after (ok := (fun _ => True)) (by (with_reducible repeat (first | apply Kd.R_alloc | apply Kd.R_drewN | apply Kd.R_drew)); exact HO_5.out) hg hat); have n1_ := Aside0.mk (hb); have n2_ := Aside0.mk (ho); clear HO_5; clear HB; clear HO133; have HO_5 := n0_; have HB := n1_; have HO137 := n2_; clear n0_ n1_ n2_; clear ho hb hg hat; have q45 : (0 : Int) ≤ ((x5_1.length : Int) : Int) := of_decide_eq_true (by first | (with_reducible assumption) | assumption); obtain ⟨i045, hi045, _, hsz45, _⟩ := info_parts info5; have hcut45 := cut_to (P := Tryd.prog) 33 5 .i64 Tryd.underlying33 hi045 Ao42 x5_1.length co42 0 (by omega) q45 (Kd.R_reads' HO_5.out).2.1; have hr45 := Kd.R_take (m := (0 : Int).toNat) HO_5.out (by omega); have hy45 : y138.length = (0 : Int).toNat := (by rw [Ny138.out, List.length_take]; omega); rw [← Ny138.out] at hr45; rw [← hy45] at hr45 hcut45; clear hy45 hi045 hsz45 HO_5; have HO140 := Aside0.mk hr45; clear hr45; replace q45 := eq_true q45))
                          go_roundg k1
                          case measure => have := HK1.out; omega
                          case rel => exact ⟨(y135), (0), (y138), (wrap64 (x6_1 + t114)), (by first | rfl | (simp; done) | (simp [*]; done)), (by first | rfl | (simp; done) | (simp [*]; done)), H', ⟨by have := HK1.out; omega⟩, ⟨by (with_reducible repeat (first | apply Kd.R_alloc | apply Kd.R_drewN | apply Kd.R_drew)); first | exact HO137.out | exact own_len_R HO137.out⟩, ⟨by (with_reducible repeat (first | apply Kd.R_alloc | apply Kd.R_drewN | apply Kd.R_drew)); exact Kd.R_mono HO140.out (fun _ hk => hk.2)⟩, ⟨by repeat (first | (with_reducible first | exact HB.out | apply below_alloc | apply pw_below_drewN | apply below_drew1) | exact HB.out)⟩⟩
                        · rw [if_neg c38] at H
                          exact absurd H (by simp)
                      · rw [if_neg c37] at H
                        exact absurd H (by simp)
                    · rw [if_neg c36] at H
                      exact absurd H (by simp)
                  · rw [if_neg c35] at H
                    exact absurd H (by simp)
                · rw [if_neg c33] at H
                  exact absurd H (by simp)
          · rw [if_neg c6] at H
            exact absurd H (by simp)
        · rw [if_neg c5] at H
          exact absurd H (by simp)
      · rw [if_neg c4] at H
        have c4b0 : decide (x6_1 < (l0.length : Int)) = false := decide_eq_false c4
        clear c4
        by_cases c46 : x3_1.length + x5_1.length < 140737488355328
        · rw [if_pos c46] at H
          have LMc46 := Aside0.mk c46
          clear c46
          obtain ⟨y109, hy109⟩ : ∃ y_ : List Int, y_ = (x3_1 ++ x5_1) := ⟨_, rfl⟩
          replace H : (some y109) = some r := by first | (rw [hy109]; with_reducible exact H) | (have H2_ := (Option.bind_some _ _).symm.trans H; rw [hy109]; with_reducible exact H2_) | (have H2_ := (Option.bind_some _ _).symm.trans H; with_reducible exact H2_) | with_reducible exact H | (rw [hy109]; exact H) | exact H
          have Ny109 := Aside0.mk hy109
          clear hy109
          obtain rfl := Option.some.inj H
          obtain ⟨Ao48, co48, eo48⟩ := Kd.R_slice HO_5.out
          subst eo48
          go_wp2_with (first | ((with_reducible refine gate_builtin (b := .append) (xs := #[.tmp 63, .tmp 64]) rfl ?_); at_builtin; refine Kd.R_append_rows (Kd.int .u8) (w0 := w) w.heap.size rfl (.tmp 63) (.tmp 64) 33 5 (.int .u8 0) 1 rfl Tryd.underlying33 info5 rfl (by decide) (by omega) u3 x3_1 x5_1 _ _ _ (fun k_ => some k_ ≠ (.slice Ao48 x5_1.length co48 : Value).ownBlock) (fun _ => False) rfl rfl ?aO ?aR (fun _ _ h => h) (fun _ h => h.elim) ?aF ?aB ?aS ?aL ?_; (case aR => repeat (first | exact (Kd.R_reads' HO_5.out).2.2 | (with_reducible refine Kd.C_alloc ?_ _) | (with_reducible refine Kd.C_drewN ?_ _) | (with_reducible refine Kd.C_drew ?_))); (case aB => exact (by repeat (first | (with_reducible first | exact HB.out | apply below_alloc | apply pw_below_drewN | apply below_drew1) | exact HB.out))); (case aF => exact (fun k_ hk => Kd.fresh' (Kd.R_lt (by (with_reducible repeat (first | apply Kd.R_alloc | apply Kd.R_drewN | apply Kd.R_drew)); exact HO_5.out)) k_ hk)); (case aO => exact (by (with_reducible repeat (first | apply Kd.R_alloc | apply Kd.R_drewN | apply Kd.R_drew)); exact HO_3.out)); (case aS => exact (below_size (by repeat (first | (with_reducible first | exact HB.out | apply below_alloc | apply pw_below_drewN | apply below_drew1) | exact HB.out)))); (case aL => have := LMc46.out; (first | omega | (simp only [ByteArray.size, List.size_toArray, List.length_cons, List.length_nil]; omega))); intro v110 w47 ho hb hg hat; rw [← Ny109.out] at ho; have n0_ := Aside0.mk (Kd.R_after (ok := (fun _ => True)) (by (with_reducible repeat (first | apply Kd.R_alloc | apply Kd.R_drewN | apply Kd.R_drew)); exact Kd.R_mono HO_5.out (fun _ hk => ⟨trivial, hk⟩)) hg hat); have n1_ := Aside0.mk (hb); have n2_ := Aside0.mk (ho); clear HO_5; clear HB; clear HO_3; have HO_5 := n0_; have HB := n1_; have HO111 := n2_; clear n0_ n1_ n2_; clear ho hb hg hat))
          go_ret
          exact ⟨_, by first | rfl | (simp [errW_none, errW_some] <;> rfl) | (simp [*, errW_none, errW_some] <;> rfl), by (with_reducible repeat (first | apply Kd.R_alloc | apply Kd.R_drewN | apply Kd.R_drew)); exact Kd.R_mono HO111.out (fun _ hk => trivial), by repeat (first | (with_reducible first | exact HB.out | apply below_alloc | apply pw_below_drewN | apply below_drew1) | exact HB.out)⟩
        · rw [if_neg c46] at H
          exact absurd H (by simp)

end Go.Proofs.YtnhcocjdkmelhaaDoor.GTn
