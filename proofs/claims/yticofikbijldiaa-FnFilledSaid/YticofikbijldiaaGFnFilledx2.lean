-- made by a program of this session, after the kit's print
import Derived.Test.YticofikbijldiaaGFnFilledx0
import Derived.Test.YticofikbijldiaaGFnFilledx1
import Derived.Test.YticofikbijldiaaGivFnFilled
namespace Go.Proofs.Yticofikbijldiaa.GFnFilled
open Go.RowKit Go.Proofs.YticofikbijldiaaW.PrintWords Go.Proofs.YticofikbijldiaaW.PrintLast Go.Proofs.YticofikbijldiaaW.PrintMore
attribute [local go_sem] max2_int min2_int max_two min_two max_three min_three max_four min_four   -- for this text's walks alone
set_option linter.unusedVariables false
set_option linter.unusedSimpArgs false

/-! ### laws_FnFilled: function 7 -/
mutual
def laws_FnFilled.j0 : Nat → List (List ByteArray) → Int → Bool → Option (Bool)
  | 0, _, _, _ => none
  | k + 1, x0, x1, x16 => if x16 = true then (some true) else (laws_FnFilled.l0 k x0 x1 (([] : List (List ByteArray))) x0 (x0.length : Int) 0)
def laws_FnFilled.l0 : Nat → List (List ByteArray) → Int → List (List ByteArray) → List (List ByteArray) → Int → Int → Option (Bool)
  | 0, _, _, _, _, _, _ => none
  | k + 1, x0, x1, x5, x18, x19, x20 => if x20 < x19 then (if 0 ≤ x20 then (if x20 < (x18.length : Int) then ((some (([] : List ByteArray) : List ByteArray)).bind fun y127 => (if y127.length + (rd_L1 x18 x20).length < 8796093022208 then (laws_FnFilled.l1 k x0 x1 x5 (y127 ++ (rd_L1 x18 x20)) x18 x19 x20) else (none))) else (none)) else (none)) else ((impl_Filled.f x0 x1).bind fun t113 => ((laws_alike29.f k t113 x5).bind fun t116 => (if t116 = true then ((impl_Filled.f (([(([] : List ByteArray))] : List (List ByteArray))) 1).bind fun t123 => (some ((t123.length : Int) == 1))) else (some false))))
def laws_FnFilled.l1 : Nat → List (List ByteArray) → Int → List (List ByteArray) → List ByteArray → List (List ByteArray) → Int → Int → Option (Bool)
  | 0, _, _, _, _, _, _, _ => none
  | k + 1, x0, x1, x5, x7, x18, x19, x20 => if (x7.length : Int) < x1 then (if x7.length < 8796093022208 then (laws_FnFilled.l1 k x0 x1 x5 (x7 ++ [(⟨#[]⟩ : ByteArray)]) x18 x19 x20) else (none)) else (if x5.length < 5864062014805 then (laws_FnFilled.l0 k x0 x1 (x5 ++ [x7]) x18 x19 (wrap64 (x20 + 1))) else (none))
end
def laws_FnFilled.f (k : Nat) (l0 : List (List ByteArray)) (a1 : Int) : Option (Bool) := (laws_zzFits6.f k l0).bind fun t109 => (if t109 = true then (if a1 > 1000 then (laws_FnFilled.j0 k l0 a1 true) else (laws_FnFilled.j0 k l0 a1 (decide (a1 < (-1000))))) else (some true))
theorem laws_FnFilled.mono_l : ∀ k, (∀ y0 y1 y2, LeO (laws_FnFilled.j0 k y0 y1 y2) (laws_FnFilled.j0 (k + 1) y0 y1 y2)) ∧ (∀ y0 y1 y2 y3 y4 y5, LeO (laws_FnFilled.l0 k y0 y1 y2 y3 y4 y5) (laws_FnFilled.l0 (k + 1) y0 y1 y2 y3 y4 y5)) ∧ (∀ y0 y1 y2 y3 y4 y5 y6, LeO (laws_FnFilled.l1 k y0 y1 y2 y3 y4 y5 y6) (laws_FnFilled.l1 (k + 1) y0 y1 y2 y3 y4 y5 y6))
  | 0 => ⟨fun _ _ _ r h => by simp [laws_FnFilled.j0] at h, fun _ _ _ _ _ _ r h => by simp [laws_FnFilled.l0] at h, fun _ _ _ _ _ _ _ r h => by simp [laws_FnFilled.l1] at h⟩
  | k + 1 => by
    obtain ⟨ih0, ih1, ih2⟩ := laws_FnFilled.mono_l k
    refine ⟨?_, ?_, ?_⟩
    · intro y0 y1 y2
      unfold laws_FnFilled.j0
      repeat' first
      | (with_reducible exact ih0 _ _ _)
      | (with_reducible exact ih1 _ _ _ _ _ _)
      | (with_reducible exact ih2 _ _ _ _ _ _ _)
      | (with_reducible exact laws_alike29.mono _ _ _)
      | (with_reducible exact laws_zzFits6.mono _ _)
      | (with_reducible exact LeO.refl _)
      | (with_reducible exact LeO.none _)
      | (with_reducible refine LeO.ite ?_ ?_)
      | (with_reducible refine LeO.bind ?_ (fun _ => ?_))
      | exact ih0 _ _ _
      | exact ih1 _ _ _ _ _ _
      | exact ih2 _ _ _ _ _ _ _
      | exact laws_alike29.mono _ _ _
      | exact laws_zzFits6.mono _ _
      | exact LeO.none _
      | refine LeO.ite ?_ ?_
      | refine LeO.bind ?_ (fun _ => ?_)
    · intro y0 y1 y2 y3 y4 y5
      unfold laws_FnFilled.l0
      repeat' first
      | (with_reducible exact ih0 _ _ _)
      | (with_reducible exact ih1 _ _ _ _ _ _)
      | (with_reducible exact ih2 _ _ _ _ _ _ _)
      | (with_reducible exact laws_alike29.mono _ _ _)
      | (with_reducible exact laws_zzFits6.mono _ _)
      | (with_reducible exact LeO.refl _)
      | (with_reducible exact LeO.none _)
      | (with_reducible refine LeO.ite ?_ ?_)
      | (with_reducible refine LeO.bind ?_ (fun _ => ?_))
      | exact ih0 _ _ _
      | exact ih1 _ _ _ _ _ _
      | exact ih2 _ _ _ _ _ _ _
      | exact laws_alike29.mono _ _ _
      | exact laws_zzFits6.mono _ _
      | exact LeO.none _
      | refine LeO.ite ?_ ?_
      | refine LeO.bind ?_ (fun _ => ?_)
    · intro y0 y1 y2 y3 y4 y5 y6
      unfold laws_FnFilled.l1
      repeat' first
      | (with_reducible exact ih0 _ _ _)
      | (with_reducible exact ih1 _ _ _ _ _ _)
      | (with_reducible exact ih2 _ _ _ _ _ _ _)
      | (with_reducible exact laws_alike29.mono _ _ _)
      | (with_reducible exact laws_zzFits6.mono _ _)
      | (with_reducible exact LeO.refl _)
      | (with_reducible exact LeO.none _)
      | (with_reducible refine LeO.ite ?_ ?_)
      | (with_reducible refine LeO.bind ?_ (fun _ => ?_))
      | exact ih0 _ _ _
      | exact ih1 _ _ _ _ _ _
      | exact ih2 _ _ _ _ _ _ _
      | exact laws_alike29.mono _ _ _
      | exact laws_zzFits6.mono _ _
      | exact LeO.none _
      | refine LeO.ite ?_ ?_
      | refine LeO.bind ?_ (fun _ => ?_)
theorem laws_FnFilled.mono : ∀ a0 a1 k, LeO (laws_FnFilled.f k a0 a1) (laws_FnFilled.f (k + 1) a0 a1) := by
  intro a0 a1 k
  obtain ⟨ih0, ih1, ih2⟩ := laws_FnFilled.mono_l k
  unfold laws_FnFilled.f
  repeat' first
      | (with_reducible exact ih0 _ _ _)
      | (with_reducible exact ih1 _ _ _ _ _ _)
      | (with_reducible exact ih2 _ _ _ _ _ _ _)
      | (with_reducible exact laws_alike29.mono _ _ _)
      | (with_reducible exact laws_zzFits6.mono _ _)
      | (with_reducible exact LeO.refl _)
      | (with_reducible exact LeO.none _)
      | (with_reducible refine LeO.ite ?_ ?_)
      | (with_reducible refine LeO.bind ?_ (fun _ => ?_))
      | exact ih0 _ _ _
      | exact ih1 _ _ _ _ _ _
      | exact ih2 _ _ _ _ _ _ _
      | exact laws_alike29.mono _ _ _
      | exact laws_zzFits6.mono _ _
      | exact LeO.none _
      | refine LeO.ite ?_ ?_
      | refine LeO.bind ?_ (fun _ => ?_)
set_option maxHeartbeats 8000000 in
set_option maxRecDepth 100000 in
theorem laws_FnFilled.calls (k : Nat) (A0 : Option Addr) (c0 : Nat) (l0 : List (List ByteArray)) (a1 : Int) (r : Bool) (w : World) (hr0 : Kd.C (Kd.slice 9 Kd.string) w A0 l0.length l0) (hc0 : l0.length ≤ c0) (h : laws_FnFilled.f k l0 a1 = some r) :
    Calls Try.prog 7 #[.slice A0 l0.length c0, .int .i64 a1] w fun e w' => e = .returned (.bool r) ∧ Below w.heap.size w w' := by
  have HR0 := Aside0.mk hr0
  have HC0 := Aside0.mk hc0
  clear hr0 hc0
  have HB := Aside0.mk (Below.refl w.heap.size w)
  have H : ((laws_zzFits6.f k l0).bind fun t109 => (if t109 = true then (if a1 > 1000 then (laws_FnFilled.j0 k l0 a1 true) else (laws_FnFilled.j0 k l0 a1 (decide (a1 < (-1000))))) else (some true))) = some r := h
  clear h
  replace H := Option.bind_eq_some_iff.mp H
  obtain ⟨t109, A30, H⟩ := H
  replace H : (if t109 = true then (if a1 > 1000 then (laws_FnFilled.j0 k l0 a1 true) else (laws_FnFilled.j0 k l0 a1 (decide (a1 < (-1000))))) else (some true)) = some r := H
  have A3 := Aside0.mk A30
  clear A30
  by_cases c4 : t109 = true
  · subst c4
    have H1 : (if a1 > 1000 then (laws_FnFilled.j0 k l0 a1 true) else (laws_FnFilled.j0 k l0 a1 (decide (a1 < (-1000))))) = some r := by rw [if_pos rfl] at H; exact H
    clear H
    have H := H1
    clear H1
    have HC5 := Aside0.mk H
    clear H
    go_enter Try.func7, Try.ntmps7
    go_upto_region 3 with (first | ((with_reducible refine gate_callee (f := 26) rfl ?_); refine goesL_ (some 9) rfl rfl Try.func26 (by kernel_rfl) rfl #[.slice A0 l0.length c0] rfl (by (try simp only [List.map_toArray, List.map_cons, List.map_nil]); first | done | rfl | (simp only [List.length_drop, List.length_take]; rfl)) ?_; (with_reducible refine (laws_zzFits6.calls k _ _ l0 true _ ?side1 ?side2 A3.out).mono ?_); (case side1 => repeat (first | exact HR0.out | (with_reducible refine Kd.C_alloc ?_ _) | (with_reducible refine Kd.C_drewN ?_ _) | (with_reducible refine Kd.C_drew ?_))); (case side2 => exact HC0.out); rintro e w' ⟨rfl, ⟨nd, rfl⟩⟩; refine ⟨_, rfl, ?_⟩))
    (try simp only [Act.put, List.setIfInBounds_toArray, List.set_cons_zero, List.set_cons_succ])
    go_cut [16] (fun v16 wc => ∃ (kq : Nat) (x16_4 : Bool), v16 = .bool x16_4 ∧ Aside0 (laws_FnFilled.j0 kq l0 a1 x16_4 = some r) ∧ Aside0 (kq ≤ k) ∧ Aside0 (Below w.heap.size w wc))
    case first =>
      have H := HC5.out
      clear HC5
      by_cases c6 : a1 > 1000
      · rw [if_pos c6] at H
        have c6b0 : decide (1000 < a1) = true := decide_eq_true c6
        clear c6
        (first | rw [c6b0] | (simp only [i64_w, i32_w]; rw [c6b0]) | skip)
        have H' := Aside0.mk H
        clear H
        go_wp2
        go_meet
        case rel => exact ⟨_, (true), (by first | rfl | (simp; done) | (simp [*]; done)), H', ⟨by first | omega | exact Nat.le_refl _⟩, ⟨by repeat (first | (with_reducible first | exact HB.out | apply below_alloc | apply pw_below_drewN | apply below_drew1) | exact HB.out)⟩⟩
      · rw [if_neg c6] at H
        have c6b0 : decide (1000 < a1) = false := decide_eq_false c6
        clear c6
        (first | rw [c6b0] | (simp only [i64_w, i32_w]; rw [c6b0]) | skip)
        have H' := Aside0.mk H
        clear H
        go_wp2
        go_meet
        case rel => exact ⟨_, (decide (a1 < (-1000))), (by first | rfl | (simp; done) | (simp [*]; done)), H', ⟨by first | omega | exact Nat.le_refl _⟩, ⟨by repeat (first | (with_reducible first | exact HB.out | apply below_alloc | apply pw_below_drewN | apply below_drew1) | exact HB.out)⟩⟩
    case rest =>
      clear HC5
      try clear c2
      try clear p2
      try clear c4
      try clear c6
      try clear c6b0
      obtain ⟨kq, x16_4, rfl, HA, HJ4, HB⟩ := hcut
      cases kq with
      | zero => exact absurd HA.out (by simp [laws_FnFilled.j0])
      | succ kj4 =>
        have H := HA.out
        clear HA
        simp only [laws_FnFilled.j0] at H
        by_cases c7 : x16_4 = true
        · subst c7
          have H1 : (some true) = some r := by rw [if_pos rfl] at H; exact H
          clear H
          have H := H1
          clear H1
          obtain rfl := Option.some.inj H
          go_wp2
          go_ret
          exact ⟨by first | rfl | (simp [errW_none, errW_some] <;> rfl) | (simp [*, errW_none, errW_some] <;> rfl), by repeat (first | (with_reducible first | exact HB.out | apply below_alloc | apply pw_below_drewN | apply below_drew1) | exact HB.out)⟩
        · replace c7 := Bool.eq_false_iff.mpr c7
          subst c7
          have H1 : (laws_FnFilled.l0 kj4 l0 a1 (([] : List (List ByteArray))) l0 (l0.length : Int) 0) = some r := by rw [if_neg (show ¬ (false = true) by decide)] at H; exact H
          clear H
          have H := H1
          clear H1
          obtain ⟨y110, hy110⟩ : ∃ y_ : List (List ByteArray), y_ = (([] : List (List ByteArray))) := ⟨_, rfl⟩
          replace H : (laws_FnFilled.l0 kj4 l0 a1 y110 l0 (l0.length : Int) 0) = some r := by first | (rw [hy110]; with_reducible exact H) | (have H2_ := (Option.bind_some _ _).symm.trans H; rw [hy110]; with_reducible exact H2_) | (have H2_ := (Option.bind_some _ _).symm.trans H; with_reducible exact H2_) | with_reducible exact H | (rw [hy110]; exact H) | exact H
          have Ny110 := Aside0.mk hy110
          clear hy110
          have H' := Aside0.mk H
          clear H
          go_wp2_with (first | ((with_reducible refine gate_dst (N := 17) rfl ?_); (try (refine gate_guard (by rfl) ?_; dsimp only)); refine Kd.N_lit (Kd.slice 9 Kd.string) _ 22 ?hg (N' := 17) ?hd (xs := ([] : List (List ByteArray))) (inner := []) (ok := (fun _ => True)) (okp := (fun _ => True)) ?hr ?hp (fun _ hk => hk) ((show ∀ k_, wc.heap.size ≤ k_ → (fun _ => True) k_ from fun k_ hk => trivial) _ (Nat.le_refl _)) (Below.refl _ _) (Nat.le_refl _) (by simp) ?_; (case hd => rfl); (case hg => rfl); (case hr => first | (go_simp; done) | (go_simp; rfl)); (case hp => exact (Reps.none _ _)); intro v111 w8 ho9 hb hg_ hnew_; clear hg_ hnew_; (first | rw [← Ny110.out] at ho9 | (simp only [Int.reduceToNat] at ho9; rw [← Ny110.out] at ho9)); have n0_ := Aside0.mk (Kd.N_lower ho9 (below_size (by repeat (first | (with_reducible first | exact HB.out | apply below_alloc | apply pw_below_drewN | apply below_drew1) | exact HB.out)))); have n1_ := Aside0.mk (below_step (by repeat (first | (with_reducible first | exact HB.out | apply below_alloc | apply pw_below_drewN | apply below_drew1) | exact HB.out)) hb); clear HB; have HO112 := n0_; have HB := n1_; clear n0_ n1_; clear hb ho9))
          go_loopg [5, 20] kj4 (fun kq v5 v20 w' => ∃ (x5_2 : List (List ByteArray)) (x20_2 : Int), v20 = .int .i64 x20_2 ∧ Aside0 (laws_FnFilled.l0 kq l0 a1 x5_2 l0 (l0.length : Int) x20_2 = some r) ∧ Aside0 (kq ≤ kj4) ∧ Aside0 (Kd.N (Kd.slice 9 Kd.string) 22 w' w.heap.size (fun _ => True) v5 x5_2) ∧ Aside0 (Below w.heap.size w w'))
          case atStart => exact ⟨(y110), (0), (by first | rfl | (simp; done) | (simp [*]; done)), H', ⟨Nat.le_refl _⟩, ⟨by (with_reducible repeat (first | apply Kd.N_alloc | apply Kd.N_drewN | apply Kd.N_drew)); exact HO112.out⟩, ⟨by repeat (first | (with_reducible first | exact HB.out | apply below_alloc | apply pw_below_drewN | apply below_drew1) | exact HB.out)⟩⟩
          case round =>
            clear H'
            try clear c2
            try clear p2
            try clear c4
            try clear c6
            try clear c6b0
            try clear c7
            try clear p2
            obtain ⟨x5_2, x20_2, rfl, HA, HK2, HO_5, HB⟩ := hrel
            cases gk with
            | zero => exact absurd HA.out (by simp [laws_FnFilled.l0])
            | succ k2 =>
              have H := HA.out
              clear HA
              simp only [laws_FnFilled.l0] at H
              by_cases c10 : x20_2 < (l0.length : Int)
              · rw [if_pos c10] at H
                have c10b0 : decide (x20_2 < (l0.length : Int)) = true := decide_eq_true c10
                clear c10
                by_cases c11 : 0 ≤ x20_2
                · rw [if_pos c11] at H
                  have c11b0 : decide (0 ≤ x20_2) = true := decide_eq_true c11
                  clear c11
                  by_cases c12 : x20_2 < (l0.length : Int)
                  · rw [if_pos c12] at H
                    have c12b0 : decide (x20_2 < (l0.length : Int)) = true := decide_eq_true c12
                    clear c12
                    obtain ⟨y127, hy127⟩ : ∃ y_ : List ByteArray, y_ = (([] : List ByteArray)) := ⟨_, rfl⟩
                    replace H : (if y127.length + (rd_L1 l0 x20_2).length < 8796093022208 then (laws_FnFilled.l1 k2 l0 a1 x5_2 (y127 ++ (rd_L1 l0 x20_2)) l0 (l0.length : Int) x20_2) else (none)) = some r := by first | (rw [hy127]; with_reducible exact H) | (have H2_ := (Option.bind_some _ _).symm.trans H; rw [hy127]; with_reducible exact H2_) | (have H2_ := (Option.bind_some _ _).symm.trans H; with_reducible exact H2_) | with_reducible exact H | (rw [hy127]; exact H) | exact H
                    have Ny127 := Aside0.mk hy127
                    clear hy127
                    by_cases c13 : y127.length + (rd_L1 l0 x20_2).length < 8796093022208
                    · rw [if_pos c13] at H
                      have LMc13 := Aside0.mk c13
                      clear c13
                      obtain ⟨y130, hy130⟩ : ∃ y_ : List ByteArray, y_ = (y127 ++ (rd_L1 l0 x20_2)) := ⟨_, rfl⟩
                      replace H : (laws_FnFilled.l1 k2 l0 a1 x5_2 y130 l0 (l0.length : Int) x20_2) = some r := by first | (rw [hy130]; with_reducible exact H) | (have H2_ := (Option.bind_some _ _).symm.trans H; rw [hy130]; with_reducible exact H2_) | (have H2_ := (Option.bind_some _ _).symm.trans H; with_reducible exact H2_) | with_reducible exact H | (rw [hy130]; exact H) | exact H
                      have Ny130 := Aside0.mk hy130
                      clear hy130
                      have H' := Aside0.mk H
                      clear H
                      have p126 : 0 ≤ (x20_2 : Int) := of_decide_eq_true (by first | (with_reducible assumption) | assumption)
                      have q126 : x20_2 < (l0.length : Int) := of_decide_eq_true (by first | (with_reducible assumption) | assumption)
                      obtain ⟨ad126, A126_0, c126_0, e126, hx126_0, hl126_0, hi126_0⟩ := at_L1 HR0.out x20_2 p126 q126
                      cases e126
                      replace hx126_0 := (HB.out.cell (World.block_lt_of_cell? w _ hx126_0)).trans hx126_0
                      have HR126_0 := Aside0.mk hi126_0
                      have HC126_0 := Aside0.mk hl126_0
                      clear hi126_0 hl126_0
                      replace p126 := eq_true p126
                      replace q126 := eq_true q126
                      go_wp2_with (first | ((with_reducible refine gate_dst (N := 24) rfl ?_); (try (refine gate_guard (by rfl) ?_; dsimp only)); refine Kd.R_lit Kd.string _ 9 ?hg (N := 24) ?hd (xs := ([] : List ByteArray)) (inner := []) (ok := fun _ => True) (okp := fun _ => True) ?hr ?hp (fun _ hk => hk) trivial (Below.refl _ _) (Nat.le_refl _) (by simp) ?_; (case hd => rfl); (case hg => rfl); (case hr => first | (go_simp; done) | (go_simp; rfl)); (case hp => exact (Reps.none _ _)); intro v128 w14 ho15 hb hg_ hnew_; clear hg_ hnew_; (first | rw [← Ny127.out] at ho15 | (simp only [Int.reduceToNat] at ho15; rw [← Ny127.out] at ho15)); have n0_ := Aside0.mk (Kd.N_elder' (by (with_reducible repeat (first | apply Kd.N_alloc | apply Kd.N_drewN | apply Kd.N_drew)); exact HO_5.out) (Kd.R_base ho15) hb); have n1_ := Aside0.mk (Kd.R_lower ho15 (below_size (by repeat (first | (with_reducible first | exact HB.out | apply below_alloc | apply pw_below_drewN | apply below_drew1) | exact HB.out)))); have n2_ := Aside0.mk (below_step (by repeat (first | (with_reducible first | exact HB.out | apply below_alloc | apply pw_below_drewN | apply below_drew1) | exact HB.out)) hb); clear HO_5; clear HB; have HO_5 := n0_; have HO129 := n1_; have HB := n2_; clear n0_ n1_ n2_; clear hb ho15) | ((with_reducible refine gate_builtin (b := .append) (xs := #[.tmp 24, .tmp 25]) rfl ?_); (try (refine gate_guard (by rfl) ?_; dsimp only)); at_builtin; refine Kd.R_append_rows Kd.string (w0 := w) w.heap.size rfl (.tmp 24) (.tmp 25) 22 9 (.string ⟨#[]⟩) 16 rfl Try.underlying22 info9 rfl (by decide) (by omega) v128 y127 (rd_L1 l0 x20_2) _ _ _ (fun _ => True) (fun _ => False) rfl rfl ?aO ?aR (fun _ _ h => h) (fun _ h => h.elim) ?aF ?aB ?aS ?aL ?_; (case aR => repeat (first | exact (Kd.C_below HR126_0.out HB.out) | (with_reducible refine Kd.C_alloc ?_ _) | (with_reducible refine Kd.C_drewN ?_ _) | (with_reducible refine Kd.C_drew ?_))); (case aB => exact (by repeat (first | (with_reducible first | exact HB.out | apply below_alloc | apply pw_below_drewN | apply below_drew1) | exact HB.out))); (case aF => exact (fun _ _ => trivial)); (case aO => exact (by (with_reducible repeat (first | apply Kd.R_alloc | apply Kd.R_drewN | apply Kd.R_drew)); exact HO129.out)); (case aS => exact (below_size (by repeat (first | (with_reducible first | exact HB.out | apply below_alloc | apply pw_below_drewN | apply below_drew1) | exact HB.out)))); (case aL => have := LMc13.out; (first | omega | (simp only [ByteArray.size, List.size_toArray, List.length_cons, List.length_nil]; omega))); intro v131 w16 ho hb hg hat; rw [← Ny130.out] at ho; have n0_ := Aside0.mk (Kd.N_afterv (ok := (fun _ => True)) (by (with_reducible repeat (first | apply Kd.N_alloc | apply Kd.N_drewN | apply Kd.N_drew)); exact HO_5.out) hg hat); have n1_ := Aside0.mk (hb); have n2_ := Aside0.mk (ho); clear HO_5; clear HB; clear HO129; have HO_5 := n0_; have HB := n1_; have HO132 := n2_; clear n0_ n1_ n2_; clear ho hb hg hat))
                      go_loopg [7] k2 (fun kq v7 w' => ∃ (x7_3 : List ByteArray), Aside0 (laws_FnFilled.l1 kq l0 a1 x5_2 x7_3 l0 (l0.length : Int) x20_2 = some r) ∧ Aside0 (kq ≤ k2) ∧ Aside0 (Kd.N (Kd.slice 9 Kd.string) 22 w' w.heap.size (fun k_ => some k_ ≠ (v7 : Value).ownBlock) u5 x5_2) ∧ Aside0 (Kd.R Kd.string 9 w' w.heap.size (fun _ => True) v7 x7_3) ∧ Aside0 (Below w.heap.size w w'))
                      case atStart => exact ⟨(y130), H', ⟨Nat.le_refl _⟩, ⟨by (with_reducible repeat (first | apply Kd.N_alloc | apply Kd.N_drewN | apply Kd.N_drew)); exact Kd.N_mono HO_5.out (fun _ hk => hk.2)⟩, ⟨by (with_reducible repeat (first | apply Kd.R_alloc | apply Kd.R_drewN | apply Kd.R_drew)); exact HO132.out⟩, ⟨by repeat (first | (with_reducible first | exact HB.out | apply below_alloc | apply pw_below_drewN | apply below_drew1) | exact HB.out)⟩⟩
                      case round =>
                        clear H'
                        try clear c1
                        try clear p1
                        try clear q1
                        try clear hx1
                        try clear c2
                        try clear p2
                        try clear c4
                        try clear c6
                        try clear c6b0
                        try clear c7
                        try clear c10
                        try clear c10b0
                        try clear c11
                        try clear c11b0
                        try clear c12
                        try clear c12b0
                        try clear p12
                        try clear q12
                        try clear hx12
                        try clear c13
                        try clear hx126_0
                        try clear p126
                        try clear p2
                        try clear q126
                        obtain ⟨x7_3, HA, HK3, HO_5, HO_7, HB⟩ := hrel
                        cases gk with
                        | zero => exact absurd HA.out (by simp [laws_FnFilled.l1])
                        | succ k3 =>
                          have H := HA.out
                          clear HA
                          simp only [laws_FnFilled.l1] at H
                          by_cases c17 : (x7_3.length : Int) < a1
                          · rw [if_pos c17] at H
                            have c17b0 : decide ((x7_3.length : Int) < a1) = true := decide_eq_true c17
                            clear c17
                            by_cases c18 : x7_3.length < 8796093022208
                            · rw [if_pos c18] at H
                              have LMc18 := Aside0.mk c18
                              clear c18
                              obtain ⟨y133, hy133⟩ : ∃ y_ : List ByteArray, y_ = (x7_3 ++ [(⟨#[]⟩ : ByteArray)]) := ⟨_, rfl⟩
                              replace H : (laws_FnFilled.l1 k3 l0 a1 x5_2 y133 l0 (l0.length : Int) x20_2) = some r := by first | (rw [hy133]; with_reducible exact H) | (have H2_ := (Option.bind_some _ _).symm.trans H; rw [hy133]; with_reducible exact H2_) | (have H2_ := (Option.bind_some _ _).symm.trans H; with_reducible exact H2_) | with_reducible exact H | (rw [hy133]; exact H) | exact H
                              have Ny133 := Aside0.mk hy133
                              clear hy133
                              have H' := Aside0.mk H
                              clear H
                              obtain ⟨Ao19, co19, eo19⟩ := Kd.R_slice HO_7.out
                              subst eo19
                              go_wp2_with (first | ((with_reducible refine gate_builtin (b := .append) (xs := #[.tmp 31, .tmp 32]) rfl ?_); (try (refine gate_guard (by rfl) ?_; dsimp only)); at_builtin; refine Kd.R_append Kd.string (w0 := w) w.heap.size rfl (.tmp 31) (.tmp 32) 22 9 (.string ⟨#[]⟩) 16 rfl Try.underlying22 info9 rfl (by decide) (by omega) (.slice Ao19 x7_3.length co19) x7_3 (⟨#[]⟩ : ByteArray) [.string (⟨#[]⟩ : ByteArray)] (fun _ => True) (fun _ => False) rfl rfl ?aP (fun _ hk => hk.elim) ?aF ?aO ?aB ?aS ?aL ?_; (case aP => exact rfl); (case aB => exact (by repeat (first | (with_reducible first | exact HB.out | apply below_alloc | apply pw_below_drewN | apply below_drew1) | exact HB.out))); (case aF => exact (fun _ _ => trivial)); (case aO => exact (by (with_reducible repeat (first | apply Kd.R_alloc | apply Kd.R_drewN | apply Kd.R_drew)); exact HO_7.out)); (case aS => exact (below_size (by repeat (first | (with_reducible first | exact HB.out | apply below_alloc | apply pw_below_drewN | apply below_drew1) | exact HB.out)))); (case aL => have := LMc18.out; (first | omega | (simp only [ByteArray.size, List.size_toArray, List.length_cons, List.length_nil]; omega))); intro v134 w20 ho hb hg hat; rw [← Ny133.out] at ho; have n0_ := Aside0.mk (Kd.N_afterv (ok := (fun _ => True)) (by (with_reducible repeat (first | apply Kd.N_alloc | apply Kd.N_drewN | apply Kd.N_drew)); exact Kd.N_mono HO_5.out (fun _ hk => ⟨trivial, hk⟩)) hg hat); have n1_ := Aside0.mk (hb); have n2_ := Aside0.mk (ho); clear HO_5; clear HB; clear HO_7; have HO_5 := n0_; have HB := n1_; have HO135 := n2_; clear n0_ n1_ n2_; clear ho hb hg hat))
                              go_roundg k3
                              case measure => have := HJ4.out; have := HK2.out; have := HK3.out; omega
                              case rel => exact ⟨(y133), H', ⟨by have := HJ4.out; have := HK2.out; have := HK3.out; omega⟩, ⟨by (with_reducible repeat (first | apply Kd.N_alloc | apply Kd.N_drewN | apply Kd.N_drew)); exact Kd.N_mono HO_5.out (fun _ hk => hk.2)⟩, ⟨by (with_reducible repeat (first | apply Kd.R_alloc | apply Kd.R_drewN | apply Kd.R_drew)); exact HO135.out⟩, ⟨by repeat (first | (with_reducible first | exact HB.out | apply below_alloc | apply pw_below_drewN | apply below_drew1) | exact HB.out)⟩⟩
                            · rw [if_neg c18] at H
                              exact absurd H (by simp)
                          · rw [if_neg c17] at H
                            have c17b0 : decide ((x7_3.length : Int) < a1) = false := decide_eq_false c17
                            clear c17
                            by_cases c21 : x5_2.length < 5864062014805
                            · rw [if_pos c21] at H
                              have LMc21 := Aside0.mk c21
                              clear c21
                              obtain ⟨y136, hy136⟩ : ∃ y_ : List (List ByteArray), y_ = (x5_2 ++ [x7_3]) := ⟨_, rfl⟩
                              replace H : (laws_FnFilled.l0 k3 l0 a1 y136 l0 (l0.length : Int) (wrap64 (x20_2 + 1))) = some r := by first | (rw [hy136]; with_reducible exact H) | (have H2_ := (Option.bind_some _ _).symm.trans H; rw [hy136]; with_reducible exact H2_) | (have H2_ := (Option.bind_some _ _).symm.trans H; with_reducible exact H2_) | with_reducible exact H | (rw [hy136]; exact H) | exact H
                              have Ny136 := Aside0.mk hy136
                              clear hy136
                              have H' := Aside0.mk H
                              clear H
                              obtain ⟨Ao22, co22, eo22⟩ := Kd.R_slice HO_7.out
                              subst eo22
                              go_wp2_with (first | ((with_reducible refine gate_builtin (b := .append) (xs := #[.tmp 34, .tmp 36]) rfl ?_); (try (refine gate_guard (by rfl) ?_; dsimp only)); at_builtin; refine Kd.N_append (Kd.slice 9 Kd.string) (w0 := w) w.heap.size rfl (.tmp 34) (.tmp 36) 32 22 (.slice none 0 0) 24 rfl Try.underlying32 info22 rfl (by decide) (by omega) u5 x5_2 x7_3 [.slice Ao22 x7_3.length co22] (fun _ => True) (fun k_ => ((fun _ => True)) k_ ∧ some k_ ≠ (u5 : Value).ownBlock) rfl rfl ?aP (fun _ hk => hk) ?aF ?aO ?aB ?aS ?aL ?_; (case aP => exact (Kd.FK_slice_mk (Kd.R_reads' (Kd.R_mono (ok' := (fun k_ => ((fun _ => True)) k_ ∧ some k_ ≠ (u5 : Value).ownBlock)) (Kd.R_apart' (HO_7.out) (Kd.N_typed HO_5.out) (by decide)) (fun k_ hk => ⟨trivial, hk.2⟩))).2.1 (Kd.R_F (Kd.R_mono (ok' := (fun k_ => ((fun _ => True)) k_ ∧ some k_ ≠ (u5 : Value).ownBlock)) (Kd.R_apart' (HO_7.out) (Kd.N_typed HO_5.out) (by decide)) (fun k_ hk => ⟨trivial, hk.2⟩))))); (case aB => exact (by repeat (first | (with_reducible first | exact HB.out | apply below_alloc | apply pw_below_drewN | apply below_drew1) | exact HB.out))); (case aF => exact (fun _ _ => trivial)); (case aO => exact (by (with_reducible repeat (first | apply Kd.N_alloc | apply Kd.N_drewN | apply Kd.N_drew)); exact Kd.N_mono HO_5.out (fun _ hk => trivial))); (case aS => exact (below_size (by repeat (first | (with_reducible first | exact HB.out | apply below_alloc | apply pw_below_drewN | apply below_drew1) | exact HB.out)))); (case aL => have := LMc21.out; (first | omega | (simp only [ByteArray.size, List.size_toArray, List.length_cons, List.length_nil]; omega))); intro v137 w23 ho hb hg hat; rw [← Ny136.out] at ho; have n0_ := Aside0.mk (hb); have n1_ := Aside0.mk (ho); clear HB; clear HO_5; clear HO_7; have HB := n0_; have HO138 := n1_; clear n0_ n1_; clear ho hb hg hat))
                              go_roundg k3
                              case measure => have := HJ4.out; have := HK2.out; have := HK3.out; omega
                              case rel => exact ⟨(y136), (wrap64 (x20_2 + 1)), (by first | rfl | (simp; done) | (simp [*]; done)), H', ⟨by have := HJ4.out; have := HK2.out; have := HK3.out; omega⟩, ⟨by (with_reducible repeat (first | apply Kd.N_alloc | apply Kd.N_drewN | apply Kd.N_drew)); exact HO138.out⟩, ⟨by repeat (first | (with_reducible first | exact HB.out | apply below_alloc | apply pw_below_drewN | apply below_drew1) | exact HB.out)⟩⟩
                            · rw [if_neg c21] at H
                              exact absurd H (by simp)
                    · rw [if_neg c13] at H
                      exact absurd H (by simp)
                  · rw [if_neg c12] at H
                    exact absurd H (by simp)
                · rw [if_neg c11] at H
                  exact absurd H (by simp)
              · rw [if_neg c10] at H
                have c10b0 : decide (x20_2 < (l0.length : Int)) = false := decide_eq_false c10
                clear c10
                replace H := Option.bind_eq_some_iff.mp H
                obtain ⟨t113, A240, H⟩ := H
                replace H : ((laws_alike29.f k2 t113 x5_2).bind fun t116 => (if t116 = true then ((impl_Filled.f (([(([] : List ByteArray))] : List (List ByteArray))) 1).bind fun t123 => (some ((t123.length : Int) == 1))) else (some false))) = some r := H
                have A24 := Aside0.mk A240
                clear A240
                replace H := Option.bind_eq_some_iff.mp H
                obtain ⟨t116, A250, H⟩ := H
                replace H : (if t116 = true then ((impl_Filled.f (([(([] : List ByteArray))] : List (List ByteArray))) 1).bind fun t123 => (some ((t123.length : Int) == 1))) else (some false)) = some r := H
                have A25 := Aside0.mk A250
                clear A250
                by_cases c26 : t116 = true
                · subst c26
                  have H1 : ((impl_Filled.f (([(([] : List ByteArray))] : List (List ByteArray))) 1).bind fun t123 => (some ((t123.length : Int) == 1))) = some r := by rw [if_pos rfl] at H; exact H
                  clear H
                  have H := H1
                  clear H1
                  obtain ⟨y117, hy117⟩ : ∃ y_ : List ByteArray, y_ = (([] : List ByteArray)) := ⟨_, rfl⟩
                  replace H : ((impl_Filled.f (([y117] : List (List ByteArray))) 1).bind fun t123 => (some ((t123.length : Int) == 1))) = some r := by first | (rw [hy117]; with_reducible exact H) | (have H2_ := (Option.bind_some _ _).symm.trans H; rw [hy117]; with_reducible exact H2_) | (have H2_ := (Option.bind_some _ _).symm.trans H; with_reducible exact H2_) | with_reducible exact H | (rw [hy117]; exact H) | exact H
                  have Ny117 := Aside0.mk hy117
                  clear hy117
                  obtain ⟨y120, hy120⟩ : ∃ y_ : List (List ByteArray), y_ = (([y117] : List (List ByteArray))) := ⟨_, rfl⟩
                  replace H : ((impl_Filled.f y120 1).bind fun t123 => (some ((t123.length : Int) == 1))) = some r := by first | (rw [hy120]; with_reducible exact H) | (have H2_ := (Option.bind_some _ _).symm.trans H; rw [hy120]; with_reducible exact H2_) | (have H2_ := (Option.bind_some _ _).symm.trans H; with_reducible exact H2_) | with_reducible exact H | (rw [hy120]; exact H) | exact H
                  have Ny120 := Aside0.mk hy120
                  clear hy120
                  replace H := Option.bind_eq_some_iff.mp H
                  obtain ⟨t123, A270, H⟩ := H
                  replace H : (some ((t123.length : Int) == 1)) = some r := H
                  have A27 := Aside0.mk A270
                  clear A270
                  obtain rfl := Option.some.inj H
                  go_wp2_with (first | ((with_reducible refine gate_callee (f := 28) rfl ?_); refine goesL_ (some 41) rfl rfl Try.func28 (by kernel_rfl) rfl #[.slice A0 l0.length c0, .int .i64 a1] rfl (by (try simp only [List.map_toArray, List.map_cons, List.map_nil]); first | done | rfl | (simp only [List.length_drop, List.length_take]; rfl)) ?_; (with_reducible refine (impl_Filled.calls _ _ l0 a1 t113 _ ?side1 ?side2 A24.out).mono ?_); (case side1 => repeat (first | exact (Kd.C_below HR0.out HB.out) | (with_reducible refine Kd.C_alloc ?_ _) | (with_reducible refine Kd.C_drewN ?_ _) | (with_reducible refine Kd.C_drew ?_))); (case side2 => exact HC0.out); rintro e w28 ⟨v114, rfl, ho0, hb⟩; refine ⟨_, rfl, ?_⟩; have n0_ := Aside0.mk (Kd.N_elder' (by (with_reducible repeat (first | apply Kd.N_alloc | apply Kd.N_drewN | apply Kd.N_drew)); exact HO_5.out) (Kd.N_base (Kd.S_N ho0)) hb); have n1_ := Aside0.mk (Kd.N_lower (Kd.N_mono (ok' := fun k_ => some k_ ≠ (u5 : Value).ownBlock) (Kd.S_N (Kd.S_bound ho0)) (fun k_ hk_ => (Kd.fresh' (Kd.N_lt (by (with_reducible repeat (first | apply Kd.N_alloc | apply Kd.N_drewN | apply Kd.N_drew)); exact HO_5.out)) k_ hk_.2.1))) (below_size (by repeat (first | (with_reducible first | exact HB.out | apply below_alloc | apply pw_below_drewN | apply below_drew1) | exact HB.out)))); have n2_ := Aside0.mk (below_step (by repeat (first | (with_reducible first | exact HB.out | apply below_alloc | apply pw_below_drewN | apply below_drew1) | exact HB.out)) hb); clear HO_5; clear HB; have HO_5 := n0_; have HO115 := n1_; have HB := n2_; clear n0_ n1_ n2_; (try clear hb); (try clear hb2); (try clear hk); (try clear hi); (try clear ho0); obtain ⟨Ao29, co29, eo29⟩ := Kd.N_slice HO115.out; subst eo29; obtain ⟨Ao30, co30, eo30⟩ := Kd.N_slice HO_5.out; subst eo30) | ((with_reducible refine gate_callee (f := 27) rfl ?_); refine goesL_ (some 43) rfl rfl Try.func27 (by kernel_rfl) rfl #[.slice Ao29 t113.length co29, .slice Ao30 x5_2.length co30] rfl (by (try simp only [List.map_toArray, List.map_cons, List.map_nil]); first | done | rfl | (simp only [List.length_drop, List.length_take]; rfl)) ?_; (with_reducible refine (laws_alike29.calls k2 _ _ t113 _ _ x5_2 true _ ?side1 ?side2 ?side3 ?side4 A25.out).mono ?_); (case side1 => repeat (first | exact (Kd.N_reads' HO115.out).2.2 | (with_reducible refine Kd.C_alloc ?_ _) | (with_reducible refine Kd.C_drewN ?_ _) | (with_reducible refine Kd.C_drew ?_))); (case side2 => exact (Kd.N_reads' HO115.out).2.1); (case side3 => repeat (first | exact (Kd.N_reads' HO_5.out).2.2 | (with_reducible refine Kd.C_alloc ?_ _) | (with_reducible refine Kd.C_drewN ?_ _) | (with_reducible refine Kd.C_drew ?_))); (case side4 => exact (Kd.N_reads' HO_5.out).2.1); rintro e w' ⟨rfl, ⟨nd, rfl⟩⟩; refine ⟨_, rfl, ?_⟩) | ((with_reducible refine gate_dst (N := 45) rfl ?_); (try (refine gate_guard (by rfl) ?_; dsimp only)); refine Kd.R_lit Kd.string _ 9 ?hg (N := 45) ?hd (xs := ([] : List ByteArray)) (inner := []) (ok := fun _ => True) (okp := fun _ => True) ?hr ?hp (fun _ hk => hk) trivial (Below.refl _ _) (Nat.le_refl _) (by simp) ?_; (case hd => rfl); (case hg => rfl); (case hr => first | (go_simp; done) | (go_simp; rfl)); (case hp => exact (Reps.none _ _)); intro v118 w31 ho32 hb hg_ hnew_; clear hg_ hnew_; (first | rw [← Ny117.out] at ho32 | (simp only [Int.reduceToNat] at ho32; rw [← Ny117.out] at ho32)); have n0_ := Aside0.mk (Kd.N_elder' (by (with_reducible repeat (first | apply Kd.N_alloc | apply Kd.N_drewN | apply Kd.N_drew)); exact HO_5.out) (Kd.R_base ho32) hb); have n1_ := Aside0.mk (Kd.N_elder' (by (with_reducible repeat (first | apply Kd.N_alloc | apply Kd.N_drewN | apply Kd.N_drew)); exact HO115.out) (Kd.R_base ho32) hb); have n2_ := Aside0.mk (Kd.R_lower ho32 (below_size (by repeat (first | (with_reducible first | exact HB.out | apply below_alloc | apply pw_below_drewN | apply below_drew1) | exact HB.out)))); have n3_ := Aside0.mk (below_step (by repeat (first | (with_reducible first | exact HB.out | apply below_alloc | apply pw_below_drewN | apply below_drew1) | exact HB.out)) hb); clear HO_5; clear HO115; clear HB; have HO_5 := n0_; have HO115 := n1_; have HO119 := n2_; have HB := n3_; clear n0_ n1_ n2_ n3_; clear hb ho32; obtain ⟨Ao33, co33, eo33⟩ := Kd.R_slice HO119.out; subst eo33) | ((with_reducible refine gate_dst (N := 46) rfl ?_); (try (refine gate_guard (by rfl) ?_; dsimp only)); refine Kd.N_lit (Kd.slice 9 Kd.string) _ 22 ?hg (N' := 46) ?hd (xs := ([y117] : List (List ByteArray))) (inner := [.slice Ao33 y117.length co33]) (ok := (fun k_ => some k_ ≠ (.slice Ao30 x5_2.length co30 : Value).ownBlock ∧ some k_ ≠ (.slice Ao29 t113.length co29 : Value).ownBlock)) (okp := (fun k_ => some k_ ≠ (.slice Ao30 x5_2.length co30 : Value).ownBlock ∧ some k_ ≠ (.slice Ao29 t113.length co29 : Value).ownBlock)) ?hr ?hp (fun _ hk => hk) ((show ∀ k_, w31.heap.size ≤ k_ → (fun k_ => some k_ ≠ (.slice Ao30 x5_2.length co30 : Value).ownBlock ∧ some k_ ≠ (.slice Ao29 t113.length co29 : Value).ownBlock) k_ from fun k_ hk => ⟨Kd.fresh' (Kd.N_lt (by (with_reducible repeat (first | apply Kd.N_alloc | apply Kd.N_drewN | apply Kd.N_drew)); exact HO_5.out)) k_ hk, Kd.fresh' (Kd.N_lt (by (with_reducible repeat (first | apply Kd.N_alloc | apply Kd.N_drewN | apply Kd.N_drew)); exact HO115.out)) k_ hk⟩) _ (Nat.le_refl _)) (Below.refl _ _) (Nat.le_refl _) (by simp) ?_; (case hd => rfl); (case hg => rfl); (case hr => first | (go_simp; done) | (go_simp; rfl)); (case hp => exact (Reps.one (show Kd.FK (Kd.slice 9 Kd.string) _ _ y117 [.slice Ao33 y117.length co33] from (Kd.FK_slice_mk (Kd.R_reads' (Kd.R_mono (ok' := (fun k_ => some k_ ≠ (.slice Ao30 x5_2.length co30 : Value).ownBlock ∧ some k_ ≠ (.slice Ao29 t113.length co29 : Value).ownBlock)) (Kd.R_apart' (Kd.R_apart' (HO119.out) (Kd.N_typed HO_5.out) (by decide)) (Kd.N_typed HO115.out) (by decide)) (fun k_ hk => ⟨hk.1.2, hk.2⟩))).2.1 (Kd.R_F (Kd.R_mono (ok' := (fun k_ => some k_ ≠ (.slice Ao30 x5_2.length co30 : Value).ownBlock ∧ some k_ ≠ (.slice Ao29 t113.length co29 : Value).ownBlock)) (Kd.R_apart' (Kd.R_apart' (HO119.out) (Kd.N_typed HO_5.out) (by decide)) (Kd.N_typed HO115.out) (by decide)) (fun k_ hk => ⟨hk.1.2, hk.2⟩))))) (Reps.none _ _))); intro v121 w34 ho35 hb hg_ hnew_; clear hg_ hnew_; (first | rw [← Ny120.out] at ho35 | (simp only [Int.reduceToNat] at ho35; rw [← Ny120.out] at ho35)); have n0_ := Aside0.mk (Kd.N_elder' (by (with_reducible repeat (first | apply Kd.N_alloc | apply Kd.N_drewN | apply Kd.N_drew)); exact HO_5.out) (Kd.N_base ho35) hb); have n1_ := Aside0.mk (Kd.N_elder' (by (with_reducible repeat (first | apply Kd.N_alloc | apply Kd.N_drewN | apply Kd.N_drew)); exact HO115.out) (Kd.N_base ho35) hb); have n2_ := Aside0.mk (Kd.N_lower ho35 (below_size (by repeat (first | (with_reducible first | exact HB.out | apply below_alloc | apply pw_below_drewN | apply below_drew1) | exact HB.out)))); have n3_ := Aside0.mk (below_step (by repeat (first | (with_reducible first | exact HB.out | apply below_alloc | apply pw_below_drewN | apply below_drew1) | exact HB.out)) hb); clear HO_5; clear HO115; clear HB; clear HO119; have HO_5 := n0_; have HO115 := n1_; have HO122 := n2_; have HB := n3_; clear n0_ n1_ n2_ n3_; clear hb ho35; obtain ⟨Ao36, co36, eo36⟩ := Kd.N_slice HO122.out; subst eo36) | (go_at_call 28; (with_reducible refine (impl_Filled.calls _ _ y120 1 t123 _ ?side1 ?side2 A27.out).mono ?_); (case side1 => repeat (first | exact (Kd.N_reads' HO122.out).2.2 | (with_reducible refine Kd.C_alloc ?_ _) | (with_reducible refine Kd.C_drewN ?_ _) | (with_reducible refine Kd.C_drew ?_))); (case side2 => exact (Kd.N_reads' HO122.out).2.1); rintro e w37 ⟨v124, rfl, ho0, hb⟩; have n0_ := Aside0.mk (Kd.N_elder' (by (with_reducible repeat (first | apply Kd.N_alloc | apply Kd.N_drewN | apply Kd.N_drew)); exact HO_5.out) (Kd.N_base (Kd.S_N ho0)) hb); have n1_ := Aside0.mk (Kd.N_elder' (by (with_reducible repeat (first | apply Kd.N_alloc | apply Kd.N_drewN | apply Kd.N_drew)); exact HO115.out) (Kd.N_base (Kd.S_N ho0)) hb); have n2_ := Aside0.mk (Kd.N_elder' (by (with_reducible repeat (first | apply Kd.N_alloc | apply Kd.N_drewN | apply Kd.N_drew)); exact HO122.out) (Kd.N_base (Kd.S_N ho0)) hb); have n3_ := Aside0.mk (Kd.N_lower (Kd.N_mono (ok' := fun k_ => some k_ ≠ (.slice Ao30 x5_2.length co30 : Value).ownBlock ∧ some k_ ≠ (.slice Ao29 t113.length co29 : Value).ownBlock ∧ some k_ ≠ (.slice Ao36 y120.length co36 : Value).ownBlock) (Kd.S_N (Kd.S_bound ho0)) (fun k_ hk_ => ⟨(Kd.fresh' (Kd.N_lt (by (with_reducible repeat (first | apply Kd.N_alloc | apply Kd.N_drewN | apply Kd.N_drew)); exact HO_5.out)) k_ hk_.2.1), (Kd.fresh' (Kd.N_lt (by (with_reducible repeat (first | apply Kd.N_alloc | apply Kd.N_drewN | apply Kd.N_drew)); exact HO115.out)) k_ hk_.2.1), (Kd.fresh' (Kd.N_lt (by (with_reducible repeat (first | apply Kd.N_alloc | apply Kd.N_drewN | apply Kd.N_drew)); exact HO122.out)) k_ hk_.2.1)⟩)) (below_size (by repeat (first | (with_reducible first | exact HB.out | apply below_alloc | apply pw_below_drewN | apply below_drew1) | exact HB.out)))); have n4_ := Aside0.mk (below_step (by repeat (first | (with_reducible first | exact HB.out | apply below_alloc | apply pw_below_drewN | apply below_drew1) | exact HB.out)) hb); clear HO_5; clear HO115; clear HO122; clear HB; have HO_5 := n0_; have HO115 := n1_; have HO122 := n2_; have HO125 := n3_; have HB := n4_; clear n0_ n1_ n2_ n3_ n4_; (try clear hb); (try clear hb2); (try clear hk); (try clear hi); (try clear ho0); obtain ⟨Ao38, co38, eo38⟩ := Kd.N_slice HO125.out; subst eo38))
                  go_ret
                  exact ⟨by first | rfl | (simp [errW_none, errW_some] <;> rfl) | (simp [*, errW_none, errW_some] <;> rfl), by repeat (first | (with_reducible first | exact HB.out | apply below_alloc | apply pw_below_drewN | apply below_drew1) | exact HB.out)⟩
                · replace c26 := Bool.eq_false_iff.mpr c26
                  subst c26
                  have H1 : (some false) = some r := by rw [if_neg (show ¬ (false = true) by decide)] at H; exact H
                  clear H
                  have H := H1
                  clear H1
                  obtain rfl := Option.some.inj H
                  go_wp2_with (first | ((with_reducible refine gate_callee (f := 28) rfl ?_); refine goesL_ (some 41) rfl rfl Try.func28 (by kernel_rfl) rfl #[.slice A0 l0.length c0, .int .i64 a1] rfl (by (try simp only [List.map_toArray, List.map_cons, List.map_nil]); first | done | rfl | (simp only [List.length_drop, List.length_take]; rfl)) ?_; (with_reducible refine (impl_Filled.calls _ _ l0 a1 t113 _ ?side1 ?side2 A24.out).mono ?_); (case side1 => repeat (first | exact (Kd.C_below HR0.out HB.out) | (with_reducible refine Kd.C_alloc ?_ _) | (with_reducible refine Kd.C_drewN ?_ _) | (with_reducible refine Kd.C_drew ?_))); (case side2 => exact HC0.out); rintro e w39 ⟨v114, rfl, ho0, hb⟩; refine ⟨_, rfl, ?_⟩; have n0_ := Aside0.mk (Kd.N_elder' (by (with_reducible repeat (first | apply Kd.N_alloc | apply Kd.N_drewN | apply Kd.N_drew)); exact HO_5.out) (Kd.N_base (Kd.S_N ho0)) hb); have n1_ := Aside0.mk (Kd.N_lower (Kd.N_mono (ok' := fun k_ => some k_ ≠ (u5 : Value).ownBlock) (Kd.S_N (Kd.S_bound ho0)) (fun k_ hk_ => (Kd.fresh' (Kd.N_lt (by (with_reducible repeat (first | apply Kd.N_alloc | apply Kd.N_drewN | apply Kd.N_drew)); exact HO_5.out)) k_ hk_.2.1))) (below_size (by repeat (first | (with_reducible first | exact HB.out | apply below_alloc | apply pw_below_drewN | apply below_drew1) | exact HB.out)))); have n2_ := Aside0.mk (below_step (by repeat (first | (with_reducible first | exact HB.out | apply below_alloc | apply pw_below_drewN | apply below_drew1) | exact HB.out)) hb); clear HO_5; clear HB; have HO_5 := n0_; have HO115 := n1_; have HB := n2_; clear n0_ n1_ n2_; (try clear hb); (try clear hb2); (try clear hk); (try clear hi); (try clear ho0); obtain ⟨Ao40, co40, eo40⟩ := Kd.N_slice HO115.out; subst eo40; obtain ⟨Ao41, co41, eo41⟩ := Kd.N_slice HO_5.out; subst eo41) | ((with_reducible refine gate_callee (f := 27) rfl ?_); refine goesL_ (some 43) rfl rfl Try.func27 (by kernel_rfl) rfl #[.slice Ao40 t113.length co40, .slice Ao41 x5_2.length co41] rfl (by (try simp only [List.map_toArray, List.map_cons, List.map_nil]); first | done | rfl | (simp only [List.length_drop, List.length_take]; rfl)) ?_; (with_reducible refine (laws_alike29.calls k2 _ _ t113 _ _ x5_2 false _ ?side1 ?side2 ?side3 ?side4 A25.out).mono ?_); (case side1 => repeat (first | exact (Kd.N_reads' HO115.out).2.2 | (with_reducible refine Kd.C_alloc ?_ _) | (with_reducible refine Kd.C_drewN ?_ _) | (with_reducible refine Kd.C_drew ?_))); (case side2 => exact (Kd.N_reads' HO115.out).2.1); (case side3 => repeat (first | exact (Kd.N_reads' HO_5.out).2.2 | (with_reducible refine Kd.C_alloc ?_ _) | (with_reducible refine Kd.C_drewN ?_ _) | (with_reducible refine Kd.C_drew ?_))); (case side4 => exact (Kd.N_reads' HO_5.out).2.1); rintro e w' ⟨rfl, ⟨nd, rfl⟩⟩; refine ⟨_, rfl, ?_⟩))
                  go_ret
                  exact ⟨by first | rfl | (simp [errW_none, errW_some] <;> rfl) | (simp [*, errW_none, errW_some] <;> rfl), by repeat (first | (with_reducible first | exact HB.out | apply below_alloc | apply pw_below_drewN | apply below_drew1) | exact HB.out)⟩
  · replace c4 := Bool.eq_false_iff.mpr c4
    subst c4
    have H1 : (some true) = some r := by rw [if_neg (show ¬ (false = true) by decide)] at H; exact H
    clear H
    have H := H1
    clear H1
    obtain rfl := Option.some.inj H
    go_enter Try.func7, Try.ntmps7
    go_wp2_with (first | ((with_reducible refine gate_callee (f := 26) rfl ?_); refine goesL_ (some 9) rfl rfl Try.func26 (by kernel_rfl) rfl #[.slice A0 l0.length c0] rfl (by (try simp only [List.map_toArray, List.map_cons, List.map_nil]); first | done | rfl | (simp only [List.length_drop, List.length_take]; rfl)) ?_; (with_reducible refine (laws_zzFits6.calls k _ _ l0 false _ ?side1 ?side2 A3.out).mono ?_); (case side1 => repeat (first | exact HR0.out | (with_reducible refine Kd.C_alloc ?_ _) | (with_reducible refine Kd.C_drewN ?_ _) | (with_reducible refine Kd.C_drew ?_))); (case side2 => exact HC0.out); rintro e w' ⟨rfl, ⟨nd, rfl⟩⟩; refine ⟨_, rfl, ?_⟩))
    go_ret
    exact ⟨by first | rfl | (simp [errW_none, errW_some] <;> rfl) | (simp [*, errW_none, errW_some] <;> rfl), by repeat (first | (with_reducible first | exact HB.out | apply below_alloc | apply pw_below_drewN | apply below_drew1) | exact HB.out)⟩

end Go.Proofs.Yticofikbijldiaa.GFnFilled
