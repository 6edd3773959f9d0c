-- made by a program of this session, after the kit's print
import Derived.Test.YtnhcocjdkmelhaaGChx0
import Derived.Test.YtnhcocjdkmelhaaGChx1
import Derived.Test.YtnhcocjdkmelhaaGChx2
import Derived.Test.YtnhcocjdkmelhaaChGive
namespace Go.Proofs.Ytnhcocjdkmelhaa.GCh
open Go.RowKit Go.Proofs.YtnhcocjdkmelhaaW.PrintWords Go.Proofs.YtnhcocjdkmelhaaW.PrintLast Go.Proofs.YtnhcocjdkmelhaaW.PrintMore
attribute [local go_sem] max2_int min2_int max_two min_two max_three min_three max_four min_four   -- for this text's walks alone
set_option linter.unusedVariables false
set_option linter.unusedSimpArgs false

/-! ### laws_same29: function 15 -/
-- GIVEN: function 9 (impl_Changed)

-- GIVEN: function 10 (laws_changes29)

/-! ### laws_FnChanged: function 3 -/
def laws_FnChanged.j0 : Nat → List (List ByteArray) → List (S36) → Bool → Option (Bool)
  | 0, _, _, _ => none
  | k + 1, x0, x1, x12 => if x12 = true then (some true) else ((laws_few29.f k x1).bind fun t127 => (if t127 = true then ((impl_Changed.f x0 x1).bind fun t128 => ((laws_changes29.f x0 x1).bind fun t131 => ((laws_alike29.f k t128 t131).bind fun t134 => (if t134 = true then ((impl_Changed.f (([(([] : List ByteArray))] : List (List ByteArray))) ([] : List (S36))).bind fun t141 => (some ((t141.length : Int) == 1))) else (some false))))) else (some true)))
def laws_FnChanged.f (k : Nat) (l0 : List (List ByteArray)) (l1 : List (S36)) : Option (Bool) := (laws_zzFits6.f k l0).bind fun t125 => (if t125 = true then ((laws_zzFits7.f k l1).bind fun t126 => (laws_FnChanged.j0 k l0 l1 (!t126))) else (laws_FnChanged.j0 k l0 l1 true))
theorem laws_FnChanged.mono_l : ∀ k, (∀ y0 y1 y2, LeO (laws_FnChanged.j0 k y0 y1 y2) (laws_FnChanged.j0 (k + 1) y0 y1 y2))
  | 0 => fun _ _ _ r h => by simp [laws_FnChanged.j0] at h
  | k + 1 => by
    have ih0 := laws_FnChanged.mono_l k
    · intro y0 y1 y2
      unfold laws_FnChanged.j0
      repeat' first
      | (with_reducible exact ih0 _ _ _)
      | (with_reducible exact laws_alike29.mono _ _ _)
      | (with_reducible exact laws_few29.mono _ _)
      | (with_reducible exact laws_zzFits6.mono _ _)
      | (with_reducible exact laws_zzFits7.mono _ _)
      | (with_reducible exact LeO.refl _)
      | (with_reducible exact LeO.none _)
      | (with_reducible refine LeO.ite ?_ ?_)
      | (with_reducible refine LeO.bind ?_ (fun _ => ?_))
      | exact ih0 _ _ _
      | exact laws_alike29.mono _ _ _
      | exact laws_few29.mono _ _
      | exact laws_zzFits6.mono _ _
      | exact laws_zzFits7.mono _ _
      | exact LeO.none _
      | refine LeO.ite ?_ ?_
      | refine LeO.bind ?_ (fun _ => ?_)
theorem laws_FnChanged.mono : ∀ a0 a1 k, LeO (laws_FnChanged.f k a0 a1) (laws_FnChanged.f (k + 1) a0 a1) := by
  intro a0 a1 k
  have ih0 := laws_FnChanged.mono_l k
  unfold laws_FnChanged.f
  repeat' first
      | (with_reducible exact ih0 _ _ _)
      | (with_reducible exact laws_alike29.mono _ _ _)
      | (with_reducible exact laws_few29.mono _ _)
      | (with_reducible exact laws_zzFits6.mono _ _)
      | (with_reducible exact laws_zzFits7.mono _ _)
      | (with_reducible exact LeO.refl _)
      | (with_reducible exact LeO.none _)
      | (with_reducible refine LeO.ite ?_ ?_)
      | (with_reducible refine LeO.bind ?_ (fun _ => ?_))
      | exact ih0 _ _ _
      | exact laws_alike29.mono _ _ _
      | exact laws_few29.mono _ _
      | exact laws_zzFits6.mono _ _
      | exact laws_zzFits7.mono _ _
      | exact LeO.none _
      | refine LeO.ite ?_ ?_
      | refine LeO.bind ?_ (fun _ => ?_)
set_option maxHeartbeats 8000000 in
set_option maxRecDepth 100000 in
theorem laws_FnChanged.calls (k : Nat) (A0 : Option Addr) (c0 : Nat) (l0 : List (List ByteArray)) (A1 : Option Addr) (c1 : Nat) (l1 : List (S36)) (r : Bool) (w : World) (hr0 : Kd.C (Kd.slice 9 Kd.string) w A0 l0.length l0) (hc0 : l0.length ≤ c0) (hr1 : Kd.C k36 w A1 l1.length l1) (hc1 : l1.length ≤ c1) (h : laws_FnChanged.f k l0 l1 = some r) :
    Calls Try.prog 3 #[.slice A0 l0.length c0, .slice A1 l1.length c1] w fun e w' => e = .returned (.bool r) ∧ Below w.heap.size w w' := by
  have HR0 := Aside0.mk hr0
  have HC0 := Aside0.mk hc0
  clear hr0 hc0
  have HR1 := Aside0.mk hr1
  have HC1 := Aside0.mk hc1
  clear hr1 hc1
  have HB := Aside0.mk (Below.refl w.heap.size w)
  have H : ((laws_zzFits6.f k l0).bind fun t125 => (if t125 = true then ((laws_zzFits7.f k l1).bind fun t126 => (laws_FnChanged.j0 k l0 l1 (!t126))) else (laws_FnChanged.j0 k l0 l1 true))) = some r := h
  clear h
  have HC3 := Aside0.mk H
  clear H
  go_enter Try.func3, Try.ntmps3
  go_upto_region 1 with (fail)
  go_cut [12] (fun v12 wc => ∃ (kq : Nat) (x12_2 : Bool), v12 = .bool x12_2 ∧ Aside0 (laws_FnChanged.j0 kq l0 l1 x12_2 = some r) ∧ Aside0 (kq ≤ k) ∧ Aside0 (Below w.heap.size w wc))
  case first =>
    have H := HC3.out
    clear HC3
    replace H := Option.bind_eq_some_iff.mp H
    obtain ⟨t125, A40, H⟩ := H
    replace H : (if t125 = true then ((laws_zzFits7.f k l1).bind fun t126 => (laws_FnChanged.j0 k l0 l1 (!t126))) else (laws_FnChanged.j0 k l0 l1 true)) = some r := H
    have A4 := Aside0.mk A40
    clear A40
    by_cases c5 : t125 = true
    · subst c5
      have H1 : ((laws_zzFits7.f k l1).bind fun t126 => (laws_FnChanged.j0 k l0 l1 (!t126))) = some r := by rw [if_pos rfl] at H; exact H
      clear H
      have H := H1
      clear H1
      replace H := Option.bind_eq_some_iff.mp H
      obtain ⟨t126, A60, H⟩ := H
      replace H : (laws_FnChanged.j0 k l0 l1 (!t126)) = some r := H
      have A6 := Aside0.mk A60
      clear A60
      have H' := Aside0.mk H
      clear H
      go_wp2_with (first | ((with_reducible refine gate_callee (f := 5) rfl ?_); refine goesL_ (some 6) rfl rfl Try.func5 (by kernel_rfl) rfl #[.slice A0 l0.length c0] rfl (by (try simp only [List.map_toArray, List.map_cons, List.map_nil]); first | done | rfl | (simp only [List.length_drop, List.length_take]; rfl)) ?_; (with_reducible refine (laws_zzFits6.calls k _ _ l0 true _ ?side1 ?side2 A4.out).mono ?_); (case side1 => repeat (first | exact (Kd.C_below HR0.out HB.out) | (with_reducible refine Kd.C_alloc ?_ _) | (with_reducible refine Kd.C_drewN ?_ _) | (with_reducible refine Kd.C_drew ?_))); (case side2 => exact HC0.out); rintro e w' ⟨rfl, ⟨nd, rfl⟩⟩; refine ⟨_, rfl, ?_⟩) | (go_at_call 6; (with_reducible refine (laws_zzFits7.calls k _ _ l1 t126 _ ?side1 ?side2 A6.out).mono ?_); (case side1 => repeat (first | exact (Kd.C_below HR1.out (by repeat (first | (with_reducible first | exact HB.out | apply below_alloc | apply pw_below_drewN | apply below_drew1) | exact HB.out))) | (with_reducible refine Kd.C_alloc ?_ _) | (with_reducible refine Kd.C_drewN ?_ _) | (with_reducible refine Kd.C_drew ?_))); (case side2 => exact HC1.out); rintro e w7 ⟨rfl, hb⟩; have n0_ := Aside0.mk (below_step (by repeat (first | (with_reducible first | exact HB.out | apply below_alloc | apply pw_below_drewN | apply below_drew1) | exact HB.out)) hb); clear HB; have HB := n0_; clear n0_; (try clear hb); (try clear hb2); (try clear hk); (try clear hi)))
      go_meet
      case rel => exact ⟨_, (!t126), (by first | rfl | (simp; done) | (simp [*]; done)), H', ⟨by first | omega | exact Nat.le_refl _⟩, ⟨by repeat (first | (with_reducible first | exact HB.out | apply below_alloc | apply pw_below_drewN | apply below_drew1) | exact HB.out)⟩⟩
    · replace c5 := Bool.eq_false_iff.mpr c5
      subst c5
      have H1 : (laws_FnChanged.j0 k l0 l1 true) = some r := by rw [if_neg (show ¬ (false = true) by decide)] at H; exact H
      clear H
      have H := H1
      clear H1
      have H' := Aside0.mk H
      clear H
      go_wp2_with (first | ((with_reducible refine gate_callee (f := 5) rfl ?_); refine goesL_ (some 6) rfl rfl Try.func5 (by kernel_rfl) rfl #[.slice A0 l0.length c0] rfl (by (try simp only [List.map_toArray, List.map_cons, List.map_nil]); first | done | rfl | (simp only [List.length_drop, List.length_take]; rfl)) ?_; (with_reducible refine (laws_zzFits6.calls k _ _ l0 false _ ?side1 ?side2 A4.out).mono ?_); (case side1 => repeat (first | exact (Kd.C_below HR0.out HB.out) | (with_reducible refine Kd.C_alloc ?_ _) | (with_reducible refine Kd.C_drewN ?_ _) | (with_reducible refine Kd.C_drew ?_))); (case side2 => exact HC0.out); rintro e w' ⟨rfl, ⟨nd, rfl⟩⟩; refine ⟨_, rfl, ?_⟩))
      go_meet
      case rel => exact ⟨_, (true), (by first | rfl | (simp; done) | (simp [*]; done)), H', ⟨by first | omega | exact Nat.le_refl _⟩, ⟨by repeat (first | (with_reducible first | exact HB.out | apply below_alloc | apply pw_below_drewN | apply below_drew1) | exact HB.out)⟩⟩
  case rest =>
    clear HC3
    try clear c1
    try clear p2
    try clear c3
    try clear c5
    obtain ⟨kq, x12_2, rfl, HA, HJ2, HB⟩ := hcut
    cases kq with
    | zero => exact absurd HA.out (by simp [laws_FnChanged.j0])
    | succ kj2 =>
      have H := HA.out
      clear HA
      simp only [laws_FnChanged.j0] at H
      by_cases c8 : x12_2 = true
      · subst c8
        have H1 : (some true) = some r := by rw [if_pos rfl] at H; exact H
        clear H
        have H := H1
        clear H1
        obtain rfl := Option.some.inj H
        go_wp2
        go_ret
        exact ⟨by first | rfl | (simp [errW_none, errW_some] <;> rfl) | (simp [*, errW_none, errW_some] <;> rfl), by repeat (first | (with_reducible first | exact HB.out | apply below_alloc | apply pw_below_drewN | apply below_drew1) | exact HB.out)⟩
      · replace c8 := Bool.eq_false_iff.mpr c8
        subst c8
        have H1 : ((laws_few29.f kj2 l1).bind fun t127 => (if t127 = true then ((impl_Changed.f l0 l1).bind fun t128 => ((laws_changes29.f l0 l1).bind fun t131 => ((laws_alike29.f kj2 t128 t131).bind fun t134 => (if t134 = true then ((impl_Changed.f (([(([] : List ByteArray))] : List (List ByteArray))) ([] : List (S36))).bind fun t141 => (some ((t141.length : Int) == 1))) else (some false))))) else (some true))) = some r := by rw [if_neg (show ¬ (false = true) by decide)] at H; exact H
        clear H
        have H := H1
        clear H1
        replace H := Option.bind_eq_some_iff.mp H
        obtain ⟨t127, A90, H⟩ := H
        replace H : (if t127 = true then ((impl_Changed.f l0 l1).bind fun t128 => ((laws_changes29.f l0 l1).bind fun t131 => ((laws_alike29.f kj2 t128 t131).bind fun t134 => (if t134 = true then ((impl_Changed.f (([(([] : List ByteArray))] : List (List ByteArray))) ([] : List (S36))).bind fun t141 => (some ((t141.length : Int) == 1))) else (some false))))) else (some true)) = some r := H
        have A9 := Aside0.mk A90
        clear A90
        by_cases c10 : t127 = true
        · subst c10
          have H1 : ((impl_Changed.f l0 l1).bind fun t128 => ((laws_changes29.f l0 l1).bind fun t131 => ((laws_alike29.f kj2 t128 t131).bind fun t134 => (if t134 = true then ((impl_Changed.f (([(([] : List ByteArray))] : List (List ByteArray))) ([] : List (S36))).bind fun t141 => (some ((t141.length : Int) == 1))) else (some false))))) = some r := by rw [if_pos rfl] at H; exact H
          clear H
          have H := H1
          clear H1
          replace H := Option.bind_eq_some_iff.mp H
          obtain ⟨t128, A110, H⟩ := H
          replace H : ((laws_changes29.f l0 l1).bind fun t131 => ((laws_alike29.f kj2 t128 t131).bind fun t134 => (if t134 = true then ((impl_Changed.f (([(([] : List ByteArray))] : List (List ByteArray))) ([] : List (S36))).bind fun t141 => (some ((t141.length : Int) == 1))) else (some false)))) = some r := H
          have A11 := Aside0.mk A110
          clear A110
          replace H := Option.bind_eq_some_iff.mp H
          obtain ⟨t131, A120, H⟩ := H
          replace H : ((laws_alike29.f kj2 t128 t131).bind fun t134 => (if t134 = true then ((impl_Changed.f (([(([] : List ByteArray))] : List (List ByteArray))) ([] : List (S36))).bind fun t141 => (some ((t141.length : Int) == 1))) else (some false))) = some r := H
          have A12 := Aside0.mk A120
          clear A120
          replace H := Option.bind_eq_some_iff.mp H
          obtain ⟨t134, A130, H⟩ := H
          replace H : (if t134 = true then ((impl_Changed.f (([(([] : List ByteArray))] : List (List ByteArray))) ([] : List (S36))).bind fun t141 => (some ((t141.length : Int) == 1))) else (some false)) = some r := H
          have A13 := Aside0.mk A130
          clear A130
          by_cases c14 : t134 = true
          · subst c14
            have H1 : ((impl_Changed.f (([(([] : List ByteArray))] : List (List ByteArray))) ([] : List (S36))).bind fun t141 => (some ((t141.length : Int) == 1))) = some r := by rw [if_pos rfl] at H; exact H
            clear H
            have H := H1
            clear H1
            obtain ⟨y135, hy135⟩ : ∃ y_ : List ByteArray, y_ = (([] : List ByteArray)) := ⟨_, rfl⟩
            replace H : ((impl_Changed.f (([y135] : List (List ByteArray))) ([] : List (S36))).bind fun t141 => (some ((t141.length : Int) == 1))) = some r := by first | (rw [hy135]; with_reducible exact H) | (have H2_ := (Option.bind_some _ _).symm.trans H; rw [hy135]; with_reducible exact H2_) | (have H2_ := (Option.bind_some _ _).symm.trans H; with_reducible exact H2_) | with_reducible exact H | (rw [hy135]; exact H) | exact H
            have Ny135 := Aside0.mk hy135
            clear hy135
            obtain ⟨y138, hy138⟩ : ∃ y_ : List (List ByteArray), y_ = (([y135] : List (List ByteArray))) := ⟨_, rfl⟩
            replace H : ((impl_Changed.f y138 ([] : List (S36))).bind fun t141 => (some ((t141.length : Int) == 1))) = some r := by first | (rw [hy138]; with_reducible exact H) | (have H2_ := (Option.bind_some _ _).symm.trans H; rw [hy138]; with_reducible exact H2_) | (have H2_ := (Option.bind_some _ _).symm.trans H; with_reducible exact H2_) | with_reducible exact H | (rw [hy138]; exact H) | exact H
            have Ny138 := Aside0.mk hy138
            clear hy138
            replace H := Option.bind_eq_some_iff.mp H
            obtain ⟨t141, A150, H⟩ := H
            replace H : (some ((t141.length : Int) == 1)) = some r := H
            have A15 := Aside0.mk A150
            clear A150
            obtain rfl := Option.some.inj H
            go_wp2_with (first | ((with_reducible refine gate_callee (f := 7) rfl ?_); refine goesL_ (some 14) rfl rfl Try.func7 (by kernel_rfl) rfl #[.slice A1 l1.length c1] rfl (by (try simp only [List.map_toArray, List.map_cons, List.map_nil]); first | done | rfl | (simp only [List.length_drop, List.length_take]; rfl)) ?_; (with_reducible refine (laws_few29.calls kj2 _ _ l1 true _ ?side1 ?side2 A9.out).mono ?_); (case side1 => repeat (first | exact (Kd.C_below HR1.out HB.out) | (with_reducible refine Kd.C_alloc ?_ _) | (with_reducible refine Kd.C_drewN ?_ _) | (with_reducible refine Kd.C_drew ?_))); (case side2 => exact HC1.out); rintro e w16 ⟨rfl, hb⟩; refine ⟨_, rfl, ?_⟩; have n0_ := Aside0.mk (below_step (by repeat (first | (with_reducible first | exact HB.out | apply below_alloc | apply pw_below_drewN | apply below_drew1) | exact HB.out)) hb); clear HB; have HB := n0_; clear n0_; (try clear hb); (try clear hb2); (try clear hk); (try clear hi)) | ((with_reducible refine gate_callee (f := 9) rfl ?_); refine goesL_ (some 18) rfl rfl Try.func9 (by kernel_rfl) rfl #[.slice A0 l0.length c0, .slice A1 l1.length c1] rfl (by (try simp only [List.map_toArray, List.map_cons, List.map_nil]); first | done | rfl | (simp only [List.length_drop, List.length_take]; rfl)) ?_; (with_reducible refine (impl_Changed.calls _ _ l0 _ _ l1 t128 _ ?side1 ?side2 ?side3 ?side4 A11.out).mono ?_); (case side1 => repeat (first | exact (Kd.C_below HR0.out HB.out) | (with_reducible refine Kd.C_alloc ?_ _) | (with_reducible refine Kd.C_drewN ?_ _) | (with_reducible refine Kd.C_drew ?_))); (case side2 => exact HC0.out); (case side3 => repeat (first | exact (Kd.C_below HR1.out HB.out) | (with_reducible refine Kd.C_alloc ?_ _) | (with_reducible refine Kd.C_drewN ?_ _) | (with_reducible refine Kd.C_drew ?_))); (case side4 => exact HC1.out); rintro e w17 ⟨v129, rfl, ho0, hb⟩; refine ⟨_, rfl, ?_⟩; have n0_ := Aside0.mk (Kd.N_lower (Kd.N_mono (ok' := fun k_ => True) (Kd.S_N (Kd.S_bound ho0)) (fun k_ hk_ => trivial)) (below_size (by repeat (first | (with_reducible first | exact HB.out | apply below_alloc | apply pw_below_drewN | apply below_drew1) | exact HB.out)))); have n1_ := Aside0.mk (below_step (by repeat (first | (with_reducible first | exact HB.out | apply below_alloc | apply pw_below_drewN | apply below_drew1) | exact HB.out)) hb); clear HB; have HO130 := n0_; have HB := n1_; clear n0_ n1_; (try clear hb); (try clear hb2); (try clear hk); (try clear hi); (try clear ho0)) | ((with_reducible refine gate_callee (f := 10) rfl ?_); refine goesL_ (some 21) rfl rfl Try.func10 (by kernel_rfl) rfl #[.slice A0 l0.length c0, .slice A1 l1.length c1] rfl (by (try simp only [List.map_toArray, List.map_cons, List.map_nil]); first | done | rfl | (simp only [List.length_drop, List.length_take]; rfl)) ?_; (with_reducible refine (laws_changes29.calls _ _ l0 _ _ l1 t131 _ ?side1 ?side2 ?side3 ?side4 A12.out).mono ?_); (case side1 => repeat (first | exact (Kd.C_below HR0.out HB.out) | (with_reducible refine Kd.C_alloc ?_ _) | (with_reducible refine Kd.C_drewN ?_ _) | (with_reducible refine Kd.C_drew ?_))); (case side2 => exact HC0.out); (case side3 => repeat (first | exact (Kd.C_below HR1.out HB.out) | (with_reducible refine Kd.C_alloc ?_ _) | (with_reducible refine Kd.C_drewN ?_ _) | (with_reducible refine Kd.C_drew ?_))); (case side4 => exact HC1.out); rintro e w18 ⟨v132, rfl, ho0, hb⟩; refine ⟨_, rfl, ?_⟩; have n0_ := Aside0.mk (Kd.N_elder' (by (with_reducible repeat (first | apply Kd.N_alloc | apply Kd.N_drewN | apply Kd.N_drew)); exact HO130.out) (Kd.N_base (Kd.S_N ho0)) hb); have n1_ := Aside0.mk (Kd.N_lower (Kd.N_mono (ok' := fun k_ => some k_ ≠ (v129 : Value).ownBlock) (Kd.S_N (Kd.S_bound ho0)) (fun k_ hk_ => (Kd.fresh' (Kd.N_lt (by (with_reducible repeat (first | apply Kd.N_alloc | apply Kd.N_drewN | apply Kd.N_drew)); exact HO130.out)) k_ hk_.2.1))) (below_size (by repeat (first | (with_reducible first | exact HB.out | apply below_alloc | apply pw_below_drewN | apply below_drew1) | exact HB.out)))); have n2_ := Aside0.mk (below_step (by repeat (first | (with_reducible first | exact HB.out | apply below_alloc | apply pw_below_drewN | apply below_drew1) | exact HB.out)) hb); clear HO130; clear HB; have HO130 := n0_; have HO133 := n1_; have HB := n2_; clear n0_ n1_ n2_; (try clear hb); (try clear hb2); (try clear hk); (try clear hi); (try clear ho0); obtain ⟨Ao19, co19, eo19⟩ := Kd.N_slice HO130.out; subst eo19; obtain ⟨Ao20, co20, eo20⟩ := Kd.N_slice HO133.out; subst eo20) | ((with_reducible refine gate_callee (f := 8) rfl ?_); refine goesL_ (some 22) rfl rfl Try.func8 (by kernel_rfl) rfl #[.slice Ao19 t128.length co19, .slice Ao20 t131.length co20] rfl (by (try simp only [List.map_toArray, List.map_cons, List.map_nil]); first | done | rfl | (simp only [List.length_drop, List.length_take]; rfl)) ?_; (with_reducible refine (laws_alike29.calls kj2 _ _ t128 _ _ t131 true _ ?side1 ?side2 ?side3 ?side4 A13.out).mono ?_); (case side1 => repeat (first | exact (Kd.N_reads' HO130.out).2.2 | (with_reducible refine Kd.C_alloc ?_ _) | (with_reducible refine Kd.C_drewN ?_ _) | (with_reducible refine Kd.C_drew ?_))); (case side2 => exact (Kd.N_reads' HO130.out).2.1); (case side3 => repeat (first | exact (Kd.N_reads' HO133.out).2.2 | (with_reducible refine Kd.C_alloc ?_ _) | (with_reducible refine Kd.C_drewN ?_ _) | (with_reducible refine Kd.C_drew ?_))); (case side4 => exact (Kd.N_reads' HO133.out).2.1); rintro e w' ⟨rfl, ⟨nd, rfl⟩⟩; refine ⟨_, rfl, ?_⟩) | ((with_reducible refine gate_dst (N := 24) rfl ?_); (try (refine gate_guard (by rfl) ?_; dsimp only)); refine Kd.R_lit Kd.string _ 9 ?hg (N := 24) ?hd (xs := ([] : List ByteArray)) (inner := []) (ok := fun _ => True) (okp := fun _ => True) ?hr ?hp (fun _ hk => hk) trivial (Below.refl _ _) (Nat.le_refl _) (by simp) ?_; (case hd => rfl); (case hg => rfl); (case hr => first | (go_simp; done) | (go_simp; rfl)); (case hp => exact (Reps.none _ _)); intro v136 w21 ho22 hb hg_ hnew_; clear hg_ hnew_; (first | rw [← Ny135.out] at ho22 | (simp only [Int.reduceToNat] at ho22; rw [← Ny135.out] at ho22)); have n0_ := Aside0.mk (Kd.N_elder' (by (with_reducible repeat (first | apply Kd.N_alloc | apply Kd.N_drewN | apply Kd.N_drew)); exact HO130.out) (Kd.R_base ho22) hb); have n1_ := Aside0.mk (Kd.N_elder' (by (with_reducible repeat (first | apply Kd.N_alloc | apply Kd.N_drewN | apply Kd.N_drew)); exact HO133.out) (Kd.R_base ho22) hb); have n2_ := Aside0.mk (Kd.R_lower ho22 (below_size (by repeat (first | (with_reducible first | exact HB.out | apply below_alloc | apply pw_below_drewN | apply below_drew1) | exact HB.out)))); have n3_ := Aside0.mk (below_step (by repeat (first | (with_reducible first | exact HB.out | apply below_alloc | apply pw_below_drewN | apply below_drew1) | exact HB.out)) hb); clear HO130; clear HO133; clear HB; have HO130 := n0_; have HO133 := n1_; have HO137 := n2_; have HB := n3_; clear n0_ n1_ n2_ n3_; clear hb ho22; obtain ⟨Ao23, co23, eo23⟩ := Kd.R_slice HO137.out; subst eo23) | ((with_reducible refine gate_dst (N := 25) rfl ?_); (try (refine gate_guard (by rfl) ?_; dsimp only)); refine Kd.N_lit (Kd.slice 9 Kd.string) _ 28 ?hg (N' := 25) ?hd (xs := ([y135] : List (List ByteArray))) (inner := [.slice Ao23 y135.length co23]) (ok := (fun k_ => some k_ ≠ (.slice Ao19 t128.length co19 : Value).ownBlock ∧ some k_ ≠ (.slice Ao20 t131.length co20 : Value).ownBlock)) (okp := (fun k_ => some k_ ≠ (.slice Ao19 t128.length co19 : Value).ownBlock ∧ some k_ ≠ (.slice Ao20 t131.length co20 : Value).ownBlock)) ?hr ?hp (fun _ hk => hk) ((show ∀ k_, w21.heap.size ≤ k_ → (fun k_ => some k_ ≠ (.slice Ao19 t128.length co19 : Value).ownBlock ∧ some k_ ≠ (.slice Ao20 t131.length co20 : Value).ownBlock) k_ from fun k_ hk => ⟨Kd.fresh' (Kd.N_lt (by (with_reducible repeat (first | apply Kd.N_alloc | apply Kd.N_drewN | apply Kd.N_drew)); exact HO130.out)) k_ hk, Kd.fresh' (Kd.N_lt (by (with_reducible repeat (first | apply Kd.N_alloc | apply Kd.N_drewN | apply Kd.N_drew)); exact HO133.out)) k_ hk⟩) _ (Nat.le_refl _)) (Below.refl _ _) (Nat.le_refl _) (by simp) ?_; (case hd => rfl); (case hg => rfl); (case hr => first | (go_simp; done) | (go_simp; rfl)); (case hp => exact (Reps.one (show Kd.FK (Kd.slice 9 Kd.string) _ _ y135 [.slice Ao23 y135.length co23] from (Kd.FK_slice_mk (Kd.R_reads' (Kd.R_mono (ok' := (fun k_ => some k_ ≠ (.slice Ao19 t128.length co19 : Value).ownBlock ∧ some k_ ≠ (.slice Ao20 t131.length co20 : Value).ownBlock)) (Kd.R_apart' (Kd.R_apart' (HO137.out) (Kd.N_typed HO130.out) (by decide)) (Kd.N_typed HO133.out) (by decide)) (fun k_ hk => ⟨hk.1.2, hk.2⟩))).2.1 (Kd.R_F (Kd.R_mono (ok' := (fun k_ => some k_ ≠ (.slice Ao19 t128.length co19 : Value).ownBlock ∧ some k_ ≠ (.slice Ao20 t131.length co20 : Value).ownBlock)) (Kd.R_apart' (Kd.R_apart' (HO137.out) (Kd.N_typed HO130.out) (by decide)) (Kd.N_typed HO133.out) (by decide)) (fun k_ hk => ⟨hk.1.2, hk.2⟩))))) (Reps.none _ _))); intro v139 w24 ho25 hb hg_ hnew_; clear hg_ hnew_; (first | rw [← Ny138.out] at ho25 | (simp only [Int.reduceToNat] at ho25; rw [← Ny138.out] at ho25)); have n0_ := Aside0.mk (Kd.N_elder' (by (with_reducible repeat (first | apply Kd.N_alloc | apply Kd.N_drewN | apply Kd.N_drew)); exact HO130.out) (Kd.N_base ho25) hb); have n1_ := Aside0.mk (Kd.N_elder' (by (with_reducible repeat (first | apply Kd.N_alloc | apply Kd.N_drewN | apply Kd.N_drew)); exact HO133.out) (Kd.N_base ho25) hb); have n2_ := Aside0.mk (Kd.N_lower ho25 (below_size (by repeat (first | (with_reducible first | exact HB.out | apply below_alloc | apply pw_below_drewN | apply below_drew1) | exact HB.out)))); have n3_ := Aside0.mk (below_step (by repeat (first | (with_reducible first | exact HB.out | apply below_alloc | apply pw_below_drewN | apply below_drew1) | exact HB.out)) hb); clear HO130; clear HO133; clear HB; clear HO137; have HO130 := n0_; have HO133 := n1_; have HO140 := n2_; have HB := n3_; clear n0_ n1_ n2_ n3_; clear hb ho25; obtain ⟨Ao26, co26, eo26⟩ := Kd.N_slice HO140.out; subst eo26) | (go_at_call 9; (refine (impl_Changed.calls _ _ y138 _ _ ([] : List (S36)) t141 _ ?side1 ?side2 ?side3 ?side4 A15.out).mono ?_); (case side1 => repeat (first | exact (Kd.N_reads' HO140.out).2.2 | (with_reducible refine Kd.C_alloc ?_ _) | (with_reducible refine Kd.C_drewN ?_ _) | (with_reducible refine Kd.C_drew ?_))); (case side2 => exact (Kd.N_reads' HO140.out).2.1); (case side3 => exact Kd.C_nil _ _); (case side4 => exact Nat.le_refl _); rintro e w27 ⟨v142, rfl, ho0, hb⟩; have n0_ := Aside0.mk (Kd.N_elder' (by (with_reducible repeat (first | apply Kd.N_alloc | apply Kd.N_drewN | apply Kd.N_drew)); exact HO130.out) (Kd.N_base (Kd.S_N ho0)) hb); have n1_ := Aside0.mk (Kd.N_elder' (by (with_reducible repeat (first | apply Kd.N_alloc | apply Kd.N_drewN | apply Kd.N_drew)); exact HO133.out) (Kd.N_base (Kd.S_N ho0)) hb); have n2_ := Aside0.mk (Kd.N_elder' (by (with_reducible repeat (first | apply Kd.N_alloc | apply Kd.N_drewN | apply Kd.N_drew)); exact HO140.out) (Kd.N_base (Kd.S_N ho0)) hb); have n3_ := Aside0.mk (Kd.N_lower (Kd.N_mono (ok' := fun k_ => some k_ ≠ (.slice Ao19 t128.length co19 : Value).ownBlock ∧ some k_ ≠ (.slice Ao20 t131.length co20 : Value).ownBlock ∧ some k_ ≠ (.slice Ao26 y138.length co26 : Value).ownBlock) (Kd.S_N (Kd.S_bound ho0)) (fun k_ hk_ => ⟨(Kd.fresh' (Kd.N_lt (by (with_reducible repeat (first | apply Kd.N_alloc | apply Kd.N_drewN | apply Kd.N_drew)); exact HO130.out)) k_ hk_.2.1), (Kd.fresh' (Kd.N_lt (by (with_reducible repeat (first | apply Kd.N_alloc | apply Kd.N_drewN | apply Kd.N_drew)); exact HO133.out)) k_ hk_.2.1), (Kd.fresh' (Kd.N_lt (by (with_reducible repeat (first | apply Kd.N_alloc | apply Kd.N_drewN | apply Kd.N_drew)); exact HO140.out)) k_ hk_.2.1)⟩)) (below_size (by repeat (first | (with_reducible first | exact HB.out | apply below_alloc | apply pw_below_drewN | apply below_drew1) | exact HB.out)))); have n4_ := Aside0.mk (below_step (by repeat (first | (with_reducible first | exact HB.out | apply below_alloc | apply pw_below_drewN | apply below_drew1) | exact HB.out)) hb); clear HO130; clear HO133; clear HO140; clear HB; have HO130 := n0_; have HO133 := n1_; have HO140 := n2_; have HO143 := n3_; have HB := n4_; clear n0_ n1_ n2_ n3_ n4_; (try clear hb); (try clear hb2); (try clear hk); (try clear hi); (try clear ho0); obtain ⟨Ao28, co28, eo28⟩ := Kd.N_slice HO143.out; subst eo28))
            go_ret
            exact ⟨by first | rfl | (simp [errW_none, errW_some] <;> rfl) | (simp [*, errW_none, errW_some] <;> rfl), by repeat (first | (with_reducible first | exact HB.out | apply below_alloc | apply pw_below_drewN | apply below_drew1) | exact HB.out)⟩
          · replace c14 := Bool.eq_false_iff.mpr c14
            subst c14
            have H1 : (some false) = some r := by rw [if_neg (show ¬ (false = true) by decide)] at H; exact H
            clear H
            have H := H1
            clear H1
            obtain rfl := Option.some.inj H
            go_wp2_with (first | ((with_reducible refine gate_callee (f := 7) rfl ?_); refine goesL_ (some 14) rfl rfl Try.func7 (by kernel_rfl) rfl #[.slice A1 l1.length c1] rfl (by (try simp only [List.map_toArray, List.map_cons, List.map_nil]); first | done | rfl | (simp only [List.length_drop, List.length_take]; rfl)) ?_; (with_reducible refine (laws_few29.calls kj2 _ _ l1 true _ ?side1 ?side2 A9.out).mono ?_); (case side1 => repeat (first | exact (Kd.C_below HR1.out HB.out) | (with_reducible refine Kd.C_alloc ?_ _) | (with_reducible refine Kd.C_drewN ?_ _) | (with_reducible refine Kd.C_drew ?_))); (case side2 => exact HC1.out); rintro e w29 ⟨rfl, hb⟩; refine ⟨_, rfl, ?_⟩; have n0_ := Aside0.mk (below_step (by repeat (first | (with_reducible first | exact HB.out | apply below_alloc | apply pw_below_drewN | apply below_drew1) | exact HB.out)) hb); clear HB; have HB := n0_; clear n0_; (try clear hb); (try clear hb2); (try clear hk); (try clear hi)) | ((with_reducible refine gate_callee (f := 9) rfl ?_); refine goesL_ (some 18) rfl rfl Try.func9 (by kernel_rfl) rfl #[.slice A0 l0.length c0, .slice A1 l1.length c1] rfl (by (try simp only [List.map_toArray, List.map_cons, List.map_nil]); first | done | rfl | (simp only [List.length_drop, List.length_take]; rfl)) ?_; (with_reducible refine (impl_Changed.calls _ _ l0 _ _ l1 t128 _ ?side1 ?side2 ?side3 ?side4 A11.out).mono ?_); (case side1 => repeat (first | exact (Kd.C_below HR0.out HB.out) | (with_reducible refine Kd.C_alloc ?_ _) | (with_reducible refine Kd.C_drewN ?_ _) | (with_reducible refine Kd.C_drew ?_))); (case side2 => exact HC0.out); (case side3 => repeat (first | exact (Kd.C_below HR1.out HB.out) | (with_reducible refine Kd.C_alloc ?_ _) | (with_reducible refine Kd.C_drewN ?_ _) | (with_reducible refine Kd.C_drew ?_))); (case side4 => exact HC1.out); rintro e w30 ⟨v129, rfl, ho0, hb⟩; refine ⟨_, rfl, ?_⟩; have n0_ := Aside0.mk (Kd.N_lower (Kd.N_mono (ok' := fun k_ => True) (Kd.S_N (Kd.S_bound ho0)) (fun k_ hk_ => trivial)) (below_size (by repeat (first | (with_reducible first | exact HB.out | apply below_alloc | apply pw_below_drewN | apply below_drew1) | exact HB.out)))); have n1_ := Aside0.mk (below_step (by repeat (first | (with_reducible first | exact HB.out | apply below_alloc | apply pw_below_drewN | apply below_drew1) | exact HB.out)) hb); clear HB; have HO130 := n0_; have HB := n1_; clear n0_ n1_; (try clear hb); (try clear hb2); (try clear hk); (try clear hi); (try clear ho0)) | ((with_reducible refine gate_callee (f := 10) rfl ?_); refine goesL_ (some 21) rfl rfl Try.func10 (by kernel_rfl) rfl #[.slice A0 l0.length c0, .slice A1 l1.length c1] rfl (by (try simp only [List.map_toArray, List.map_cons, List.map_nil]); first | done | rfl | (simp only [List.length_drop, List.length_take]; rfl)) ?_; (with_reducible refine (laws_changes29.calls _ _ l0 _ _ l1 t131 _ ?side1 ?side2 ?side3 ?side4 A12.out).mono ?_); (case side1 => repeat (first | exact (Kd.C_below HR0.out HB.out) | (with_reducible refine Kd.C_alloc ?_ _) | (with_reducible refine Kd.C_drewN ?_ _) | (with_reducible refine Kd.C_drew ?_))); (case side2 => exact HC0.out); (case side3 => repeat (first | exact (Kd.C_below HR1.out HB.out) | (with_reducible refine Kd.C_alloc ?_ _) | (with_reducible refine Kd.C_drewN ?_ _) | (with_reducible refine Kd.C_drew ?_))); (case side4 => exact HC1.out); rintro e w31 ⟨v132, rfl, ho0, hb⟩; refine ⟨_, rfl, ?_⟩; have n0_ := Aside0.mk (Kd.N_elder' (by (with_reducible repeat (first | apply Kd.N_alloc | apply Kd.N_drewN | apply Kd.N_drew)); exact HO130.out) (Kd.N_base (Kd.S_N ho0)) hb); have n1_ := Aside0.mk (Kd.N_lower (Kd.N_mono (ok' := fun k_ => some k_ ≠ (v129 : Value).ownBlock) (Kd.S_N (Kd.S_bound ho0)) (fun k_ hk_ => (Kd.fresh' (Kd.N_lt (by (with_reducible repeat (first | apply Kd.N_alloc | apply Kd.N_drewN | apply Kd.N_drew)); exact HO130.out)) k_ hk_.2.1))) (below_size (by repeat (first | (with_reducible first | exact HB.out | apply below_alloc | apply pw_below_drewN | apply below_drew1) | exact HB.out)))); have n2_ := Aside0.mk (below_step (by repeat (first | (with_reducible first | exact HB.out | apply below_alloc | apply pw_below_drewN | apply below_drew1) | exact HB.out)) hb); clear HO130; clear HB; have HO130 := n0_; have HO133 := n1_; have HB := n2_; clear n0_ n1_ n2_; (try clear hb); (try clear hb2); (try clear hk); (try clear hi); (try clear ho0); obtain ⟨Ao32, co32, eo32⟩ := Kd.N_slice HO130.out; subst eo32; obtain ⟨Ao33, co33, eo33⟩ := Kd.N_slice HO133.out; subst eo33) | ((with_reducible refine gate_callee (f := 8) rfl ?_); refine goesL_ (some 22) rfl rfl Try.func8 (by kernel_rfl) rfl #[.slice Ao32 t128.length co32, .slice Ao33 t131.length co33] rfl (by (try simp only [List.map_toArray, List.map_cons, List.map_nil]); first | done | rfl | (simp only [List.length_drop, List.length_take]; rfl)) ?_; (with_reducible refine (laws_alike29.calls kj2 _ _ t128 _ _ t131 false _ ?side1 ?side2 ?side3 ?side4 A13.out).mono ?_); (case side1 => repeat (first | exact (Kd.N_reads' HO130.out).2.2 | (with_reducible refine Kd.C_alloc ?_ _) | (with_reducible refine Kd.C_drewN ?_ _) | (with_reducible refine Kd.C_drew ?_))); (case side2 => exact (Kd.N_reads' HO130.out).2.1); (case side3 => repeat (first | exact (Kd.N_reads' HO133.out).2.2 | (with_reducible refine Kd.C_alloc ?_ _) | (with_reducible refine Kd.C_drewN ?_ _) | (with_reducible refine Kd.C_drew ?_))); (case side4 => exact (Kd.N_reads' HO133.out).2.1); rintro e w' ⟨rfl, ⟨nd, rfl⟩⟩; refine ⟨_, rfl, ?_⟩))
            go_ret
            exact ⟨by first | rfl | (simp [errW_none, errW_some] <;> rfl) | (simp [*, errW_none, errW_some] <;> rfl), by repeat (first | (with_reducible first | exact HB.out | apply below_alloc | apply pw_below_drewN | apply below_drew1) | exact HB.out)⟩
        · replace c10 := Bool.eq_false_iff.mpr c10
          subst c10
          have H1 : (some true) = some r := by rw [if_neg (show ¬ (false = true) by decide)] at H; exact H
          clear H
          have H := H1
          clear H1
          obtain rfl := Option.some.inj H
          go_wp2_with (first | ((with_reducible refine gate_callee (f := 7) rfl ?_); refine goesL_ (some 14) rfl rfl Try.func7 (by kernel_rfl) rfl #[.slice A1 l1.length c1] rfl (by (try simp only [List.map_toArray, List.map_cons, List.map_nil]); first | done | rfl | (simp only [List.length_drop, List.length_take]; rfl)) ?_; (with_reducible refine (laws_few29.calls kj2 _ _ l1 false _ ?side1 ?side2 A9.out).mono ?_); (case side1 => repeat (first | exact (Kd.C_below HR1.out HB.out) | (with_reducible refine Kd.C_alloc ?_ _) | (with_reducible refine Kd.C_drewN ?_ _) | (with_reducible refine Kd.C_drew ?_))); (case side2 => exact HC1.out); rintro e w34 ⟨rfl, hb⟩; refine ⟨_, rfl, ?_⟩; have n0_ := Aside0.mk (below_step (by repeat (first | (with_reducible first | exact HB.out | apply below_alloc | apply pw_below_drewN | apply below_drew1) | exact HB.out)) hb); clear HB; have HB := n0_; clear n0_; (try clear hb); (try clear hb2); (try clear hk); (try clear hi)))
          go_ret
          exact ⟨by first | rfl | (simp [errW_none, errW_some] <;> rfl) | (simp [*, errW_none, errW_some] <;> rfl), by repeat (first | (with_reducible first | exact HB.out | apply below_alloc | apply pw_below_drewN | apply below_drew1) | exact HB.out)⟩

end Go.Proofs.Ytnhcocjdkmelhaa.GCh
