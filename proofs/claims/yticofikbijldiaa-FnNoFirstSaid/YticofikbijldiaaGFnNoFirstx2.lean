-- made by a program of this session, after the kit's print
import Derived.Test.YticofikbijldiaaGFnNoFirstx0
import Derived.Test.YticofikbijldiaaGFnNoFirstx1
import Derived.Test.YticofikbijldiaaGivFnNoFirst
namespace Go.Proofs.Yticofikbijldiaa.GFnNoFirst
open Go.RowKit Go.Proofs.YticofikbijldiaaW.PrintWords Go.Proofs.YticofikbijldiaaW.PrintLast Go.Proofs.YticofikbijldiaaW.PrintMore
attribute [local go_sem] max2_int min2_int max_two min_two max_three min_three max_four min_four   -- for this text's walks alone
set_option linter.unusedVariables false
set_option linter.unusedSimpArgs false

/-! ### laws_FnNoFirst: function 9 -/
def laws_FnNoFirst.j0 : Nat → List (List ByteArray) → List (List ByteArray) → Bool → Option (Bool)
  | 0, _, _, _ => none
  | k + 1, x0, x3, x16 => if x16 = true then (if 1 ≤ (x0.length : Int) then ((impl_NoFirst.f x0).bind fun t117 => ((laws_alike29.f k t117 (x0.drop 1)).bind fun t120 => (if t120 = true then ((impl_NoFirst.f (([(([(⟨#[97]⟩ : ByteArray)] : List ByteArray))] : List (List ByteArray)))).bind fun t127 => (some ((t127.length : Int) == 1))) else (some false)))) else (none)) else ((impl_NoFirst.f x0).bind fun t130 => ((laws_alike29.f k t130 x3).bind fun t133 => (if t133 = true then ((impl_NoFirst.f (([(([(⟨#[97]⟩ : ByteArray)] : List ByteArray))] : List (List ByteArray)))).bind fun t140 => (some ((t140.length : Int) == 1))) else (some false))))
def laws_FnNoFirst.f (k : Nat) (l0 : List (List ByteArray)) : Option (Bool) := (laws_zzFits6.f k l0).bind fun t110 => (if t110 = true then (if (l0.length : Int) > 0 then (if 0 < (l0.length : Int) then ((laws_empty29.f k (rd_L1 l0 0)).bind fun t112 => (laws_FnNoFirst.j0 k l0 l0 t112)) else (none)) else (laws_FnNoFirst.j0 k l0 l0 false)) else (some true))
theorem laws_FnNoFirst.mono_l : ∀ k, (∀ y0 y1 y2, LeO (laws_FnNoFirst.j0 k y0 y1 y2) (laws_FnNoFirst.j0 (k + 1) y0 y1 y2))
  | 0 => fun _ _ _ r h => by simp [laws_FnNoFirst.j0] at h
  | k + 1 => by
    have ih0 := laws_FnNoFirst.mono_l k
    · intro y0 y1 y2
      unfold laws_FnNoFirst.j0
      repeat' first
      | (with_reducible exact ih0 _ _ _)
      | (with_reducible exact laws_alike29.mono _ _ _)
      | (with_reducible exact laws_empty29.mono _ _)
      | (with_reducible exact laws_zzFits6.mono _ _)
      | (with_reducible exact LeO.refl _)
      | (with_reducible exact LeO.none _)
      | (with_reducible refine LeO.ite ?_ ?_)
      | (with_reducible refine LeO.bind ?_ (fun _ => ?_))
      | exact ih0 _ _ _
      | exact laws_alike29.mono _ _ _
      | exact laws_empty29.mono _ _
      | exact laws_zzFits6.mono _ _
      | exact LeO.none _
      | refine LeO.ite ?_ ?_
      | refine LeO.bind ?_ (fun _ => ?_)
theorem laws_FnNoFirst.mono : ∀ a0 k, LeO (laws_FnNoFirst.f k a0) (laws_FnNoFirst.f (k + 1) a0) := by
  intro a0 k
  have ih0 := laws_FnNoFirst.mono_l k
  unfold laws_FnNoFirst.f
  repeat' first
      | (with_reducible exact ih0 _ _ _)
      | (with_reducible exact laws_alike29.mono _ _ _)
      | (with_reducible exact laws_empty29.mono _ _)
      | (with_reducible exact laws_zzFits6.mono _ _)
      | (with_reducible exact LeO.refl _)
      | (with_reducible exact LeO.none _)
      | (with_reducible refine LeO.ite ?_ ?_)
      | (with_reducible refine LeO.bind ?_ (fun _ => ?_))
      | exact ih0 _ _ _
      | exact laws_alike29.mono _ _ _
      | exact laws_empty29.mono _ _
      | exact laws_zzFits6.mono _ _
      | exact LeO.none _
      | refine LeO.ite ?_ ?_
      | refine LeO.bind ?_ (fun _ => ?_)
set_option maxHeartbeats 8000000 in
set_option maxRecDepth 100000 in
theorem laws_FnNoFirst.calls (k : Nat) (A0 : Option Addr) (c0 : Nat) (l0 : List (List ByteArray)) (r : Bool) (w : World) (hr0 : Kd.C (Kd.slice 9 Kd.string) w A0 l0.length l0) (hc0 : l0.length ≤ c0) (h : laws_FnNoFirst.f k l0 = some r) :
    Calls Try.prog 9 #[.slice A0 l0.length c0] w fun e w' => e = .returned (.bool r) ∧ Below w.heap.size w w' := by
  have HR0 := Aside0.mk hr0
  have HC0 := Aside0.mk hc0
  clear hr0 hc0
  have HB := Aside0.mk (Below.refl w.heap.size w)
  have H : ((laws_zzFits6.f k l0).bind fun t110 => (if t110 = true then (if (l0.length : Int) > 0 then (if 0 < (l0.length : Int) then ((laws_empty29.f k (rd_L1 l0 0)).bind fun t112 => (laws_FnNoFirst.j0 k l0 l0 t112)) else (none)) else (laws_FnNoFirst.j0 k l0 l0 false)) else (some true))) = some r := h
  clear h
  replace H := Option.bind_eq_some_iff.mp H
  obtain ⟨t110, A20, H⟩ := H
  replace H : (if t110 = true then (if (l0.length : Int) > 0 then (if 0 < (l0.length : Int) then ((laws_empty29.f k (rd_L1 l0 0)).bind fun t112 => (laws_FnNoFirst.j0 k l0 l0 t112)) else (none)) else (laws_FnNoFirst.j0 k l0 l0 false)) else (some true)) = some r := H
  have A2 := Aside0.mk A20
  clear A20
  by_cases c3 : t110 = true
  · subst c3
    have H1 : (if (l0.length : Int) > 0 then (if 0 < (l0.length : Int) then ((laws_empty29.f k (rd_L1 l0 0)).bind fun t112 => (laws_FnNoFirst.j0 k l0 l0 t112)) else (none)) else (laws_FnNoFirst.j0 k l0 l0 false)) = some r := by rw [if_pos rfl] at H; exact H
    clear H
    have H := H1
    clear H1
    have HC4 := Aside0.mk H
    clear H
    go_enter Try.func9, Try.ntmps9
    go_upto_region 4 with (first | ((with_reducible refine gate_callee (f := 26) rfl ?_); refine goesL_ (some 5) rfl rfl Try.func26 (by kernel_rfl) rfl #[.slice A0 l0.length c0] rfl (by (try simp only [List.map_toArray, List.map_cons, List.map_nil]); first | done | rfl | (simp only [List.length_drop, List.length_take]; rfl)) ?_; (with_reducible refine (laws_zzFits6.calls k _ _ l0 true _ ?side1 ?side2 A2.out).mono ?_); (case side1 => repeat (first | exact HR0.out | (with_reducible refine Kd.C_alloc ?_ _) | (with_reducible refine Kd.C_drewN ?_ _) | (with_reducible refine Kd.C_drew ?_))); (case side2 => exact HC0.out); rintro e w' ⟨rfl, ⟨nd, rfl⟩⟩; refine ⟨_, rfl, ?_⟩))
    (try simp only [Act.put, List.setIfInBounds_toArray, List.set_cons_zero, List.set_cons_succ])
    go_cut [16] (fun v16 wc => ∃ (kq : Nat) (x16_3 : Bool), v16 = .bool x16_3 ∧ Aside0 (laws_FnNoFirst.j0 kq l0 l0 x16_3 = some r) ∧ Aside0 (kq ≤ k) ∧ Aside0 (Below w.heap.size w wc))
    case first =>
      have H := HC4.out
      clear HC4
      by_cases c5 : (l0.length : Int) > 0
      · rw [if_pos c5] at H
        have c5b0 : decide (0 < (l0.length : Int)) = true := decide_eq_true c5
        have c5b1 : decide (0 < l0.length) = true := decide_eq_true (by omega)
        clear c5
        (first | rw [c5b0] | (simp only [i64_w, i32_w]; rw [c5b0]) | skip)
        by_cases c6 : 0 < (l0.length : Int)
        · rw [if_pos c6] at H
          have c6b0 : decide (0 < (l0.length : Int)) = true := decide_eq_true c6
          have c6b1 : decide (0 < l0.length) = true := decide_eq_true (by omega)
          clear c6
          replace H := Option.bind_eq_some_iff.mp H
          obtain ⟨t112, A70, H⟩ := H
          replace H : (laws_FnNoFirst.j0 k l0 l0 t112) = some r := H
          have A7 := Aside0.mk A70
          clear A70
          have H' := Aside0.mk H
          clear H
          have p111 : 0 ≤ (0 : Int) := (by omega)
          have q111 : 0 < (l0.length : Int) := of_decide_eq_true (by first | (with_reducible assumption) | assumption)
          obtain ⟨ad111, A111_0, c111_0, e111, hx111_0, hl111_0, hi111_0⟩ := at_L1 HR0.out 0 p111 q111
          cases e111
          have qi111 : (0 < l0.length) = True := eq_true (by omega)
          (try rw [show ((0 : Int)).toNat = 0 from rfl] at hx111_0)
          (try rw [Addr.add_zero'] at hx111_0)
          replace hx111_0 := (HB.out.cell (World.block_lt_of_cell? w _ hx111_0)).trans hx111_0
          have HR111_0 := Aside0.mk hi111_0
          have HC111_0 := Aside0.mk hl111_0
          clear hi111_0 hl111_0
          replace p111 := eq_true p111
          replace q111 := eq_true q111
          go_wp2_with (first | (go_at_call 20; (with_reducible refine (laws_empty29.calls k _ _ (rd_L1 l0 0) t112 _ ?side1 ?side2 A7.out).mono ?_); (case side1 => repeat (first | exact (Kd.C_below HR111_0.out HB.out) | (with_reducible refine Kd.C_alloc ?_ _) | (with_reducible refine Kd.C_drewN ?_ _) | (with_reducible refine Kd.C_drew ?_))); (case side2 => exact HC111_0.out); rintro e w' ⟨rfl, ⟨nd, rfl⟩⟩))
          go_meet
          case rel => exact ⟨_, (t112), (by first | rfl | (simp; done) | (simp [*]; done)), H', ⟨by first | omega | exact Nat.le_refl _⟩, ⟨by repeat (first | (with_reducible first | exact HB.out | apply below_alloc | apply pw_below_drewN | apply below_drew1) | exact HB.out)⟩⟩
        · rw [if_neg c6] at H
          exact absurd H (by simp)
      · rw [if_neg c5] at H
        have c5b0 : decide (0 < (l0.length : Int)) = false := decide_eq_false c5
        have c5b1 : decide (0 < l0.length) = false := decide_eq_false (by omega)
        clear c5
        (first | rw [c5b0] | (simp only [i64_w, i32_w]; rw [c5b0]) | skip)
        have H' := Aside0.mk H
        clear H
        go_wp2
        go_meet
        case rel => exact ⟨_, (false), (by first | rfl | (simp; done) | (simp [*]; done)), H', ⟨by first | omega | exact Nat.le_refl _⟩, ⟨by repeat (first | (with_reducible first | exact HB.out | apply below_alloc | apply pw_below_drewN | apply below_drew1) | exact HB.out)⟩⟩
    case rest =>
      clear HC4
      try clear c1
      try clear p1
      try clear q1
      try clear hx1
      try clear qi1
      try clear c2
      try clear p2
      try clear c3
      try clear c5
      try clear c5b0
      try clear c5b1
      try clear c6
      try clear c6b0
      try clear c6b1
      try clear hx111_0
      try clear p111
      try clear q111
      obtain ⟨kq, x16_3, rfl, HA, HJ3, HB⟩ := hcut
      cases kq with
      | zero => exact absurd HA.out (by simp [laws_FnNoFirst.j0])
      | succ kj3 =>
        have H := HA.out
        clear HA
        simp only [laws_FnNoFirst.j0] at H
        by_cases c8 : x16_3 = true
        · subst c8
          have H1 : (if 1 ≤ (l0.length : Int) then ((impl_NoFirst.f l0).bind fun t117 => ((laws_alike29.f kj3 t117 (l0.drop 1)).bind fun t120 => (if t120 = true then ((impl_NoFirst.f (([(([(⟨#[97]⟩ : ByteArray)] : List ByteArray))] : List (List ByteArray)))).bind fun t127 => (some ((t127.length : Int) == 1))) else (some false)))) else (none)) = some r := by rw [if_pos rfl] at H; exact H
          clear H
          have H := H1
          clear H1
          by_cases c9 : 1 ≤ (l0.length : Int)
          · rw [if_pos c9] at H
            have c9b0 := eq_true c9
            have c9b1 : decide (1 ≤ (l0.length : Int)) = true := decide_eq_true c9
            clear c9
            obtain ⟨y113, hy113⟩ : ∃ y_ : List (List ByteArray), y_ = (l0.drop 1) := ⟨_, rfl⟩
            replace H : ((impl_NoFirst.f l0).bind fun t117 => ((laws_alike29.f kj3 t117 y113).bind fun t120 => (if t120 = true then ((impl_NoFirst.f (([(([(⟨#[97]⟩ : ByteArray)] : List ByteArray))] : List (List ByteArray)))).bind fun t127 => (some ((t127.length : Int) == 1))) else (some false)))) = some r := by first | (rw [hy113]; with_reducible exact H) | (have H2_ := (Option.bind_some _ _).symm.trans H; rw [hy113]; with_reducible exact H2_) | (have H2_ := (Option.bind_some _ _).symm.trans H; with_reducible exact H2_) | with_reducible exact H | (rw [hy113]; exact H) | exact H
            have Ny113 := Aside0.mk hy113
            clear hy113
            replace H := Option.bind_eq_some_iff.mp H
            obtain ⟨t117, A100, H⟩ := H
            replace H : ((laws_alike29.f kj3 t117 y113).bind fun t120 => (if t120 = true then ((impl_NoFirst.f (([(([(⟨#[97]⟩ : ByteArray)] : List ByteArray))] : List (List ByteArray)))).bind fun t127 => (some ((t127.length : Int) == 1))) else (some false))) = some r := H
            have A10 := Aside0.mk A100
            clear A100
            replace H := Option.bind_eq_some_iff.mp H
            obtain ⟨t120, A110, H⟩ := H
            replace H : (if t120 = true then ((impl_NoFirst.f (([(([(⟨#[97]⟩ : ByteArray)] : List ByteArray))] : List (List ByteArray)))).bind fun t127 => (some ((t127.length : Int) == 1))) else (some false)) = some r := H
            have A11 := Aside0.mk A110
            clear A110
            by_cases c12 : t120 = true
            · subst c12
              have H1 : ((impl_NoFirst.f (([(([(⟨#[97]⟩ : ByteArray)] : List ByteArray))] : List (List ByteArray)))).bind fun t127 => (some ((t127.length : Int) == 1))) = some r := by rw [if_pos rfl] at H; exact H
              clear H
              have H := H1
              clear H1
              obtain ⟨y121, hy121⟩ : ∃ y_ : List ByteArray, y_ = (([(⟨#[97]⟩ : ByteArray)] : List ByteArray)) := ⟨_, rfl⟩
              replace H : ((impl_NoFirst.f (([y121] : List (List ByteArray)))).bind fun t127 => (some ((t127.length : Int) == 1))) = some r := by first | (rw [hy121]; with_reducible exact H) | (have H2_ := (Option.bind_some _ _).symm.trans H; rw [hy121]; with_reducible exact H2_) | (have H2_ := (Option.bind_some _ _).symm.trans H; with_reducible exact H2_) | with_reducible exact H | (rw [hy121]; exact H) | exact H
              have Ny121 := Aside0.mk hy121
              clear hy121
              obtain ⟨y124, hy124⟩ : ∃ y_ : List (List ByteArray), y_ = (([y121] : List (List ByteArray))) := ⟨_, rfl⟩
              replace H : ((impl_NoFirst.f y124).bind fun t127 => (some ((t127.length : Int) == 1))) = some r := by first | (rw [hy124]; with_reducible exact H) | (have H2_ := (Option.bind_some _ _).symm.trans H; rw [hy124]; with_reducible exact H2_) | (have H2_ := (Option.bind_some _ _).symm.trans H; with_reducible exact H2_) | with_reducible exact H | (rw [hy124]; exact H) | exact H
              have Ny124 := Aside0.mk hy124
              clear hy124
              replace H := Option.bind_eq_some_iff.mp H
              obtain ⟨t127, A130, H⟩ := H
              replace H : (some ((t127.length : Int) == 1)) = some r := H
              have A13 := Aside0.mk A130
              clear A130
              obtain rfl := Option.some.inj H
              have q14 : (1 : Int) ≤ ((l0.length : Int) : Int) := of_decide_eq_true (by first | (with_reducible assumption) | assumption)
              obtain ⟨i014, hi014, _, hsz14, _⟩ := info_parts info22
              have hroom14 : l0.length ≤ c0 := HC0.out
              have hC14 : Kd.C (Kd.slice 9 Kd.string) _ A0 l0.length l0 := HR0.out
              have hcut14 := cut_from (P := Try.prog) 32 22 .i64 Try.underlying32 hi014 1 hsz14 A0 l0.length c0 1 (by omega) q14
              have hr14 := Kd.C_drop (m := (1 : Int).toNat) (c := c0) hC14 (by omega) hroom14
              obtain ⟨A14, hA14⟩ : ∃ A1, A1 = (if c0 = (1 : Int).toNat then A0 else (A0 : Option Addr).map (·.add ((1 : Int).toNat * 1))) := ⟨_, rfl⟩
              obtain ⟨c14, hc14⟩ : ∃ c1, c1 = c0 - (1 : Int).toNat := ⟨_, rfl⟩
              have hy14 : y113.length = l0.length - (1 : Int).toNat := (by rw [Ny113.out, List.length_drop] <;> omega)
              rw [show (l0).drop (1 : Int).toNat = y113 from Ny113.out.symm] at hr14
              replace hr14 : Kd.C (Kd.slice 9 Kd.string) _ A14 y113.length y113 := (by rw [hA14]; exact hr14)
              rw [← hy14, ← hA14, ← hc14] at hcut14
              have HR116 := Aside0.mk hr14
              have HC116 := Aside0.mk (show y113.length ≤ c14 from by rw [hy14, hc14]; exact Nat.sub_le_sub_right hroom14 _)
              clear hr14 hC14 hroom14 hi014 hsz14 hc14
              have KY14 := Aside0.mk hy14
              have KA14 := Aside0.mk hA14
              clear hy14 hA14
              replace q14 := eq_true q14
              go_wp2_with (first | ((with_reducible refine gate_callee (f := 31) rfl ?_); refine goesL_ (some 20) rfl rfl Try.func31 (by kernel_rfl) rfl #[.slice A0 l0.length c0] rfl (by (try simp only [List.map_toArray, List.map_cons, List.map_nil]); first | done | rfl | (simp only [List.length_drop, List.length_take]; rfl)) ?_; (with_reducible refine (impl_NoFirst.calls _ _ l0 t117 _ ?side1 ?side2 A10.out).mono ?_); (case side1 => repeat (first | exact (Kd.C_below HR0.out HB.out) | (with_reducible refine Kd.C_alloc ?_ _) | (with_reducible refine Kd.C_drewN ?_ _) | (with_reducible refine Kd.C_drew ?_))); (case side2 => exact HC0.out); rintro e w15 ⟨v118, rfl, ho0, hb⟩; refine ⟨_, rfl, ?_⟩; have n0_ := Aside0.mk (Kd.N_lower (Kd.N_mono (ok' := fun k_ => True) (Kd.S_N (Kd.S_bound ho0)) (fun k_ hk_ => trivial)) (below_size (by repeat (first | (with_reducible first | exact HB.out | apply below_alloc | apply pw_below_drewN | apply below_drew1) | exact HB.out)))); have n1_ := Aside0.mk (below_step (by repeat (first | (with_reducible first | exact HB.out | apply below_alloc | apply pw_below_drewN | apply below_drew1) | exact HB.out)) hb); clear HB; have HO119 := n0_; have HB := n1_; clear n0_ n1_; (try clear hb); (try clear hb2); (try clear hk); (try clear hi); (try clear ho0); obtain ⟨Ao16, co16, eo16⟩ := Kd.N_slice HO119.out; subst eo16) | ((with_reducible refine gate_callee (f := 27) rfl ?_); refine goesL_ (some 22) rfl rfl Try.func27 (by kernel_rfl) rfl #[.slice Ao16 t117.length co16, .slice A14 y113.length c14] rfl (by (try simp only [List.map_toArray, List.map_cons, List.map_nil]); first | done | rfl | (simp only [List.length_drop, List.length_take]; rfl)) ?_; (with_reducible refine (laws_alike29.calls kj3 _ _ t117 _ _ y113 true _ ?side1 ?side2 ?side3 ?side4 A11.out).mono ?_); (case side1 => repeat (first | exact (Kd.N_reads' HO119.out).2.2 | (with_reducible refine Kd.C_alloc ?_ _) | (with_reducible refine Kd.C_drewN ?_ _) | (with_reducible refine Kd.C_drew ?_))); (case side2 => exact (Kd.N_reads' HO119.out).2.1); (case side3 => repeat (first | exact (Kd.C_below HR116.out HB.out) | (with_reducible refine Kd.C_alloc ?_ _) | (with_reducible refine Kd.C_drewN ?_ _) | (with_reducible refine Kd.C_drew ?_))); (case side4 => exact HC116.out); rintro e w' ⟨rfl, ⟨nd, rfl⟩⟩; refine ⟨_, rfl, ?_⟩) | ((with_reducible refine gate_dst (N := 24) rfl ?_); (try (refine gate_guard (by rfl) ?_; dsimp only)); refine Kd.R_lit Kd.string _ 9 ?hg (N := 24) ?hd (xs := ([(⟨#[97]⟩ : ByteArray)] : List ByteArray)) (inner := [.string (⟨#[97]⟩ : ByteArray)]) (ok := fun _ => True) (okp := fun _ => True) ?hr ?hp (fun _ hk => hk) trivial (Below.refl _ _) (Nat.le_refl _) (by simp) ?_; (case hd => rfl); (case hg => rfl); (case hr => first | (go_simp; done) | (go_simp; rfl)); (case hp => exact (Reps.one (show Kd.M Kd.string _ _ _ (⟨#[97]⟩ : ByteArray) [.string (⟨#[97]⟩ : ByteArray)] from rfl) (Reps.none _ _))); intro v122 w17 ho18 hb hg_ hnew_; clear hg_ hnew_; (first | rw [← Ny121.out] at ho18 | (simp only [Int.reduceToNat] at ho18; rw [← Ny121.out] at ho18)); have n0_ := Aside0.mk (Kd.N_elder' (by (with_reducible repeat (first | apply Kd.N_alloc | apply Kd.N_drewN | apply Kd.N_drew)); exact HO119.out) (Kd.R_base ho18) hb); have n1_ := Aside0.mk (Kd.R_lower ho18 (below_size (by repeat (first | (with_reducible first | exact HB.out | apply below_alloc | apply pw_below_drewN | apply below_drew1) | exact HB.out)))); have n2_ := Aside0.mk (below_step (by repeat (first | (with_reducible first | exact HB.out | apply below_alloc | apply pw_below_drewN | apply below_drew1) | exact HB.out)) hb); clear HO119; clear HB; have HO119 := n0_; have HO123 := n1_; have HB := n2_; clear n0_ n1_ n2_; clear hb ho18; obtain ⟨Ao19, co19, eo19⟩ := Kd.R_slice HO123.out; subst eo19) | ((with_reducible refine gate_dst (N := 25) rfl ?_); (try (refine gate_guard (by rfl) ?_; dsimp only)); refine Kd.N_lit (Kd.slice 9 Kd.string) _ 22 ?hg (N' := 25) ?hd (xs := ([y121] : List (List ByteArray))) (inner := [.slice Ao19 y121.length co19]) (ok := (fun k_ => some k_ ≠ (.slice Ao16 t117.length co16 : Value).ownBlock)) (okp := (fun k_ => some k_ ≠ (.slice Ao16 t117.length co16 : Value).ownBlock)) ?hr ?hp (fun _ hk => hk) ((show ∀ k_, w17.heap.size ≤ k_ → (fun k_ => some k_ ≠ (.slice Ao16 t117.length co16 : Value).ownBlock) k_ from fun k_ hk => Kd.fresh' (Kd.N_lt (by (with_reducible repeat (first | apply Kd.N_alloc | apply Kd.N_drewN | apply Kd.N_drew)); exact HO119.out)) k_ hk) _ (Nat.le_refl _)) (Below.refl _ _) (Nat.le_refl _) (by simp) ?_; (case hd => rfl); (case hg => rfl); (case hr => first | (go_simp; done) | (go_simp; rfl)); (case hp => exact (Reps.one (show Kd.FK (Kd.slice 9 Kd.string) _ _ y121 [.slice Ao19 y121.length co19] from (Kd.FK_slice_mk (Kd.R_reads' (Kd.R_mono (ok' := (fun k_ => some k_ ≠ (.slice Ao16 t117.length co16 : Value).ownBlock)) (Kd.R_apart' (HO123.out) (Kd.N_typed HO119.out) (by decide)) (fun k_ hk => hk.2))).2.1 (Kd.R_F (Kd.R_mono (ok' := (fun k_ => some k_ ≠ (.slice Ao16 t117.length co16 : Value).ownBlock)) (Kd.R_apart' (HO123.out) (Kd.N_typed HO119.out) (by decide)) (fun k_ hk => hk.2))))) (Reps.none _ _))); intro v125 w20 ho21 hb hg_ hnew_; clear hg_ hnew_; (first | rw [← Ny124.out] at ho21 | (simp only [Int.reduceToNat] at ho21; rw [← Ny124.out] at ho21)); have n0_ := Aside0.mk (Kd.N_elder' (by (with_reducible repeat (first | apply Kd.N_alloc | apply Kd.N_drewN | apply Kd.N_drew)); exact HO119.out) (Kd.N_base ho21) hb); have n1_ := Aside0.mk (Kd.N_lower ho21 (below_size (by repeat (first | (with_reducible first | exact HB.out | apply below_alloc | apply pw_below_drewN | apply below_drew1) | exact HB.out)))); have n2_ := Aside0.mk (below_step (by repeat (first | (with_reducible first | exact HB.out | apply below_alloc | apply pw_below_drewN | apply below_drew1) | exact HB.out)) hb); clear HO119; clear HB; clear HO123; have HO119 := n0_; have HO126 := n1_; have HB := n2_; clear n0_ n1_ n2_; clear hb ho21; obtain ⟨Ao22, co22, eo22⟩ := Kd.N_slice HO126.out; subst eo22) | (go_at_call 31; (with_reducible refine (impl_NoFirst.calls _ _ y124 t127 _ ?side1 ?side2 A13.out).mono ?_); (case side1 => repeat (first | exact (Kd.N_reads' HO126.out).2.2 | (with_reducible refine Kd.C_alloc ?_ _) | (with_reducible refine Kd.C_drewN ?_ _) | (with_reducible refine Kd.C_drew ?_))); (case side2 => exact (Kd.N_reads' HO126.out).2.1); rintro e w23 ⟨v128, rfl, ho0, hb⟩; have n0_ := Aside0.mk (Kd.N_elder' (by (with_reducible repeat (first | apply Kd.N_alloc | apply Kd.N_drewN | apply Kd.N_drew)); exact HO119.out) (Kd.N_base (Kd.S_N ho0)) hb); have n1_ := Aside0.mk (Kd.N_elder' (by (with_reducible repeat (first | apply Kd.N_alloc | apply Kd.N_drewN | apply Kd.N_drew)); exact HO126.out) (Kd.N_base (Kd.S_N ho0)) hb); have n2_ := Aside0.mk (Kd.N_lower (Kd.N_mono (ok' := fun k_ => some k_ ≠ (.slice Ao16 t117.length co16 : Value).ownBlock ∧ some k_ ≠ (.slice Ao22 y124.length co22 : Value).ownBlock) (Kd.S_N (Kd.S_bound ho0)) (fun k_ hk_ => ⟨(Kd.fresh' (Kd.N_lt (by (with_reducible repeat (first | apply Kd.N_alloc | apply Kd.N_drewN | apply Kd.N_drew)); exact HO119.out)) k_ hk_.2.1), (Kd.fresh' (Kd.N_lt (by (with_reducible repeat (first | apply Kd.N_alloc | apply Kd.N_drewN | apply Kd.N_drew)); exact HO126.out)) k_ hk_.2.1)⟩)) (below_size (by repeat (first | (with_reducible first | exact HB.out | apply below_alloc | apply pw_below_drewN | apply below_drew1) | exact HB.out)))); have n3_ := Aside0.mk (below_step (by repeat (first | (with_reducible first | exact HB.out | apply below_alloc | apply pw_below_drewN | apply below_drew1) | exact HB.out)) hb); clear HO119; clear HO126; clear HB; have HO119 := n0_; have HO126 := n1_; have HO129 := n2_; have HB := n3_; clear n0_ n1_ n2_ n3_; (try clear hb); (try clear hb2); (try clear hk); (try clear hi); (try clear ho0); obtain ⟨Ao24, co24, eo24⟩ := Kd.N_slice HO129.out; subst eo24))
              go_ret
              exact ⟨by first | rfl | (simp [errW_none, errW_some] <;> rfl) | (simp [*, errW_none, errW_some] <;> rfl), by repeat (first | (with_reducible first | exact HB.out | apply below_alloc | apply pw_below_drewN | apply below_drew1) | exact HB.out)⟩
            · replace c12 := Bool.eq_false_iff.mpr c12
              subst c12
              have H1 : (some false) = some r := by rw [if_neg (show ¬ (false = true) by decide)] at H; exact H
              clear H
              have H := H1
              clear H1
              obtain rfl := Option.some.inj H
              have q25 : (1 : Int) ≤ ((l0.length : Int) : Int) := of_decide_eq_true (by first | (with_reducible assumption) | assumption)
              obtain ⟨i025, hi025, _, hsz25, _⟩ := info_parts info22
              have hroom25 : l0.length ≤ c0 := HC0.out
              have hC25 : Kd.C (Kd.slice 9 Kd.string) _ A0 l0.length l0 := HR0.out
              have hcut25 := cut_from (P := Try.prog) 32 22 .i64 Try.underlying32 hi025 1 hsz25 A0 l0.length c0 1 (by omega) q25
              have hr25 := Kd.C_drop (m := (1 : Int).toNat) (c := c0) hC25 (by omega) hroom25
              obtain ⟨A25, hA25⟩ : ∃ A1, A1 = (if c0 = (1 : Int).toNat then A0 else (A0 : Option Addr).map (·.add ((1 : Int).toNat * 1))) := ⟨_, rfl⟩
              obtain ⟨c25, hc25⟩ : ∃ c1, c1 = c0 - (1 : Int).toNat := ⟨_, rfl⟩
              have hy25 : y113.length = l0.length - (1 : Int).toNat := (by rw [Ny113.out, List.length_drop] <;> omega)
              rw [show (l0).drop (1 : Int).toNat = y113 from Ny113.out.symm] at hr25
              replace hr25 : Kd.C (Kd.slice 9 Kd.string) _ A25 y113.length y113 := (by rw [hA25]; exact hr25)
              rw [← hy25, ← hA25, ← hc25] at hcut25
              have HR116 := Aside0.mk hr25
              have HC116 := Aside0.mk (show y113.length ≤ c25 from by rw [hy25, hc25]; exact Nat.sub_le_sub_right hroom25 _)
              clear hr25 hC25 hroom25 hi025 hsz25 hc25
              have KY25 := Aside0.mk hy25
              have KA25 := Aside0.mk hA25
              clear hy25 hA25
              replace q25 := eq_true q25
              go_wp2_with (first | ((with_reducible refine gate_callee (f := 31) rfl ?_); refine goesL_ (some 20) rfl rfl Try.func31 (by kernel_rfl) rfl #[.slice A0 l0.length c0] rfl (by (try simp only [List.map_toArray, List.map_cons, List.map_nil]); first | done | rfl | (simp only [List.length_drop, List.length_take]; rfl)) ?_; (with_reducible refine (impl_NoFirst.calls _ _ l0 t117 _ ?side1 ?side2 A10.out).mono ?_); (case side1 => repeat (first | exact (Kd.C_below HR0.out HB.out) | (with_reducible refine Kd.C_alloc ?_ _) | (with_reducible refine Kd.C_drewN ?_ _) | (with_reducible refine Kd.C_drew ?_))); (case side2 => exact HC0.out); rintro e w26 ⟨v118, rfl, ho0, hb⟩; refine ⟨_, rfl, ?_⟩; have n0_ := Aside0.mk (Kd.N_lower (Kd.N_mono (ok' := fun k_ => True) (Kd.S_N (Kd.S_bound ho0)) (fun k_ hk_ => trivial)) (below_size (by repeat (first | (with_reducible first | exact HB.out | apply below_alloc | apply pw_below_drewN | apply below_drew1) | exact HB.out)))); have n1_ := Aside0.mk (below_step (by repeat (first | (with_reducible first | exact HB.out | apply below_alloc | apply pw_below_drewN | apply below_drew1) | exact HB.out)) hb); clear HB; have HO119 := n0_; have HB := n1_; clear n0_ n1_; (try clear hb); (try clear hb2); (try clear hk); (try clear hi); (try clear ho0); obtain ⟨Ao27, co27, eo27⟩ := Kd.N_slice HO119.out; subst eo27) | ((with_reducible refine gate_callee (f := 27) rfl ?_); refine goesL_ (some 22) rfl rfl Try.func27 (by kernel_rfl) rfl #[.slice Ao27 t117.length co27, .slice A25 y113.length c25] rfl (by (try simp only [List.map_toArray, List.map_cons, List.map_nil]); first | done | rfl | (simp only [List.length_drop, List.length_take]; rfl)) ?_; (with_reducible refine (laws_alike29.calls kj3 _ _ t117 _ _ y113 false _ ?side1 ?side2 ?side3 ?side4 A11.out).mono ?_); (case side1 => repeat (first | exact (Kd.N_reads' HO119.out).2.2 | (with_reducible refine Kd.C_alloc ?_ _) | (with_reducible refine Kd.C_drewN ?_ _) | (with_reducible refine Kd.C_drew ?_))); (case side2 => exact (Kd.N_reads' HO119.out).2.1); (case side3 => repeat (first | exact (Kd.C_below HR116.out HB.out) | (with_reducible refine Kd.C_alloc ?_ _) | (with_reducible refine Kd.C_drewN ?_ _) | (with_reducible refine Kd.C_drew ?_))); (case side4 => exact HC116.out); rintro e w' ⟨rfl, ⟨nd, rfl⟩⟩; refine ⟨_, rfl, ?_⟩))
              go_ret
              exact ⟨by first | rfl | (simp [errW_none, errW_some] <;> rfl) | (simp [*, errW_none, errW_some] <;> rfl), by repeat (first | (with_reducible first | exact HB.out | apply below_alloc | apply pw_below_drewN | apply below_drew1) | exact HB.out)⟩
          · rw [if_neg c9] at H
            exact absurd H (by simp)
        · replace c8 := Bool.eq_false_iff.mpr c8
          subst c8
          have H1 : ((impl_NoFirst.f l0).bind fun t130 => ((laws_alike29.f kj3 t130 l0).bind fun t133 => (if t133 = true then ((impl_NoFirst.f (([(([(⟨#[97]⟩ : ByteArray)] : List ByteArray))] : List (List ByteArray)))).bind fun t140 => (some ((t140.length : Int) == 1))) else (some false)))) = some r := by rw [if_neg (show ¬ (false = true) by decide)] at H; exact H
          clear H
          have H := H1
          clear H1
          replace H := Option.bind_eq_some_iff.mp H
          obtain ⟨t130, A280, H⟩ := H
          replace H : ((laws_alike29.f kj3 t130 l0).bind fun t133 => (if t133 = true then ((impl_NoFirst.f (([(([(⟨#[97]⟩ : ByteArray)] : List ByteArray))] : List (List ByteArray)))).bind fun t140 => (some ((t140.length : Int) == 1))) else (some false))) = some r := H
          have A28 := Aside0.mk A280
          clear A280
          replace H := Option.bind_eq_some_iff.mp H
          obtain ⟨t133, A290, H⟩ := H
          replace H : (if t133 = true then ((impl_NoFirst.f (([(([(⟨#[97]⟩ : ByteArray)] : List ByteArray))] : List (List ByteArray)))).bind fun t140 => (some ((t140.length : Int) == 1))) else (some false)) = some r := H
          have A29 := Aside0.mk A290
          clear A290
          by_cases c30 : t133 = true
          · subst c30
            have H1 : ((impl_NoFirst.f (([(([(⟨#[97]⟩ : ByteArray)] : List ByteArray))] : List (List ByteArray)))).bind fun t140 => (some ((t140.length : Int) == 1))) = some r := by rw [if_pos rfl] at H; exact H
            clear H
            have H := H1
            clear H1
            obtain ⟨y134, hy134⟩ : ∃ y_ : List ByteArray, y_ = (([(⟨#[97]⟩ : ByteArray)] : List ByteArray)) := ⟨_, rfl⟩
            replace H : ((impl_NoFirst.f (([y134] : List (List ByteArray)))).bind fun t140 => (some ((t140.length : Int) == 1))) = some r := by first | (rw [hy134]; with_reducible exact H) | (have H2_ := (Option.bind_some _ _).symm.trans H; rw [hy134]; with_reducible exact H2_) | (have H2_ := (Option.bind_some _ _).symm.trans H; with_reducible exact H2_) | with_reducible exact H | (rw [hy134]; exact H) | exact H
            have Ny134 := Aside0.mk hy134
            clear hy134
            obtain ⟨y137, hy137⟩ : ∃ y_ : List (List ByteArray), y_ = (([y134] : List (List ByteArray))) := ⟨_, rfl⟩
            replace H : ((impl_NoFirst.f y137).bind fun t140 => (some ((t140.length : Int) == 1))) = some r := by first | (rw [hy137]; with_reducible exact H) | (have H2_ := (Option.bind_some _ _).symm.trans H; rw [hy137]; with_reducible exact H2_) | (have H2_ := (Option.bind_some _ _).symm.trans H; with_reducible exact H2_) | with_reducible exact H | (rw [hy137]; exact H) | exact H
            have Ny137 := Aside0.mk hy137
            clear hy137
            replace H := Option.bind_eq_some_iff.mp H
            obtain ⟨t140, A310, H⟩ := H
            replace H : (some ((t140.length : Int) == 1)) = some r := H
            have A31 := Aside0.mk A310
            clear A310
            obtain rfl := Option.some.inj H
            go_wp2_with (first | ((with_reducible refine gate_callee (f := 31) rfl ?_); refine goesL_ (some 20) rfl rfl Try.func31 (by kernel_rfl) rfl #[.slice A0 l0.length c0] rfl (by (try simp only [List.map_toArray, List.map_cons, List.map_nil]); first | done | rfl | (simp only [List.length_drop, List.length_take]; rfl)) ?_; (with_reducible refine (impl_NoFirst.calls _ _ l0 t130 _ ?side1 ?side2 A28.out).mono ?_); (case side1 => repeat (first | exact (Kd.C_below HR0.out HB.out) | (with_reducible refine Kd.C_alloc ?_ _) | (with_reducible refine Kd.C_drewN ?_ _) | (with_reducible refine Kd.C_drew ?_))); (case side2 => exact HC0.out); rintro e w32 ⟨v131, rfl, ho0, hb⟩; refine ⟨_, rfl, ?_⟩; have n0_ := Aside0.mk (Kd.N_lower (Kd.N_mono (ok' := fun k_ => True) (Kd.S_N (Kd.S_bound ho0)) (fun k_ hk_ => trivial)) (below_size (by repeat (first | (with_reducible first | exact HB.out | apply below_alloc | apply pw_below_drewN | apply below_drew1) | exact HB.out)))); have n1_ := Aside0.mk (below_step (by repeat (first | (with_reducible first | exact HB.out | apply below_alloc | apply pw_below_drewN | apply below_drew1) | exact HB.out)) hb); clear HB; have HO132 := n0_; have HB := n1_; clear n0_ n1_; (try clear hb); (try clear hb2); (try clear hk); (try clear hi); (try clear ho0); obtain ⟨Ao33, co33, eo33⟩ := Kd.N_slice HO132.out; subst eo33) | ((with_reducible refine gate_callee (f := 27) rfl ?_); refine goesL_ (some 22) rfl rfl Try.func27 (by kernel_rfl) rfl #[.slice Ao33 t130.length co33, .slice A0 l0.length c0] rfl (by (try simp only [List.map_toArray, List.map_cons, List.map_nil]); first | done | rfl | (simp only [List.length_drop, List.length_take]; rfl)) ?_; (with_reducible refine (laws_alike29.calls kj3 _ _ t130 _ _ l0 true _ ?side1 ?side2 ?side3 ?side4 A29.out).mono ?_); (case side1 => repeat (first | exact (Kd.N_reads' HO132.out).2.2 | (with_reducible refine Kd.C_alloc ?_ _) | (with_reducible refine Kd.C_drewN ?_ _) | (with_reducible refine Kd.C_drew ?_))); (case side2 => exact (Kd.N_reads' HO132.out).2.1); (case side3 => repeat (first | exact (Kd.C_below HR0.out HB.out) | (with_reducible refine Kd.C_alloc ?_ _) | (with_reducible refine Kd.C_drewN ?_ _) | (with_reducible refine Kd.C_drew ?_))); (case side4 => exact HC0.out); rintro e w' ⟨rfl, ⟨nd, rfl⟩⟩; refine ⟨_, rfl, ?_⟩) | ((with_reducible refine gate_dst (N := 24) rfl ?_); (try (refine gate_guard (by rfl) ?_; dsimp only)); refine Kd.R_lit Kd.string _ 9 ?hg (N := 24) ?hd (xs := ([(⟨#[97]⟩ : ByteArray)] : List ByteArray)) (inner := [.string (⟨#[97]⟩ : ByteArray)]) (ok := fun _ => True) (okp := fun _ => True) ?hr ?hp (fun _ hk => hk) trivial (Below.refl _ _) (Nat.le_refl _) (by simp) ?_; (case hd => rfl); (case hg => rfl); (case hr => first | (go_simp; done) | (go_simp; rfl)); (case hp => exact (Reps.one (show Kd.M Kd.string _ _ _ (⟨#[97]⟩ : ByteArray) [.string (⟨#[97]⟩ : ByteArray)] from rfl) (Reps.none _ _))); intro v135 w34 ho35 hb hg_ hnew_; clear hg_ hnew_; (first | rw [← Ny134.out] at ho35 | (simp only [Int.reduceToNat] at ho35; rw [← Ny134.out] at ho35)); have n0_ := Aside0.mk (Kd.N_elder' (by (with_reducible repeat (first | apply Kd.N_alloc | apply Kd.N_drewN | apply Kd.N_drew)); exact HO132.out) (Kd.R_base ho35) hb); have n1_ := Aside0.mk (Kd.R_lower ho35 (below_size (by repeat (first | (with_reducible first | exact HB.out | apply below_alloc | apply pw_below_drewN | apply below_drew1) | exact HB.out)))); have n2_ := Aside0.mk (below_step (by repeat (first | (with_reducible first | exact HB.out | apply below_alloc | apply pw_below_drewN | apply below_drew1) | exact HB.out)) hb); clear HO132; clear HB; have HO132 := n0_; have HO136 := n1_; have HB := n2_; clear n0_ n1_ n2_; clear hb ho35; obtain ⟨Ao36, co36, eo36⟩ := Kd.R_slice HO136.out; subst eo36) | ((with_reducible refine gate_dst (N := 25) rfl ?_); (try (refine gate_guard (by rfl) ?_; dsimp only)); refine Kd.N_lit (Kd.slice 9 Kd.string) _ 22 ?hg (N' := 25) ?hd (xs := ([y134] : List (List ByteArray))) (inner := [.slice Ao36 y134.length co36]) (ok := (fun k_ => some k_ ≠ (.slice Ao33 t130.length co33 : Value).ownBlock)) (okp := (fun k_ => some k_ ≠ (.slice Ao33 t130.length co33 : Value).ownBlock)) ?hr ?hp (fun _ hk => hk) ((show ∀ k_, w34.heap.size ≤ k_ → (fun k_ => some k_ ≠ (.slice Ao33 t130.length co33 : Value).ownBlock) k_ from fun k_ hk => Kd.fresh' (Kd.N_lt (by (with_reducible repeat (first | apply Kd.N_alloc | apply Kd.N_drewN | apply Kd.N_drew)); exact HO132.out)) k_ hk) _ (Nat.le_refl _)) (Below.refl _ _) (Nat.le_refl _) (by simp) ?_; (case hd => rfl); (case hg => rfl); (case hr => first | (go_simp; done) | (go_simp; rfl)); (case hp => exact (Reps.one (show Kd.FK (Kd.slice 9 Kd.string) _ _ y134 [.slice Ao36 y134.length co36] from (Kd.FK_slice_mk (Kd.R_reads' (Kd.R_mono (ok' := (fun k_ => some k_ ≠ (.slice Ao33 t130.length co33 : Value).ownBlock)) (Kd.R_apart' (HO136.out) (Kd.N_typed HO132.out) (by decide)) (fun k_ hk => hk.2))).2.1 (Kd.R_F (Kd.R_mono (ok' := (fun k_ => some k_ ≠ (.slice Ao33 t130.length co33 : Value).ownBlock)) (Kd.R_apart' (HO136.out) (Kd.N_typed HO132.out) (by decide)) (fun k_ hk => hk.2))))) (Reps.none _ _))); intro v138 w37 ho38 hb hg_ hnew_; clear hg_ hnew_; (first | rw [← Ny137.out] at ho38 | (simp only [Int.reduceToNat] at ho38; rw [← Ny137.out] at ho38)); have n0_ := Aside0.mk (Kd.N_elder' (by (with_reducible repeat (first | apply Kd.N_alloc | apply Kd.N_drewN | apply Kd.N_drew)); exact HO132.out) (Kd.N_base ho38) hb); have n1_ := Aside0.mk (Kd.N_lower ho38 (below_size (by repeat (first | (with_reducible first | exact HB.out | apply below_alloc | apply pw_below_drewN | apply below_drew1) | exact HB.out)))); have n2_ := Aside0.mk (below_step (by repeat (first | (with_reducible first | exact HB.out | apply below_alloc | apply pw_below_drewN | apply below_drew1) | exact HB.out)) hb); clear HO132; clear HB; clear HO136; have HO132 := n0_; have HO139 := n1_; have HB := n2_; clear n0_ n1_ n2_; clear hb ho38; obtain ⟨Ao39, co39, eo39⟩ := Kd.N_slice HO139.out; subst eo39) | (go_at_call 31; (with_reducible refine (impl_NoFirst.calls _ _ y137 t140 _ ?side1 ?side2 A31.out).mono ?_); (case side1 => repeat (first | exact (Kd.N_reads' HO139.out).2.2 | (with_reducible refine Kd.C_alloc ?_ _) | (with_reducible refine Kd.C_drewN ?_ _) | (with_reducible refine Kd.C_drew ?_))); (case side2 => exact (Kd.N_reads' HO139.out).2.1); rintro e w40 ⟨v141, rfl, ho0, hb⟩; have n0_ := Aside0.mk (Kd.N_elder' (by (with_reducible repeat (first | apply Kd.N_alloc | apply Kd.N_drewN | apply Kd.N_drew)); exact HO132.out) (Kd.N_base (Kd.S_N ho0)) hb); have n1_ := Aside0.mk (Kd.N_elder' (by (with_reducible repeat (first | apply Kd.N_alloc | apply Kd.N_drewN | apply Kd.N_drew)); exact HO139.out) (Kd.N_base (Kd.S_N ho0)) hb); have n2_ := Aside0.mk (Kd.N_lower (Kd.N_mono (ok' := fun k_ => some k_ ≠ (.slice Ao33 t130.length co33 : Value).ownBlock ∧ some k_ ≠ (.slice Ao39 y137.length co39 : Value).ownBlock) (Kd.S_N (Kd.S_bound ho0)) (fun k_ hk_ => ⟨(Kd.fresh' (Kd.N_lt (by (with_reducible repeat (first | apply Kd.N_alloc | apply Kd.N_drewN | apply Kd.N_drew)); exact HO132.out)) k_ hk_.2.1), (Kd.fresh' (Kd.N_lt (by (with_reducible repeat (first | apply Kd.N_alloc | apply Kd.N_drewN | apply Kd.N_drew)); exact HO139.out)) k_ hk_.2.1)⟩)) (below_size (by repeat (first | (with_reducible first | exact HB.out | apply below_alloc | apply pw_below_drewN | apply below_drew1) | exact HB.out)))); have n3_ := Aside0.mk (below_step (by repeat (first | (with_reducible first | exact HB.out | apply below_alloc | apply pw_below_drewN | apply below_drew1) | exact HB.out)) hb); clear HO132; clear HO139; clear HB; have HO132 := n0_; have HO139 := n1_; have HO142 := n2_; have HB := n3_; clear n0_ n1_ n2_ n3_; (try clear hb); (try clear hb2); (try clear hk); (try clear hi); (try clear ho0); obtain ⟨Ao41, co41, eo41⟩ := Kd.N_slice HO142.out; subst eo41))
            go_ret
            exact ⟨by first | rfl | (simp [errW_none, errW_some] <;> rfl) | (simp [*, errW_none, errW_some] <;> rfl), by repeat (first | (with_reducible first | exact HB.out | apply below_alloc | apply pw_below_drewN | apply below_drew1) | exact HB.out)⟩
          · replace c30 := Bool.eq_false_iff.mpr c30
            subst c30
            have H1 : (some false) = some r := by rw [if_neg (show ¬ (false = true) by decide)] at H; exact H
            clear H
            have H := H1
            clear H1
            obtain rfl := Option.some.inj H
            go_wp2_with (first | ((with_reducible refine gate_callee (f := 31) rfl ?_); refine goesL_ (some 20) rfl rfl Try.func31 (by kernel_rfl) rfl #[.slice A0 l0.length c0] rfl (by (try simp only [List.map_toArray, List.map_cons, List.map_nil]); first | done | rfl | (simp only [List.length_drop, List.length_take]; rfl)) ?_; (with_reducible refine (impl_NoFirst.calls _ _ l0 t130 _ ?side1 ?side2 A28.out).mono ?_); (case side1 => repeat (first | exact (Kd.C_below HR0.out HB.out) | (with_reducible refine Kd.C_alloc ?_ _) | (with_reducible refine Kd.C_drewN ?_ _) | (with_reducible refine Kd.C_drew ?_))); (case side2 => exact HC0.out); rintro e w42 ⟨v131, rfl, ho0, hb⟩; refine ⟨_, rfl, ?_⟩; have n0_ := Aside0.mk (Kd.N_lower (Kd.N_mono (ok' := fun k_ => True) (Kd.S_N (Kd.S_bound ho0)) (fun k_ hk_ => trivial)) (below_size (by repeat (first | (with_reducible first | exact HB.out | apply below_alloc | apply pw_below_drewN | apply below_drew1) | exact HB.out)))); have n1_ := Aside0.mk (below_step (by repeat (first | (with_reducible first | exact HB.out | apply below_alloc | apply pw_below_drewN | apply below_drew1) | exact HB.out)) hb); clear HB; have HO132 := n0_; have HB := n1_; clear n0_ n1_; (try clear hb); (try clear hb2); (try clear hk); (try clear hi); (try clear ho0); obtain ⟨Ao43, co43, eo43⟩ := Kd.N_slice HO132.out; subst eo43) | ((with_reducible refine gate_callee (f := 27) rfl ?_); refine goesL_ (some 22) rfl rfl Try.func27 (by kernel_rfl) rfl #[.slice Ao43 t130.length co43, .slice A0 l0.length c0] rfl (by (try simp only [List.map_toArray, List.map_cons, List.map_nil]); first | done | rfl | (simp only [List.length_drop, List.length_take]; rfl)) ?_; (with_reducible refine (laws_alike29.calls kj3 _ _ t130 _ _ l0 false _ ?side1 ?side2 ?side3 ?side4 A29.out).mono ?_); (case side1 => repeat (first | exact (Kd.N_reads' HO132.out).2.2 | (with_reducible refine Kd.C_alloc ?_ _) | (with_reducible refine Kd.C_drewN ?_ _) | (with_reducible refine Kd.C_drew ?_))); (case side2 => exact (Kd.N_reads' HO132.out).2.1); (case side3 => repeat (first | exact (Kd.C_below HR0.out HB.out) | (with_reducible refine Kd.C_alloc ?_ _) | (with_reducible refine Kd.C_drewN ?_ _) | (with_reducible refine Kd.C_drew ?_))); (case side4 => exact HC0.out); rintro e w' ⟨rfl, ⟨nd, rfl⟩⟩; refine ⟨_, rfl, ?_⟩))
            go_ret
            exact ⟨by first | rfl | (simp [errW_none, errW_some] <;> rfl) | (simp [*, errW_none, errW_some] <;> rfl), by repeat (first | (with_reducible first | exact HB.out | apply below_alloc | apply pw_below_drewN | apply below_drew1) | exact HB.out)⟩
  · replace c3 := Bool.eq_false_iff.mpr c3
    subst c3
    have H1 : (some true) = some r := by rw [if_neg (show ¬ (false = true) by decide)] at H; exact H
    clear H
    have H := H1
    clear H1
    obtain rfl := Option.some.inj H
    go_enter Try.func9, Try.ntmps9
    go_wp2_with (first | ((with_reducible refine gate_callee (f := 26) rfl ?_); refine goesL_ (some 5) rfl rfl Try.func26 (by kernel_rfl) rfl #[.slice A0 l0.length c0] rfl (by (try simp only [List.map_toArray, List.map_cons, List.map_nil]); first | done | rfl | (simp only [List.length_drop, List.length_take]; rfl)) ?_; (with_reducible refine (laws_zzFits6.calls k _ _ l0 false _ ?side1 ?side2 A2.out).mono ?_); (case side1 => repeat (first | exact HR0.out | (with_reducible refine Kd.C_alloc ?_ _) | (with_reducible refine Kd.C_drewN ?_ _) | (with_reducible refine Kd.C_drew ?_))); (case side2 => exact HC0.out); rintro e w' ⟨rfl, ⟨nd, rfl⟩⟩; refine ⟨_, rfl, ?_⟩))
    go_ret
    exact ⟨by first | rfl | (simp [errW_none, errW_some] <;> rfl) | (simp [*, errW_none, errW_some] <;> rfl), by repeat (first | (with_reducible first | exact HB.out | apply below_alloc | apply pw_below_drewN | apply below_drew1) | exact HB.out)⟩

end Go.Proofs.Yticofikbijldiaa.GFnNoFirst
