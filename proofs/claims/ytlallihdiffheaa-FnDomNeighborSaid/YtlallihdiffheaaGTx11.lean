-- made by a program of this session, after the kit's print
import Derived.Test.YtlallihdiffheaaGTx0
import Derived.Test.YtlallihdiffheaaGTx8
import Derived.Test.YtlallihdiffheaaGTx10
namespace Go.Proofs.Ytlallihdiffheaa.GT
open Go.RowKit Go.Proofs.YtlallihdiffheaaW.PrintWords Go.Proofs.YtlallihdiffheaaW.PrintLast Go.Proofs.YtlallihdiffheaaW.PrintMore
attribute [local go_sem] max2_int min2_int max_two min_two max_three min_three max_four min_four   -- for this text's walks alone
set_option linter.unusedVariables false
set_option linter.unusedSimpArgs false

/-! ### spec_Beside29: function 70 -/
mutual
def spec_Beside29.l0 : Nat → List Int → Int → Bool → Int → Int → Int → ByteArray → ByteArray → List (S34) → List (S25) → Option (List Int × Bool)
  | 0, _, _, _, _, _, _, _, _, _, _ => none
  | k + 1, x1, x2, x3, x10, x13, x264000, x264001, x264002, x264003, x264004 => if x13 ≥ 0 then (spec_Beside29.j1 k x1 x2 x3 x10 x13 (decide (x13 < (x264004.length : Int))) x264000 x264001 x264002 x264003 x264004) else (spec_Beside29.j1 k x1 x2 x3 x10 x13 false x264000 x264001 x264002 x264003 x264004)
def spec_Beside29.j1 : Nat → List Int → Int → Bool → Int → Int → Bool → Int → ByteArray → ByteArray → List (S34) → List (S25) → Option (List Int × Bool)
  | 0, _, _, _, _, _, _, _, _, _, _, _ => none
  | k + 1, x1, x2, x3, x10, x13, x42, x264000, x264001, x264002, x264003, x264004 => if x42 = true then (if 0 ≤ x13 then (if x13 < (x264004.length : Int) then ((spec_among29.f ((rd_T25 x264004 x13).f0) ((rd_T25 x264004 x13).f1) ((rd_T25 x264004 x13).f2) ((rd_T25 x264004 x13).f3) ((rd_T25 x264004 x13).f4) x3).bind fun t266 => (if t266 = true then (if 0 ≤ x10 then (if x10 ≤ (x1.length : Int) then ((spec_Under29.f (x1.take (x10 : Int).toNat) x13).bind fun t268 => (some (t268, true))) else (none)) else (none)) else (spec_Beside29.l0 k x1 x2 x3 x10 (wrap64 (x13 + x2)) x264000 x264001 x264002 x264003 x264004))) else (none)) else (none)) else (some (([] : List Int), false))
end
def spec_Beside29.f (k : Nat) (a0_0 : Int) (a0_1 : ByteArray) (a0_2 : ByteArray) (l0_3 : List (S34)) (l0_4 : List (S25)) (l1 : List Int) (a2 : Int) (a3 : Bool) : Option (List Int × Bool) := if (l1.length : Int) = 0 then (some (([] : List Int), false)) else (if 0 ≤ (wrap64 ((l1.length : Int) - 1)) then (if (wrap64 ((l1.length : Int) - 1)) ≤ (l1.length : Int) then ((spec_At29.f k a0_0 a0_1 a0_2 l0_3 l0_4 (l1.take ((wrap64 ((l1.length : Int) - 1)) : Int).toNat)).bind fun bt253 => (if (wrap64 ((l1.length : Int) - 1)) < (l1.length : Int) then (spec_Beside29.l0 k l1 a2 a3 (wrap64 ((l1.length : Int) - 1)) (wrap64 ((rd l1 (wrap64 ((l1.length : Int) - 1))) + a2)) bt253.1 bt253.2.1 bt253.2.2.1 bt253.2.2.2.1 bt253.2.2.2.2.1) else (none))) else (none)) else (none))
theorem spec_Beside29.mono_l : ∀ k, (∀ y0 y1 y2 y3 y4 y5 y6 y7 y8 y9, LeO (spec_Beside29.l0 k y0 y1 y2 y3 y4 y5 y6 y7 y8 y9) (spec_Beside29.l0 (k + 1) y0 y1 y2 y3 y4 y5 y6 y7 y8 y9)) ∧ (∀ y0 y1 y2 y3 y4 y5 y6 y7 y8 y9 y10, LeO (spec_Beside29.j1 k y0 y1 y2 y3 y4 y5 y6 y7 y8 y9 y10) (spec_Beside29.j1 (k + 1) y0 y1 y2 y3 y4 y5 y6 y7 y8 y9 y10))
  | 0 => ⟨fun _ _ _ _ _ _ _ _ _ _ r h => by simp [spec_Beside29.l0] at h, fun _ _ _ _ _ _ _ _ _ _ _ r h => by simp [spec_Beside29.j1] at h⟩
  | k + 1 => by
    obtain ⟨ih0, ih1⟩ := spec_Beside29.mono_l k
    refine ⟨?_, ?_⟩
    · intro y0 y1 y2 y3 y4 y5 y6 y7 y8 y9
      unfold spec_Beside29.l0
      repeat' first
      | (with_reducible exact ih0 _ _ _ _ _ _ _ _ _ _)
      | (with_reducible exact ih1 _ _ _ _ _ _ _ _ _ _ _)
      | (with_reducible exact spec_At29.mono _ _ _ _ _ _ _)
      | (with_reducible exact LeO.refl _)
      | (with_reducible exact LeO.none _)
      | (with_reducible refine LeO.ite ?_ ?_)
      | (with_reducible refine LeO.bind ?_ (fun _ => ?_))
      | exact ih0 _ _ _ _ _ _ _ _ _ _
      | exact ih1 _ _ _ _ _ _ _ _ _ _ _
      | exact spec_At29.mono _ _ _ _ _ _ _
      | exact LeO.none _
      | refine LeO.ite ?_ ?_
      | refine LeO.bind ?_ (fun _ => ?_)
    · intro y0 y1 y2 y3 y4 y5 y6 y7 y8 y9 y10
      unfold spec_Beside29.j1
      repeat' first
      | (with_reducible exact ih0 _ _ _ _ _ _ _ _ _ _)
      | (with_reducible exact ih1 _ _ _ _ _ _ _ _ _ _ _)
      | (with_reducible exact spec_At29.mono _ _ _ _ _ _ _)
      | (with_reducible exact LeO.refl _)
      | (with_reducible exact LeO.none _)
      | (with_reducible refine LeO.ite ?_ ?_)
      | (with_reducible refine LeO.bind ?_ (fun _ => ?_))
      | exact ih0 _ _ _ _ _ _ _ _ _ _
      | exact ih1 _ _ _ _ _ _ _ _ _ _ _
      | exact spec_At29.mono _ _ _ _ _ _ _
      | exact LeO.none _
      | refine LeO.ite ?_ ?_
      | refine LeO.bind ?_ (fun _ => ?_)
theorem spec_Beside29.mono : ∀ a0 a1 a2 a3 a4 a5 a6 a7 k, LeO (spec_Beside29.f k a0 a1 a2 a3 a4 a5 a6 a7) (spec_Beside29.f (k + 1) a0 a1 a2 a3 a4 a5 a6 a7) := by
  intro a0 a1 a2 a3 a4 a5 a6 a7 k
  obtain ⟨ih0, ih1⟩ := spec_Beside29.mono_l k
  unfold spec_Beside29.f
  repeat' first
      | (with_reducible exact ih0 _ _ _ _ _ _ _ _ _ _)
      | (with_reducible exact ih1 _ _ _ _ _ _ _ _ _ _ _)
      | (with_reducible exact spec_At29.mono _ _ _ _ _ _ _)
      | (with_reducible exact LeO.refl _)
      | (with_reducible exact LeO.none _)
      | (with_reducible refine LeO.ite ?_ ?_)
      | (with_reducible refine LeO.bind ?_ (fun _ => ?_))
      | exact ih0 _ _ _ _ _ _ _ _ _ _
      | exact ih1 _ _ _ _ _ _ _ _ _ _ _
      | exact spec_At29.mono _ _ _ _ _ _ _
      | exact LeO.none _
      | refine LeO.ite ?_ ?_
      | refine LeO.bind ?_ (fun _ => ?_)
def spec_Beside29.T4 : Bool × List (List Nat × List Nat) := (true, [([], []), ([], []), ([], []), ([1, 2], [1, 2]), ([0, 3], [0, 3]), ([4], [4]), ([5], [5]), ([5], [5]), ([], []), ([8, 6, 4, 0, 1, 2, 3, 4, 5, 6, 8], [6, 8]), ([7, 9, 0, 1, 2, 3, 4, 5, 6, 7, 8, 9], [7])])
def spec_Beside29.B4 : List Nat := [0, 0, 0, 6, 15, 31, 63, 63, 0, 383, 1023]
theorem spec_Beside29.tab4 : rtab .any (opsOf Try.f70 4) = spec_Beside29.T4 := by kernel_rfl
theorem spec_Beside29.bits4 : waitsOk spec_Beside29.T4.2 spec_Beside29.B4 = true := by kernel_rfl
set_option maxHeartbeats 8000000 in
set_option maxRecDepth 100000 in
theorem spec_Beside29.calls (k : Nat) (a0_0 : Int) (a0_1 : ByteArray) (a0_2 : ByteArray) (A0_3 : Option Addr) (c0_3 : Nat) (l0_3 : List (S34)) (A0_4 : Option Addr) (c0_4 : Nat) (l0_4 : List (S25)) (A1 : Option Addr) (c1 : Nat) (l1 : List Int) (a2 : Int) (a3 : Bool) (r1 : List Int) (r2 : Bool) (w : World) (hr0_3 : Kd.C k34 w A0_3 l0_3.length l0_3) (hc0_3 : l0_3.length ≤ c0_3) (hr0_4 : Kd.C k25 w A0_4 l0_4.length l0_4) (hc0_4 : l0_4.length ≤ c0_4) (hr1 : Kd.C (Kd.int .i64) w A1 l1.length l1) (hc1 : l1.length ≤ c1) (h : spec_Beside29.f k a0_0 a0_1 a0_2 l0_3 l0_4 l1 a2 a3 = some (r1, r2)) :
    Calls Try.prog 70 #[.agg #[.int .i64 a0_0, .string a0_1, .string a0_2, .slice A0_3 l0_3.length c0_3, .slice A0_4 l0_4.length c0_4], .slice A1 l1.length c1, .int .i64 a2, .bool a3] w fun e w' => ∃ v0_ : Value, e = .returned (.tuple #[v0_, .bool r2]) ∧ Kd.R (Kd.int .i64) 3 w' w.heap.size (fun _ => True) v0_ r1 ∧ Below w.heap.size w w' := by
  have hu25 := Try.underlying25
  have HR0_3 := Aside0.mk hr0_3
  have HC0_3 := Aside0.mk hc0_3
  clear hr0_3 hc0_3
  have HR0_4 := Aside0.mk hr0_4
  have HC0_4 := Aside0.mk hc0_4
  clear hr0_4 hc0_4
  have HR1 := Aside0.mk hr1
  have HC1 := Aside0.mk hc1
  clear hr1 hc1
  have HB := Aside0.mk (Below.refl w.heap.size w)
  have H : (if (l1.length : Int) = 0 then (some (([] : List Int), false)) else (if 0 ≤ (wrap64 ((l1.length : Int) - 1)) then (if (wrap64 ((l1.length : Int) - 1)) ≤ (l1.length : Int) then ((spec_At29.f k a0_0 a0_1 a0_2 l0_3 l0_4 (l1.take ((wrap64 ((l1.length : Int) - 1)) : Int).toNat)).bind fun bt253 => (if (wrap64 ((l1.length : Int) - 1)) < (l1.length : Int) then (spec_Beside29.l0 k l1 a2 a3 (wrap64 ((l1.length : Int) - 1)) (wrap64 ((rd l1 (wrap64 ((l1.length : Int) - 1))) + a2)) bt253.1 bt253.2.1 bt253.2.2.1 bt253.2.2.2.1 bt253.2.2.2.2.1) else (none))) else (none)) else (none))) = some (r1, r2) := h
  clear h
  by_cases c5 : (l1.length : Int) = 0
  · rw [if_pos c5] at H
    have c5b0 : ((l1.length : Int) == 0) = true := beq_iff_eq.mpr c5
    have c5b1 : ((l1.length : Int) != 0) = false := bne_eq_false_iff_eq.mpr c5
    clear c5
    simp only [Option.some.injEq, Prod.mk.injEq] at H
    obtain ⟨rfl, rfl⟩ := H
    go_enter Try.func70, Try.ntmps70
    go_wp2_with (first | ((with_reducible refine gate_dst (N := 4) rfl ?_); (try (refine gate_guard (by rfl) ?_; dsimp only)); refine box_event ?hg (N := 4) ?hd (cs := #[.int .i64 a0_0, .string a0_1, .string a0_2, .slice A0_3 l0_3.length c0_3, .slice A0_4 l0_4.length c0_4]) (t := 25) ?hr ?_; (case hd => rfl); (case hg => rfl); (case hr => first | (go_simp; done) | (go_simp; rfl)); intro gb251 hg w6 hbox hb; have n0_ := Aside0.mk (below_step (by repeat (first | (with_reducible first | exact HB.out | apply below_alloc | apply pw_below_drewN | apply below_drew1) | exact HB.out)) hb); have n1_ := Aside0.mk (hbox); have n2_ := Aside0.mk ((by rw [hg]; exact (below_size (by repeat (first | (with_reducible first | exact HB.out | apply below_alloc | apply pw_below_drewN | apply below_drew1) | exact HB.out))) : w.heap.size ≤ gb251)); have n3_ := Aside0.mk ((by rw [hg]; exact (below_size (by repeat (first | (with_reducible first | exact HB.out | apply below_alloc | apply pw_below_drewN | apply below_drew1) | exact HB.out))) : w.heap.size ≤ gb251)); clear HB; have HB := n0_; have BK251 := n1_; have GW251 := n2_; have GE251 := n3_; clear n0_ n1_ n2_ n3_; clear hb hbox hg))
    go_ret2
    exact ⟨_, by first | rfl | (simp [errW_none, errW_some] <;> rfl) | (simp [*, errW_none, errW_some] <;> rfl), by first | exact Kd.R_nil _ _ _ _ _ | exact Kd.N_nil _ _ _ _ _ | exact Kd.V_nil _ _ _ _ _ | exact Kd.Q_nil _ _ _ _ _ | exact Kd.S_nil _ _ _ _ _, by repeat (first | (with_reducible first | exact HB.out | apply below_alloc | apply pw_below_drewN | apply below_drew1 | refine below_set ?_ GE251.out) | exact HB.out)⟩
  · rw [if_neg c5] at H
    have c5b0 : ((l1.length : Int) == 0) = false := beq_eq_false_iff_ne.mpr c5
    have c5b1 : ((l1.length : Int) != 0) = true := bne_iff_ne.mpr c5
    have c5b2 : ¬ (l1 = []) := fun h_ => c5 (by rw [h_]; rfl)
    obtain ⟨ji7, hji7⟩ : ∃ j_ : Int, (wrap64 ((l1.length : Int) - 1)) = j_ := ⟨_, rfl⟩
    replace H : (if 0 ≤ (ji7) then (if (ji7) ≤ (l1.length : Int) then ((spec_At29.f k a0_0 a0_1 a0_2 l0_3 l0_4 (l1.take ((ji7) : Int).toNat)).bind fun bt253 => (if (ji7) < (l1.length : Int) then (spec_Beside29.l0 k l1 a2 a3 ji7 (wrap64 ((rd l1 (ji7)) + a2)) bt253.1 bt253.2.1 bt253.2.2.1 bt253.2.2.2.1 bt253.2.2.2.2.1) else (none))) else (none)) else (none)) = some (r1, r2) := by first | (rw [hji7] at H; exact H) | (simp only [hji7] at H ⊢; exact H)
    have hji7w : (IntKind.i64.wrap ((l1.length : Int) - 1)) = ji7 := (i64_w _).trans hji7
    by_cases c8 : 0 ≤ (ji7)
    · rw [if_pos c8] at H
      have c8b0 := eq_true c8
      have c8b1 : decide (0 ≤ (ji7)) = true := decide_eq_true c8
      clear c8
      by_cases c9 : (ji7) ≤ (l1.length : Int)
      · rw [if_pos c9] at H
        have c9b0 := eq_true c9
        have c9b1 : decide ((ji7) ≤ (l1.length : Int)) = true := decide_eq_true c9
        clear c9
        replace H := Option.bind_eq_some_iff.mp H
        obtain ⟨⟨t253, t254, t255, t256, t259, t262⟩, A100, H⟩ := H
        replace H : (if (ji7) < (l1.length : Int) then (spec_Beside29.l0 k l1 a2 a3 ji7 (wrap64 ((rd l1 (ji7)) + a2)) t253 t254 t255 t256 t259) else (none)) = some (r1, r2) := H
        have A10 := Aside0.mk A100
        clear A100
        by_cases c11 : (ji7) < (l1.length : Int)
        · rw [if_pos c11] at H
          have c11b0 : decide ((ji7) < (l1.length : Int)) = true := decide_eq_true c11
          clear c11
          have H' := Aside0.mk H
          clear H
          go_enter Try.func70, Try.ntmps70
          try go_wp2_with (first | ((with_reducible refine gate_dst (N := 4) rfl ?_); (try (refine gate_guard (by rfl) ?_; dsimp only)); refine box_event ?hg (N := 4) ?hd (cs := #[.int .i64 a0_0, .string a0_1, .string a0_2, .slice A0_3 l0_3.length c0_3, .slice A0_4 l0_4.length c0_4]) (t := 25) ?hr ?_; (case hd => rfl); (case hg => rfl); (case hr => first | (go_simp; done) | (go_simp; rfl)); intro gb251 hg w12 hbox hb; have n0_ := Aside0.mk (below_step (by repeat (first | (with_reducible first | exact HB.out | apply below_alloc | apply pw_below_drewN | apply below_drew1) | exact HB.out)) hb); have n1_ := Aside0.mk (hbox); have n2_ := Aside0.mk ((by rw [hg]; exact (below_size (by repeat (first | (with_reducible first | exact HB.out | apply below_alloc | apply pw_below_drewN | apply below_drew1) | exact HB.out))) : w.heap.size ≤ gb251)); have n3_ := Aside0.mk ((by rw [hg]; exact (below_size (by repeat (first | (with_reducible first | exact HB.out | apply below_alloc | apply pw_below_drewN | apply below_drew1) | exact HB.out))) : w.heap.size ≤ gb251)); clear HB; have HB := n0_; have BK251 := n1_; have GW251 := n2_; have GE251 := n3_; clear n0_ n1_ n2_ n3_; clear hb hbox hg))
          have n0_ := Aside0.mk (blk_drew BK251.out)
          have n1_ := Aside0.mk (below_drew1 HB.out)
          clear BK251
          clear HB
          have BK251 := n0_
          have HB := n1_
          clear n0_ n1_
          obtain ⟨i014, hi014, _, hsz14, _⟩ := info_parts info3
          obtain ⟨hcut14, hA14, hC14⟩ := print_take_of (P := Try.prog) (Value.int .i64) 0 26 3 .i64 Try.underlying26 hi014 hsz14 A1 c1 l1 (ji7) (of_decide_eq_true (by first | (with_reducible assumption) | assumption)) (of_decide_eq_true (by first | (with_reducible assumption) | assumption)) HC1.out
          have HR252 := Aside0.mk (Kd.C_of_reads (h1 := fun _ => rfl) (hA14 _ (Kd.reads_of_C HR1.out)))
          have HC252 := Aside0.mk hC14
          clear hA14 hC14 hi014 hsz14
          refine start_ (n := 11) (S := fun w' => w'.cell? ⟨gb251, 0, none⟩ = some (.int .i64 a0_0) ∧ w'.cell? ⟨gb251, 1, none⟩ = some (.string a0_1) ∧ w'.cell? ⟨gb251, 2, none⟩ = some (.string a0_2) ∧ w'.cell? ⟨gb251, 3, none⟩ = some (.slice A0_3 l0_3.length c0_3) ∧ w'.cell? ⟨gb251, 4, none⟩ = some (.slice A0_4 l0_4.length c0_4)) (ds := []) #[false, false, false, false, false, false, false, false, false, false, false] (by kernel_rfl) rfl rfl ⟨(blk_cell BK251.out 0).trans rfl, (blk_cell BK251.out 1).trans rfl, (blk_cell BK251.out 2).trans rfl, (blk_cell BK251.out 3).trans rfl, (blk_cell BK251.out 4).trans rfl⟩ (fun hHeld => ?_); refine with_tabW spec_Beside29.tab4 spec_Beside29.bits4 (fun HT_ HW_ => ?_)
          generalize w12.drew = w13 at BK251 HB HR252 hHeld ⊢
          refine pure_ (i := 1) (N := some 22) (v := ?_) (a' := ?_) #[false, true, false, false, false, false, false, false, false, false, false] rfl rfl (any_of HT_.out (by kernel_rfl)) (fun _ _ _ h => h) (Or.inl ⟨by rfl, ?_⟩) ?_ ?_
          rotate_left
          · intro w'
            go_simp
            with_reducible rfl
          rotate_left
          · simp only [Act.put, List.setIfInBounds_toArray, List.set_cons_zero, List.set_cons_succ, i64_w, i32_w]
            rfl
          refine pure_ (i := 2) (N := some 23) (v := ?_) (a' := ?_) #[false, true, true, false, false, false, false, false, false, false, false] rfl rfl (any_of HT_.out (by kernel_rfl)) (fun _ _ _ h => h) (Or.inl ⟨by rfl, ?_⟩) ?_ ?_
          rotate_left
          · intro w'
            go_simp
            with_reducible rfl
          rotate_left
          · simp only [Act.put, List.setIfInBounds_toArray, List.set_cons_zero, List.set_cons_succ, i64_w, i32_w]
            rfl
          refine pure_ (i := 3) (N := some 24) (v := ?_) (a' := ?_) #[false, true, true, true, false, false, false, false, false, false, false] rfl rfl (any_of HT_.out (by kernel_rfl)) (fun _ _ _ h => h) (Or.inl ⟨by rfl, ?_⟩) ?_ ?_
          rotate_left
          · intro w'
            go_simp
            with_reducible rfl
          rotate_left
          · simp only [Act.put, List.setIfInBounds_toArray, List.set_cons_zero, List.set_cons_succ, i64_w, i32_w]
            rfl
          refine take_ (i := 0) (N := some 21) (v := ?_) (a' := ?_) #[true, true, true, true, false, false, false, false, false, false, false] rfl rfl (take_ofW HT_.out HW_.out (by kernel_rfl)) (fun _ _ _ h => h) (Or.inl ⟨by rfl, ?_⟩) hHeld ?_ ?_
          rotate_left
          · rintro w' ⟨s0, s1, s2, s3, s4⟩
            go_simp
            with_reducible rfl
          rotate_left
          · simp only [Act.put, List.setIfInBounds_toArray, List.set_cons_zero, List.set_cons_succ, i64_w, i32_w]
            rfl
          refine join_ (σ := Value × Value × Nat) 2 #[true, true, true, true, true, true, true, true, true, false, false] (fun s_ => [(25, .tuple #[.agg #[.int .i64 t253, .string t254, .string t255, s_.1, s_.2.1], .bool t262]), (11, .pointer (some ⟨s_.2.2, 0, none⟩)), (20, .tuple #[.agg #[.int .i64 t253, .string t254, .string t255, s_.1, s_.2.1], .bool t262]), (26, .agg #[.int .i64 t253, .string t254, .string t255, s_.1, s_.2.1]), (27, .bool t262)]) (fun s_ w' => (w'.cell? ⟨gb251, 0, none⟩ = some (.int .i64 a0_0) ∧ w'.cell? ⟨gb251, 1, none⟩ = some (.string a0_1) ∧ w'.cell? ⟨gb251, 2, none⟩ = some (.string a0_2) ∧ w'.cell? ⟨gb251, 3, none⟩ = some (.slice A0_3 l0_3.length c0_3) ∧ w'.cell? ⟨gb251, 4, none⟩ = some (.slice A0_4 l0_4.length c0_4)) ∧ (Kd.V k34 34 w' w.heap.size (fun k_ => k_ ≠ gb251 ∧ k_ ≠ s_.2.2) s_.1 t256) ∧ (Kd.V k25 25 w' w.heap.size (fun k_ => k_ ≠ gb251 ∧ k_ ≠ s_.2.2) s_.2.1 t259) ∧ (w'.heap[gb251]? = some (.cells #[.int .i64 a0_0, .string a0_1, .string a0_2, .slice A0_3 l0_3.length c0_3, .slice A0_4 l0_4.length c0_4] 25 (0, 0))) ∧ (w'.heap[s_.2.2]? = some (.cells #[.int .i64 0, .string (⟨#[]⟩ : ByteArray), .string (⟨#[]⟩ : ByteArray), .slice none 0 0, .slice none 0 0] 25 (0, 0))) ∧ (w.heap.size ≤ s_.2.2) ∧ (w.heap.size ≤ s_.2.2) ∧ (gb251 ≠ s_.2.2) ∧ (s_.2.2 ≠ gb251) ∧ (Below w.heap.size w w')) ?_ ?_
          rotate_left
          · intro hCont
            refine two_ (i := 4) (j := 8) (Ni := some 25) (Nj := some 11) #[true, true, true, true, true, false, false, false, false, false, false] #[true, true, true, true, false, false, false, false, true, false, false] rfl rfl rfl rfl (two_of HT_.out (by kernel_rfl)) (by decide) (by decide) (fun K hK => ?_) (fun K hK => ?_)
            · skip
              refine goes_ Try.func23 (by kernel_rfl) rfl #[.agg #[.int .i64 a0_0, .string a0_1, .string a0_2, .slice A0_3 l0_3.length c0_3, .slice A0_4 l0_4.length c0_4], .slice A1 (l1.take ((ji7) : Int).toNat).length c1] (by rfl) rfl rfl (by (try simp only [List.map_toArray, List.map_cons, List.map_nil]); first | done | (rw [show (l1.take ((ji7) : Int).toNat).length = (ji7).toNat from (by rw [List.length_take]; have h_ : ((ji7) : Int) ≤ (l1.length : Int) := of_decide_eq_true (by first | (with_reducible assumption) | assumption); omega)] <;> rfl) | (simp only [hji7]; rfl) | rfl | (simp only [List.length_drop, List.length_take]; rfl)) ?_
              with_reducible refine (spec_At29.calls k a0_0 a0_1 a0_2 (fun k_ => k_ < w.heap.size) _ _ l0_3 (fun k_ => k_ < w.heap.size) _ _ l0_4 _ _ (l1.take ((ji7) : Int).toNat) t253 t254 t255 t256 t259 t262 _ ?side1 ?side2 ?side3 ?side4 A10.out).mono ?_
              (case side1 => exact Kd.V_mk HC0_3.out (Kd.F_below (Kd.C_F k34_heap HR0_3.out) (by repeat (first | (with_reducible first | exact HB.out | apply below_alloc | apply pw_below_drewN | apply below_drew1 | refine below_set ?_ GE251.out) | exact HB.out))))
              (case side2 => exact Kd.V_mk HC0_4.out (Kd.F_below (Kd.C_F k25_heap HR0_4.out) (by repeat (first | (with_reducible first | exact HB.out | apply below_alloc | apply pw_below_drewN | apply below_drew1 | refine below_set ?_ GE251.out) | exact HB.out))))
              (case side3 => repeat (first | exact (Kd.C_below HR252.out HB.out) | (with_reducible refine Kd.C_alloc ?_ _) | (with_reducible refine Kd.C_drewN ?_ _) | (with_reducible refine Kd.C_drew ?_)))
              (case side4 => exact HC252.out)
              rintro e w15 ⟨v257, v260, rfl, ho0, ho1, hb⟩
              refine ⟨_, rfl, ?_⟩
              have n0_ := Aside0.mk (Kd.V_lower (Kd.V_mono (ok' := fun k_ => k_ ≠ gb251) ho0 (fun k_ hk_ => Or.elim hk_ (fun hs_ => Or.elim hs_ (fun hs_ => fun e_ => Nat.not_le.2 hs_ (by rw [e_]; exact GW251.out)) (fun hs_ => fun e_ => Nat.not_le.2 hs_ (by rw [e_]; exact GW251.out))) (fun hn_ => (Kd.freshB (g := gb251) (o := .cells #[.int .i64 a0_0, .string a0_1, .string a0_2, .slice A0_3 l0_3.length c0_3, .slice A0_4 l0_4.length c0_4] 25 (0, 0)) (by (with_reducible repeat (first | refine blk_drewN ?_ _ | refine blk_drew ?_ | refine blk_alloc ?_ _)); exact BK251.out) k_ hn_)))) (below_size (by repeat (first | (with_reducible first | exact HB.out | apply below_alloc | apply pw_below_drewN | apply below_drew1 | refine below_set ?_ GE251.out) | exact HB.out))))
              have n1_ := Aside0.mk (Kd.V_lower (Kd.V_mono (ok' := fun k_ => k_ ≠ gb251) ho1 (fun k_ hk_ => Or.elim hk_ (fun hs_ => Or.elim hs_ (fun hs_ => fun e_ => Nat.not_le.2 hs_ (by rw [e_]; exact GW251.out)) (fun hs_ => fun e_ => Nat.not_le.2 hs_ (by rw [e_]; exact GW251.out))) (fun hn_ => (Kd.freshB (g := gb251) (o := .cells #[.int .i64 a0_0, .string a0_1, .string a0_2, .slice A0_3 l0_3.length c0_3, .slice A0_4 l0_4.length c0_4] 25 (0, 0)) (by (with_reducible repeat (first | refine blk_drewN ?_ _ | refine blk_drew ?_ | refine blk_alloc ?_ _)); exact BK251.out) k_ hn_)))) (below_size (by repeat (first | (with_reducible first | exact HB.out | apply below_alloc | apply pw_below_drewN | apply below_drew1 | refine below_set ?_ GE251.out) | exact HB.out))))
              have n2_ := Aside0.mk (blk_below (g := gb251) (o := .cells #[.int .i64 a0_0, .string a0_1, .string a0_2, .slice A0_3 l0_3.length c0_3, .slice A0_4 l0_4.length c0_4] 25 (0, 0)) (by (with_reducible repeat (first | refine blk_drewN ?_ _ | refine blk_drew ?_ | refine blk_alloc ?_ _)); exact BK251.out) hb)
              have n3_ := Aside0.mk (below_step (by repeat (first | (with_reducible first | exact HB.out | apply below_alloc | apply pw_below_drewN | apply below_drew1 | refine below_set ?_ GE251.out) | exact HB.out)) hb)
              clear BK251
              clear HB
              have HO258 := n0_
              have HO261 := n1_
              have BK251 := n2_
              have HB := n3_
              clear n0_ n1_ n2_ n3_
              (try clear hb)
              (try clear hb2)
              (try clear hk)
              (try clear hi)
              (try clear ho0)
              (try clear ho1)
              refine hK.out _ _ ⟨(blk_cell BK251.out 0).trans rfl, (blk_cell BK251.out 1).trans rfl, (blk_cell BK251.out 2).trans rfl, (blk_cell BK251.out 3).trans rfl, (blk_cell BK251.out 4).trans rfl⟩ (fun hHeld => ?_)
              clear hK K
              refine norm_ (a' := ?_) ?_ ?_
              rotate_left
              · show Act.put _ (some 25) _ = _
                simp only [Act.put, List.setIfInBounds_toArray, List.set_cons_zero, List.set_cons_succ, i64_w, i32_w]
                rfl
              refine pure_ (i := 5) (N := some 20) (v := ?_) (a' := ?_) #[true, true, true, true, true, true, false, false, false, false, false] rfl rfl (any_of HT_.out (by kernel_rfl)) (fun _ _ _ h => h) (Or.inl ⟨by rfl, ?_⟩) ?_ ?_
              rotate_left
              · intro w'
                go_simp
                with_reducible rfl
              rotate_left
              · simp only [Act.put, List.setIfInBounds_toArray, List.set_cons_zero, List.set_cons_succ, i64_w, i32_w]
                rfl
              refine pure_ (i := 6) (N := some 26) (v := ?_) (a' := ?_) #[true, true, true, true, true, true, true, false, false, false, false] rfl rfl (any_of HT_.out (by kernel_rfl)) (fun _ _ _ h => h) (Or.inl ⟨by rfl, ?_⟩) ?_ ?_
              rotate_left
              · intro w'
                go_simp
                with_reducible rfl
              rotate_left
              · simp only [Act.put, List.setIfInBounds_toArray, List.set_cons_zero, List.set_cons_succ, i64_w, i32_w]
                rfl
              refine pure_ (i := 7) (N := some 27) (v := ?_) (a' := ?_) #[true, true, true, true, true, true, true, true, false, false, false] rfl rfl (any_of HT_.out (by kernel_rfl)) (fun _ _ _ h => h) (Or.inl ⟨by rfl, ?_⟩) ?_ ?_
              rotate_left
              · intro w'
                go_simp
                with_reducible rfl
              rotate_left
              · simp only [Act.put, List.setIfInBounds_toArray, List.set_cons_zero, List.set_cons_succ, i64_w, i32_w]
                rfl
              refine one_ (i := 8) (N := some 11) #[true, true, true, true, true, true, true, true, true, false, false] rfl rfl (one_of HT_.out (by kernel_rfl)) (by decide) (fun K hK => ?_)
              refine box_step ?hg (N := 11) ?hd (cs := #[.int .i64 0, .string (⟨#[]⟩ : ByteArray), .string (⟨#[]⟩ : ByteArray), .slice none 0 0, .slice none 0 0]) (t := 25) ?hr ?_; (case hd => rfl); (case hg => rfl); (case hr => first | (go_simp; done) | (go_simp; rfl))
              intro gb263 hg w16 hbox hb
              have n0_ := Aside0.mk (Kd.V_below (Kd.V_elderB (by (with_reducible repeat (first | apply Kd.V_alloc | apply Kd.V_drewN | apply Kd.V_drew)); exact HO258.out) gb263 (Nat.le_of_eq hg.symm)) hb)
              have n1_ := Aside0.mk (Kd.V_below (Kd.V_elderB (by (with_reducible repeat (first | apply Kd.V_alloc | apply Kd.V_drewN | apply Kd.V_drew)); exact HO261.out) gb263 (Nat.le_of_eq hg.symm)) hb)
              have n2_ := Aside0.mk (blk_below (g := gb251) (o := .cells #[.int .i64 a0_0, .string a0_1, .string a0_2, .slice A0_3 l0_3.length c0_3, .slice A0_4 l0_4.length c0_4] 25 (0, 0)) (by (with_reducible repeat (first | refine blk_drewN ?_ _ | refine blk_drew ?_ | refine blk_alloc ?_ _)); exact BK251.out) hb)
              have n3_ := Aside0.mk (below_step (by repeat (first | (with_reducible first | exact HB.out | apply below_alloc | apply pw_below_drewN | apply below_drew1 | refine below_set ?_ GE251.out) | exact HB.out)) hb)
              have n4_ := Aside0.mk (hbox)
              have n5_ := Aside0.mk ((by rw [hg]; exact (below_size (by repeat (first | (with_reducible first | exact HB.out | apply below_alloc | apply pw_below_drewN | apply below_drew1 | refine below_set ?_ GE251.out) | exact HB.out))) : w.heap.size ≤ gb263))
              have n6_ := Aside0.mk ((by rw [hg]; exact (below_size (by repeat (first | (with_reducible first | exact HB.out | apply below_alloc | apply pw_below_drewN | apply below_drew1 | refine below_set ?_ GE251.out) | exact HB.out))) : w.heap.size ≤ gb263))
              have n7_ := Aside0.mk ((by rw [hg]; exact Nat.ne_of_lt (blk_lt (g := gb251) (o := .cells #[.int .i64 a0_0, .string a0_1, .string a0_2, .slice A0_3 l0_3.length c0_3, .slice A0_4 l0_4.length c0_4] 25 (0, 0)) (by (with_reducible repeat (first | refine blk_drewN ?_ _ | refine blk_drew ?_ | refine blk_alloc ?_ _)); exact BK251.out)) : gb251 ≠ gb263))
              have n8_ := Aside0.mk ((by rw [hg]; exact Nat.ne_of_gt (blk_lt (g := gb251) (o := .cells #[.int .i64 a0_0, .string a0_1, .string a0_2, .slice A0_3 l0_3.length c0_3, .slice A0_4 l0_4.length c0_4] 25 (0, 0)) (by (with_reducible repeat (first | refine blk_drewN ?_ _ | refine blk_drew ?_ | refine blk_alloc ?_ _)); exact BK251.out)) : gb263 ≠ gb251))
              clear HO258
              clear HO261
              clear BK251
              clear HB
              have HO258 := n0_
              have HO261 := n1_
              have BK251 := n2_
              have HB := n3_
              have BK263 := n4_
              have GW263 := n5_
              have GE263 := n6_
              have NB251_263 := n7_
              have NB263_251 := n8_
              clear n0_ n1_ n2_ n3_ n4_ n5_ n6_ n7_ n8_
              clear hb hbox hg
              refine hK.out _ _ ⟨(blk_cell BK251.out 0).trans rfl, (blk_cell BK251.out 1).trans rfl, (blk_cell BK251.out 2).trans rfl, (blk_cell BK251.out 3).trans rfl, (blk_cell BK251.out 4).trans rfl⟩ (fun hHeld => ?_)
              clear hK K
              refine norm_ (a' := ?_) ?_ ?_
              rotate_left
              · show Act.put _ (some 11) _ = _
                simp only [Act.put, List.setIfInBounds_toArray, List.set_cons_zero, List.set_cons_succ, i64_w, i32_w]
                rfl
              exact norm_ (by simp only [putAll, Act.put, List.setIfInBounds_toArray, List.set_cons_zero, List.set_cons_succ]) (hCont (v257, v260, gb263) _ ⟨hHeld, (by (with_reducible repeat (first | apply Kd.V_alloc | apply Kd.V_drewN | apply Kd.V_drew)); exact HO258.out), (by (with_reducible repeat (first | apply Kd.V_alloc | apply Kd.V_drewN | apply Kd.V_drew)); exact HO261.out), (by (with_reducible repeat (first | refine blk_drewN ?_ _ | refine blk_drew ?_ | refine blk_alloc ?_ _)); exact BK251.out), (by (with_reducible repeat (first | refine blk_drewN ?_ _ | refine blk_drew ?_ | refine blk_alloc ?_ _)); exact BK263.out), GW263.out, GE263.out, NB251_263.out, NB263_251.out, (by repeat (first | (with_reducible first | exact HB.out | apply below_alloc | apply pw_below_drewN | apply below_drew1 | refine below_set ?_ GE251.out | refine below_set ?_ GE263.out) | exact HB.out))⟩)
            · skip
              refine box_step ?hg (N := 11) ?hd (cs := #[.int .i64 0, .string (⟨#[]⟩ : ByteArray), .string (⟨#[]⟩ : ByteArray), .slice none 0 0, .slice none 0 0]) (t := 25) ?hr ?_; (case hd => rfl); (case hg => rfl); (case hr => first | (go_simp; done) | (go_simp; rfl))
              intro gb263 hg w15 hbox hb
              have n0_ := Aside0.mk (blk_below (g := gb251) (o := .cells #[.int .i64 a0_0, .string a0_1, .string a0_2, .slice A0_3 l0_3.length c0_3, .slice A0_4 l0_4.length c0_4] 25 (0, 0)) (by (with_reducible repeat (first | refine blk_drewN ?_ _ | refine blk_drew ?_ | refine blk_alloc ?_ _)); exact BK251.out) hb)
              have n1_ := Aside0.mk (below_step (by repeat (first | (with_reducible first | exact HB.out | apply below_alloc | apply pw_below_drewN | apply below_drew1 | refine below_set ?_ GE251.out) | exact HB.out)) hb)
              have n2_ := Aside0.mk (hbox)
              have n3_ := Aside0.mk ((by rw [hg]; exact (below_size (by repeat (first | (with_reducible first | exact HB.out | apply below_alloc | apply pw_below_drewN | apply below_drew1 | refine below_set ?_ GE251.out) | exact HB.out))) : w.heap.size ≤ gb263))
              have n4_ := Aside0.mk ((by rw [hg]; exact (below_size (by repeat (first | (with_reducible first | exact HB.out | apply below_alloc | apply pw_below_drewN | apply below_drew1 | refine below_set ?_ GE251.out) | exact HB.out))) : w.heap.size ≤ gb263))
              have n5_ := Aside0.mk ((by rw [hg]; exact Nat.ne_of_lt (blk_lt (g := gb251) (o := .cells #[.int .i64 a0_0, .string a0_1, .string a0_2, .slice A0_3 l0_3.length c0_3, .slice A0_4 l0_4.length c0_4] 25 (0, 0)) (by (with_reducible repeat (first | refine blk_drewN ?_ _ | refine blk_drew ?_ | refine blk_alloc ?_ _)); exact BK251.out)) : gb251 ≠ gb263))
              have n6_ := Aside0.mk ((by rw [hg]; exact Nat.ne_of_gt (blk_lt (g := gb251) (o := .cells #[.int .i64 a0_0, .string a0_1, .string a0_2, .slice A0_3 l0_3.length c0_3, .slice A0_4 l0_4.length c0_4] 25 (0, 0)) (by (with_reducible repeat (first | refine blk_drewN ?_ _ | refine blk_drew ?_ | refine blk_alloc ?_ _)); exact BK251.out)) : gb263 ≠ gb251))
              clear BK251
              clear HB
              have BK251 := n0_
              have HB := n1_
              have BK263 := n2_
              have GW263 := n3_
              have GE263 := n4_
              have NB251_263 := n5_
              have NB263_251 := n6_
              clear n0_ n1_ n2_ n3_ n4_ n5_ n6_
              clear hb hbox hg
              refine hK.out _ _ ⟨(blk_cell BK251.out 0).trans rfl, (blk_cell BK251.out 1).trans rfl, (blk_cell BK251.out 2).trans rfl, (blk_cell BK251.out 3).trans rfl, (blk_cell BK251.out 4).trans rfl⟩ (fun hHeld => ?_)
              clear hK K
              refine norm_ (a' := ?_) ?_ ?_
              rotate_left
              · show Act.put _ (some 11) _ = _
                simp only [Act.put, List.setIfInBounds_toArray, List.set_cons_zero, List.set_cons_succ, i64_w, i32_w]
                rfl
              refine one_ (i := 4) (N := some 25) #[true, true, true, true, true, false, false, false, true, false, false] rfl rfl (one_of HT_.out (by kernel_rfl)) (by decide) (fun K hK => ?_)
              refine goes_ Try.func23 (by kernel_rfl) rfl #[.agg #[.int .i64 a0_0, .string a0_1, .string a0_2, .slice A0_3 l0_3.length c0_3, .slice A0_4 l0_4.length c0_4], .slice A1 (l1.take ((ji7) : Int).toNat).length c1] (by rfl) rfl rfl (by (try simp only [List.map_toArray, List.map_cons, List.map_nil]); first | done | (rw [show (l1.take ((ji7) : Int).toNat).length = (ji7).toNat from (by rw [List.length_take]; have h_ : ((ji7) : Int) ≤ (l1.length : Int) := of_decide_eq_true (by first | (with_reducible assumption) | assumption); omega)] <;> rfl) | (simp only [hji7]; rfl) | rfl | (simp only [List.length_drop, List.length_take]; rfl)) ?_
              with_reducible refine (spec_At29.calls k a0_0 a0_1 a0_2 (fun k_ => k_ < w.heap.size) _ _ l0_3 (fun k_ => k_ < w.heap.size) _ _ l0_4 _ _ (l1.take ((ji7) : Int).toNat) t253 t254 t255 t256 t259 t262 _ ?side1 ?side2 ?side3 ?side4 A10.out).mono ?_
              (case side1 => exact Kd.V_mk HC0_3.out (Kd.F_below (Kd.C_F k34_heap HR0_3.out) (by repeat (first | (with_reducible first | exact HB.out | apply below_alloc | apply pw_below_drewN | apply below_drew1 | refine below_set ?_ GE251.out | refine below_set ?_ GE263.out) | exact HB.out))))
              (case side2 => exact Kd.V_mk HC0_4.out (Kd.F_below (Kd.C_F k25_heap HR0_4.out) (by repeat (first | (with_reducible first | exact HB.out | apply below_alloc | apply pw_below_drewN | apply below_drew1 | refine below_set ?_ GE251.out | refine below_set ?_ GE263.out) | exact HB.out))))
              (case side3 => repeat (first | exact (Kd.C_below HR252.out HB.out) | (with_reducible refine Kd.C_alloc ?_ _) | (with_reducible refine Kd.C_drewN ?_ _) | (with_reducible refine Kd.C_drew ?_)))
              (case side4 => exact HC252.out)
              rintro e w16 ⟨v257, v260, rfl, ho0, ho1, hb⟩
              refine ⟨_, rfl, ?_⟩
              have n0_ := Aside0.mk (Kd.V_lower (Kd.V_mono (ok' := fun k_ => k_ ≠ gb251 ∧ k_ ≠ gb263) ho0 (fun k_ hk_ => ⟨Or.elim hk_ (fun hs_ => Or.elim hs_ (fun hs_ => fun e_ => Nat.not_le.2 hs_ (by rw [e_]; exact GW251.out)) (fun hs_ => fun e_ => Nat.not_le.2 hs_ (by rw [e_]; exact GW251.out))) (fun hn_ => (Kd.freshB (g := gb251) (o := .cells #[.int .i64 a0_0, .string a0_1, .string a0_2, .slice A0_3 l0_3.length c0_3, .slice A0_4 l0_4.length c0_4] 25 (0, 0)) (by (with_reducible repeat (first | refine blk_drewN ?_ _ | refine blk_drew ?_ | refine blk_alloc ?_ _)); exact BK251.out) k_ hn_)), Or.elim hk_ (fun hs_ => Or.elim hs_ (fun hs_ => fun e_ => Nat.not_le.2 hs_ (by rw [e_]; exact GW263.out)) (fun hs_ => fun e_ => Nat.not_le.2 hs_ (by rw [e_]; exact GW263.out))) (fun hn_ => (Kd.freshB (g := gb263) (o := .cells #[.int .i64 0, .string (⟨#[]⟩ : ByteArray), .string (⟨#[]⟩ : ByteArray), .slice none 0 0, .slice none 0 0] 25 (0, 0)) (by (with_reducible repeat (first | refine blk_drewN ?_ _ | refine blk_drew ?_ | refine blk_alloc ?_ _)); exact BK263.out) k_ hn_))⟩)) (below_size (by repeat (first | (with_reducible first | exact HB.out | apply below_alloc | apply pw_below_drewN | apply below_drew1 | refine below_set ?_ GE251.out | refine below_set ?_ GE263.out) | exact HB.out))))
              have n1_ := Aside0.mk (Kd.V_lower (Kd.V_mono (ok' := fun k_ => k_ ≠ gb251 ∧ k_ ≠ gb263) ho1 (fun k_ hk_ => ⟨Or.elim hk_ (fun hs_ => Or.elim hs_ (fun hs_ => fun e_ => Nat.not_le.2 hs_ (by rw [e_]; exact GW251.out)) (fun hs_ => fun e_ => Nat.not_le.2 hs_ (by rw [e_]; exact GW251.out))) (fun hn_ => (Kd.freshB (g := gb251) (o := .cells #[.int .i64 a0_0, .string a0_1, .string a0_2, .slice A0_3 l0_3.length c0_3, .slice A0_4 l0_4.length c0_4] 25 (0, 0)) (by (with_reducible repeat (first | refine blk_drewN ?_ _ | refine blk_drew ?_ | refine blk_alloc ?_ _)); exact BK251.out) k_ hn_)), Or.elim hk_ (fun hs_ => Or.elim hs_ (fun hs_ => fun e_ => Nat.not_le.2 hs_ (by rw [e_]; exact GW263.out)) (fun hs_ => fun e_ => Nat.not_le.2 hs_ (by rw [e_]; exact GW263.out))) (fun hn_ => (Kd.freshB (g := gb263) (o := .cells #[.int .i64 0, .string (⟨#[]⟩ : ByteArray), .string (⟨#[]⟩ : ByteArray), .slice none 0 0, .slice none 0 0] 25 (0, 0)) (by (with_reducible repeat (first | refine blk_drewN ?_ _ | refine blk_drew ?_ | refine blk_alloc ?_ _)); exact BK263.out) k_ hn_))⟩)) (below_size (by repeat (first | (with_reducible first | exact HB.out | apply below_alloc | apply pw_below_drewN | apply below_drew1 | refine below_set ?_ GE251.out | refine below_set ?_ GE263.out) | exact HB.out))))
              have n2_ := Aside0.mk (blk_below (g := gb251) (o := .cells #[.int .i64 a0_0, .string a0_1, .string a0_2, .slice A0_3 l0_3.length c0_3, .slice A0_4 l0_4.length c0_4] 25 (0, 0)) (by (with_reducible repeat (first | refine blk_drewN ?_ _ | refine blk_drew ?_ | refine blk_alloc ?_ _)); exact BK251.out) hb)
              have n3_ := Aside0.mk (blk_below (g := gb263) (o := .cells #[.int .i64 0, .string (⟨#[]⟩ : ByteArray), .string (⟨#[]⟩ : ByteArray), .slice none 0 0, .slice none 0 0] 25 (0, 0)) (by (with_reducible repeat (first | refine blk_drewN ?_ _ | refine blk_drew ?_ | refine blk_alloc ?_ _)); exact BK263.out) hb)
              have n4_ := Aside0.mk (below_step (by repeat (first | (with_reducible first | exact HB.out | apply below_alloc | apply pw_below_drewN | apply below_drew1 | refine below_set ?_ GE251.out | refine below_set ?_ GE263.out) | exact HB.out)) hb)
              clear BK251
              clear BK263
              clear HB
              have HO258 := n0_
              have HO261 := n1_
              have BK251 := n2_
              have BK263 := n3_
              have HB := n4_
              clear n0_ n1_ n2_ n3_ n4_
              (try clear hb)
              (try clear hb2)
              (try clear hk)
              (try clear hi)
              (try clear ho0)
              (try clear ho1)
              refine hK.out _ _ ⟨(blk_cell BK251.out 0).trans rfl, (blk_cell BK251.out 1).trans rfl, (blk_cell BK251.out 2).trans rfl, (blk_cell BK251.out 3).trans rfl, (blk_cell BK251.out 4).trans rfl⟩ (fun hHeld => ?_)
              clear hK K
              refine norm_ (a' := ?_) ?_ ?_
              rotate_left
              · show Act.put _ (some 25) _ = _
                simp only [Act.put, List.setIfInBounds_toArray, List.set_cons_zero, List.set_cons_succ, i64_w, i32_w]
                rfl
              refine pure_ (i := 5) (N := some 20) (v := ?_) (a' := ?_) #[true, true, true, true, true, true, false, false, true, false, false] rfl rfl (any_of HT_.out (by kernel_rfl)) (fun _ _ _ h => h) (Or.inl ⟨by rfl, ?_⟩) ?_ ?_
              rotate_left
              · intro w'
                go_simp
                with_reducible rfl
              rotate_left
              · simp only [Act.put, List.setIfInBounds_toArray, List.set_cons_zero, List.set_cons_succ, i64_w, i32_w]
                rfl
              refine pure_ (i := 6) (N := some 26) (v := ?_) (a' := ?_) #[true, true, true, true, true, true, true, false, true, false, false] rfl rfl (any_of HT_.out (by kernel_rfl)) (fun _ _ _ h => h) (Or.inl ⟨by rfl, ?_⟩) ?_ ?_
              rotate_left
              · intro w'
                go_simp
                with_reducible rfl
              rotate_left
              · simp only [Act.put, List.setIfInBounds_toArray, List.set_cons_zero, List.set_cons_succ, i64_w, i32_w]
                rfl
              refine pure_ (i := 7) (N := some 27) (v := ?_) (a' := ?_) #[true, true, true, true, true, true, true, true, true, false, false] rfl rfl (any_of HT_.out (by kernel_rfl)) (fun _ _ _ h => h) (Or.inl ⟨by rfl, ?_⟩) ?_ ?_
              rotate_left
              · intro w'
                go_simp
                with_reducible rfl
              rotate_left
              · simp only [Act.put, List.setIfInBounds_toArray, List.set_cons_zero, List.set_cons_succ, i64_w, i32_w]
                rfl
              exact norm_ (by simp only [putAll, Act.put, List.setIfInBounds_toArray, List.set_cons_zero, List.set_cons_succ]) (hCont (v257, v260, gb263) _ ⟨hHeld, (by (with_reducible repeat (first | apply Kd.V_alloc | apply Kd.V_drewN | apply Kd.V_drew)); exact HO258.out), (by (with_reducible repeat (first | apply Kd.V_alloc | apply Kd.V_drewN | apply Kd.V_drew)); exact HO261.out), (by (with_reducible repeat (first | refine blk_drewN ?_ _ | refine blk_drew ?_ | refine blk_alloc ?_ _)); exact BK251.out), (by (with_reducible repeat (first | refine blk_drewN ?_ _ | refine blk_drew ?_ | refine blk_alloc ?_ _)); exact BK263.out), GW263.out, GE263.out, NB251_263.out, NB263_251.out, (by repeat (first | (with_reducible first | exact HB.out | apply below_alloc | apply pw_below_drewN | apply below_drew1 | refine below_set ?_ GE251.out | refine below_set ?_ GE263.out) | exact HB.out))⟩)
          rintro ⟨v257, v260, gb263⟩ w17 ⟨hS_, h0_, h1_, h2_, h3_, h4_, h5_, h6_, h7_, h8_⟩
          have n0_ : Aside0 (Kd.V k34 34 w17 w.heap.size (fun k_ => k_ ≠ gb251 ∧ k_ ≠ gb263) v257 t256) := ⟨h0_⟩
          have n1_ : Aside0 (Kd.V k25 25 w17 w.heap.size (fun k_ => k_ ≠ gb251 ∧ k_ ≠ gb263) v260 t259) := ⟨h1_⟩
          have n2_ : Aside0 (w17.heap[gb251]? = some (.cells #[.int .i64 a0_0, .string a0_1, .string a0_2, .slice A0_3 l0_3.length c0_3, .slice A0_4 l0_4.length c0_4] 25 (0, 0))) := ⟨h2_⟩
          have n3_ : Aside0 (w17.heap[gb263]? = some (.cells #[.int .i64 0, .string (⟨#[]⟩ : ByteArray), .string (⟨#[]⟩ : ByteArray), .slice none 0 0, .slice none 0 0] 25 (0, 0))) := ⟨h3_⟩
          have n4_ : Aside0 (w.heap.size ≤ gb263) := ⟨h4_⟩
          have n5_ : Aside0 (w.heap.size ≤ gb263) := ⟨h5_⟩
          have n6_ : Aside0 (gb251 ≠ gb263) := ⟨h6_⟩
          have n7_ : Aside0 (gb263 ≠ gb251) := ⟨h7_⟩
          have n8_ : Aside0 (Below w.heap.size w w17) := ⟨h8_⟩
          clear BK251
          clear HB
          clear h0_ h1_ h2_ h3_ h4_ h5_ h6_ h7_ h8_
          have HO258 := n0_
          have HO261 := n1_
          have BK251 := n2_
          have BK263 := n3_
          have GW263 := n4_
          have GE263 := n5_
          have NB251_263 := n6_
          have NB263_251 := n7_
          have HB := n8_
          clear n0_ n1_ n2_ n3_ n4_ n5_ n6_ n7_ n8_
          have hHeld : w17.cell? ⟨gb251, 0, none⟩ = some (.int .i64 a0_0) ∧ w17.cell? ⟨gb251, 1, none⟩ = some (.string a0_1) ∧ w17.cell? ⟨gb251, 2, none⟩ = some (.string a0_2) ∧ w17.cell? ⟨gb251, 3, none⟩ = some (.slice A0_3 l0_3.length c0_3) ∧ w17.cell? ⟨gb251, 4, none⟩ = some (.slice A0_4 l0_4.length c0_4) := hS_
          obtain ⟨Ao21, co21, eo21⟩ := Kd.V_slice HO258.out
          (first | subst eo21 | (injection eo21 with f1_ f2_ f3_; have f4_ := f1_.symm; have f5_ := f3_.symm; clear f1_ f2_ f3_; subst f4_; subst f5_))
          obtain ⟨Ao23, co23, eo23⟩ := Kd.V_slice HO261.out
          (first | subst eo23 | (injection eo23 with f1_ f2_ f3_; have f4_ := f1_.symm; have f5_ := f3_.symm; clear f1_ f2_ f3_; subst f4_; subst f5_))
          refine norm_ (a' := ?_) ?_ ?_
          rotate_left
          · simp only [putAll, Act.put, List.setIfInBounds_toArray, List.set_cons_zero, List.set_cons_succ]
            rfl
          refine one_ (i := 9) (N := none) #[true, true, true, true, true, true, true, true, true, true, false] rfl rfl (one_of HT_.out (by kernel_rfl)) (by decide) (fun K hK => ?_)
          have hs18 : w17.cell? ⟨gb263, 0, none⟩ = some (.int .i64 0) := (blk_cell BK263.out 0).trans rfl
          have hfs18 := blk_frozen BK263.out 0
          have hns18_0 := NB251_263.out
          have hms18_0 := NB263_251.out
          have hs19 : w17.cell? ⟨gb263, 1, none⟩ = some (.string (⟨#[]⟩ : ByteArray)) := (blk_cell BK263.out 1).trans rfl
          have hfs19 := blk_frozen BK263.out 1
          have hns19_0 := NB251_263.out
          have hms19_0 := NB263_251.out
          have hs20 : w17.cell? ⟨gb263, 2, none⟩ = some (.string (⟨#[]⟩ : ByteArray)) := (blk_cell BK263.out 2).trans rfl
          have hfs20 := blk_frozen BK263.out 2
          have hns20_0 := NB251_263.out
          have hms20_0 := NB263_251.out
          have hs22 : w17.cell? ⟨gb263, 3, none⟩ = some (.slice none 0 0) := (blk_cell BK263.out 3).trans rfl
          have hfs22 := blk_frozen BK263.out 3
          have hns22_0 := NB251_263.out
          have hms22_0 := NB263_251.out
          have hs24 : w17.cell? ⟨gb263, 4, none⟩ = some (.slice none 0 0) := (blk_cell BK263.out 4).trans rfl
          have hfs24 := blk_frozen BK263.out 4
          have hns24_0 := NB251_263.out
          have hms24_0 := NB263_251.out
          refine skip_ (w1 := ?_) (by rfl) rfl ?_ ?_
          rotate_left
          · go_simp
            rfl
          refine hK.out _ _ ⟨((cell_far (p := ⟨gb263, _, none⟩) NB251_263.out _).trans (((cell_far (p := ⟨gb263, _, none⟩) NB251_263.out _).trans (((cell_far (p := ⟨gb263, _, none⟩) NB251_263.out _).trans (((cell_far (p := ⟨gb263, _, none⟩) NB251_263.out _).trans (((cell_far (p := ⟨gb263, _, none⟩) NB251_263.out _).trans (hHeld.1)))))))))), ((cell_far (p := ⟨gb263, _, none⟩) NB251_263.out _).trans (((cell_far (p := ⟨gb263, _, none⟩) NB251_263.out _).trans (((cell_far (p := ⟨gb263, _, none⟩) NB251_263.out _).trans (((cell_far (p := ⟨gb263, _, none⟩) NB251_263.out _).trans (((cell_far (p := ⟨gb263, _, none⟩) NB251_263.out _).trans (hHeld.2.1)))))))))), ((cell_far (p := ⟨gb263, _, none⟩) NB251_263.out _).trans (((cell_far (p := ⟨gb263, _, none⟩) NB251_263.out _).trans (((cell_far (p := ⟨gb263, _, none⟩) NB251_263.out _).trans (((cell_far (p := ⟨gb263, _, none⟩) NB251_263.out _).trans (((cell_far (p := ⟨gb263, _, none⟩) NB251_263.out _).trans (hHeld.2.2.1)))))))))), ((cell_far (p := ⟨gb263, _, none⟩) NB251_263.out _).trans (((cell_far (p := ⟨gb263, _, none⟩) NB251_263.out _).trans (((cell_far (p := ⟨gb263, _, none⟩) NB251_263.out _).trans (((cell_far (p := ⟨gb263, _, none⟩) NB251_263.out _).trans (((cell_far (p := ⟨gb263, _, none⟩) NB251_263.out _).trans (hHeld.2.2.2.1)))))))))), ((cell_far (p := ⟨gb263, _, none⟩) NB251_263.out _).trans (((cell_far (p := ⟨gb263, _, none⟩) NB251_263.out _).trans (((cell_far (p := ⟨gb263, _, none⟩) NB251_263.out _).trans (((cell_far (p := ⟨gb263, _, none⟩) NB251_263.out _).trans (((cell_far (p := ⟨gb263, _, none⟩) NB251_263.out _).trans (hHeld.2.2.2.2))))))))))⟩ (fun hHeld => ?_)
          clear hK K
          refine pure_ (i := 10) (N := some 12) (v := ?_) (a' := ?_) #[true, true, true, true, true, true, true, true, true, true, true] rfl rfl (any_of HT_.out (by kernel_rfl)) (fun _ _ _ h => h) (Or.inl ⟨by rfl, ?_⟩) ?_ ?_
          rotate_left
          · intro w'
            go_simp
            with_reducible rfl
          rotate_left
          · simp only [Act.put, List.setIfInBounds_toArray, List.set_cons_zero, List.set_cons_succ, i64_w, i32_w]
            rfl
          refine done_ (done_of HT_.out (by kernel_rfl)) ?_
          have p264 : 0 ≤ ((ji7) : Int) := of_decide_eq_true (by first | (with_reducible assumption) | assumption)
          have q264 : (ji7) < (l1.length : Int) := of_decide_eq_true (by first | (with_reducible assumption) | assumption)
          obtain ⟨ad264, e264, hx264_0⟩ := Kd.at_int HR1.out (ji7) p264 q264
          cases e264
          have hn264_0 : ad264.block ≠ gb263 := Nat.ne_of_lt (Nat.lt_of_lt_of_le (by have := World.block_lt_of_cell? _ _ hx264_0; first | rwa [add_block] at this | exact this) GW263.out)
          have hn264_1 : ad264.block ≠ gb263 := Nat.ne_of_lt (Nat.lt_of_lt_of_le (by have := World.block_lt_of_cell? _ _ hx264_0; first | rwa [add_block] at this | exact this) GW263.out)
          have hn264_2 : ad264.block ≠ gb263 := Nat.ne_of_lt (Nat.lt_of_lt_of_le (by have := World.block_lt_of_cell? _ _ hx264_0; first | rwa [add_block] at this | exact this) GW263.out)
          have hn264_3 : ad264.block ≠ gb263 := Nat.ne_of_lt (Nat.lt_of_lt_of_le (by have := World.block_lt_of_cell? _ _ hx264_0; first | rwa [add_block] at this | exact this) GW263.out)
          have hn264_4 : ad264.block ≠ gb263 := Nat.ne_of_lt (Nat.lt_of_lt_of_le (by have := World.block_lt_of_cell? _ _ hx264_0; first | rwa [add_block] at this | exact this) GW263.out)
          replace hx264_0 := (HB.out.cell (World.block_lt_of_cell? w _ hx264_0)).trans hx264_0
          replace hx264_0 := (cell_far (p := ⟨gb263, 0, none⟩) (by first | (rw [add_block]; exact hn264_0) | (show (Addr.add _ _).block ≠ _; rw [add_block]; exact hn264_0) | exact hn264_0) (.int .i64 t253)).trans hx264_0
          replace hx264_0 := (cell_far (p := ⟨gb263, 1, none⟩) (by first | (rw [add_block]; exact hn264_1) | (show (Addr.add _ _).block ≠ _; rw [add_block]; exact hn264_1) | exact hn264_1) (.string t254)).trans hx264_0
          replace hx264_0 := (cell_far (p := ⟨gb263, 2, none⟩) (by first | (rw [add_block]; exact hn264_2) | (show (Addr.add _ _).block ≠ _; rw [add_block]; exact hn264_2) | exact hn264_2) (.string t255)).trans hx264_0
          replace hx264_0 := (cell_far (p := ⟨gb263, 3, none⟩) (by first | (rw [add_block]; exact hn264_3) | (show (Addr.add _ _).block ≠ _; rw [add_block]; exact hn264_3) | exact hn264_3) (.slice Ao21 t256.length co21)).trans hx264_0
          replace hx264_0 := (cell_far (p := ⟨gb263, 4, none⟩) (by first | (rw [add_block]; exact hn264_4) | (show (Addr.add _ _).block ≠ _; rw [add_block]; exact hn264_4) | exact hn264_4) (.slice Ao23 t259.length co23)).trans hx264_0
          clear hn264_0
          clear hn264_1
          clear hn264_2
          clear hn264_3
          clear hn264_4
          replace p264 := eq_true p264
          replace q264 := eq_true q264
          try go_wp2
          go_loopg [13] k (fun kq v13 w' => ∃ (x13_1 : Int), v13 = .int .i64 x13_1 ∧ Aside0 (spec_Beside29.l0 kq l1 a2 a3 ji7 x13_1 t253 t254 t255 t256 t259 = some (r1, r2)) ∧ Aside0 (kq ≤ k) ∧ Aside0 (Kd.V k34 34 w' w.heap.size (fun k_ => k_ ≠ gb251 ∧ k_ ≠ gb263) (.slice Ao21 t256.length co21) t256) ∧ Aside0 (Kd.V k25 25 w' w.heap.size (fun k_ => k_ ≠ gb251 ∧ k_ ≠ gb263) (.slice Ao23 t259.length co23) t259) ∧ Aside0 (w'.heap[gb251]? = some (.cells #[.int .i64 a0_0, .string a0_1, .string a0_2, (.slice A0_3 l0_3.length c0_3), (.slice A0_4 l0_4.length c0_4)] 25 (0, 0))) ∧ Aside0 (w'.heap[gb263]? = some (.cells #[.int .i64 t253, .string t254, .string t255, (.slice Ao21 t256.length co21), (.slice Ao23 t259.length co23)] 25 (0, 0))) ∧ Aside0 (Below w.heap.size w w'))
          case atStart => exact ⟨(wrap64 ((rd l1 (ji7)) + a2)), (by first | rfl | (simp; done) | (simp only [← hji7] <;> (first | rfl | simp)) | (simp [*]; done)), H', ⟨Nat.le_refl _⟩, ⟨by (with_reducible repeat (first | apply Kd.V_alloc | apply Kd.V_drewN | apply Kd.V_drew)); exact Kd.V_mono (Kd.V_far (p := ⟨gb263, 4, none⟩) (Kd.V_far (p := ⟨gb263, 3, none⟩) (Kd.V_far (p := ⟨gb263, 2, none⟩) (Kd.V_far (p := ⟨gb263, 1, none⟩) (Kd.V_far (p := ⟨gb263, 0, none⟩) (Kd.V_mono HO258.out (fun k_ hk => (⟨hk, hk.2⟩ : _ ∧ k_ ≠ gb263))) (fun _ hk => hk.2) (.int .i64 t253)) (fun _ hk => hk.2) (.string t254)) (fun _ hk => hk.2) (.string t255)) (fun _ hk => hk.2) (.slice Ao21 t256.length co21)) (fun _ hk => hk.2) (.slice Ao23 t259.length co23)) (fun _ hk => ⟨hk.1.1, hk.1.2⟩)⟩, ⟨by (with_reducible repeat (first | apply Kd.V_alloc | apply Kd.V_drewN | apply Kd.V_drew)); exact Kd.V_mono (Kd.V_far (p := ⟨gb263, 4, none⟩) (Kd.V_far (p := ⟨gb263, 3, none⟩) (Kd.V_far (p := ⟨gb263, 2, none⟩) (Kd.V_far (p := ⟨gb263, 1, none⟩) (Kd.V_far (p := ⟨gb263, 0, none⟩) (Kd.V_mono HO261.out (fun k_ hk => (⟨hk, hk.2⟩ : _ ∧ k_ ≠ gb263))) (fun _ hk => hk.2) (.int .i64 t253)) (fun _ hk => hk.2) (.string t254)) (fun _ hk => hk.2) (.string t255)) (fun _ hk => hk.2) (.slice Ao21 t256.length co21)) (fun _ hk => hk.2) (.slice Ao23 t259.length co23)) (fun _ hk => ⟨hk.1.1, hk.1.2⟩)⟩, ⟨by (with_reducible repeat (first | refine blk_drewN ?_ _ | refine blk_drew ?_ | refine blk_alloc ?_ _)); refine blk_far ?_ NB251_263.out _; (with_reducible repeat (first | refine blk_drewN ?_ _ | refine blk_drew ?_ | refine blk_alloc ?_ _)); refine blk_far ?_ NB251_263.out _; (with_reducible repeat (first | refine blk_drewN ?_ _ | refine blk_drew ?_ | refine blk_alloc ?_ _)); refine blk_far ?_ NB251_263.out _; (with_reducible repeat (first | refine blk_drewN ?_ _ | refine blk_drew ?_ | refine blk_alloc ?_ _)); refine blk_far ?_ NB251_263.out _; (with_reducible repeat (first | refine blk_drewN ?_ _ | refine blk_drew ?_ | refine blk_alloc ?_ _)); refine blk_far ?_ NB251_263.out _; (with_reducible repeat (first | refine blk_drewN ?_ _ | refine blk_drew ?_ | refine blk_alloc ?_ _)); exact BK251.out⟩, ⟨by (with_reducible repeat (first | refine blk_drewN ?_ _ | refine blk_drew ?_ | refine blk_alloc ?_ _)); refine blk_put (cs := #[.int .i64 t253, .string t254, .string t255, .slice Ao21 t256.length co21, .slice none 0 0]) ?_ 4 _ rfl; (with_reducible repeat (first | refine blk_drewN ?_ _ | refine blk_drew ?_ | refine blk_alloc ?_ _)); refine blk_put (cs := #[.int .i64 t253, .string t254, .string t255, .slice none 0 0, .slice none 0 0]) ?_ 3 _ rfl; (with_reducible repeat (first | refine blk_drewN ?_ _ | refine blk_drew ?_ | refine blk_alloc ?_ _)); refine blk_put (cs := #[.int .i64 t253, .string t254, .string (⟨#[]⟩ : ByteArray), .slice none 0 0, .slice none 0 0]) ?_ 2 _ rfl; (with_reducible repeat (first | refine blk_drewN ?_ _ | refine blk_drew ?_ | refine blk_alloc ?_ _)); refine blk_put (cs := #[.int .i64 t253, .string (⟨#[]⟩ : ByteArray), .string (⟨#[]⟩ : ByteArray), .slice none 0 0, .slice none 0 0]) ?_ 1 _ rfl; (with_reducible repeat (first | refine blk_drewN ?_ _ | refine blk_drew ?_ | refine blk_alloc ?_ _)); refine blk_put (cs := #[.int .i64 0, .string (⟨#[]⟩ : ByteArray), .string (⟨#[]⟩ : ByteArray), .slice none 0 0, .slice none 0 0]) ?_ 0 _ rfl; (with_reducible repeat (first | refine blk_drewN ?_ _ | refine blk_drew ?_ | refine blk_alloc ?_ _)); exact BK263.out⟩, ⟨by repeat (first | (with_reducible first | exact HB.out | apply below_alloc | apply pw_below_drewN | apply below_drew1 | refine below_set ?_ GE251.out | refine below_set ?_ GE263.out) | exact HB.out)⟩⟩
          case round =>
            clear H'
            try clear c1
            try clear c2
            try clear p2
            try clear q2
            try clear hx2
            try clear c5
            try clear c5b0
            try clear c5b1
            try clear c5b2
            try clear p6
            try clear c7
            try clear c8
            try clear c8b0
            try clear c8b1
            try clear c9
            try clear c9b0
            try clear c9b1
            try clear c11
            try clear c11b0
            try clear c23
            try clear hx264_0
            try clear p264
            try clear q264
            obtain ⟨x13_1, rfl, HA, HK1, HO_264003, HO_264004, BK251, BK263, HB⟩ := hrel
            cases gk with
            | zero => exact absurd HA.out (by simp [spec_Beside29.l0])
            | succ k1 =>
              have H := HA.out
              clear HA
              simp only [spec_Beside29.l0] at H
              have HC25 := Aside0.mk H
              clear H
              go_upto_region 6 with (fail)
              go_cut [42] (fun v42 wc => ∃ (kq : Nat) (x42_24 : Bool), v42 = .bool x42_24 ∧ Aside0 (spec_Beside29.j1 kq l1 a2 a3 ji7 x13_1 x42_24 t253 t254 t255 t256 t259 = some (r1, r2)) ∧ Aside0 (kq ≤ k1) ∧ Aside0 (Kd.V k34 34 wc w.heap.size (fun k_ => k_ ≠ gb251 ∧ k_ ≠ gb263) (.slice Ao21 t256.length co21) t256) ∧ Aside0 (Kd.V k25 25 wc w.heap.size (fun k_ => k_ ≠ gb251 ∧ k_ ≠ gb263) (.slice Ao23 t259.length co23) t259) ∧ Aside0 (wc.heap[gb251]? = some (.cells #[.int .i64 a0_0, .string a0_1, .string a0_2, (.slice A0_3 l0_3.length c0_3), (.slice A0_4 l0_4.length c0_4)] 25 (0, 0))) ∧ Aside0 (wc.heap[gb263]? = some (.cells #[.int .i64 t253, .string t254, .string t255, (.slice Ao21 t256.length co21), (.slice Ao23 t259.length co23)] 25 (0, 0))) ∧ Aside0 (Below w.heap.size w wc))
              case first =>
                have H := HC25.out
                clear HC25
                by_cases c26 : x13_1 ≥ 0
                · rw [if_pos c26] at H
                  have c26b0 : decide (0 ≤ x13_1) = true := decide_eq_true c26
                  clear c26
                  (first | rw [c26b0] | (simp only [i64_w, i32_w]; rw [c26b0]) | skip)
                  have H' := Aside0.mk H
                  clear H
                  have hnb27 := NB263_251.out
                  have hnc27 := NB251_263.out
                  have hcz28_0 : wr.cell? ⟨gb263, 0, none⟩ = some (.int .i64 t253) := (blk_cell BK263.out 0).trans rfl
                  have hcz28_1 : wr.cell? ⟨gb263, 1, none⟩ = some (.string t254) := (blk_cell BK263.out 1).trans rfl
                  have hcz28_2 : wr.cell? ⟨gb263, 2, none⟩ = some (.string t255) := (blk_cell BK263.out 2).trans rfl
                  have hcz28_3 : wr.cell? ⟨gb263, 3, none⟩ = some (.slice Ao21 t256.length co21) := (blk_cell BK263.out 3).trans rfl
                  have hcz28_4 : wr.cell? ⟨gb263, 4, none⟩ = some (.slice Ao23 t259.length co23) := (blk_cell BK263.out 4).trans rfl
                  have hfz28_0 := blk_frozen BK263.out 0
                  have hfz28_1 := blk_frozen BK263.out 1
                  have hfz28_2 := blk_frozen BK263.out 2
                  have hfz28_3 := blk_frozen BK263.out 3
                  have hfz28_4 := blk_frozen BK263.out 4
                  go_wp2
                  go_meet
                  case rel => exact ⟨_, (decide (x13_1 < (t259.length : Int))), (by first | rfl | (simp; done) | (simp [*]; done)), H', ⟨by have := HK1.out; first | omega | exact Nat.le_refl _⟩, ⟨by (with_reducible repeat (first | apply Kd.V_alloc | apply Kd.V_drewN | apply Kd.V_drew)); exact HO_264003.out⟩, ⟨by (with_reducible repeat (first | apply Kd.V_alloc | apply Kd.V_drewN | apply Kd.V_drew)); exact HO_264004.out⟩, ⟨by (with_reducible repeat (first | refine blk_drewN ?_ _ | refine blk_drew ?_ | refine blk_alloc ?_ _)); exact BK251.out⟩, ⟨by (with_reducible repeat (first | refine blk_drewN ?_ _ | refine blk_drew ?_ | refine blk_alloc ?_ _)); exact BK263.out⟩, ⟨by repeat (first | (with_reducible first | exact HB.out | apply below_alloc | apply pw_below_drewN | apply below_drew1 | refine below_set ?_ GE251.out | refine below_set ?_ GE263.out) | exact HB.out)⟩⟩
                · rw [if_neg c26] at H
                  have c26b0 : decide (0 ≤ x13_1) = false := decide_eq_false c26
                  clear c26
                  (first | rw [c26b0] | (simp only [i64_w, i32_w]; rw [c26b0]) | skip)
                  have H' := Aside0.mk H
                  clear H
                  go_wp2
                  go_meet
                  case rel => exact ⟨_, (false), (by first | rfl | (simp; done) | (simp [*]; done)), H', ⟨by have := HK1.out; first | omega | exact Nat.le_refl _⟩, ⟨by (with_reducible repeat (first | apply Kd.V_alloc | apply Kd.V_drewN | apply Kd.V_drew)); exact HO_264003.out⟩, ⟨by (with_reducible repeat (first | apply Kd.V_alloc | apply Kd.V_drewN | apply Kd.V_drew)); exact HO_264004.out⟩, ⟨by (with_reducible repeat (first | refine blk_drewN ?_ _ | refine blk_drew ?_ | refine blk_alloc ?_ _)); exact BK251.out⟩, ⟨by (with_reducible repeat (first | refine blk_drewN ?_ _ | refine blk_drew ?_ | refine blk_alloc ?_ _)); exact BK263.out⟩, ⟨by repeat (first | (with_reducible first | exact HB.out | apply below_alloc | apply pw_below_drewN | apply below_drew1 | refine below_set ?_ GE251.out | refine below_set ?_ GE263.out) | exact HB.out)⟩⟩
              case rest =>
                clear HC25
                try clear c1
                try clear c2
                try clear p2
                try clear q2
                try clear hx2
                try clear c5
                try clear c5b0
                try clear c5b1
                try clear c5b2
                try clear p6
                try clear c7
                try clear c8
                try clear c8b0
                try clear c8b1
                try clear c9
                try clear c9b0
                try clear c9b1
                try clear c11
                try clear c11b0
                try clear c23
                try clear c26
                try clear c26b0
                try clear p26
                try clear q26
                try clear hx26
                try clear c27
                try clear hcz28_0
                try clear hcz28_1
                try clear hcz28_2
                try clear hcz28_3
                try clear hcz28_4
                try clear hfz28_0
                try clear hfz28_1
                try clear hfz28_2
                try clear hfz28_3
                try clear hfz28_4
                try clear hx264_0
                try clear p2
                try clear p264
                try clear p6
                try clear q2
                try clear q264
                obtain ⟨kq, x42_24, rfl, HA, HJ24, HO_264003, HO_264004, BK251, BK263, HB⟩ := hcut
                cases kq with
                | zero => exact absurd HA.out (by simp [spec_Beside29.j1])
                | succ kj24 =>
                  have H := HA.out
                  clear HA
                  simp only [spec_Beside29.j1] at H
                  by_cases c29 : x42_24 = true
                  · subst c29
                    have H1 : (if 0 ≤ x13_1 then (if x13_1 < (t259.length : Int) then ((spec_among29.f ((rd_T25 t259 x13_1).f0) ((rd_T25 t259 x13_1).f1) ((rd_T25 t259 x13_1).f2) ((rd_T25 t259 x13_1).f3) ((rd_T25 t259 x13_1).f4) a3).bind fun t266 => (if t266 = true then (if 0 ≤ ji7 then (if ji7 ≤ (l1.length : Int) then ((spec_Under29.f (l1.take (ji7 : Int).toNat) x13_1).bind fun t268 => (some (t268, true))) else (none)) else (none)) else (spec_Beside29.l0 kj24 l1 a2 a3 ji7 (wrap64 (x13_1 + a2)) t253 t254 t255 t256 t259))) else (none)) else (none)) = some (r1, r2) := by rw [if_pos rfl] at H; exact H
                    clear H
                    have H := H1
                    clear H1
                    by_cases c30 : 0 ≤ x13_1
                    · rw [if_pos c30] at H
                      have c30b0 : decide (0 ≤ x13_1) = true := decide_eq_true c30
                      clear c30
                      by_cases c31 : x13_1 < (t259.length : Int)
                      · rw [if_pos c31] at H
                        have c31b0 : decide (x13_1 < (t259.length : Int)) = true := decide_eq_true c31
                        clear c31
                        replace H := Option.bind_eq_some_iff.mp H
                        obtain ⟨t266, A320, H⟩ := H
                        replace H : (if t266 = true then (if 0 ≤ ji7 then (if ji7 ≤ (l1.length : Int) then ((spec_Under29.f (l1.take (ji7 : Int).toNat) x13_1).bind fun t268 => (some (t268, true))) else (none)) else (none)) else (spec_Beside29.l0 kj24 l1 a2 a3 ji7 (wrap64 (x13_1 + a2)) t253 t254 t255 t256 t259)) = some (r1, r2) := H
                        have A32 := Aside0.mk A320
                        clear A320
                        by_cases c33 : t266 = true
                        · subst c33
                          have H1 : (if 0 ≤ ji7 then (if ji7 ≤ (l1.length : Int) then ((spec_Under29.f (l1.take (ji7 : Int).toNat) x13_1).bind fun t268 => (some (t268, true))) else (none)) else (none)) = some (r1, r2) := by rw [if_pos rfl] at H; exact H
                          clear H
                          have H := H1
                          clear H1
                          by_cases c34 : 0 ≤ ji7
                          · rw [if_pos c34] at H
                            have c34b0 := eq_true c34
                            have c34b1 : decide (0 ≤ ji7) = true := decide_eq_true c34
                            clear c34
                            by_cases c35 : ji7 ≤ (l1.length : Int)
                            · rw [if_pos c35] at H
                              have c35b0 := eq_true c35
                              have c35b1 : decide (ji7 ≤ (l1.length : Int)) = true := decide_eq_true c35
                              clear c35
                              replace H := Option.bind_eq_some_iff.mp H
                              obtain ⟨t268, A360, H⟩ := H
                              replace H : (some (t268, true)) = some (r1, r2) := H
                              have A36 := Aside0.mk A360
                              clear A360
                              simp only [Option.some.injEq, Prod.mk.injEq] at H
                              obtain ⟨rfl, rfl⟩ := H
                              have hnb37 := NB263_251.out
                              have hnc37 := NB251_263.out
                              have hcz38_0 : wc.cell? ⟨gb263, 0, none⟩ = some (.int .i64 t253) := (blk_cell BK263.out 0).trans rfl
                              have hcz38_1 : wc.cell? ⟨gb263, 1, none⟩ = some (.string t254) := (blk_cell BK263.out 1).trans rfl
                              have hcz38_2 : wc.cell? ⟨gb263, 2, none⟩ = some (.string t255) := (blk_cell BK263.out 2).trans rfl
                              have hcz38_3 : wc.cell? ⟨gb263, 3, none⟩ = some (.slice Ao21 t256.length co21) := (blk_cell BK263.out 3).trans rfl
                              have hcz38_4 : wc.cell? ⟨gb263, 4, none⟩ = some (.slice Ao23 t259.length co23) := (blk_cell BK263.out 4).trans rfl
                              have hfz38_0 := blk_frozen BK263.out 0
                              have hfz38_1 := blk_frozen BK263.out 1
                              have hfz38_2 := blk_frozen BK263.out 2
                              have hfz38_3 := blk_frozen BK263.out 3
                              have hfz38_4 := blk_frozen BK263.out 4
                              have p265 : 0 ≤ (x13_1 : Int) := of_decide_eq_true (by first | (with_reducible assumption) | assumption)
                              have q265 : x13_1 < (t259.length : Int) := of_decide_eq_true (by first | (with_reducible assumption) | assumption)
                              obtain ⟨ad265, A265_3, c265_3, A265_4, c265_4, e265, hx265_0, hx265_1, hx265_2, hx265_3, hx265_4, hl265_3, hi265_3, hl265_4, hi265_4⟩ := at_T25 (Kd.V_reads' HO_264004.out).2.2 x13_1 p265 q265
                              cases e265
                              obtain ⟨ce265, hce265, hMe265, hcc265⟩ := Kd.V_get HO_264004.out z25 x13_1 p265 (by first | exact q265 | exact of_decide_eq_true (by first | (with_reducible assumption) | assumption) | (have e_ := (Kd.V_reads' HO_264004.out).1; omega))
                              obtain ⟨ua265_3, uc265_3, ua265_4, uc265_4, rfl, ul265_3, ge265_3, ul265_4, ge265_4⟩ := k25_openF hMe265
                              have hv265_3 := hcc265 3 _ rfl
                              rw [add_field _ _ 3 (by omega)] at hv265_3
                              replace hv265_3 := Option.some.inj (hv265_3.symm.trans hx265_3)
                              injection hv265_3 with hva_ hvn_ hvc_
                              rw [hva_] at ge265_3
                              rw [hvc_] at ul265_3
                              have HL265_3 := Aside0.mk (show Kd.V k34 34 _ w.heap.size _ _ ((rd_T25 t259 x13_1).f3) from Kd.V_mk ul265_3 ge265_3)
                              clear hva_ hvn_ hvc_ ge265_3 ul265_3
                              have hv265_4 := hcc265 4 _ rfl
                              rw [add_field _ _ 4 (by omega)] at hv265_4
                              replace hv265_4 := Option.some.inj (hv265_4.symm.trans hx265_4)
                              injection hv265_4 with hva_ hvn_ hvc_
                              rw [hva_] at ge265_4
                              rw [hvc_] at ul265_4
                              have HL265_4 := Aside0.mk (show Kd.V k25 25 _ w.heap.size _ _ ((rd_T25 t259 x13_1).f4) from Kd.V_mk ul265_4 ge265_4)
                              clear hva_ hvn_ hvc_ ge265_4 ul265_4
                              clear hcc265 hce265
                              have HR265_3 := Aside0.mk hi265_3
                              have HC265_3 := Aside0.mk hl265_3
                              clear hi265_3 hl265_3
                              have HR265_4 := Aside0.mk hi265_4
                              have HC265_4 := Aside0.mk hl265_4
                              clear hi265_4 hl265_4
                              replace p265 := eq_true p265
                              replace q265 := eq_true q265
                              go_wp2_with (first | ((with_reducible refine gate_callee (f := 108) rfl ?_); refine goesL_ (some 52) rfl rfl Try.func108 (by kernel_rfl) rfl #[.agg #[.int .i64 ((rd_T25 t259 x13_1).f0), .string ((rd_T25 t259 x13_1).f1), .string ((rd_T25 t259 x13_1).f2), .slice A265_3 ((rd_T25 t259 x13_1).f3).length c265_3, .slice A265_4 ((rd_T25 t259 x13_1).f4).length c265_4], .bool a3] rfl (by (try simp only [List.map_toArray, List.map_cons, List.map_nil]); first | done | rfl | (simp only [List.length_drop, List.length_take]; rfl)) ?_; (with_reducible refine (spec_among29.calls ((rd_T25 t259 x13_1).f0) ((rd_T25 t259 x13_1).f1) ((rd_T25 t259 x13_1).f2) _ _ ((rd_T25 t259 x13_1).f3) _ _ ((rd_T25 t259 x13_1).f4) a3 true _ ?side1 ?side2 ?side3 ?side4 A32.out).mono ?_); (case side1 => repeat (first | exact (by repeat (first | (with_reducible exact HR265_3.out) | (with_reducible refine Kd.C_alloc ?_ _) | (with_reducible refine Kd.C_drewN ?_ _) | (with_reducible refine Kd.C_drew ?_) | exact HR265_3.out)) | (with_reducible refine Kd.C_alloc ?_ _) | (with_reducible refine Kd.C_drewN ?_ _) | (with_reducible refine Kd.C_drew ?_))); (case side2 => exact HC265_3.out); (case side3 => repeat (first | exact (by repeat (first | (with_reducible exact HR265_4.out) | (with_reducible refine Kd.C_alloc ?_ _) | (with_reducible refine Kd.C_drewN ?_ _) | (with_reducible refine Kd.C_drew ?_) | exact HR265_4.out)) | (with_reducible refine Kd.C_alloc ?_ _) | (with_reducible refine Kd.C_drewN ?_ _) | (with_reducible refine Kd.C_drew ?_))); (case side4 => exact HC265_4.out); rintro e w39 ⟨rfl, hb⟩; refine ⟨_, rfl, ?_⟩; have n0_ := Aside0.mk (Kd.V_below (by (with_reducible repeat (first | apply Kd.V_alloc | apply Kd.V_drewN | apply Kd.V_drew)); exact HO_264003.out) hb); have n1_ := Aside0.mk (Kd.V_below (by (with_reducible repeat (first | apply Kd.V_alloc | apply Kd.V_drewN | apply Kd.V_drew)); exact HO_264004.out) hb); have n2_ := Aside0.mk (Kd.V_below (by (with_reducible repeat (first | apply Kd.V_alloc | apply Kd.V_drewN | apply Kd.V_drew)); exact HL265_3.out) hb); have n3_ := Aside0.mk (Kd.V_below (by (with_reducible repeat (first | apply Kd.V_alloc | apply Kd.V_drewN | apply Kd.V_drew)); exact HL265_4.out) hb); have n4_ := Aside0.mk (blk_below (g := gb251) (o := .cells #[.int .i64 a0_0, .string a0_1, .string a0_2, .slice A0_3 l0_3.length c0_3, .slice A0_4 l0_4.length c0_4] 25 (0, 0)) (by (with_reducible repeat (first | refine blk_drewN ?_ _ | refine blk_drew ?_ | refine blk_alloc ?_ _)); exact BK251.out) hb); have n5_ := Aside0.mk (blk_below (g := gb263) (o := .cells #[.int .i64 t253, .string t254, .string t255, .slice Ao21 t256.length co21, .slice (some ad265) t259.length co23] 25 (0, 0)) (by (with_reducible repeat (first | refine blk_drewN ?_ _ | refine blk_drew ?_ | refine blk_alloc ?_ _)); exact BK263.out) hb); have n6_ := Aside0.mk (Kd.C_below (by repeat (first | (with_reducible exact HR265_3.out) | (with_reducible refine Kd.C_alloc ?_ _) | (with_reducible refine Kd.C_drewN ?_ _) | (with_reducible refine Kd.C_drew ?_) | exact HR265_3.out)) hb); have n7_ := Aside0.mk (Kd.C_below (by repeat (first | (with_reducible exact HR265_4.out) | (with_reducible refine Kd.C_alloc ?_ _) | (with_reducible refine Kd.C_drewN ?_ _) | (with_reducible refine Kd.C_drew ?_) | exact HR265_4.out)) hb); have n8_ := Aside0.mk (below_step (by repeat (first | (with_reducible first | exact HB.out | apply below_alloc | apply pw_below_drewN | apply below_drew1 | refine below_set ?_ GE251.out | refine below_set ?_ GE263.out) | exact HB.out)) hb); clear HO_264003; clear HO_264004; clear HL265_3; clear HL265_4; clear BK251; clear BK263; clear HR265_3; clear HR265_4; clear HB; have HO_264003 := n0_; have HO_264004 := n1_; have HL265_3 := n2_; have HL265_4 := n3_; have BK251 := n4_; have BK263 := n5_; have HR265_3 := n6_; have HR265_4 := n7_; have HB := n8_; clear n0_ n1_ n2_ n3_ n4_ n5_ n6_ n7_ n8_; (try clear hb); (try clear hb2); (try clear hk); (try clear hi); obtain ⟨i040, hi040, _, hsz40, _⟩ := info_parts info3; obtain ⟨hcut40, hA40, hC40⟩ := print_take_of (P := Try.prog) (Value.int .i64) 0 26 3 .i64 Try.underlying26 hi040 hsz40 (some ad264) c1 l1 ji7 (of_decide_eq_true (by first | (with_reducible assumption) | assumption)) (of_decide_eq_true (by first | (with_reducible assumption) | assumption)) HC1.out; have HR267 := Aside0.mk (Kd.C_of_reads (h1 := fun _ => rfl) (hA40 _ (Kd.reads_of_C HR1.out))); have HC267 := Aside0.mk hC40; clear hA40 hC40 hi040 hsz40) | ((with_reducible refine gate_callee (f := 24) rfl ?_); refine goesL_ (some 57) rfl rfl Try.func24 (by kernel_rfl) rfl #[.slice (some ad264) (l1.take (ji7 : Int).toNat).length c1, .int .i64 x13_1] rfl (by (try simp only [List.map_toArray, List.map_cons, List.map_nil]); first | done | (rw [show (l1.take (ji7 : Int).toNat).length = ji7.toNat from (by rw [List.length_take]; have h_ : (ji7 : Int) ≤ (l1.length : Int) := of_decide_eq_true (by first | (with_reducible assumption) | assumption); omega)] <;> rfl) | (simp only [hji7]; rfl) | rfl | (simp only [List.length_drop, List.length_take]; rfl)) ?_; (with_reducible refine (spec_Under29.calls _ _ (l1.take (ji7 : Int).toNat) x13_1 t268 _ ?side1 ?side2 A36.out).mono ?_); (case side1 => repeat (first | exact (Kd.C_below HR267.out HB.out) | (with_reducible refine Kd.C_alloc ?_ _) | (with_reducible refine Kd.C_drewN ?_ _) | (with_reducible refine Kd.C_drew ?_))); (case side2 => exact HC267.out); rintro e w41 ⟨v269, rfl, ho0, hb⟩; refine ⟨_, rfl, ?_⟩; have n0_ := Aside0.mk (Kd.V_elder' (by (with_reducible repeat (first | apply Kd.V_alloc | apply Kd.V_drewN | apply Kd.V_drew)); exact HO_264003.out) (Kd.R_base ho0) hb); have n1_ := Aside0.mk (Kd.V_elder' (by (with_reducible repeat (first | apply Kd.V_alloc | apply Kd.V_drewN | apply Kd.V_drew)); exact HO_264004.out) (Kd.R_base ho0) hb); have n2_ := Aside0.mk (Kd.V_elder' (by (with_reducible repeat (first | apply Kd.V_alloc | apply Kd.V_drewN | apply Kd.V_drew)); exact HL265_3.out) (Kd.R_base ho0) hb); have n3_ := Aside0.mk (Kd.V_elder' (by (with_reducible repeat (first | apply Kd.V_alloc | apply Kd.V_drewN | apply Kd.V_drew)); exact HL265_4.out) (Kd.R_base ho0) hb); have n4_ := Aside0.mk (Kd.R_lower ho0 (below_size (by repeat (first | (with_reducible first | exact HB.out | apply below_alloc | apply pw_below_drewN | apply below_drew1 | refine below_set ?_ GE251.out | refine below_set ?_ GE263.out) | exact HB.out)))); have n5_ := Aside0.mk (blk_below (g := gb251) (o := .cells #[.int .i64 a0_0, .string a0_1, .string a0_2, .slice A0_3 l0_3.length c0_3, .slice A0_4 l0_4.length c0_4] 25 (0, 0)) (by (with_reducible repeat (first | refine blk_drewN ?_ _ | refine blk_drew ?_ | refine blk_alloc ?_ _)); exact BK251.out) hb); have n6_ := Aside0.mk (blk_below (g := gb263) (o := .cells #[.int .i64 t253, .string t254, .string t255, .slice Ao21 t256.length co21, .slice (some ad265) t259.length co23] 25 (0, 0)) (by (with_reducible repeat (first | refine blk_drewN ?_ _ | refine blk_drew ?_ | refine blk_alloc ?_ _)); exact BK263.out) hb); have n7_ := Aside0.mk (Kd.C_below (by repeat (first | (with_reducible exact HR265_3.out) | (with_reducible refine Kd.C_alloc ?_ _) | (with_reducible refine Kd.C_drewN ?_ _) | (with_reducible refine Kd.C_drew ?_) | exact HR265_3.out)) hb); have n8_ := Aside0.mk (Kd.C_below (by repeat (first | (with_reducible exact HR265_4.out) | (with_reducible refine Kd.C_alloc ?_ _) | (with_reducible refine Kd.C_drewN ?_ _) | (with_reducible refine Kd.C_drew ?_) | exact HR265_4.out)) hb); have n9_ := Aside0.mk (below_step (by repeat (first | (with_reducible first | exact HB.out | apply below_alloc | apply pw_below_drewN | apply below_drew1 | refine below_set ?_ GE251.out | refine below_set ?_ GE263.out) | exact HB.out)) hb); clear HO_264003; clear HO_264004; clear HL265_3; clear HL265_4; clear BK251; clear BK263; clear HR265_3; clear HR265_4; clear HB; have HO_264003 := n0_; have HO_264004 := n1_; have HL265_3 := n2_; have HL265_4 := n3_; have HO270 := n4_; have BK251 := n5_; have BK263 := n6_; have HR265_3 := n7_; have HR265_4 := n8_; have HB := n9_; clear n0_ n1_ n2_ n3_ n4_ n5_ n6_ n7_ n8_ n9_; (try clear hb); (try clear hb2); (try clear hk); (try clear hi); (try clear ho0)))
                              go_ret2
                              exact ⟨_, by first | rfl | (simp [errW_none, errW_some] <;> rfl) | (simp only [← hji7]; first | rfl | (simp [errW_none, errW_some] <;> rfl)) | (simp [*, errW_none, errW_some] <;> rfl), by (with_reducible repeat (first | apply Kd.R_alloc | apply Kd.R_drewN | apply Kd.R_drew)); exact HO270.out, by repeat (first | (with_reducible first | exact HB.out | apply below_alloc | apply pw_below_drewN | apply below_drew1 | refine below_set ?_ GE251.out | refine below_set ?_ GE263.out) | exact HB.out)⟩
                            · rw [if_neg c35] at H
                              exact absurd H (by simp)
                          · rw [if_neg c34] at H
                            exact absurd H (by simp)
                        · replace c33 := Bool.eq_false_iff.mpr c33
                          subst c33
                          have H1 : (spec_Beside29.l0 kj24 l1 a2 a3 ji7 (wrap64 (x13_1 + a2)) t253 t254 t255 t256 t259) = some (r1, r2) := by rw [if_neg (show ¬ (false = true) by decide)] at H; exact H
                          clear H
                          have H := H1
                          clear H1
                          have H' := Aside0.mk H
                          clear H
                          have hnb42 := NB263_251.out
                          have hnc42 := NB251_263.out
                          have hcz43_0 : wc.cell? ⟨gb263, 0, none⟩ = some (.int .i64 t253) := (blk_cell BK263.out 0).trans rfl
                          have hcz43_1 : wc.cell? ⟨gb263, 1, none⟩ = some (.string t254) := (blk_cell BK263.out 1).trans rfl
                          have hcz43_2 : wc.cell? ⟨gb263, 2, none⟩ = some (.string t255) := (blk_cell BK263.out 2).trans rfl
                          have hcz43_3 : wc.cell? ⟨gb263, 3, none⟩ = some (.slice Ao21 t256.length co21) := (blk_cell BK263.out 3).trans rfl
                          have hcz43_4 : wc.cell? ⟨gb263, 4, none⟩ = some (.slice Ao23 t259.length co23) := (blk_cell BK263.out 4).trans rfl
                          have hfz43_0 := blk_frozen BK263.out 0
                          have hfz43_1 := blk_frozen BK263.out 1
                          have hfz43_2 := blk_frozen BK263.out 2
                          have hfz43_3 := blk_frozen BK263.out 3
                          have hfz43_4 := blk_frozen BK263.out 4
                          have p265 : 0 ≤ (x13_1 : Int) := of_decide_eq_true (by first | (with_reducible assumption) | assumption)
                          have q265 : x13_1 < (t259.length : Int) := of_decide_eq_true (by first | (with_reducible assumption) | assumption)
                          obtain ⟨ad265, A265_3, c265_3, A265_4, c265_4, e265, hx265_0, hx265_1, hx265_2, hx265_3, hx265_4, hl265_3, hi265_3, hl265_4, hi265_4⟩ := at_T25 (Kd.V_reads' HO_264004.out).2.2 x13_1 p265 q265
                          cases e265
                          obtain ⟨ce265, hce265, hMe265, hcc265⟩ := Kd.V_get HO_264004.out z25 x13_1 p265 (by first | exact q265 | exact of_decide_eq_true (by first | (with_reducible assumption) | assumption) | (have e_ := (Kd.V_reads' HO_264004.out).1; omega))
                          obtain ⟨ua265_3, uc265_3, ua265_4, uc265_4, rfl, ul265_3, ge265_3, ul265_4, ge265_4⟩ := k25_openF hMe265
                          have hv265_3 := hcc265 3 _ rfl
                          rw [add_field _ _ 3 (by omega)] at hv265_3
                          replace hv265_3 := Option.some.inj (hv265_3.symm.trans hx265_3)
                          injection hv265_3 with hva_ hvn_ hvc_
                          rw [hva_] at ge265_3
                          rw [hvc_] at ul265_3
                          have HL265_3 := Aside0.mk (show Kd.V k34 34 _ w.heap.size _ _ ((rd_T25 t259 x13_1).f3) from Kd.V_mk ul265_3 ge265_3)
                          clear hva_ hvn_ hvc_ ge265_3 ul265_3
                          have hv265_4 := hcc265 4 _ rfl
                          rw [add_field _ _ 4 (by omega)] at hv265_4
                          replace hv265_4 := Option.some.inj (hv265_4.symm.trans hx265_4)
                          injection hv265_4 with hva_ hvn_ hvc_
                          rw [hva_] at ge265_4
                          rw [hvc_] at ul265_4
                          have HL265_4 := Aside0.mk (show Kd.V k25 25 _ w.heap.size _ _ ((rd_T25 t259 x13_1).f4) from Kd.V_mk ul265_4 ge265_4)
                          clear hva_ hvn_ hvc_ ge265_4 ul265_4
                          clear hcc265 hce265
                          have HR265_3 := Aside0.mk hi265_3
                          have HC265_3 := Aside0.mk hl265_3
                          clear hi265_3 hl265_3
                          have HR265_4 := Aside0.mk hi265_4
                          have HC265_4 := Aside0.mk hl265_4
                          clear hi265_4 hl265_4
                          replace p265 := eq_true p265
                          replace q265 := eq_true q265
                          go_wp2_with (first | ((with_reducible refine gate_callee (f := 108) rfl ?_); refine goesL_ (some 52) rfl rfl Try.func108 (by kernel_rfl) rfl #[.agg #[.int .i64 ((rd_T25 t259 x13_1).f0), .string ((rd_T25 t259 x13_1).f1), .string ((rd_T25 t259 x13_1).f2), .slice A265_3 ((rd_T25 t259 x13_1).f3).length c265_3, .slice A265_4 ((rd_T25 t259 x13_1).f4).length c265_4], .bool a3] rfl (by (try simp only [List.map_toArray, List.map_cons, List.map_nil]); first | done | rfl | (simp only [List.length_drop, List.length_take]; rfl)) ?_; (with_reducible refine (spec_among29.calls ((rd_T25 t259 x13_1).f0) ((rd_T25 t259 x13_1).f1) ((rd_T25 t259 x13_1).f2) _ _ ((rd_T25 t259 x13_1).f3) _ _ ((rd_T25 t259 x13_1).f4) a3 false _ ?side1 ?side2 ?side3 ?side4 A32.out).mono ?_); (case side1 => repeat (first | exact (by repeat (first | (with_reducible exact HR265_3.out) | (with_reducible refine Kd.C_alloc ?_ _) | (with_reducible refine Kd.C_drewN ?_ _) | (with_reducible refine Kd.C_drew ?_) | exact HR265_3.out)) | (with_reducible refine Kd.C_alloc ?_ _) | (with_reducible refine Kd.C_drewN ?_ _) | (with_reducible refine Kd.C_drew ?_))); (case side2 => exact HC265_3.out); (case side3 => repeat (first | exact (by repeat (first | (with_reducible exact HR265_4.out) | (with_reducible refine Kd.C_alloc ?_ _) | (with_reducible refine Kd.C_drewN ?_ _) | (with_reducible refine Kd.C_drew ?_) | exact HR265_4.out)) | (with_reducible refine Kd.C_alloc ?_ _) | (with_reducible refine Kd.C_drewN ?_ _) | (with_reducible refine Kd.C_drew ?_))); (case side4 => exact HC265_4.out); rintro e w44 ⟨rfl, hb⟩; refine ⟨_, rfl, ?_⟩; have n0_ := Aside0.mk (Kd.V_below (by (with_reducible repeat (first | apply Kd.V_alloc | apply Kd.V_drewN | apply Kd.V_drew)); exact HO_264003.out) hb); have n1_ := Aside0.mk (Kd.V_below (by (with_reducible repeat (first | apply Kd.V_alloc | apply Kd.V_drewN | apply Kd.V_drew)); exact HO_264004.out) hb); have n2_ := Aside0.mk (Kd.V_below (by (with_reducible repeat (first | apply Kd.V_alloc | apply Kd.V_drewN | apply Kd.V_drew)); exact HL265_3.out) hb); have n3_ := Aside0.mk (Kd.V_below (by (with_reducible repeat (first | apply Kd.V_alloc | apply Kd.V_drewN | apply Kd.V_drew)); exact HL265_4.out) hb); have n4_ := Aside0.mk (blk_below (g := gb251) (o := .cells #[.int .i64 a0_0, .string a0_1, .string a0_2, .slice A0_3 l0_3.length c0_3, .slice A0_4 l0_4.length c0_4] 25 (0, 0)) (by (with_reducible repeat (first | refine blk_drewN ?_ _ | refine blk_drew ?_ | refine blk_alloc ?_ _)); exact BK251.out) hb); have n5_ := Aside0.mk (blk_below (g := gb263) (o := .cells #[.int .i64 t253, .string t254, .string t255, .slice Ao21 t256.length co21, .slice (some ad265) t259.length co23] 25 (0, 0)) (by (with_reducible repeat (first | refine blk_drewN ?_ _ | refine blk_drew ?_ | refine blk_alloc ?_ _)); exact BK263.out) hb); have n6_ := Aside0.mk (Kd.C_below (by repeat (first | (with_reducible exact HR265_3.out) | (with_reducible refine Kd.C_alloc ?_ _) | (with_reducible refine Kd.C_drewN ?_ _) | (with_reducible refine Kd.C_drew ?_) | exact HR265_3.out)) hb); have n7_ := Aside0.mk (Kd.C_below (by repeat (first | (with_reducible exact HR265_4.out) | (with_reducible refine Kd.C_alloc ?_ _) | (with_reducible refine Kd.C_drewN ?_ _) | (with_reducible refine Kd.C_drew ?_) | exact HR265_4.out)) hb); have n8_ := Aside0.mk (below_step (by repeat (first | (with_reducible first | exact HB.out | apply below_alloc | apply pw_below_drewN | apply below_drew1 | refine below_set ?_ GE251.out | refine below_set ?_ GE263.out) | exact HB.out)) hb); clear HO_264003; clear HO_264004; clear HL265_3; clear HL265_4; clear BK251; clear BK263; clear HR265_3; clear HR265_4; clear HB; have HO_264003 := n0_; have HO_264004 := n1_; have HL265_3 := n2_; have HL265_4 := n3_; have BK251 := n4_; have BK263 := n5_; have HR265_3 := n6_; have HR265_4 := n7_; have HB := n8_; clear n0_ n1_ n2_ n3_ n4_ n5_ n6_ n7_ n8_; (try clear hb); (try clear hb2); (try clear hk); (try clear hi)))
                          go_roundg kj24
                          case measure => have := HK1.out; have := HJ24.out; omega
                          case rel => exact ⟨(wrap64 (x13_1 + a2)), (by first | rfl | (simp; done) | (simp [*]; done)), H', ⟨by have := HK1.out; have := HJ24.out; omega⟩, ⟨by (with_reducible repeat (first | apply Kd.V_alloc | apply Kd.V_drewN | apply Kd.V_drew)); exact HO_264003.out⟩, ⟨by (with_reducible repeat (first | apply Kd.V_alloc | apply Kd.V_drewN | apply Kd.V_drew)); exact HO_264004.out⟩, ⟨by (with_reducible repeat (first | refine blk_drewN ?_ _ | refine blk_drew ?_ | refine blk_alloc ?_ _)); exact BK251.out⟩, ⟨by (with_reducible repeat (first | refine blk_drewN ?_ _ | refine blk_drew ?_ | refine blk_alloc ?_ _)); exact BK263.out⟩, ⟨by repeat (first | (with_reducible first | exact HB.out | apply below_alloc | apply pw_below_drewN | apply below_drew1 | refine below_set ?_ GE251.out | refine below_set ?_ GE263.out) | exact HB.out)⟩⟩
                      · rw [if_neg c31] at H
                        exact absurd H (by simp)
                    · rw [if_neg c30] at H
                      exact absurd H (by simp)
                  · replace c29 := Bool.eq_false_iff.mpr c29
                    subst c29
                    have H1 : (some (([] : List Int), false)) = some (r1, r2) := by rw [if_neg (show ¬ (false = true) by decide)] at H; exact H
                    clear H
                    have H := H1
                    clear H1
                    simp only [Option.some.injEq, Prod.mk.injEq] at H
                    obtain ⟨rfl, rfl⟩ := H
                    go_wp2
                    go_ret2
                    exact ⟨_, by first | rfl | (simp [errW_none, errW_some] <;> rfl) | (simp only [← hji7]; first | rfl | (simp [errW_none, errW_some] <;> rfl)) | (simp [*, errW_none, errW_some] <;> rfl), by first | exact Kd.R_nil _ _ _ _ _ | exact Kd.N_nil _ _ _ _ _ | exact Kd.V_nil _ _ _ _ _ | exact Kd.Q_nil _ _ _ _ _ | exact Kd.S_nil _ _ _ _ _, by repeat (first | (with_reducible first | exact HB.out | apply below_alloc | apply pw_below_drewN | apply below_drew1 | refine below_set ?_ GE251.out | refine below_set ?_ GE263.out) | exact HB.out)⟩
        · rw [if_neg c11] at H
          exact absurd H (by simp)
      · rw [if_neg c9] at H
        exact absurd H (by simp)
    · rw [if_neg c8] at H
      exact absurd H (by simp)

end Go.Proofs.Ytlallihdiffheaa.GT
