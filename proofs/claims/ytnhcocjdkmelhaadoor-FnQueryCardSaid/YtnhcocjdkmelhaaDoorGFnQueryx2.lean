-- made by a program of this session, after the kit's print
import Derived.Test.YtnhcocjdkmelhaaDoorGFnQueryx0
import Derived.Test.YtnhcocjdkmelhaaDoorGFnQueryx1
import Derived.Test.YtnhcocjdkmelhaaDoorGivFnQuery
namespace Go.Proofs.YtnhcocjdkmelhaaDoor.GFnQuery
open Go.RowKit Go.Proofs.YtnhcocjdkmelhaaDoorW.PrintWords Go.Proofs.YtnhcocjdkmelhaaDoorW.PrintLast Go.Proofs.YtnhcocjdkmelhaaDoorW.PrintMore
attribute [local go_sem] max2_int min2_int max_two min_two max_three min_three max_four min_four   -- for this text's walks alone
set_option linter.unusedVariables false
set_option linter.unusedSimpArgs false

/-! ### converter_ParseAndEncodeQuery: function 29 -/
def converter_ParseAndEncodeQuery.l0 : Nat → List ByteArray → List ByteArray → Int → Int → Option (ByteArray)
  | 0, _, _, _, _ => none
  | k + 1, x4, x15, x16, x17 => if x17 < x16 then (if 0 ≤ x17 then (if x17 < (x15.length : Int) then ((converter_zzSplitTwo.f k (rdOf ByteArray.empty x15 x17) 61).bind fun t143 => (if (t143.length : Int) = 1 then (if 0 < (t143.length : Int) then ((converter_decodeAndEncode.f (rdOf ByteArray.empty t143 0)).bind fun t147 => (if x17 < (x4.length : Int) then (converter_ParseAndEncodeQuery.l0 k (x4.set (x17 : Int).toNat t147) x15 x16 (wrap64 (x17 + 1))) else (none))) else (none)) else (if 1 < (t143.length : Int) then (if (rdOf ByteArray.empty t143 1).toList = ([] : List UInt8) then (if 0 < (t143.length : Int) then ((converter_decodeAndEncode.f (rdOf ByteArray.empty t143 0)).bind fun t151 => (if t151.size + 1 ≤ 9223372036854775807 then (if x17 < (x4.length : Int) then (converter_ParseAndEncodeQuery.l0 k (x4.set (x17 : Int).toNat (t151 ++ (⟨#[61]⟩ : ByteArray))) x15 x16 (wrap64 (x17 + 1))) else (none)) else (none))) else (none)) else (if 0 < (t143.length : Int) then ((converter_decodeAndEncode.f (rdOf ByteArray.empty t143 0)).bind fun t154 => (if t154.size + 1 ≤ 9223372036854775807 then ((converter_decodeAndEncode.f (rdOf ByteArray.empty t143 1)).bind fun t156 => (if (t154 ++ (⟨#[61]⟩ : ByteArray)).size + t156.size ≤ 9223372036854775807 then (if x17 < (x4.length : Int) then (converter_ParseAndEncodeQuery.l0 k (x4.set (x17 : Int).toNat ((t154 ++ (⟨#[61]⟩ : ByteArray)) ++ t156)) x15 x16 (wrap64 (x17 + 1))) else (none)) else (none))) else (none))) else (none))) else (none)))) else (none)) else (none)) else ((strings_Join.f x4 (⟨#[38]⟩ : ByteArray)).bind fun t141 => (some t141))
def converter_ParseAndEncodeQuery.f (k : Nat) (a0 : ByteArray) : Option (ByteArray) := if a0.toList = ([] : List UInt8) then (some (⟨#[]⟩ : ByteArray)) else ((converter_zzSplit.f a0 (⟨#[38]⟩ : ByteArray)).bind fun t135 => (if 0 ≤ (t135.length : Int) then (if ((t135.length : Int) : Int).toNat ≤ 17592186044416 then (converter_ParseAndEncodeQuery.l0 k (List.replicate ((t135.length : Int) : Int).toNat (⟨#[]⟩ : ByteArray)) t135 (t135.length : Int) 0) else (none)) else (none)))
theorem converter_ParseAndEncodeQuery.mono_l : ∀ k, (∀ y0 y1 y2 y3, LeO (converter_ParseAndEncodeQuery.l0 k y0 y1 y2 y3) (converter_ParseAndEncodeQuery.l0 (k + 1) y0 y1 y2 y3))
  | 0 => fun _ _ _ _ r h => by simp [converter_ParseAndEncodeQuery.l0] at h
  | k + 1 => by
    have ih0 := converter_ParseAndEncodeQuery.mono_l k
    · intro y0 y1 y2 y3
      unfold converter_ParseAndEncodeQuery.l0
      repeat' first
      | (with_reducible exact ih0 _ _ _ _)
      | (with_reducible exact converter_zzSplitTwo.mono _ _ _)
      | (with_reducible exact LeO.refl _)
      | (with_reducible exact LeO.none _)
      | (with_reducible refine LeO.ite ?_ ?_)
      | (with_reducible refine LeO.bind ?_ (fun _ => ?_))
      | exact ih0 _ _ _ _
      | exact converter_zzSplitTwo.mono _ _ _
      | exact LeO.none _
      | refine LeO.ite ?_ ?_
      | refine LeO.bind ?_ (fun _ => ?_)
theorem converter_ParseAndEncodeQuery.mono : ∀ a0 k, LeO (converter_ParseAndEncodeQuery.f k a0) (converter_ParseAndEncodeQuery.f (k + 1) a0) := by
  intro a0 k
  have ih0 := converter_ParseAndEncodeQuery.mono_l k
  unfold converter_ParseAndEncodeQuery.f
  repeat' first
      | (with_reducible exact ih0 _ _ _ _)
      | (with_reducible exact converter_zzSplitTwo.mono _ _ _)
      | (with_reducible exact LeO.refl _)
      | (with_reducible exact LeO.none _)
      | (with_reducible refine LeO.ite ?_ ?_)
      | (with_reducible refine LeO.bind ?_ (fun _ => ?_))
      | exact ih0 _ _ _ _
      | exact converter_zzSplitTwo.mono _ _ _
      | exact LeO.none _
      | refine LeO.ite ?_ ?_
      | refine LeO.bind ?_ (fun _ => ?_)
def converter_ParseAndEncodeQuery.T13 : Bool × List (List Nat × List Nat) := (true, [([], []), ([], []), ([], []), ([2], [2]), ([3], [3]), ([4], [4]), ([5], [5]), ([], []), ([7], [7]), ([8], [8]), ([9, 5], [9]), ([6, 10], [6, 10]), ([0, 1, 0, 1, 2, 3, 4, 5, 6, 7, 8, 9, 10, 11], [0, 1]), ([12, 11, 10, 0, 1, 2, 3, 4, 5, 6, 7, 8, 9, 10, 11], [11, 12])])
def converter_ParseAndEncodeQuery.B13 : List Nat := [0, 0, 0, 4, 12, 28, 60, 0, 128, 384, 956, 2044, 4095, 8191]
theorem converter_ParseAndEncodeQuery.tab13 : rtab .any (opsOf Tryd.f29 13) = converter_ParseAndEncodeQuery.T13 := by kernel_rfl
theorem converter_ParseAndEncodeQuery.bits13 : waitsOk converter_ParseAndEncodeQuery.T13.2 converter_ParseAndEncodeQuery.B13 = true := by kernel_rfl
set_option maxHeartbeats 8000000 in
set_option maxRecDepth 100000 in
theorem converter_ParseAndEncodeQuery.calls (k : Nat) (a0 : ByteArray) (r : ByteArray) (w : World) (h : converter_ParseAndEncodeQuery.f k a0 = some r) (hT0 : Hand.TabB w) :
    Calls Tryd.prog 29 #[.string a0] w fun e w' => e = .returned (.string r) ∧ Below w.heap.size w w' := by
  have HT0 := Aside0.mk hT0
  clear hT0
  have HB := Aside0.mk (Below.refl w.heap.size w)
  have H : (if a0.toList = ([] : List UInt8) then (some (⟨#[]⟩ : ByteArray)) else ((converter_zzSplit.f a0 (⟨#[38]⟩ : ByteArray)).bind fun t135 => (if 0 ≤ (t135.length : Int) then (if ((t135.length : Int) : Int).toNat ≤ 17592186044416 then (converter_ParseAndEncodeQuery.l0 k (List.replicate ((t135.length : Int) : Int).toNat (⟨#[]⟩ : ByteArray)) t135 (t135.length : Int) 0) else (none)) else (none)))) = some r := h
  clear h
  by_cases c2 : a0.toList = ([] : List UInt8)
  · rw [if_pos c2] at H
    have c2b0 : (a0.toList == ([] : List UInt8)) = true := beq_iff_eq.mpr c2
    have c2b1 : (a0.toList != ([] : List UInt8)) = false := bne_eq_false_iff_eq.mpr c2
    clear c2
    obtain rfl := Option.some.inj H
    go_enter Tryd.func29, Tryd.ntmps29
    go_wp2
    go_ret
    exact ⟨by first | rfl | (simp [errW_none, errW_some] <;> rfl) | (simp [*, errW_none, errW_some] <;> rfl), by repeat (first | (with_reducible first | exact HB.out | apply below_alloc | apply pw_below_drewN | apply below_drew1) | exact HB.out)⟩
  · rw [if_neg c2] at H
    have c2b0 : (a0.toList == ([] : List UInt8)) = false := beq_eq_false_iff_ne.mpr c2
    have c2b1 : (a0.toList != ([] : List UInt8)) = true := bne_iff_ne.mpr c2
    replace H := Option.bind_eq_some_iff.mp H
    obtain ⟨t135, A30, H⟩ := H
    replace H : (if 0 ≤ (t135.length : Int) then (if ((t135.length : Int) : Int).toNat ≤ 17592186044416 then (converter_ParseAndEncodeQuery.l0 k (List.replicate ((t135.length : Int) : Int).toNat (⟨#[]⟩ : ByteArray)) t135 (t135.length : Int) 0) else (none)) else (none)) = some r := H
    have A3 := Aside0.mk A30
    clear A30
    by_cases c4 : 0 ≤ (t135.length : Int)
    · rw [if_pos c4] at H
      have c4b0 := eq_true c4
      have c4b1 : decide (0 ≤ (t135.length : Int)) = true := decide_eq_true c4
      clear c4
      by_cases c5 : ((t135.length : Int) : Int).toNat ≤ 17592186044416
      · rw [if_pos c5] at H
        have c5b0 := eq_true c5
        have c5b1 : decide (((t135.length : Int) : Int).toNat ≤ 17592186044416) = true := decide_eq_true c5
        clear c5
        obtain ⟨y138, hy138⟩ : ∃ y_ : List ByteArray, y_ = (List.replicate ((t135.length : Int) : Int).toNat (⟨#[]⟩ : ByteArray)) := ⟨_, rfl⟩
        replace H : (converter_ParseAndEncodeQuery.l0 k y138 t135 (t135.length : Int) 0) = some r := by first | (rw [hy138]; with_reducible exact H) | (have H2_ := (Option.bind_some _ _).symm.trans H; rw [hy138]; with_reducible exact H2_) | (have H2_ := (Option.bind_some _ _).symm.trans H; with_reducible exact H2_) | with_reducible exact H | (rw [hy138]; exact H) | exact H
        have Ny138 := Aside0.mk hy138
        clear hy138
        have H' := Aside0.mk H
        clear H
        go_enter Tryd.func29, Tryd.ntmps29
        go_wp2_with (first | ((with_reducible refine gate_callee (f := 40) rfl ?_); refine goesL_ (some 11) rfl rfl Tryd.func40 (by kernel_rfl) rfl #[.string a0, .string (⟨#[38]⟩ : ByteArray)] rfl (by (try simp only [List.map_toArray, List.map_cons, List.map_nil]); first | done | rfl | (simp only [List.length_drop, List.length_take]; rfl)) ?_; (with_reducible refine (converter_zzSplit.calls a0 (⟨#[38]⟩ : ByteArray) t135 _ A3.out).mono ?_); rintro e w6 ⟨v136, rfl, ho0, hb⟩; refine ⟨_, rfl, ?_⟩; have n0_ := Aside0.mk (Kd.R_lower ho0 (below_size (by repeat (first | (with_reducible first | exact HB.out | apply below_alloc | apply pw_below_drewN | apply below_drew1) | exact HB.out)))); have n1_ := Aside0.mk (below_step (by repeat (first | (with_reducible first | exact HB.out | apply below_alloc | apply pw_below_drewN | apply below_drew1) | exact HB.out)) hb); clear HB; have HO137 := n0_; have HB := n1_; clear n0_ n1_; (try clear hb); (try clear hb2); (try clear hk); (try clear hi); (try clear ho0); obtain ⟨Ao7, co7, eo7⟩ := Kd.R_slice HO137.out; subst eo7) | ((with_reducible refine gate_dst (N := 14) rfl ?_); refine Kd.R_make Kd.string _ 9 rfl (N := 14) rfl 48 _ _ rfl (t135.length : Int) rfl rfl Tryd.underlying48 (.string ⟨#[]⟩) 16 info9 rfl (by decide) (by omega) (⟨#[]⟩ : ByteArray) (ok := fun _ => True) (okp := fun _ => True) rfl (fun _ hk => hk) trivial (of_decide_eq_true (by first | (with_reducible assumption) | assumption)) (Nat.le_trans (Nat.mul_le_mul_right _ (of_decide_eq_true (by first | (with_reducible assumption) | assumption) : (t135.length : Int).toNat ≤ 17592186044416)) (by omega)) (Below.refl _ _) (Nat.le_refl _) ?_; intro v139 w8 ho9 hb hg_ hnew_; clear hg_ hnew_; (first | rw [← Ny138.out] at ho9 | (simp only [Int.reduceToNat] at ho9; rw [← Ny138.out] at ho9)); have n0_ := Aside0.mk (Kd.R_elder' (by (with_reducible repeat (first | apply Kd.R_alloc | apply Kd.R_drewN | apply Kd.R_drew)); exact HO137.out) (Kd.R_base ho9) hb); have n1_ := Aside0.mk (Kd.R_lower (Kd.R_new' ho9 (Kd.R_lt (by (with_reducible repeat (first | apply Kd.R_alloc | apply Kd.R_drewN | apply Kd.R_drew)); exact HO137.out))) (below_size (by repeat (first | (with_reducible first | exact HB.out | apply below_alloc | apply pw_below_drewN | apply below_drew1) | exact HB.out)))); have n2_ := Aside0.mk (below_step (by repeat (first | (with_reducible first | exact HB.out | apply below_alloc | apply pw_below_drewN | apply below_drew1) | exact HB.out)) hb); clear HO137; clear HB; have HO137 := n0_; have HO140 := n1_; have HB := n2_; clear n0_ n1_ n2_; clear hb ho9))
        go_loopg [17] k (fun kq v17 w' => ∃ (x4_1 : List ByteArray) (x17_1 : Int), v17 = .int .i64 x17_1 ∧ Aside0 (converter_ParseAndEncodeQuery.l0 kq x4_1 t135 (t135.length : Int) x17_1 = some r) ∧ Aside0 (kq ≤ k) ∧ Aside0 (Kd.R Kd.string 9 w' w.heap.size (fun k_ => some k_ ≠ ((.slice Ao7 t135.length co7) : Value).ownBlock) v139 x4_1) ∧ Aside0 (Kd.R Kd.string 9 w' w.heap.size (fun k_ => some k_ ≠ (v139 : Value).ownBlock) (.slice Ao7 t135.length co7) t135) ∧ Aside0 (Below w.heap.size w w'))
        case atStart => exact ⟨(y138), (0), (by first | rfl | (simp; done) | (simp [*]; done)), H', ⟨Nat.le_refl _⟩, ⟨by (with_reducible repeat (first | apply Kd.R_alloc | apply Kd.R_drewN | apply Kd.R_drew)); exact Kd.R_mono HO140.out (fun _ hk => hk.2)⟩, ⟨by (with_reducible repeat (first | apply Kd.R_alloc | apply Kd.R_drewN | apply Kd.R_drew)); exact Kd.R_mono HO137.out (fun _ hk => hk.2)⟩, ⟨by repeat (first | (with_reducible first | exact HB.out | apply below_alloc | apply pw_below_drewN | apply below_drew1) | exact HB.out)⟩⟩
        case round =>
          clear H'
          try clear c2
          try clear c2b0
          try clear c2b1
          try clear p2
          try clear c4
          try clear c4b0
          try clear c4b1
          try clear c5
          try clear c5b0
          try clear c5b1
          obtain ⟨x4_1, x17_1, rfl, HA, HK1, HO_4, HO_15, HB⟩ := hrel
          cases gk with
          | zero => exact absurd HA.out (by simp [converter_ParseAndEncodeQuery.l0])
          | succ k1 =>
            have H := HA.out
            clear HA
            simp only [converter_ParseAndEncodeQuery.l0] at H
            by_cases c10 : x17_1 < (t135.length : Int)
            · rw [if_pos c10] at H
              have c10b0 : decide (x17_1 < (t135.length : Int)) = true := decide_eq_true c10
              clear c10
              by_cases c11 : 0 ≤ x17_1
              · rw [if_pos c11] at H
                have c11b0 : decide (0 ≤ x17_1) = true := decide_eq_true c11
                clear c11
                by_cases c12 : x17_1 < (t135.length : Int)
                · rw [if_pos c12] at H
                  have c12b0 : decide (x17_1 < (t135.length : Int)) = true := decide_eq_true c12
                  clear c12
                  replace H := Option.bind_eq_some_iff.mp H
                  obtain ⟨t143, A130, H⟩ := H
                  replace H : (if (t143.length : Int) = 1 then (if 0 < (t143.length : Int) then ((converter_decodeAndEncode.f (rdOf ByteArray.empty t143 0)).bind fun t147 => (if x17_1 < (x4_1.length : Int) then (converter_ParseAndEncodeQuery.l0 k1 (x4_1.set (x17_1 : Int).toNat t147) t135 (t135.length : Int) (wrap64 (x17_1 + 1))) else (none))) else (none)) else (if 1 < (t143.length : Int) then (if (rdOf ByteArray.empty t143 1).toList = ([] : List UInt8) then (if 0 < (t143.length : Int) then ((converter_decodeAndEncode.f (rdOf ByteArray.empty t143 0)).bind fun t151 => (if t151.size + 1 ≤ 9223372036854775807 then (if x17_1 < (x4_1.length : Int) then (converter_ParseAndEncodeQuery.l0 k1 (x4_1.set (x17_1 : Int).toNat (t151 ++ (⟨#[61]⟩ : ByteArray))) t135 (t135.length : Int) (wrap64 (x17_1 + 1))) else (none)) else (none))) else (none)) else (if 0 < (t143.length : Int) then ((converter_decodeAndEncode.f (rdOf ByteArray.empty t143 0)).bind fun t154 => (if t154.size + 1 ≤ 9223372036854775807 then ((converter_decodeAndEncode.f (rdOf ByteArray.empty t143 1)).bind fun t156 => (if (t154 ++ (⟨#[61]⟩ : ByteArray)).size + t156.size ≤ 9223372036854775807 then (if x17_1 < (x4_1.length : Int) then (converter_ParseAndEncodeQuery.l0 k1 (x4_1.set (x17_1 : Int).toNat ((t154 ++ (⟨#[61]⟩ : ByteArray)) ++ t156)) t135 (t135.length : Int) (wrap64 (x17_1 + 1))) else (none)) else (none))) else (none))) else (none))) else (none))) = some r := H
                  have A13 := Aside0.mk A130
                  clear A130
                  by_cases c14 : (t143.length : Int) = 1
                  · rw [if_pos c14] at H
                    have c14b0 : ((t143.length : Int) == 1) = true := beq_iff_eq.mpr c14
                    have c14b1 : ((t143.length : Int) != 1) = false := bne_eq_false_iff_eq.mpr c14
                    clear c14
                    by_cases c15 : 0 < (t143.length : Int)
                    · rw [if_pos c15] at H
                      have c15b0 : decide (0 < (t143.length : Int)) = true := decide_eq_true c15
                      have c15b1 : decide (0 < t143.length) = true := decide_eq_true (by omega)
                      clear c15
                      replace H := Option.bind_eq_some_iff.mp H
                      obtain ⟨t147, A160, H⟩ := H
                      replace H : (if x17_1 < (x4_1.length : Int) then (converter_ParseAndEncodeQuery.l0 k1 (x4_1.set (x17_1 : Int).toNat t147) t135 (t135.length : Int) (wrap64 (x17_1 + 1))) else (none)) = some r := H
                      have A16 := Aside0.mk A160
                      clear A160
                      by_cases c17 : x17_1 < (x4_1.length : Int)
                      · rw [if_pos c17] at H
                        have c17b0 : decide (x17_1 < (x4_1.length : Int)) = true := decide_eq_true c17
                        clear c17
                        obtain ⟨y148, hy148⟩ : ∃ y_ : List ByteArray, y_ = (x4_1.set (x17_1 : Int).toNat t147) := ⟨_, rfl⟩
                        replace H : (converter_ParseAndEncodeQuery.l0 k1 y148 t135 (t135.length : Int) (wrap64 (x17_1 + 1))) = some r := by first | (rw [hy148]; with_reducible exact H) | (have H2_ := (Option.bind_some _ _).symm.trans H; rw [hy148]; with_reducible exact H2_) | (have H2_ := (Option.bind_some _ _).symm.trans H; with_reducible exact H2_) | with_reducible exact H | (rw [hy148]; exact H) | exact H
                        have Ny148 := Aside0.mk hy148
                        clear hy148
                        have H' := Aside0.mk H
                        clear H
                        have p142 : 0 ≤ (x17_1 : Int) := of_decide_eq_true (by first | (with_reducible assumption) | assumption)
                        have q142 : x17_1 < (t135.length : Int) := of_decide_eq_true (by first | (with_reducible assumption) | assumption)
                        obtain ⟨ad142, e142, hx142_0⟩ := Kd.at_string (Kd.R_reads' HO_15.out).2.2 x17_1 p142 q142
                        cases e142
                        replace p142 := eq_true p142
                        replace q142 := eq_true q142
                        go_wp2_with (first | ((with_reducible refine gate_callee (f := 41) rfl ?_); refine goesL_ (some 23) rfl rfl Tryd.func41 (by kernel_rfl) rfl #[.string (rdOf ByteArray.empty t135 x17_1), .int .u8 61] rfl (by (try simp only [List.map_toArray, List.map_cons, List.map_nil]); first | done | rfl | (simp only [List.length_drop, List.length_take]; rfl)) ?_; (with_reducible refine (converter_zzSplitTwo.calls k1 (rdOf ByteArray.empty t135 x17_1) 61 t143 _ A13.out).mono ?_); rintro e w19 ⟨v144, rfl, ho0, hb⟩; refine ⟨_, rfl, ?_⟩; have n0_ := Aside0.mk (Kd.R_elder' (by (with_reducible repeat (first | apply Kd.R_alloc | apply Kd.R_drewN | apply Kd.R_drew)); exact HO_4.out) (Kd.R_base ho0) hb); have n1_ := Aside0.mk (Kd.R_elder' (by (with_reducible repeat (first | apply Kd.R_alloc | apply Kd.R_drewN | apply Kd.R_drew)); exact HO_15.out) (Kd.R_base ho0) hb); have n2_ := Aside0.mk (Kd.R_lower (Kd.R_new' (Kd.R_new' ho0 (Kd.R_lt (by (with_reducible repeat (first | apply Kd.R_alloc | apply Kd.R_drewN | apply Kd.R_drew)); exact HO_4.out))) (Kd.R_lt (by (with_reducible repeat (first | apply Kd.R_alloc | apply Kd.R_drewN | apply Kd.R_drew)); exact HO_15.out))) (below_size (by repeat (first | (with_reducible first | exact HB.out | apply below_alloc | apply pw_below_drewN | apply below_drew1) | exact HB.out)))); have n3_ := Aside0.mk (below_step (by repeat (first | (with_reducible first | exact HB.out | apply below_alloc | apply pw_below_drewN | apply below_drew1) | exact HB.out)) hb); clear HO_4; clear HO_15; clear HB; have HO_4 := n0_; have HO_15 := n1_; have HO145 := n2_; have HB := n3_; clear n0_ n1_ n2_ n3_; (try clear hb); (try clear hb2); (try clear hk); (try clear hi); (try clear ho0); obtain ⟨Ao20, co20, eo20⟩ := Kd.R_slice HO145.out; subst eo20; have p146 : 0 ≤ (0 : Int) := (by omega); have q146 : 0 < (t143.length : Int) := of_decide_eq_true (by first | (with_reducible assumption) | assumption); obtain ⟨ad146, e146, hx146_0⟩ := Kd.at_string (Kd.R_reads' HO145.out).2.2 0 p146 q146; cases e146; have qi146 : (0 < t143.length) = True := eq_true (by omega); (try rw [show ((0 : Int)).toNat = 0 from rfl] at hx146_0); (try rw [Addr.add_zero'] at hx146_0); replace p146 := eq_true p146; replace q146 := eq_true q146) | ((with_reducible refine gate_callee (f := 42) rfl ?_); refine goesL_ (some 32) rfl rfl Tryd.func42 (by kernel_rfl) rfl #[.string (rdOf ByteArray.empty t143 0)] rfl (by (try simp only [List.map_toArray, List.map_cons, List.map_nil]); first | done | rfl | (simp only [List.length_drop, List.length_take]; rfl)) ?_; (with_reducible refine (converter_decodeAndEncode.calls (rdOf ByteArray.empty t143 0) t147 _ A16.out ?sideT).mono ?_); (case sideT => exact Hand.tabB_below HT0.out (by repeat (first | (with_reducible first | exact HB.out | apply below_alloc | apply pw_below_drewN | apply below_drew1) | exact HB.out))); rintro e w21 ⟨rfl, hb⟩; refine ⟨_, rfl, ?_⟩; have n0_ := Aside0.mk (Kd.R_below (by (with_reducible repeat (first | apply Kd.R_alloc | apply Kd.R_drewN | apply Kd.R_drew)); exact HO_4.out) hb); have n1_ := Aside0.mk (Kd.R_below (by (with_reducible repeat (first | apply Kd.R_alloc | apply Kd.R_drewN | apply Kd.R_drew)); exact HO_15.out) hb); have n2_ := Aside0.mk (Kd.R_below (by (with_reducible repeat (first | apply Kd.R_alloc | apply Kd.R_drewN | apply Kd.R_drew)); exact HO145.out) hb); have n3_ := Aside0.mk (below_step (by repeat (first | (with_reducible first | exact HB.out | apply below_alloc | apply pw_below_drewN | apply below_drew1) | exact HB.out)) hb); clear HO_4; clear HO_15; clear HO145; clear HB; have HO_4 := n0_; have HO_15 := n1_; have HO145 := n2_; have HB := n3_; clear n0_ n1_ n2_ n3_; (try clear hb); (try clear hb2); (try clear hk); (try clear hi); have p18 : 0 ≤ (x17_1 : Int) := of_decide_eq_true (by first | (with_reducible assumption) | assumption); have q18 : (x17_1 : Int) < ((x4_1.length : Int) : Int) := of_decide_eq_true (by first | (with_reducible assumption) | assumption); obtain ⟨go18, co18, eo18, gb18, gl18, cl18, HG18⟩ := Kd.R_form HO_4.out (by omega); (first | cases eo18 | (injection eo18 with ea_ en_ ec_; (first | subst ea_ | (injection ea_ with ea_; subst ea_)); subst ec_; clear en_)); have GB18 := Aside0.mk gb18; have GG18 := Aside0.mk HG18; clear gb18 gl18 HG18; obtain ⟨hx18_0, hf18_0⟩ := Kd.R_celln (⟨#[]⟩ : ByteArray) HO_4.out (x17_1 : Int) p18 q18; replace p18 := eq_true p18; replace q18 := eq_true q18; obtain ⟨hy22_, hz22_⟩ := Kd.R_celln (⟨#[]⟩ : ByteArray) HO_4.out (x17_1 : Int) (of_decide_eq_true (by first | (with_reducible assumption) | assumption)) (of_decide_eq_true (by first | (with_reducible assumption) | assumption)); have HP22 := Kd.R_putg HO_4.out (x17_1 : Int) t147) | ((with_reducible refine gate_store (t := 9) (p := 33) rfl ?_); refine store_event (t := 9) (p := 33) (v := ?vo_w23) (w1 := (w21.setCell ⟨go18, (x17_1 : Int).toNat, none⟩ (.string t147))) ?hg ?ho ?hn ?hr ?_; (case ho => rfl); (case hg => rfl); (case hn => rfl); (case hr => first | (go_simp; done) | (go_simp; rfl)); intro w23 hw; have hg : w21.grownBy w23 (some go18) := (by rw [hw]; exact HP22.2); have hp_ : Kd.R Kd.string 9 w23 w.heap.size (fun k_ => some k_ ≠ (.slice (some ad142) t135.length co7 : Value).ownBlock ∧ some k_ ≠ (.slice (some ad146) t143.length co20 : Value).ownBlock) (.slice (some ⟨go18, 0, none⟩) x4_1.length co18) y148 := (by rw [hw, Ny148.out]; exact HP22.1); clear HP22; have n0_ := Aside0.mk (hp_); have n1_ := Aside0.mk (Kd.R_after (v := (.slice (some ⟨go18, 0, none⟩) x4_1.length co18)) (v1 := (.slice (some ⟨go18, 0, none⟩) x4_1.length co18)) (ok := (fun k_ => some k_ ≠ (.slice (some ad146) t143.length co20 : Value).ownBlock)) (by (with_reducible repeat (first | apply Kd.R_alloc | apply Kd.R_drewN | apply Kd.R_drew)); exact Kd.R_mono HO_15.out (fun _ hk => ⟨hk.2, hk.1⟩)) hg (.inl rfl)); have n2_ := Aside0.mk (Kd.R_after (v := (.slice (some ⟨go18, 0, none⟩) x4_1.length co18)) (v1 := (.slice (some ⟨go18, 0, none⟩) x4_1.length co18)) (ok := (fun k_ => some k_ ≠ (.slice (some ad142) t135.length co7 : Value).ownBlock)) (by (with_reducible repeat (first | apply Kd.R_alloc | apply Kd.R_drewN | apply Kd.R_drew)); exact Kd.R_mono HO145.out (fun _ hk => ⟨hk.2, hk.1.2⟩)) hg (.inl rfl)); have n3_ := Aside0.mk ((by rw [hw]; exact below_set (HB.out) GB18.out : Below w.heap.size w w23)); clear HO_4; clear HO_15; clear HO145; clear HB; have HO_4 := n0_; have HO_15 := n1_; have HO145 := n2_; have HB := n3_; clear n0_ n1_ n2_ n3_; clear hg hw hp_))
                        go_roundg k1
                        case measure => have := HK1.out; omega
                        case rel => exact ⟨(y148), (wrap64 (x17_1 + 1)), (by first | rfl | (simp; done) | (simp [*]; done)), H', ⟨by have := HK1.out; omega⟩, ⟨by (with_reducible repeat (first | apply Kd.R_alloc | apply Kd.R_drewN | apply Kd.R_drew)); exact Kd.R_mono HO_4.out (fun _ hk => hk.1)⟩, ⟨by (with_reducible repeat (first | apply Kd.R_alloc | apply Kd.R_drewN | apply Kd.R_drew)); exact Kd.R_mono HO_15.out (fun _ hk => hk.2)⟩, ⟨by repeat (first | (with_reducible first | exact HB.out | apply below_alloc | apply pw_below_drewN | apply below_drew1) | exact HB.out)⟩⟩
                      · rw [if_neg c17] at H
                        exact absurd H (by simp)
                    · rw [if_neg c15] at H
                      exact absurd H (by simp)
                  · rw [if_neg c14] at H
                    have c14b0 : ((t143.length : Int) == 1) = false := beq_eq_false_iff_ne.mpr c14
                    have c14b1 : ((t143.length : Int) != 1) = true := bne_iff_ne.mpr c14
                    by_cases c24 : 1 < (t143.length : Int)
                    · rw [if_pos c24] at H
                      have c24b0 : decide (1 < (t143.length : Int)) = true := decide_eq_true c24
                      have c24b1 : decide (1 < t143.length) = true := decide_eq_true (by omega)
                      clear c24
                      by_cases c25 : (rdOf ByteArray.empty t143 1).toList = ([] : List UInt8)
                      · rw [if_pos c25] at H
                        have c25b0 : ((rdOf ByteArray.empty t143 1).toList == ([] : List UInt8)) = true := beq_iff_eq.mpr c25
                        have c25b1 : ((rdOf ByteArray.empty t143 1).toList != ([] : List UInt8)) = false := bne_eq_false_iff_eq.mpr c25
                        clear c25
                        by_cases c26 : 0 < (t143.length : Int)
                        · rw [if_pos c26] at H
                          have c26b0 : decide (0 < (t143.length : Int)) = true := decide_eq_true c26
                          have c26b1 : decide (0 < t143.length) = true := decide_eq_true (by omega)
                          clear c26
                          replace H := Option.bind_eq_some_iff.mp H
                          obtain ⟨t151, A270, H⟩ := H
                          replace H : (if t151.size + 1 ≤ 9223372036854775807 then (if x17_1 < (x4_1.length : Int) then (converter_ParseAndEncodeQuery.l0 k1 (x4_1.set (x17_1 : Int).toNat (t151 ++ (⟨#[61]⟩ : ByteArray))) t135 (t135.length : Int) (wrap64 (x17_1 + 1))) else (none)) else (none)) = some r := H
                          have A27 := Aside0.mk A270
                          clear A270
                          by_cases c28 : t151.size + 1 ≤ 9223372036854775807
                          · rw [if_pos c28] at H
                            have c28b0 := eq_true c28
                            have c28b1 : decide (t151.size + 1 ≤ 9223372036854775807) = true := decide_eq_true c28
                            try have c28b2 : (9223372036854775807 < t151.size + 1) = False := eq_false (Nat.not_lt.2 c28)
                            by_cases c29 : x17_1 < (x4_1.length : Int)
                            · rw [if_pos c29] at H
                              have c29b0 : decide (x17_1 < (x4_1.length : Int)) = true := decide_eq_true c29
                              clear c29
                              obtain ⟨y152, hy152⟩ : ∃ y_ : List ByteArray, y_ = (x4_1.set (x17_1 : Int).toNat (t151 ++ (⟨#[61]⟩ : ByteArray))) := ⟨_, rfl⟩
                              replace H : (converter_ParseAndEncodeQuery.l0 k1 y152 t135 (t135.length : Int) (wrap64 (x17_1 + 1))) = some r := by first | (rw [hy152]; with_reducible exact H) | (have H2_ := (Option.bind_some _ _).symm.trans H; rw [hy152]; with_reducible exact H2_) | (have H2_ := (Option.bind_some _ _).symm.trans H; with_reducible exact H2_) | with_reducible exact H | (rw [hy152]; exact H) | exact H
                              have Ny152 := Aside0.mk hy152
                              clear hy152
                              have H' := Aside0.mk H
                              clear H
                              have p142 : 0 ≤ (x17_1 : Int) := of_decide_eq_true (by first | (with_reducible assumption) | assumption)
                              have q142 : x17_1 < (t135.length : Int) := of_decide_eq_true (by first | (with_reducible assumption) | assumption)
                              obtain ⟨ad142, e142, hx142_0⟩ := Kd.at_string (Kd.R_reads' HO_15.out).2.2 x17_1 p142 q142
                              cases e142
                              replace p142 := eq_true p142
                              replace q142 := eq_true q142
                              go_wp2_with (first | ((with_reducible refine gate_callee (f := 41) rfl ?_); refine goesL_ (some 23) rfl rfl Tryd.func41 (by kernel_rfl) rfl #[.string (rdOf ByteArray.empty t135 x17_1), .int .u8 61] rfl (by (try simp only [List.map_toArray, List.map_cons, List.map_nil]); first | done | rfl | (simp only [List.length_drop, List.length_take]; rfl)) ?_; (with_reducible refine (converter_zzSplitTwo.calls k1 (rdOf ByteArray.empty t135 x17_1) 61 t143 _ A13.out).mono ?_); rintro e w31 ⟨v144, rfl, ho0, hb⟩; refine ⟨_, rfl, ?_⟩; have n0_ := Aside0.mk (Kd.R_elder' (by (with_reducible repeat (first | apply Kd.R_alloc | apply Kd.R_drewN | apply Kd.R_drew)); exact HO_4.out) (Kd.R_base ho0) hb); have n1_ := Aside0.mk (Kd.R_elder' (by (with_reducible repeat (first | apply Kd.R_alloc | apply Kd.R_drewN | apply Kd.R_drew)); exact HO_15.out) (Kd.R_base ho0) hb); have n2_ := Aside0.mk (Kd.R_lower (Kd.R_new' (Kd.R_new' ho0 (Kd.R_lt (by (with_reducible repeat (first | apply Kd.R_alloc | apply Kd.R_drewN | apply Kd.R_drew)); exact HO_4.out))) (Kd.R_lt (by (with_reducible repeat (first | apply Kd.R_alloc | apply Kd.R_drewN | apply Kd.R_drew)); exact HO_15.out))) (below_size (by repeat (first | (with_reducible first | exact HB.out | apply below_alloc | apply pw_below_drewN | apply below_drew1) | exact HB.out)))); have n3_ := Aside0.mk (below_step (by repeat (first | (with_reducible first | exact HB.out | apply below_alloc | apply pw_below_drewN | apply below_drew1) | exact HB.out)) hb); clear HO_4; clear HO_15; clear HB; have HO_4 := n0_; have HO_15 := n1_; have HO145 := n2_; have HB := n3_; clear n0_ n1_ n2_ n3_; (try clear hb); (try clear hb2); (try clear hk); (try clear hi); (try clear ho0); obtain ⟨Ao32, co32, eo32⟩ := Kd.R_slice HO145.out; subst eo32; have p149 : 0 ≤ (1 : Int) := (by omega); have q149 : 1 < (t143.length : Int) := of_decide_eq_true (by first | (with_reducible assumption) | assumption); obtain ⟨ad149, e149, hx149_0⟩ := Kd.at_string (Kd.R_reads' HO145.out).2.2 1 p149 q149; cases e149; (try simp only [show (1 : Int).toNat = 1 from rfl, Nat.reduceMul, Nat.reduceEqDiff, Go.Addr.add, ↓reduceIte] at hx149_0); have qi149 : (1 < t143.length) = True := eq_true (by omega); (try rw [show ((1 : Int)).toNat = 1 from rfl] at hx149_0); replace p149 := eq_true p149; replace q149 := eq_true q149; have p150 : 0 ≤ (0 : Int) := (by omega); have q150 : 0 < (t143.length : Int) := of_decide_eq_true (by first | (with_reducible assumption) | assumption); obtain ⟨ad150, e150, hx150_0⟩ := Kd.at_string (Kd.R_reads' HO145.out).2.2 0 p150 q150; obtain rfl : ad149 = ad150 := (by injection e150); have qi150 : (0 < t143.length) = True := eq_true (by omega); (try rw [show ((0 : Int)).toNat = 0 from rfl] at hx150_0); (try rw [Addr.add_zero'] at hx150_0); replace p150 := eq_true p150; replace q150 := eq_true q150) | ((with_reducible refine gate_callee (f := 42) rfl ?_); refine goesL_ (some 43) rfl rfl Tryd.func42 (by kernel_rfl) rfl #[.string (rdOf ByteArray.empty t143 0)] rfl (by (try simp only [List.map_toArray, List.map_cons, List.map_nil]); first | done | rfl | (simp only [List.length_drop, List.length_take]; rfl)) ?_; (with_reducible refine (converter_decodeAndEncode.calls (rdOf ByteArray.empty t143 0) t151 _ A27.out ?sideT).mono ?_); (case sideT => exact Hand.tabB_below HT0.out (by repeat (first | (with_reducible first | exact HB.out | apply below_alloc | apply pw_below_drewN | apply below_drew1) | exact HB.out))); rintro e w33 ⟨rfl, hb⟩; refine ⟨_, rfl, ?_⟩; have n0_ := Aside0.mk (Kd.R_below (by (with_reducible repeat (first | apply Kd.R_alloc | apply Kd.R_drewN | apply Kd.R_drew)); exact HO_4.out) hb); have n1_ := Aside0.mk (Kd.R_below (by (with_reducible repeat (first | apply Kd.R_alloc | apply Kd.R_drewN | apply Kd.R_drew)); exact HO_15.out) hb); have n2_ := Aside0.mk (Kd.R_below (by (with_reducible repeat (first | apply Kd.R_alloc | apply Kd.R_drewN | apply Kd.R_drew)); exact HO145.out) hb); have n3_ := Aside0.mk (below_step (by repeat (first | (with_reducible first | exact HB.out | apply below_alloc | apply pw_below_drewN | apply below_drew1) | exact HB.out)) hb); clear HO_4; clear HO_15; clear HO145; clear HB; have HO_4 := n0_; have HO_15 := n1_; have HO145 := n2_; have HB := n3_; clear n0_ n1_ n2_ n3_; (try clear hb); (try clear hb2); (try clear hk); (try clear hi); have p30 : 0 ≤ (x17_1 : Int) := of_decide_eq_true (by first | (with_reducible assumption) | assumption); have q30 : (x17_1 : Int) < ((x4_1.length : Int) : Int) := of_decide_eq_true (by first | (with_reducible assumption) | assumption); obtain ⟨go30, co30, eo30, gb30, gl30, cl30, HG30⟩ := Kd.R_form HO_4.out (by omega); (first | cases eo30 | (injection eo30 with ea_ en_ ec_; (first | subst ea_ | (injection ea_ with ea_; subst ea_)); subst ec_; clear en_)); have GB30 := Aside0.mk gb30; have GG30 := Aside0.mk HG30; clear gb30 gl30 HG30; obtain ⟨hx30_0, hf30_0⟩ := Kd.R_celln (⟨#[]⟩ : ByteArray) HO_4.out (x17_1 : Int) p30 q30; replace p30 := eq_true p30; replace q30 := eq_true q30; obtain ⟨hy34_, hz34_⟩ := Kd.R_celln (⟨#[]⟩ : ByteArray) HO_4.out (x17_1 : Int) (of_decide_eq_true (by first | (with_reducible assumption) | assumption)) (of_decide_eq_true (by first | (with_reducible assumption) | assumption)); have HP34 := Kd.R_putg HO_4.out (x17_1 : Int) (t151 ++ (⟨#[61]⟩ : ByteArray))) | ((with_reducible refine gate_store (t := 9) (p := 45) rfl ?_); refine store_event (t := 9) (p := 45) (v := ?vo_w35) (w1 := (w33.setCell ⟨go30, (x17_1 : Int).toNat, none⟩ (.string (t151 ++ (⟨#[61]⟩ : ByteArray))))) ?hg ?ho ?hn ?hr ?_; (case ho => rfl); (case hg => rfl); (case hn => rfl); (case hr => first | (go_simp; done) | (go_simp; rfl)); intro w35 hw; have hg : w33.grownBy w35 (some go30) := (by rw [hw]; exact HP34.2); have hp_ : Kd.R Kd.string 9 w35 w.heap.size (fun k_ => some k_ ≠ (.slice (some ad142) t135.length co7 : Value).ownBlock ∧ some k_ ≠ (.slice (some ad149) t143.length co32 : Value).ownBlock) (.slice (some ⟨go30, 0, none⟩) x4_1.length co30) y152 := (by rw [hw, Ny152.out]; exact HP34.1); clear HP34; have n0_ := Aside0.mk (hp_); have n1_ := Aside0.mk (Kd.R_after (v := (.slice (some ⟨go30, 0, none⟩) x4_1.length co30)) (v1 := (.slice (some ⟨go30, 0, none⟩) x4_1.length co30)) (ok := (fun k_ => some k_ ≠ (.slice (some ad149) t143.length co32 : Value).ownBlock)) (by (with_reducible repeat (first | apply Kd.R_alloc | apply Kd.R_drewN | apply Kd.R_drew)); exact Kd.R_mono HO_15.out (fun _ hk => ⟨hk.2, hk.1⟩)) hg (.inl rfl)); have n2_ := Aside0.mk (Kd.R_after (v := (.slice (some ⟨go30, 0, none⟩) x4_1.length co30)) (v1 := (.slice (some ⟨go30, 0, none⟩) x4_1.length co30)) (ok := (fun k_ => some k_ ≠ (.slice (some ad142) t135.length co7 : Value).ownBlock)) (by (with_reducible repeat (first | apply Kd.R_alloc | apply Kd.R_drewN | apply Kd.R_drew)); exact Kd.R_mono HO145.out (fun _ hk => ⟨hk.2, hk.1.2⟩)) hg (.inl rfl)); have n3_ := Aside0.mk ((by rw [hw]; exact below_set (HB.out) GB30.out : Below w.heap.size w w35)); clear HO_4; clear HO_15; clear HO145; clear HB; have HO_4 := n0_; have HO_15 := n1_; have HO145 := n2_; have HB := n3_; clear n0_ n1_ n2_ n3_; clear hg hw hp_))
                              go_roundg k1
                              case measure => have := HK1.out; omega
                              case rel => exact ⟨(y152), (wrap64 (x17_1 + 1)), (by first | rfl | (simp; done) | (simp [*]; done)), H', ⟨by have := HK1.out; omega⟩, ⟨by (with_reducible repeat (first | apply Kd.R_alloc | apply Kd.R_drewN | apply Kd.R_drew)); exact Kd.R_mono HO_4.out (fun _ hk => hk.1)⟩, ⟨by (with_reducible repeat (first | apply Kd.R_alloc | apply Kd.R_drewN | apply Kd.R_drew)); exact Kd.R_mono HO_15.out (fun _ hk => hk.2)⟩, ⟨by repeat (first | (with_reducible first | exact HB.out | apply below_alloc | apply pw_below_drewN | apply below_drew1) | exact HB.out)⟩⟩
                            · rw [if_neg c29] at H
                              exact absurd H (by simp)
                          · rw [if_neg c28] at H
                            exact absurd H (by simp)
                        · rw [if_neg c26] at H
                          exact absurd H (by simp)
                      · rw [if_neg c25] at H
                        have c25b0 : ((rdOf ByteArray.empty t143 1).toList == ([] : List UInt8)) = false := beq_eq_false_iff_ne.mpr c25
                        have c25b1 : ((rdOf ByteArray.empty t143 1).toList != ([] : List UInt8)) = true := bne_iff_ne.mpr c25
                        by_cases c36 : 0 < (t143.length : Int)
                        · rw [if_pos c36] at H
                          have c36b0 : decide (0 < (t143.length : Int)) = true := decide_eq_true c36
                          have c36b1 : decide (0 < t143.length) = true := decide_eq_true (by omega)
                          clear c36
                          replace H := Option.bind_eq_some_iff.mp H
                          obtain ⟨t154, A370, H⟩ := H
                          replace H : (if t154.size + 1 ≤ 9223372036854775807 then ((converter_decodeAndEncode.f (rdOf ByteArray.empty t143 1)).bind fun t156 => (if (t154 ++ (⟨#[61]⟩ : ByteArray)).size + t156.size ≤ 9223372036854775807 then (if x17_1 < (x4_1.length : Int) then (converter_ParseAndEncodeQuery.l0 k1 (x4_1.set (x17_1 : Int).toNat ((t154 ++ (⟨#[61]⟩ : ByteArray)) ++ t156)) t135 (t135.length : Int) (wrap64 (x17_1 + 1))) else (none)) else (none))) else (none)) = some r := H
                          have A37 := Aside0.mk A370
                          clear A370
                          by_cases c38 : t154.size + 1 ≤ 9223372036854775807
                          · rw [if_pos c38] at H
                            have c38b0 := eq_true c38
                            have c38b1 : decide (t154.size + 1 ≤ 9223372036854775807) = true := decide_eq_true c38
                            try have c38b2 : (9223372036854775807 < t154.size + 1) = False := eq_false (Nat.not_lt.2 c38)
                            replace H := Option.bind_eq_some_iff.mp H
                            obtain ⟨t156, A390, H⟩ := H
                            replace H : (if (t154 ++ (⟨#[61]⟩ : ByteArray)).size + t156.size ≤ 9223372036854775807 then (if x17_1 < (x4_1.length : Int) then (converter_ParseAndEncodeQuery.l0 k1 (x4_1.set (x17_1 : Int).toNat ((t154 ++ (⟨#[61]⟩ : ByteArray)) ++ t156)) t135 (t135.length : Int) (wrap64 (x17_1 + 1))) else (none)) else (none)) = some r := H
                            have A39 := Aside0.mk A390
                            clear A390
                            by_cases c40 : (t154 ++ (⟨#[61]⟩ : ByteArray)).size + t156.size ≤ 9223372036854775807
                            · rw [if_pos c40] at H
                              have c40b0 := eq_true c40
                              have c40b1 : decide ((t154 ++ (⟨#[61]⟩ : ByteArray)).size + t156.size ≤ 9223372036854775807) = true := decide_eq_true c40
                              try have c40b2 : (9223372036854775807 < (t154 ++ (⟨#[61]⟩ : ByteArray)).size + t156.size) = False := eq_false (Nat.not_lt.2 c40)
                              try have c40b3 : (9223372036854775807 < t154.size + 1 + t156.size) = False := eq_false (Nat.not_lt.2 (by have h_ := c40; (try simp only [ByteArray.size_append] at h_); exact h_))
                              by_cases c41 : x17_1 < (x4_1.length : Int)
                              · rw [if_pos c41] at H
                                have c41b0 : decide (x17_1 < (x4_1.length : Int)) = true := decide_eq_true c41
                                clear c41
                                obtain ⟨y157, hy157⟩ : ∃ y_ : List ByteArray, y_ = (x4_1.set (x17_1 : Int).toNat ((t154 ++ (⟨#[61]⟩ : ByteArray)) ++ t156)) := ⟨_, rfl⟩
                                replace H : (converter_ParseAndEncodeQuery.l0 k1 y157 t135 (t135.length : Int) (wrap64 (x17_1 + 1))) = some r := by first | (rw [hy157]; with_reducible exact H) | (have H2_ := (Option.bind_some _ _).symm.trans H; rw [hy157]; with_reducible exact H2_) | (have H2_ := (Option.bind_some _ _).symm.trans H; with_reducible exact H2_) | with_reducible exact H | (rw [hy157]; exact H) | exact H
                                have Ny157 := Aside0.mk hy157
                                clear hy157
                                have H' := Aside0.mk H
                                clear H
                                have p142 : 0 ≤ (x17_1 : Int) := of_decide_eq_true (by first | (with_reducible assumption) | assumption)
                                have q142 : x17_1 < (t135.length : Int) := of_decide_eq_true (by first | (with_reducible assumption) | assumption)
                                obtain ⟨ad142, e142, hx142_0⟩ := Kd.at_string (Kd.R_reads' HO_15.out).2.2 x17_1 p142 q142
                                cases e142
                                replace p142 := eq_true p142
                                replace q142 := eq_true q142
                                try go_wp2_with (first | ((with_reducible refine gate_callee (f := 41) rfl ?_); refine goesL_ (some 23) rfl rfl Tryd.func41 (by kernel_rfl) rfl #[.string (rdOf ByteArray.empty t135 x17_1), .int .u8 61] rfl (by (try simp only [List.map_toArray, List.map_cons, List.map_nil]); first | done | rfl | (simp only [List.length_drop, List.length_take]; rfl)) ?_; (with_reducible refine (converter_zzSplitTwo.calls k1 (rdOf ByteArray.empty t135 x17_1) 61 t143 _ A13.out).mono ?_); rintro e w43 ⟨v144, rfl, ho0, hb⟩; refine ⟨_, rfl, ?_⟩; have n0_ := Aside0.mk (Kd.R_elder' (by (with_reducible repeat (first | apply Kd.R_alloc | apply Kd.R_drewN | apply Kd.R_drew)); exact HO_4.out) (Kd.R_base ho0) hb); have n1_ := Aside0.mk (Kd.R_elder' (by (with_reducible repeat (first | apply Kd.R_alloc | apply Kd.R_drewN | apply Kd.R_drew)); exact HO_15.out) (Kd.R_base ho0) hb); have n2_ := Aside0.mk (Kd.R_lower (Kd.R_new' (Kd.R_new' ho0 (Kd.R_lt (by (with_reducible repeat (first | apply Kd.R_alloc | apply Kd.R_drewN | apply Kd.R_drew)); exact HO_4.out))) (Kd.R_lt (by (with_reducible repeat (first | apply Kd.R_alloc | apply Kd.R_drewN | apply Kd.R_drew)); exact HO_15.out))) (below_size (by repeat (first | (with_reducible first | exact HB.out | apply below_alloc | apply pw_below_drewN | apply below_drew1) | exact HB.out)))); have n3_ := Aside0.mk (below_step (by repeat (first | (with_reducible first | exact HB.out | apply below_alloc | apply pw_below_drewN | apply below_drew1) | exact HB.out)) hb); clear HO_4; clear HO_15; clear HB; have HO_4 := n0_; have HO_15 := n1_; have HO145 := n2_; have HB := n3_; clear n0_ n1_ n2_ n3_; (try clear hb); (try clear hb2); (try clear hk); (try clear hi); (try clear ho0); obtain ⟨Ao44, co44, eo44⟩ := Kd.R_slice HO145.out; subst eo44; have p149 : 0 ≤ (1 : Int) := (by omega); have q149 : 1 < (t143.length : Int) := of_decide_eq_true (by first | (with_reducible assumption) | assumption); obtain ⟨ad149, e149, hx149_0⟩ := Kd.at_string (Kd.R_reads' HO145.out).2.2 1 p149 q149; cases e149; (try simp only [show (1 : Int).toNat = 1 from rfl, Nat.reduceMul, Nat.reduceEqDiff, Go.Addr.add, ↓reduceIte] at hx149_0); have qi149 : (1 < t143.length) = True := eq_true (by omega); (try rw [show ((1 : Int)).toNat = 1 from rfl] at hx149_0); replace p149 := eq_true p149; replace q149 := eq_true q149))
                                have n0_ := Aside0.mk (Kd.R_drew HO_4.out)
                                have n1_ := Aside0.mk (Kd.R_drew HO_15.out)
                                have n2_ := Aside0.mk (Kd.R_drew HO145.out)
                                have n3_ := Aside0.mk (below_drew1 HB.out)
                                clear HO_4
                                clear HO_15
                                clear HO145
                                clear HB
                                have HO_4 := n0_
                                have HO_15 := n1_
                                have HO145 := n2_
                                have HB := n3_
                                clear n0_ n1_ n2_ n3_
                                have p153 : 0 ≤ (0 : Int) := (by omega)
                                have q153 : 0 < (t143.length : Int) := of_decide_eq_true (by first | (with_reducible assumption) | assumption)
                                obtain ⟨ad153, e153, hx153_0⟩ := Kd.at_string (Kd.R_reads' HO145.out).2.2 0 p153 q153
                                obtain rfl : ad149 = ad153 := (by injection e153)
                                have qi153 : (0 < t143.length) = True := eq_true (by omega)
                                (try rw [show ((0 : Int)).toNat = 0 from rfl] at hx153_0)
                                (try rw [Addr.add_zero'] at hx153_0)
                                replace p153 := eq_true p153
                                replace q153 := eq_true q153
                                have p155 : 0 ≤ (1 : Int) := (by omega)
                                have q155 : 1 < (t143.length : Int) := of_decide_eq_true (by first | (with_reducible assumption) | assumption)
                                obtain ⟨ad155, e155, hx155_0⟩ := Kd.at_string (Kd.R_reads' HO145.out).2.2 1 p155 q155
                                obtain rfl : ad149 = ad155 := (by injection e155)
                                (try simp only [show (1 : Int).toNat = 1 from rfl, Nat.reduceMul, Nat.reduceEqDiff, Go.Addr.add, ↓reduceIte] at hx155_0)
                                have qi155 : (1 < t143.length) = True := eq_true (by omega)
                                (try rw [show ((1 : Int)).toNat = 1 from rfl] at hx155_0)
                                replace p155 := eq_true p155
                                replace q155 := eq_true q155
                                refine start_ (n := 14) (S := fun w' => w'.cell? ad149 = some (.string (rdOf ByteArray.empty t143 0)) ∧ w'.cell? ⟨ad149.block, ad149.off + 1, none⟩ = some (.string (rdOf ByteArray.empty t143 1))) (ds := [13]) #[false, false, false, false, false, false, false, false, false, false, false, false, false, false] (by kernel_rfl) rfl rfl ⟨hx153_0, hx155_0⟩ (fun hHeld => ?_); refine with_tabW converter_ParseAndEncodeQuery.tab13 converter_ParseAndEncodeQuery.bits13 (fun HT_ HW_ => ?_)
                                generalize w43.drew = w45 at HO_4 HO_15 HO145 HB hx153_0 hx155_0 hHeld ⊢
                                refine pure_ (i := 0) (N := some 46) (v := ?_) (a' := ?_) #[true, false, false, false, false, false, false, false, false, false, false, false, false, false] rfl rfl (any_of HT_.out (by kernel_rfl)) (fun _ _ _ h => h) (Or.inl ⟨by rfl, ?_⟩) ?_ ?_
                                rotate_left
                                · intro w'
                                  go_simp
                                  with_reducible rfl
                                rotate_left
                                · simp only [Act.put, List.setIfInBounds_toArray, List.set_cons_zero, List.set_cons_succ, i64_w, i32_w]
                                  rfl
                                refine pure_ (i := 1) (N := some 47) (v := ?_) (a' := ?_) #[true, true, false, false, false, false, false, false, false, false, false, false, false, false] rfl rfl (any_of HT_.out (by kernel_rfl)) (fun _ _ _ h => h) (Or.inl ⟨by rfl, ?_⟩) ?_ ?_
                                rotate_left
                                · intro w'
                                  go_simp
                                  with_reducible rfl
                                rotate_left
                                · simp only [Act.put, List.setIfInBounds_toArray, List.set_cons_zero, List.set_cons_succ, i64_w, i32_w]
                                  rfl
                                refine pure_ (i := 2) (N := some 48) (v := ?_) (a' := ?_) #[true, true, true, false, false, false, false, false, false, false, false, false, false, false] rfl rfl (any_of HT_.out (by kernel_rfl)) (fun _ _ _ h => h) (Or.inl ⟨by rfl, ?_⟩) ?_ ?_
                                rotate_left
                                · intro w'
                                  go_simp
                                  with_reducible rfl
                                rotate_left
                                · simp only [Act.put, List.setIfInBounds_toArray, List.set_cons_zero, List.set_cons_succ, i64_w, i32_w]
                                  rfl
                                refine pure_ (i := 3) (N := some 49) (v := ?_) (a' := ?_) #[true, true, true, true, false, false, false, false, false, false, false, false, false, false] rfl rfl (any_of HT_.out (by kernel_rfl)) (fun _ _ _ h => h) (Or.inl ⟨by rfl, ?_⟩) ?_ ?_
                                rotate_left
                                · intro w'
                                  go_simp
                                  with_reducible rfl
                                rotate_left
                                · simp only [Act.put, List.setIfInBounds_toArray, List.set_cons_zero, List.set_cons_succ, i64_w, i32_w]
                                  rfl
                                refine pure_ (i := 7) (N := some 53) (v := ?_) (a' := ?_) #[true, true, true, true, false, false, false, true, false, false, false, false, false, false] rfl rfl (any_of HT_.out (by kernel_rfl)) (fun _ _ _ h => h) (Or.inl ⟨by rfl, ?_⟩) ?_ ?_
                                rotate_left
                                · intro w'
                                  go_simp
                                  with_reducible rfl
                                rotate_left
                                · simp only [Act.put, List.setIfInBounds_toArray, List.set_cons_zero, List.set_cons_succ, i64_w, i32_w]
                                  rfl
                                refine pure_ (i := 8) (N := some 54) (v := ?_) (a' := ?_) #[true, true, true, true, false, false, false, true, true, false, false, false, false, false] rfl rfl (any_of HT_.out (by kernel_rfl)) (fun _ _ _ h => h) (Or.inl ⟨by rfl, ?_⟩) ?_ ?_
                                rotate_left
                                · intro w'
                                  go_simp
                                  with_reducible rfl
                                rotate_left
                                · simp only [Act.put, List.setIfInBounds_toArray, List.set_cons_zero, List.set_cons_succ, i64_w, i32_w]
                                  rfl
                                refine take_ (i := 4) (N := some 50) (v := ?_) (a' := ?_) #[true, true, true, true, true, false, false, true, true, false, false, false, false, false] rfl rfl (take_ofW HT_.out HW_.out (by kernel_rfl)) (fun _ _ _ h => h) (Or.inl ⟨by rfl, ?_⟩) hHeld ?_ ?_
                                rotate_left
                                · rintro w' ⟨s0, s1⟩
                                  go_simp
                                  with_reducible rfl
                                rotate_left
                                · simp only [Act.put, List.setIfInBounds_toArray, List.set_cons_zero, List.set_cons_succ, i64_w, i32_w]
                                  rfl
                                refine take_ (i := 9) (N := some 55) (v := ?_) (a' := ?_) #[true, true, true, true, true, false, false, true, true, true, false, false, false, false] rfl rfl (take_ofW HT_.out HW_.out (by kernel_rfl)) (fun _ _ _ h => h) (Or.inl ⟨by rfl, ?_⟩) hHeld ?_ ?_
                                rotate_left
                                · rintro w' ⟨s0, s1⟩
                                  go_simp
                                  with_reducible rfl
                                rotate_left
                                · simp only [Act.put, List.setIfInBounds_toArray, List.set_cons_zero, List.set_cons_succ, i64_w, i32_w]
                                  rfl
                                refine one_ (i := 5) (N := some 51) #[true, true, true, true, true, true, false, true, true, true, false, false, false, false] rfl rfl (one_of HT_.out (by kernel_rfl)) (by decide) (fun K hK => ?_)
                                refine goes_ Tryd.func42 (by kernel_rfl) rfl #[.string (rdOf ByteArray.empty t143 0)] (by rfl) rfl rfl (by (try simp only [List.map_toArray, List.map_cons, List.map_nil]); first | done | rfl | (simp only [List.length_drop, List.length_take]; rfl)) ?_
                                with_reducible refine (converter_decodeAndEncode.calls (rdOf ByteArray.empty t143 0) t154 _ A37.out ?sideT).mono ?_
                                case sideT => exact Hand.tabB_below HT0.out (by repeat (first | (with_reducible first | exact HB.out | apply below_alloc | apply pw_below_drewN | apply below_drew1) | exact HB.out))
                                rintro e w46 ⟨rfl, hb⟩
                                have HS0_ := (hb.cell (World.block_lt_of_cell? _ _ (hHeld.1))).trans (hHeld.1)
                                have HS1_ := (hb.cell (World.block_lt_of_cell? _ _ (hHeld.2))).trans (hHeld.2)
                                refine ⟨_, rfl, ?_⟩
                                have n0_ := Aside0.mk (Kd.R_below (by (with_reducible repeat (first | apply Kd.R_alloc | apply Kd.R_drewN | apply Kd.R_drew)); exact HO_4.out) hb)
                                have n1_ := Aside0.mk (Kd.R_below (by (with_reducible repeat (first | apply Kd.R_alloc | apply Kd.R_drewN | apply Kd.R_drew)); exact HO_15.out) hb)
                                have n2_ := Aside0.mk (Kd.R_below (by (with_reducible repeat (first | apply Kd.R_alloc | apply Kd.R_drewN | apply Kd.R_drew)); exact HO145.out) hb)
                                have n3_ := Aside0.mk (below_step (by repeat (first | (with_reducible first | exact HB.out | apply below_alloc | apply pw_below_drewN | apply below_drew1) | exact HB.out)) hb)
                                clear HO_4
                                clear HO_15
                                clear HO145
                                clear HB
                                have HO_4 := n0_
                                have HO_15 := n1_
                                have HO145 := n2_
                                have HB := n3_
                                clear n0_ n1_ n2_ n3_
                                (try clear hb)
                                (try clear hb2)
                                (try clear hk)
                                (try clear hi)
                                refine hK.out _ _ ⟨HS0_, HS1_⟩ (fun hHeld => ?_)
                                clear hK K
                                refine norm_ (a' := ?_) ?_ ?_
                                rotate_left
                                · show Act.put _ (some 51) _ = _
                                  simp only [Act.put, List.setIfInBounds_toArray, List.set_cons_zero, List.set_cons_succ, i64_w, i32_w]
                                  rfl
                                refine pure_ (i := 6) (N := some 52) (v := ?_) (a' := ?_) #[true, true, true, true, true, true, true, true, true, true, false, false, false, false] rfl rfl (any_of HT_.out (by kernel_rfl)) (fun _ _ _ h => h) (Or.inl ⟨by rfl, ?_⟩) ?_ ?_
                                rotate_left
                                · intro w'
                                  go_simp
                                  with_reducible rfl
                                rotate_left
                                · simp only [Act.put, List.setIfInBounds_toArray, List.set_cons_zero, List.set_cons_succ, i64_w, i32_w]
                                  rfl
                                refine one_ (i := 10) (N := some 56) #[true, true, true, true, true, true, true, true, true, true, true, false, false, false] rfl rfl (one_of HT_.out (by kernel_rfl)) (by decide) (fun K hK => ?_)
                                refine goes_ Tryd.func42 (by kernel_rfl) rfl #[.string (rdOf ByteArray.empty t143 1)] (by rfl) rfl rfl (by (try simp only [List.map_toArray, List.map_cons, List.map_nil]); first | done | rfl | (simp only [List.length_drop, List.length_take]; rfl)) ?_
                                with_reducible refine (converter_decodeAndEncode.calls (rdOf ByteArray.empty t143 1) t156 _ A39.out ?sideT).mono ?_
                                case sideT => exact Hand.tabB_below HT0.out (by repeat (first | (with_reducible first | exact HB.out | apply below_alloc | apply pw_below_drewN | apply below_drew1) | exact HB.out))
                                rintro e w47 ⟨rfl, hb⟩
                                have HS0_ := (hb.cell (World.block_lt_of_cell? _ _ (hHeld.1))).trans (hHeld.1)
                                have HS1_ := (hb.cell (World.block_lt_of_cell? _ _ (hHeld.2))).trans (hHeld.2)
                                refine ⟨_, rfl, ?_⟩
                                have n0_ := Aside0.mk (Kd.R_below (by (with_reducible repeat (first | apply Kd.R_alloc | apply Kd.R_drewN | apply Kd.R_drew)); exact HO_4.out) hb)
                                have n1_ := Aside0.mk (Kd.R_below (by (with_reducible repeat (first | apply Kd.R_alloc | apply Kd.R_drewN | apply Kd.R_drew)); exact HO_15.out) hb)
                                have n2_ := Aside0.mk (Kd.R_below (by (with_reducible repeat (first | apply Kd.R_alloc | apply Kd.R_drewN | apply Kd.R_drew)); exact HO145.out) hb)
                                have n3_ := Aside0.mk (below_step (by repeat (first | (with_reducible first | exact HB.out | apply below_alloc | apply pw_below_drewN | apply below_drew1) | exact HB.out)) hb)
                                clear HO_4
                                clear HO_15
                                clear HO145
                                clear HB
                                have HO_4 := n0_
                                have HO_15 := n1_
                                have HO145 := n2_
                                have HB := n3_
                                clear n0_ n1_ n2_ n3_
                                (try clear hb)
                                (try clear hb2)
                                (try clear hk)
                                (try clear hi)
                                have p42 : 0 ≤ (x17_1 : Int) := of_decide_eq_true (by first | (with_reducible assumption) | assumption)
                                have q42 : (x17_1 : Int) < ((x4_1.length : Int) : Int) := of_decide_eq_true (by first | (with_reducible assumption) | assumption)
                                obtain ⟨go42, co42, eo42, gb42, gl42, cl42, HG42⟩ := Kd.R_form HO_4.out (by omega)
                                (first | cases eo42 | (injection eo42 with ea_ en_ ec_; (first | subst ea_ | (injection ea_ with ea_; subst ea_)); subst ec_; clear en_))
                                have GB42 := Aside0.mk gb42
                                have GG42 := Aside0.mk HG42
                                clear gb42 gl42 HG42
                                obtain ⟨hx42_0, hf42_0⟩ := Kd.R_celln (⟨#[]⟩ : ByteArray) HO_4.out (x17_1 : Int) p42 q42
                                replace p42 := eq_true p42
                                replace q42 := eq_true q42
                                have HP48 := Kd.R_putn HO_4.out (x17_1 : Int) ((t154 ++ (⟨#[61]⟩ : ByteArray)) ++ t156)
                                rw [← Ny157.out] at HP48
                                have HQ48 := Aside0.mk HP48
                                clear HP48
                                refine hK.out _ _ ⟨HS0_, HS1_⟩ (fun hHeld => ?_)
                                clear hK K
                                refine norm_ (a' := ?_) ?_ ?_
                                rotate_left
                                · show Act.put _ (some 56) _ = _
                                  simp only [Act.put, List.setIfInBounds_toArray, List.set_cons_zero, List.set_cons_succ, i64_w, i32_w]
                                  rfl
                                refine pure_ (i := 11) (N := some 57) (v := ?_) (a' := ?_) #[true, true, true, true, true, true, true, true, true, true, true, true, false, false] rfl rfl (any_of HT_.out (by kernel_rfl)) (fun _ _ _ h => h) (Or.inl ⟨by rfl, ?_⟩) ?_ ?_
                                rotate_left
                                · intro w'
                                  go_simp
                                  with_reducible rfl
                                rotate_left
                                · simp only [Act.put, List.setIfInBounds_toArray, List.set_cons_zero, List.set_cons_succ, i64_w, i32_w]
                                  rfl
                                refine pure_ (i := 12) (N := some 58) (v := ?_) (a' := ?_) #[true, true, true, true, true, true, true, true, true, true, true, true, true, false] rfl rfl (any_of HT_.out (by kernel_rfl)) (fun _ _ _ h => h) (Or.inl ⟨by rfl, ?_⟩) ?_ ?_
                                rotate_left
                                · intro w'
                                  go_simp
                                  with_reducible rfl
                                rotate_left
                                · simp only [Act.put, List.setIfInBounds_toArray, List.set_cons_zero, List.set_cons_succ, i64_w, i32_w]
                                  rfl
                                refine last_ (i := 13) (N := none) #[true, true, true, true, true, true, true, true, true, true, true, true, true, true] rfl rfl (one_of HT_.out (by kernel_rfl)) (by decide) (fun K hK => ?_)
                                refine skip_ (w1 := ?_) (by rfl) rfl ?_ ?_
                                rotate_left
                                · go_simp
                                  rfl
                                refine hK.out _ _ ?_
                                clear hK K
                                refine done_ (done_of HT_.out (by kernel_rfl)) ?_
                                try go_wp2
                                go_roundg k1
                                case measure => have := HK1.out; omega
                                case rel => exact ⟨(y157), (wrap64 (x17_1 + 1)), (by first | rfl | (simp; done) | (simp [*]; done)), H', ⟨by have := HK1.out; omega⟩, ⟨by (with_reducible repeat (first | apply Kd.R_alloc | apply Kd.R_drewN | apply Kd.R_drew)); exact Kd.R_mono HQ48.out (fun _ hk => hk.1)⟩, ⟨by (with_reducible repeat (first | apply Kd.R_alloc | apply Kd.R_drewN | apply Kd.R_drew)); exact Kd.R_mono (Kd.R_far (p := ⟨go42, (x17_1 : Int).toNat, none⟩) (Kd.R_mono HO_15.out (fun k_ hk => (⟨hk, fun e_ => hk.1 (by rw [e_]; rfl)⟩ : _ ∧ k_ ≠ go42))) (fun _ hk => hk.2) (.string ((t154 ++ (⟨#[61]⟩ : ByteArray)) ++ t156))) (fun _ hk => hk.1.1)⟩, ⟨by repeat (first | (with_reducible first | exact HB.out | apply below_alloc | apply pw_below_drewN | apply below_drew1 | refine below_set ?_ GB42.out) | exact HB.out)⟩⟩
                              · rw [if_neg c41] at H
                                exact absurd H (by simp)
                            · rw [if_neg c40] at H
                              exact absurd H (by simp)
                          · rw [if_neg c38] at H
                            exact absurd H (by simp)
                        · rw [if_neg c36] at H
                          exact absurd H (by simp)
                    · rw [if_neg c24] at H
                      exact absurd H (by simp)
                · rw [if_neg c12] at H
                  exact absurd H (by simp)
              · rw [if_neg c11] at H
                exact absurd H (by simp)
            · rw [if_neg c10] at H
              have c10b0 : decide (x17_1 < (t135.length : Int)) = false := decide_eq_false c10
              clear c10
              replace H := Option.bind_eq_some_iff.mp H
              obtain ⟨t141, A490, H⟩ := H
              replace H : (some t141) = some r := H
              have A49 := Aside0.mk A490
              clear A490
              obtain rfl := Option.some.inj H
              obtain ⟨Ao50, co50, eo50⟩ := Kd.R_slice HO_4.out
              subst eo50
              go_wp2_with (first | ((with_reducible refine gate_callee (f := 43) rfl ?_); refine goesL_ (some 61) rfl rfl Tryd.func43 (by kernel_rfl) rfl #[.slice Ao50 x4_1.length co50, .string (⟨#[38]⟩ : ByteArray)] rfl (by (try simp only [List.map_toArray, List.map_cons, List.map_nil]); first | done | rfl | (simp only [List.length_drop, List.length_take]; rfl)) ?_; (with_reducible refine (strings_Join.calls _ _ x4_1 (⟨#[38]⟩ : ByteArray) t141 _ ?side1 ?side2 A49.out).mono ?_); (case side1 => repeat (first | exact (Kd.R_reads' HO_4.out).2.2 | (with_reducible refine Kd.C_alloc ?_ _) | (with_reducible refine Kd.C_drewN ?_ _) | (with_reducible refine Kd.C_drew ?_))); (case side2 => exact (Kd.R_reads' HO_4.out).2.1); rintro e w51 ⟨rfl, hb⟩; refine ⟨_, rfl, ?_⟩; have n0_ := Aside0.mk (Kd.R_below (by (with_reducible repeat (first | apply Kd.R_alloc | apply Kd.R_drewN | apply Kd.R_drew)); exact HO_4.out) hb); have n1_ := Aside0.mk (Kd.R_below (by (with_reducible repeat (first | apply Kd.R_alloc | apply Kd.R_drewN | apply Kd.R_drew)); exact HO_15.out) hb); have n2_ := Aside0.mk (below_step (by repeat (first | (with_reducible first | exact HB.out | apply below_alloc | apply pw_below_drewN | apply below_drew1) | exact HB.out)) hb); clear HO_4; clear HO_15; clear HB; have HO_4 := n0_; have HO_15 := n1_; have HB := n2_; clear n0_ n1_ n2_; (try clear hb); (try clear hb2); (try clear hk); (try clear hi)))
              go_ret
              exact ⟨by first | rfl | (simp [errW_none, errW_some] <;> rfl) | (simp [*, errW_none, errW_some] <;> rfl), by repeat (first | (with_reducible first | exact HB.out | apply below_alloc | apply pw_below_drewN | apply below_drew1) | exact HB.out)⟩
      · rw [if_neg c5] at H
        exact absurd H (by simp)
    · rw [if_neg c4] at H
      exact absurd H (by simp)

/-! ### impl_Query: function 19 -/
def impl_Query.f (k : Nat) (a0 : ByteArray) : Option (ByteArray) := (converter_ParseAndEncodeQuery.f k a0).bind fun t158 => (some t158)
theorem impl_Query.mono : ∀ a0 k, LeO (impl_Query.f k a0) (impl_Query.f (k + 1) a0) := by
  intro a0 k
  unfold impl_Query.f
  repeat' first
      | (with_reducible exact converter_ParseAndEncodeQuery.mono _ _)
      | (with_reducible exact LeO.refl _)
      | (with_reducible exact LeO.none _)
      | (with_reducible refine LeO.ite ?_ ?_)
      | (with_reducible refine LeO.bind ?_ (fun _ => ?_))
      | exact converter_ParseAndEncodeQuery.mono _ _
      | exact LeO.none _
      | refine LeO.ite ?_ ?_
      | refine LeO.bind ?_ (fun _ => ?_)
set_option maxHeartbeats 8000000 in
set_option maxRecDepth 100000 in
theorem impl_Query.calls (k : Nat) (a0 : ByteArray) (r : ByteArray) (w : World) (h : impl_Query.f k a0 = some r) (hT0 : Hand.TabB w) :
    Calls Tryd.prog 19 #[.string a0] w fun e w' => e = .returned (.string r) ∧ Below w.heap.size w w' := by
  have HT0 := Aside0.mk hT0
  clear hT0
  have HB := Aside0.mk (Below.refl w.heap.size w)
  have H : ((converter_ParseAndEncodeQuery.f k a0).bind fun t158 => (some t158)) = some r := h
  clear h
  replace H := Option.bind_eq_some_iff.mp H
  obtain ⟨t158, A20, H⟩ := H
  replace H : (some t158) = some r := H
  have A2 := Aside0.mk A20
  clear A20
  obtain rfl := Option.some.inj H
  go_enter Tryd.func19, Tryd.ntmps19
  go_wp2_with (first | ((with_reducible refine gate_callee (f := 29) rfl ?_); refine goesL_ (some 4) rfl rfl Tryd.func29 (by kernel_rfl) rfl #[.string a0] rfl (by (try simp only [List.map_toArray, List.map_cons, List.map_nil]); first | done | rfl | (simp only [List.length_drop, List.length_take]; rfl)) ?_; (with_reducible refine (converter_ParseAndEncodeQuery.calls k a0 t158 _ A2.out ?sideT).mono ?_); (case sideT => exact Hand.tabB_below HT0.out (by repeat (first | (with_reducible first | exact HB.out | apply below_alloc | apply pw_below_drewN | apply below_drew1) | exact HB.out))); rintro e w3 ⟨rfl, hb⟩; refine ⟨_, rfl, ?_⟩; have n0_ := Aside0.mk (below_step (by repeat (first | (with_reducible first | exact HB.out | apply below_alloc | apply pw_below_drewN | apply below_drew1) | exact HB.out)) hb); clear HB; have HB := n0_; clear n0_; (try clear hb); (try clear hb2); (try clear hk); (try clear hi)))
  go_ret
  exact ⟨by first | rfl | (simp [errW_none, errW_some] <;> rfl) | (simp [*, errW_none, errW_some] <;> rfl), by repeat (first | (with_reducible first | exact HB.out | apply below_alloc | apply pw_below_drewN | apply below_drew1) | exact HB.out)⟩

end Go.Proofs.YtnhcocjdkmelhaaDoor.GFnQuery
