-- made by a program of this session, after the kit's print
import Derived.Test.YtnhcocjdkmelhaaDoorGFnQueryx0
import Derived.Test.YtnhcocjdkmelhaaDoorGFnQueryx1
import Derived.Test.YtnhcocjdkmelhaaDoorGFnQueryx2
import Derived.Test.YtnhcocjdkmelhaaDoorGivFnQuery
namespace Go.Proofs.YtnhcocjdkmelhaaDoor.GFnQuery
open Go.RowKit Go.Proofs.YtnhcocjdkmelhaaDoorW.PrintWords Go.Proofs.YtnhcocjdkmelhaaDoorW.PrintLast Go.Proofs.YtnhcocjdkmelhaaDoorW.PrintMore
attribute [local go_sem] max2_int min2_int max_two min_two max_three min_three max_four min_four   -- for this text's walks alone
set_option linter.unusedVariables false
set_option linter.unusedSimpArgs false

/-! ### laws_FnQuery: function 6 -/
def laws_FnQuery.l0 : Nat → ByteArray → List (S32) → Int → Int → Option (Bool)
  | 0, _, _, _, _ => none
  | k + 1, x3, x15, x16, x17 => if x17 < x16 then (if 0 ≤ x17 then (if x17 < (x15.length : Int) then ((laws_inlineLetters.f k ((rd_T32 x15 x17).f0)).bind fun t168 => ((laws_inlineLetters.f k ((rd_T32 x15 x17).f1)).bind fun t169 => (if x3.toList = ([] : List UInt8) then (if 1 + t168.size ≤ 9223372036854775807 then (if ((⟨#[107]⟩ : ByteArray) ++ t168).size + 2 ≤ 9223372036854775807 then (if (((⟨#[107]⟩ : ByteArray) ++ t168) ++ (⟨#[61, 118]⟩ : ByteArray)).size + t169.size ≤ 9223372036854775807 then (if x3.size + ((((⟨#[107]⟩ : ByteArray) ++ t168) ++ (⟨#[61, 118]⟩ : ByteArray)) ++ t169).size ≤ 9223372036854775807 then (laws_FnQuery.l0 k (x3 ++ ((((⟨#[107]⟩ : ByteArray) ++ t168) ++ (⟨#[61, 118]⟩ : ByteArray)) ++ t169)) x15 x16 (wrap64 (x17 + 1))) else (none)) else (none)) else (none)) else (none)) else (if x3.size + 1 ≤ 9223372036854775807 then (if 1 + t168.size ≤ 9223372036854775807 then (if ((⟨#[107]⟩ : ByteArray) ++ t168).size + 2 ≤ 9223372036854775807 then (if (((⟨#[107]⟩ : ByteArray) ++ t168) ++ (⟨#[61, 118]⟩ : ByteArray)).size + t169.size ≤ 9223372036854775807 then (if (x3 ++ (⟨#[38]⟩ : ByteArray)).size + ((((⟨#[107]⟩ : ByteArray) ++ t168) ++ (⟨#[61, 118]⟩ : ByteArray)) ++ t169).size ≤ 9223372036854775807 then (laws_FnQuery.l0 k ((x3 ++ (⟨#[38]⟩ : ByteArray)) ++ ((((⟨#[107]⟩ : ByteArray) ++ t168) ++ (⟨#[61, 118]⟩ : ByteArray)) ++ t169)) x15 x16 (wrap64 (x17 + 1))) else (none)) else (none)) else (none)) else (none)) else (none))))) else (none)) else (none)) else ((impl_Query.f k x3).bind fun t164 => (if t164.toList = x3.toList then ((laws_inlineLives.f).bind fun t165 => (some t165)) else (some false)))
def laws_FnQuery.f (k : Nat) (l0 : List (S32)) : Option (Bool) := (laws_zzFits3.f k l0).bind fun t159 => (if t159 = true then (if 0 ≤ (mn (l0.length : Int) 20) then (if (mn (l0.length : Int) 20) ≤ (l0.length : Int) then ((some (l0.take ((mn (l0.length : Int) 20) : Int).toNat : List (S32))).bind fun y160 => (laws_FnQuery.l0 k (⟨#[]⟩ : ByteArray) y160 (y160.length : Int) 0)) else (none)) else (none)) else (some true))
theorem laws_FnQuery.mono_l : ∀ k, (∀ y0 y1 y2 y3, LeO (laws_FnQuery.l0 k y0 y1 y2 y3) (laws_FnQuery.l0 (k + 1) y0 y1 y2 y3))
  | 0 => fun _ _ _ _ r h => by simp [laws_FnQuery.l0] at h
  | k + 1 => by
    have ih0 := laws_FnQuery.mono_l k
    · intro y0 y1 y2 y3
      unfold laws_FnQuery.l0
      repeat' first
      | (with_reducible exact ih0 _ _ _ _)
      | (with_reducible exact impl_Query.mono _ _)
      | (with_reducible exact laws_inlineLetters.mono _ _)
      | (with_reducible exact laws_zzFits3.mono _ _)
      | (with_reducible exact LeO.refl _)
      | (with_reducible exact LeO.none _)
      | (with_reducible refine LeO.ite ?_ ?_)
      | (with_reducible refine LeO.bind ?_ (fun _ => ?_))
      | exact ih0 _ _ _ _
      | exact impl_Query.mono _ _
      | exact laws_inlineLetters.mono _ _
      | exact laws_zzFits3.mono _ _
      | exact LeO.none _
      | refine LeO.ite ?_ ?_
      | refine LeO.bind ?_ (fun _ => ?_)
theorem laws_FnQuery.mono : ∀ a0 k, LeO (laws_FnQuery.f k a0) (laws_FnQuery.f (k + 1) a0) := by
  intro a0 k
  have ih0 := laws_FnQuery.mono_l k
  unfold laws_FnQuery.f
  repeat' first
      | (with_reducible exact ih0 _ _ _ _)
      | (with_reducible exact impl_Query.mono _ _)
      | (with_reducible exact laws_inlineLetters.mono _ _)
      | (with_reducible exact laws_zzFits3.mono _ _)
      | (with_reducible exact LeO.refl _)
      | (with_reducible exact LeO.none _)
      | (with_reducible refine LeO.ite ?_ ?_)
      | (with_reducible refine LeO.bind ?_ (fun _ => ?_))
      | exact ih0 _ _ _ _
      | exact impl_Query.mono _ _
      | exact laws_inlineLetters.mono _ _
      | exact laws_zzFits3.mono _ _
      | exact LeO.none _
      | refine LeO.ite ?_ ?_
      | refine LeO.bind ?_ (fun _ => ?_)
def laws_FnQuery.T7 : Bool × List (List Nat × List Nat) := (true, [([], []), ([0], [0]), ([1], [1]), ([], []), ([3], [3]), ([4, 2], [4]), ([2, 5, 0, 1, 2], [2]), ([5, 6, 0, 1, 2, 3, 4, 5, 6], [5])])
def laws_FnQuery.B7 : List Nat := [0, 1, 3, 0, 8, 31, 63, 127]
theorem laws_FnQuery.tab7 : rtab .any (opsOf Tryd.f6 7) = laws_FnQuery.T7 := by kernel_rfl
theorem laws_FnQuery.bits7 : waitsOk laws_FnQuery.T7.2 laws_FnQuery.B7 = true := by kernel_rfl
set_option maxHeartbeats 8000000 in
set_option maxRecDepth 100000 in
theorem laws_FnQuery.calls (k : Nat) (A0 : Option Addr) (c0 : Nat) (l0 : List (S32)) (r : Bool) (w : World) (hr0 : Kd.C k32 w A0 l0.length l0) (hc0 : l0.length ≤ c0) (h : laws_FnQuery.f k l0 = some r) (hT0 : Hand.TabB w) :
    Calls Tryd.prog 6 #[.slice A0 l0.length c0] w fun e w' => e = .returned (.bool r) ∧ Below w.heap.size w w' := by
  have HT0 := Aside0.mk hT0
  clear hT0
  have hu32 := Tryd.underlying32
  have HR0 := Aside0.mk hr0
  have HC0 := Aside0.mk hc0
  clear hr0 hc0
  have HB := Aside0.mk (Below.refl w.heap.size w)
  have H : ((laws_zzFits3.f k l0).bind fun t159 => (if t159 = true then (if 0 ≤ (mn (l0.length : Int) 20) then (if (mn (l0.length : Int) 20) ≤ (l0.length : Int) then ((some (l0.take ((mn (l0.length : Int) 20) : Int).toNat : List (S32))).bind fun y160 => (laws_FnQuery.l0 k (⟨#[]⟩ : ByteArray) y160 (y160.length : Int) 0)) else (none)) else (none)) else (some true))) = some r := h
  clear h
  replace H := Option.bind_eq_some_iff.mp H
  obtain ⟨t159, A20, H⟩ := H
  replace H : (if t159 = true then (if 0 ≤ (mn (l0.length : Int) 20) then (if (mn (l0.length : Int) 20) ≤ (l0.length : Int) then ((some (l0.take ((mn (l0.length : Int) 20) : Int).toNat : List (S32))).bind fun y160 => (laws_FnQuery.l0 k (⟨#[]⟩ : ByteArray) y160 (y160.length : Int) 0)) else (none)) else (none)) else (some true)) = some r := H
  have A2 := Aside0.mk A20
  clear A20
  by_cases c3 : t159 = true
  · subst c3
    have H1 : (if 0 ≤ (mn (l0.length : Int) 20) then (if (mn (l0.length : Int) 20) ≤ (l0.length : Int) then ((some (l0.take ((mn (l0.length : Int) 20) : Int).toNat : List (S32))).bind fun y160 => (laws_FnQuery.l0 k (⟨#[]⟩ : ByteArray) y160 (y160.length : Int) 0)) else (none)) else (none)) = some r := by rw [if_pos rfl] at H; exact H
    clear H
    have H := H1
    clear H1
    obtain ⟨ji4, hji4⟩ : ∃ j_ : Int, (mn (l0.length : Int) 20) = j_ := ⟨_, rfl⟩
    replace H : (if 0 ≤ (ji4) then (if (ji4) ≤ (l0.length : Int) then ((some (l0.take ((ji4) : Int).toNat : List (S32))).bind fun y160 => (laws_FnQuery.l0 k (⟨#[]⟩ : ByteArray) y160 (y160.length : Int) 0)) else (none)) else (none)) = some r := by first | (rw [hji4] at H; exact H) | (simp only [hji4] at H ⊢; exact H)
    (try rw [hji4] at A2)
    (try (have hji4h : ji4 ≤ 20 := by (rw [← hji4]; unfold mn; (repeat' split) <;> omega)))
    (try (have hji4g : ji4 ≤ 64 := by omega))
    (try (have hji4l : 0 ≤ ji4 := by (rw [← hji4]; unfold mn; (repeat' split) <;> omega)))
    (try (have hji4m : 0 ≤ ji4 := by omega))
    have hji4_ : (if 20 < (l0.length : Int) then 20 else (l0.length : Int)) = ji4 := hji4
    by_cases c5 : 0 ≤ (ji4)
    · rw [if_pos c5] at H
      have c5b0 := eq_true c5
      have c5b1 : decide (0 ≤ (ji4)) = true := decide_eq_true c5
      clear c5
      by_cases c6 : (ji4) ≤ (l0.length : Int)
      · rw [if_pos c6] at H
        have c6b0 := eq_true c6
        have c6b1 : decide ((ji4) ≤ (l0.length : Int)) = true := decide_eq_true c6
        clear c6
        obtain ⟨y160, hy160⟩ : ∃ y_ : List (S32), y_ = (l0.take ((ji4) : Int).toNat) := ⟨_, rfl⟩
        replace H : (laws_FnQuery.l0 k (⟨#[]⟩ : ByteArray) y160 (y160.length : Int) 0) = some r := by first | (rw [hy160]; with_reducible exact H) | (have H2_ := (Option.bind_some _ _).symm.trans H; rw [hy160]; with_reducible exact H2_) | (have H2_ := (Option.bind_some _ _).symm.trans H; with_reducible exact H2_) | with_reducible exact H | (rw [hy160]; exact H) | exact H
        have Ny160 := Aside0.mk hy160
        clear hy160
        have H' := Aside0.mk H
        clear H
        go_enter Tryd.func6, Tryd.ntmps6
        go_wp2_with (first | ((with_reducible refine gate_callee (f := 17) rfl ?_); refine goesL_ (some 9) rfl rfl Tryd.func17 (by kernel_rfl) rfl #[.slice A0 l0.length c0] rfl (by (try simp only [List.map_toArray, List.map_cons, List.map_nil]); first | done | rfl | (simp only [List.length_drop, List.length_take]; rfl)) ?_; (with_reducible refine (laws_zzFits3.calls k _ _ l0 true _ ?side1 ?side2 A2.out).mono ?_); (case side1 => repeat (first | exact HR0.out | (with_reducible refine Kd.C_alloc ?_ _) | (with_reducible refine Kd.C_drewN ?_ _) | (with_reducible refine Kd.C_drew ?_))); (case side2 => exact HC0.out); rintro e w7 ⟨rfl, hb⟩; refine ⟨_, rfl, ?_⟩; have n0_ := Aside0.mk (below_step (by repeat (first | (with_reducible first | exact HB.out | apply below_alloc | apply pw_below_drewN | apply below_drew1) | exact HB.out)) hb); clear HB; have HB := n0_; clear n0_; (try clear hb); (try clear hb2); (try clear hk); (try clear hi); have q8 : ((ji4) : Int) ≤ ((l0.length : Int) : Int) := of_decide_eq_true (by first | (with_reducible assumption) | assumption); obtain ⟨i08, hi08, _, hsz8, _⟩ := info_parts info32; have hroom8 : l0.length ≤ c0 := HC0.out; have hC8 : Kd.C k32 _ A0 l0.length l0 := HR0.out; have hcut8 := cut_to (P := Tryd.prog) 29 32 .i64 Tryd.underlying29 hi08 A0 l0.length c0 (ji4) (of_decide_eq_true (by first | (with_reducible assumption) | assumption)) q8 hroom8; have hr8 := Kd.C_take (m := ((ji4) : Int).toNat) hC8 (by omega); have hy8 : y160.length = ((ji4) : Int).toNat := (by rw [Ny160.out, List.length_take]; omega); rw [← Ny160.out] at hr8; rw [← hy8] at hcut8; have HR163 := Aside0.mk hr8; have HC163 := Aside0.mk (show y160.length ≤ c0 from by omega); clear hr8 hC8 hroom8 hi08 hsz8; have KY8 := Aside0.mk hy8; clear hy8; replace q8 := eq_true q8))
        go_loopg [3, 17] k (fun kq v3 v17 w' => ∃ (x3_1 : ByteArray) (x17_1 : Int), v3 = .string x3_1 ∧ v17 = .int .i64 x17_1 ∧ Aside0 (laws_FnQuery.l0 kq x3_1 y160 (y160.length : Int) x17_1 = some r) ∧ Aside0 (kq ≤ k) ∧ Aside0 (Below w.heap.size w w'))
        case atStart => exact ⟨((⟨#[]⟩ : ByteArray)), (0), (by first | rfl | (simp; done) | (simp [*]; done)), (by first | rfl | (simp; done) | (simp [*]; done)), H', ⟨Nat.le_refl _⟩, ⟨by repeat (first | (with_reducible first | exact HB.out | apply below_alloc | apply pw_below_drewN | apply below_drew1) | exact HB.out)⟩⟩
        case round =>
          clear H'
          try clear c1
          try clear p2
          try clear c3
          try clear c5
          try clear c5b0
          try clear c5b1
          try clear c6
          try clear c6b0
          try clear c6b1
          try clear q8
          try clear q8
          obtain ⟨x3_1, x17_1, rfl, rfl, HA, HK1, HB⟩ := hrel
          cases gk with
          | zero => exact absurd HA.out (by simp [laws_FnQuery.l0])
          | succ k1 =>
            have H := HA.out
            clear HA
            simp only [laws_FnQuery.l0] at H
            by_cases c9 : x17_1 < (y160.length : Int)
            · rw [if_pos c9] at H
              have c9b0 : decide (x17_1 < (y160.length : Int)) = true := decide_eq_true c9
              clear c9
              by_cases c10 : 0 ≤ x17_1
              · rw [if_pos c10] at H
                have c10b0 : decide (0 ≤ x17_1) = true := decide_eq_true c10
                clear c10
                by_cases c11 : x17_1 < (y160.length : Int)
                · rw [if_pos c11] at H
                  have c11b0 : decide (x17_1 < (y160.length : Int)) = true := decide_eq_true c11
                  clear c11
                  replace H := Option.bind_eq_some_iff.mp H
                  obtain ⟨t168, A120, H⟩ := H
                  replace H : ((laws_inlineLetters.f k1 ((rd_T32 y160 x17_1).f1)).bind fun t169 => (if x3_1.toList = ([] : List UInt8) then (if 1 + t168.size ≤ 9223372036854775807 then (if ((⟨#[107]⟩ : ByteArray) ++ t168).size + 2 ≤ 9223372036854775807 then (if (((⟨#[107]⟩ : ByteArray) ++ t168) ++ (⟨#[61, 118]⟩ : ByteArray)).size + t169.size ≤ 9223372036854775807 then (if x3_1.size + ((((⟨#[107]⟩ : ByteArray) ++ t168) ++ (⟨#[61, 118]⟩ : ByteArray)) ++ t169).size ≤ 9223372036854775807 then (laws_FnQuery.l0 k1 (x3_1 ++ ((((⟨#[107]⟩ : ByteArray) ++ t168) ++ (⟨#[61, 118]⟩ : ByteArray)) ++ t169)) y160 (y160.length : Int) (wrap64 (x17_1 + 1))) else (none)) else (none)) else (none)) else (none)) else (if x3_1.size + 1 ≤ 9223372036854775807 then (if 1 + t168.size ≤ 9223372036854775807 then (if ((⟨#[107]⟩ : ByteArray) ++ t168).size + 2 ≤ 9223372036854775807 then (if (((⟨#[107]⟩ : ByteArray) ++ t168) ++ (⟨#[61, 118]⟩ : ByteArray)).size + t169.size ≤ 9223372036854775807 then (if (x3_1 ++ (⟨#[38]⟩ : ByteArray)).size + ((((⟨#[107]⟩ : ByteArray) ++ t168) ++ (⟨#[61, 118]⟩ : ByteArray)) ++ t169).size ≤ 9223372036854775807 then (laws_FnQuery.l0 k1 ((x3_1 ++ (⟨#[38]⟩ : ByteArray)) ++ ((((⟨#[107]⟩ : ByteArray) ++ t168) ++ (⟨#[61, 118]⟩ : ByteArray)) ++ t169)) y160 (y160.length : Int) (wrap64 (x17_1 + 1))) else (none)) else (none)) else (none)) else (none)) else (none)))) = some r := H
                  have A12 := Aside0.mk A120
                  clear A120
                  replace H := Option.bind_eq_some_iff.mp H
                  obtain ⟨t169, A130, H⟩ := H
                  replace H : (if x3_1.toList = ([] : List UInt8) then (if 1 + t168.size ≤ 9223372036854775807 then (if ((⟨#[107]⟩ : ByteArray) ++ t168).size + 2 ≤ 9223372036854775807 then (if (((⟨#[107]⟩ : ByteArray) ++ t168) ++ (⟨#[61, 118]⟩ : ByteArray)).size + t169.size ≤ 9223372036854775807 then (if x3_1.size + ((((⟨#[107]⟩ : ByteArray) ++ t168) ++ (⟨#[61, 118]⟩ : ByteArray)) ++ t169).size ≤ 9223372036854775807 then (laws_FnQuery.l0 k1 (x3_1 ++ ((((⟨#[107]⟩ : ByteArray) ++ t168) ++ (⟨#[61, 118]⟩ : ByteArray)) ++ t169)) y160 (y160.length : Int) (wrap64 (x17_1 + 1))) else (none)) else (none)) else (none)) else (none)) else (if x3_1.size + 1 ≤ 9223372036854775807 then (if 1 + t168.size ≤ 9223372036854775807 then (if ((⟨#[107]⟩ : ByteArray) ++ t168).size + 2 ≤ 9223372036854775807 then (if (((⟨#[107]⟩ : ByteArray) ++ t168) ++ (⟨#[61, 118]⟩ : ByteArray)).size + t169.size ≤ 9223372036854775807 then (if (x3_1 ++ (⟨#[38]⟩ : ByteArray)).size + ((((⟨#[107]⟩ : ByteArray) ++ t168) ++ (⟨#[61, 118]⟩ : ByteArray)) ++ t169).size ≤ 9223372036854775807 then (laws_FnQuery.l0 k1 ((x3_1 ++ (⟨#[38]⟩ : ByteArray)) ++ ((((⟨#[107]⟩ : ByteArray) ++ t168) ++ (⟨#[61, 118]⟩ : ByteArray)) ++ t169)) y160 (y160.length : Int) (wrap64 (x17_1 + 1))) else (none)) else (none)) else (none)) else (none)) else (none))) = some r := H
                  have A13 := Aside0.mk A130
                  clear A130
                  by_cases c14 : x3_1.toList = ([] : List UInt8)
                  · rw [if_pos c14] at H
                    have c14b0 : (x3_1.toList == ([] : List UInt8)) = true := beq_iff_eq.mpr c14
                    have c14b1 : (x3_1.toList != ([] : List UInt8)) = false := bne_eq_false_iff_eq.mpr c14
                    clear c14
                    by_cases c15 : 1 + t168.size ≤ 9223372036854775807
                    · rw [if_pos c15] at H
                      have c15b0 := eq_true c15
                      have c15b1 : decide (1 + t168.size ≤ 9223372036854775807) = true := decide_eq_true c15
                      try have c15b2 : (9223372036854775807 < 1 + t168.size) = False := eq_false (Nat.not_lt.2 c15)
                      by_cases c16 : ((⟨#[107]⟩ : ByteArray) ++ t168).size + 2 ≤ 9223372036854775807
                      · rw [if_pos c16] at H
                        have c16b0 := eq_true c16
                        have c16b1 : decide (((⟨#[107]⟩ : ByteArray) ++ t168).size + 2 ≤ 9223372036854775807) = true := decide_eq_true c16
                        try have c16b2 : (9223372036854775807 < ((⟨#[107]⟩ : ByteArray) ++ t168).size + 2) = False := eq_false (Nat.not_lt.2 c16)
                        try have c16b3 : (9223372036854775807 < 1 + t168.size + 2) = False := eq_false (Nat.not_lt.2 (by have h_ := c16; (try simp only [ByteArray.size_append] at h_); exact h_))
                        by_cases c17 : (((⟨#[107]⟩ : ByteArray) ++ t168) ++ (⟨#[61, 118]⟩ : ByteArray)).size + t169.size ≤ 9223372036854775807
                        · rw [if_pos c17] at H
                          have c17b0 := eq_true c17
                          have c17b1 : decide ((((⟨#[107]⟩ : ByteArray) ++ t168) ++ (⟨#[61, 118]⟩ : ByteArray)).size + t169.size ≤ 9223372036854775807) = true := decide_eq_true c17
                          try have c17b2 : (9223372036854775807 < (((⟨#[107]⟩ : ByteArray) ++ t168) ++ (⟨#[61, 118]⟩ : ByteArray)).size + t169.size) = False := eq_false (Nat.not_lt.2 c17)
                          try have c17b3 : (9223372036854775807 < 1 + t168.size + 2 + t169.size) = False := eq_false (Nat.not_lt.2 (by have h_ := c17; (try simp only [ByteArray.size_append] at h_); exact h_))
                          by_cases c18 : x3_1.size + ((((⟨#[107]⟩ : ByteArray) ++ t168) ++ (⟨#[61, 118]⟩ : ByteArray)) ++ t169).size ≤ 9223372036854775807
                          · rw [if_pos c18] at H
                            have c18b0 := eq_true c18
                            have c18b1 : decide (x3_1.size + ((((⟨#[107]⟩ : ByteArray) ++ t168) ++ (⟨#[61, 118]⟩ : ByteArray)) ++ t169).size ≤ 9223372036854775807) = true := decide_eq_true c18
                            try have c18b2 : (9223372036854775807 < x3_1.size + ((((⟨#[107]⟩ : ByteArray) ++ t168) ++ (⟨#[61, 118]⟩ : ByteArray)) ++ t169).size) = False := eq_false (Nat.not_lt.2 c18)
                            try have c18b3 : (9223372036854775807 < x3_1.size + (1 + t168.size + 2 + t169.size)) = False := eq_false (Nat.not_lt.2 (by have h_ := c18; (try simp only [ByteArray.size_append] at h_); exact h_))
                            have H' := Aside0.mk H
                            clear H
                            have p166 : 0 ≤ (x17_1 : Int) := of_decide_eq_true (by first | (with_reducible assumption) | assumption)
                            have q166 : x17_1 < (y160.length : Int) := of_decide_eq_true (by first | (with_reducible assumption) | assumption)
                            obtain ⟨ad166, e166, hx166_0, hx166_1⟩ := at_T32 HR163.out x17_1 p166 q166
                            cases e166
                            replace hx166_0 := (HB.out.cell (World.block_lt_of_cell? w _ hx166_0)).trans hx166_0
                            replace hx166_1 := (HB.out.cell (World.block_lt_of_cell? w _ hx166_1)).trans hx166_1
                            replace p166 := eq_true p166
                            replace q166 := eq_true q166
                            try go_wp2_with (first | ((with_reducible refine gate_dst (N := 5) rfl ?_); refine box_event ?hg (N := 5) ?hd (cs := #[.string (⟨#[]⟩ : ByteArray), .string (⟨#[]⟩ : ByteArray)]) (t := 32) ?hr ?_; (case hd => rfl); (case hg => rfl); (case hr => first | (go_simp; done) | (go_simp; rfl)); intro gb167 hg w19 hbox hb; have n0_ := Aside0.mk (below_step (by repeat (first | (with_reducible first | exact HB.out | apply below_alloc | apply pw_below_drewN | apply below_drew1) | exact HB.out)) hb); have n1_ := Aside0.mk (hbox); have n2_ := Aside0.mk ((by rw [hg]; exact (below_size (by repeat (first | (with_reducible first | exact HB.out | apply below_alloc | apply pw_below_drewN | apply below_drew1) | exact HB.out))) : w.heap.size ≤ gb167)); have n3_ := Aside0.mk ((by rw [hg]; exact (below_size (by repeat (first | (with_reducible first | exact HB.out | apply below_alloc | apply pw_below_drewN | apply below_drew1) | exact HB.out))) : w.heap.size ≤ gb167)); clear HB; have HB := n0_; have BK167 := n1_; have GW167 := n2_; have GE167 := n3_; clear n0_ n1_ n2_ n3_; clear hb hbox hg; have hcz20_0 : w19.cell? ⟨gb167, 0, none⟩ = some (.string (⟨#[]⟩ : ByteArray)) := (blk_cell BK167.out 0).trans rfl; have hcz20_1 : w19.cell? ⟨gb167, 1, none⟩ = some (.string (⟨#[]⟩ : ByteArray)) := (blk_cell BK167.out 1).trans rfl; have hfz20_0 := blk_frozen BK167.out 0; have hfz20_1 := blk_frozen BK167.out 1))
                            have n0_ : Aside0 (((w19.setCell ⟨gb167, 0, none⟩ (.string ((rd_T32 y160 x17_1).f0))).setCell ⟨gb167, 1, none⟩ (.string ((rd_T32 y160 x17_1).f1))).heap[gb167]? = some (.cells #[.string ((rd_T32 y160 x17_1).f0), .string ((rd_T32 y160 x17_1).f1)] 32 (0, 0))) := ⟨by (with_reducible repeat (first | refine blk_drewN ?_ _ | refine blk_drew ?_ | refine blk_alloc ?_ _)); refine blk_put (cs := #[.string ((rd_T32 y160 x17_1).f0), .string (⟨#[]⟩ : ByteArray)]) ?_ 1 _ rfl; (with_reducible repeat (first | refine blk_drewN ?_ _ | refine blk_drew ?_ | refine blk_alloc ?_ _)); refine blk_put (cs := #[.string (⟨#[]⟩ : ByteArray), .string (⟨#[]⟩ : ByteArray)]) ?_ 0 _ rfl; (with_reducible repeat (first | refine blk_drewN ?_ _ | refine blk_drew ?_ | refine blk_alloc ?_ _)); exact BK167.out⟩
                            have n1_ : Aside0 (Below w.heap.size w ((w19.setCell ⟨gb167, 0, none⟩ (.string ((rd_T32 y160 x17_1).f0))).setCell ⟨gb167, 1, none⟩ (.string ((rd_T32 y160 x17_1).f1)))) := ⟨by repeat (first | (with_reducible first | exact HB.out | apply below_alloc | apply pw_below_drewN | apply below_drew1 | refine below_set ?_ GE167.out) | exact HB.out)⟩
                            (try clear BK167)
                            (try clear HB)
                            generalize ((w19.setCell ⟨gb167, 0, none⟩ (.string ((rd_T32 y160 x17_1).f0))).setCell ⟨gb167, 1, none⟩ (.string ((rd_T32 y160 x17_1).f1))) = w21 at n0_ n1_ ⊢
                            have BK167 := n0_
                            have HB := n1_
                            clear n0_ n1_
                            have n0_ := Aside0.mk (blk_drew BK167.out)
                            have n1_ := Aside0.mk (below_drew1 HB.out)
                            clear BK167
                            clear HB
                            have BK167 := n0_
                            have HB := n1_
                            clear n0_ n1_
                            refine start_ (n := 8) (S := fun w' => w'.cell? ⟨gb167, 0, none⟩ = some (.string ((rd_T32 y160 x17_1).f0)) ∧ w'.cell? ⟨gb167, 1, none⟩ = some (.string ((rd_T32 y160 x17_1).f1))) (ds := []) #[false, false, false, false, false, false, false, false] (by kernel_rfl) rfl rfl ⟨(blk_cell BK167.out 0).trans rfl, (blk_cell BK167.out 1).trans rfl⟩ (fun hHeld => ?_); refine with_tabW laws_FnQuery.tab7 laws_FnQuery.bits7 (fun HT_ HW_ => ?_)
                            generalize w21.drew = w22 at BK167 HB hHeld ⊢
                            refine pure_ (i := 0) (N := some 21) (v := ?_) (a' := ?_) #[true, false, false, false, false, false, false, false] rfl rfl (any_of HT_.out (by kernel_rfl)) (fun _ _ _ h => h) (Or.inl ⟨by rfl, ?_⟩) ?_ ?_
                            rotate_left
                            · intro w'
                              go_simp
                              with_reducible rfl
                            rotate_left
                            · simp only [Act.put, List.setIfInBounds_toArray, List.set_cons_zero, List.set_cons_succ, i64_w, i32_w]
                              rfl
                            refine pure_ (i := 3) (N := some 24) (v := ?_) (a' := ?_) #[true, false, false, true, false, false, false, false] rfl rfl (any_of HT_.out (by kernel_rfl)) (fun _ _ _ h => h) (Or.inl ⟨by rfl, ?_⟩) ?_ ?_
                            rotate_left
                            · intro w'
                              go_simp
                              with_reducible rfl
                            rotate_left
                            · simp only [Act.put, List.setIfInBounds_toArray, List.set_cons_zero, List.set_cons_succ, i64_w, i32_w]
                              rfl
                            refine take_ (i := 1) (N := some 22) (v := ?_) (a' := ?_) #[true, true, false, true, false, false, false, false] rfl rfl (take_ofW HT_.out HW_.out (by kernel_rfl)) (fun _ _ _ h => h) (Or.inl ⟨by rfl, ?_⟩) hHeld ?_ ?_
                            rotate_left
                            · rintro w' ⟨s0, s1⟩
                              go_simp
                              with_reducible rfl
                            rotate_left
                            · simp only [Act.put, List.setIfInBounds_toArray, List.set_cons_zero, List.set_cons_succ, i64_w, i32_w]
                              rfl
                            refine take_ (i := 4) (N := some 25) (v := ?_) (a' := ?_) #[true, true, false, true, true, false, false, false] rfl rfl (take_ofW HT_.out HW_.out (by kernel_rfl)) (fun _ _ _ h => h) (Or.inl ⟨by rfl, ?_⟩) hHeld ?_ ?_
                            rotate_left
                            · rintro w' ⟨s0, s1⟩
                              go_simp
                              with_reducible rfl
                            rotate_left
                            · simp only [Act.put, List.setIfInBounds_toArray, List.set_cons_zero, List.set_cons_succ, i64_w, i32_w]
                              rfl
                            refine one_ (i := 2) (N := some 23) #[true, true, true, true, true, false, false, false] rfl rfl (one_of HT_.out (by kernel_rfl)) (by decide) (fun K hK => ?_)
                            refine goes_ Tryd.func18 (by kernel_rfl) rfl #[.string ((rd_T32 y160 x17_1).f0)] (by rfl) rfl rfl (by (try simp only [List.map_toArray, List.map_cons, List.map_nil]); first | done | rfl | (simp only [List.length_drop, List.length_take]; rfl)) ?_
                            with_reducible refine (laws_inlineLetters.calls k1 ((rd_T32 y160 x17_1).f0) t168 _ A12.out).mono ?_
                            rintro e w23 ⟨rfl, hb⟩
                            refine ⟨_, rfl, ?_⟩
                            have n0_ := Aside0.mk (blk_below (g := gb167) (o := .cells #[.string ((rd_T32 y160 x17_1).f0), .string ((rd_T32 y160 x17_1).f1)] 32 (0, 0)) (by (with_reducible repeat (first | refine blk_drewN ?_ _ | refine blk_drew ?_ | refine blk_alloc ?_ _)); exact BK167.out) hb)
                            have n1_ := Aside0.mk (below_step (by repeat (first | (with_reducible first | exact HB.out | apply below_alloc | apply pw_below_drewN | apply below_drew1 | refine below_set ?_ GE167.out) | exact HB.out)) hb)
                            clear BK167
                            clear HB
                            have BK167 := n0_
                            have HB := n1_
                            clear n0_ n1_
                            (try clear hb)
                            (try clear hb2)
                            (try clear hk)
                            (try clear hi)
                            refine hK.out _ _ ⟨(blk_cell BK167.out 0).trans rfl, (blk_cell BK167.out 1).trans rfl⟩ (fun hHeld => ?_)
                            clear hK K
                            refine norm_ (a' := ?_) ?_ ?_
                            rotate_left
                            · show Act.put _ (some 23) _ = _
                              simp only [Act.put, List.setIfInBounds_toArray, List.set_cons_zero, List.set_cons_succ, i64_w, i32_w]
                              rfl
                            refine one_ (i := 5) (N := some 26) #[true, true, true, true, true, true, false, false] rfl rfl (one_of HT_.out (by kernel_rfl)) (by decide) (fun K hK => ?_)
                            refine goes_ Tryd.func18 (by kernel_rfl) rfl #[.string ((rd_T32 y160 x17_1).f1)] (by rfl) rfl rfl (by (try simp only [List.map_toArray, List.map_cons, List.map_nil]); first | done | rfl | (simp only [List.length_drop, List.length_take]; rfl)) ?_
                            with_reducible refine (laws_inlineLetters.calls k1 ((rd_T32 y160 x17_1).f1) t169 _ A13.out).mono ?_
                            rintro e w24 ⟨rfl, hb⟩
                            refine ⟨_, rfl, ?_⟩
                            have n0_ := Aside0.mk (blk_below (g := gb167) (o := .cells #[.string ((rd_T32 y160 x17_1).f0), .string ((rd_T32 y160 x17_1).f1)] 32 (0, 0)) (by (with_reducible repeat (first | refine blk_drewN ?_ _ | refine blk_drew ?_ | refine blk_alloc ?_ _)); exact BK167.out) hb)
                            have n1_ := Aside0.mk (below_step (by repeat (first | (with_reducible first | exact HB.out | apply below_alloc | apply pw_below_drewN | apply below_drew1 | refine below_set ?_ GE167.out) | exact HB.out)) hb)
                            clear BK167
                            clear HB
                            have BK167 := n0_
                            have HB := n1_
                            clear n0_ n1_
                            (try clear hb)
                            (try clear hb2)
                            (try clear hk)
                            (try clear hi)
                            refine hK.out _ _ ⟨(blk_cell BK167.out 0).trans rfl, (blk_cell BK167.out 1).trans rfl⟩ (fun hHeld => ?_)
                            clear hK K
                            refine norm_ (a' := ?_) ?_ ?_
                            rotate_left
                            · show Act.put _ (some 26) _ = _
                              simp only [Act.put, List.setIfInBounds_toArray, List.set_cons_zero, List.set_cons_succ, i64_w, i32_w]
                              rfl
                            refine pure_ (i := 6) (N := some 6) (v := ?_) (a' := ?_) #[true, true, true, true, true, true, true, false] rfl rfl (any_of HT_.out (by kernel_rfl)) (fun _ _ _ h => h) (Or.inl ⟨by rfl, ?_⟩) ?_ ?_
                            rotate_left
                            · intro w'
                              go_simp
                              with_reducible rfl
                            rotate_left
                            · simp only [Act.put, List.setIfInBounds_toArray, List.set_cons_zero, List.set_cons_succ, i64_w, i32_w]
                              rfl
                            refine pure_ (i := 7) (N := some 7) (v := ?_) (a' := ?_) #[true, true, true, true, true, true, true, true] rfl rfl (any_of HT_.out (by kernel_rfl)) (fun _ _ _ h => h) (Or.inl ⟨by rfl, ?_⟩) ?_ ?_
                            rotate_left
                            · intro w'
                              go_simp
                              with_reducible rfl
                            rotate_left
                            · simp only [Act.put, List.setIfInBounds_toArray, List.set_cons_zero, List.set_cons_succ, i64_w, i32_w]
                              rfl
                            refine done_ (done_of HT_.out (by kernel_rfl)) ?_
                            try go_wp2
                            go_roundg k1
                            case measure => have := HK1.out; omega
                            case rel => exact ⟨(x3_1 ++ ((((⟨#[107]⟩ : ByteArray) ++ t168) ++ (⟨#[61, 118]⟩ : ByteArray)) ++ t169)), (wrap64 (x17_1 + 1)), (by first | rfl | (simp; done) | (simp [*]; done)), (by first | rfl | (simp; done) | (simp [*]; done)), H', ⟨by have := HK1.out; omega⟩, ⟨by repeat (first | (with_reducible first | exact HB.out | apply below_alloc | apply pw_below_drewN | apply below_drew1 | refine below_set ?_ GE167.out) | exact HB.out)⟩⟩
                          · rw [if_neg c18] at H
                            exact absurd H (by simp)
                        · rw [if_neg c17] at H
                          exact absurd H (by simp)
                      · rw [if_neg c16] at H
                        exact absurd H (by simp)
                    · rw [if_neg c15] at H
                      exact absurd H (by simp)
                  · rw [if_neg c14] at H
                    have c14b0 : (x3_1.toList == ([] : List UInt8)) = false := beq_eq_false_iff_ne.mpr c14
                    have c14b1 : (x3_1.toList != ([] : List UInt8)) = true := bne_iff_ne.mpr c14
                    by_cases c25 : x3_1.size + 1 ≤ 9223372036854775807
                    · rw [if_pos c25] at H
                      have c25b0 := eq_true c25
                      have c25b1 : decide (x3_1.size + 1 ≤ 9223372036854775807) = true := decide_eq_true c25
                      try have c25b2 : (9223372036854775807 < x3_1.size + 1) = False := eq_false (Nat.not_lt.2 c25)
                      by_cases c26 : 1 + t168.size ≤ 9223372036854775807
                      · rw [if_pos c26] at H
                        have c26b0 := eq_true c26
                        have c26b1 : decide (1 + t168.size ≤ 9223372036854775807) = true := decide_eq_true c26
                        try have c26b2 : (9223372036854775807 < 1 + t168.size) = False := eq_false (Nat.not_lt.2 c26)
                        by_cases c27 : ((⟨#[107]⟩ : ByteArray) ++ t168).size + 2 ≤ 9223372036854775807
                        · rw [if_pos c27] at H
                          have c27b0 := eq_true c27
                          have c27b1 : decide (((⟨#[107]⟩ : ByteArray) ++ t168).size + 2 ≤ 9223372036854775807) = true := decide_eq_true c27
                          try have c27b2 : (9223372036854775807 < ((⟨#[107]⟩ : ByteArray) ++ t168).size + 2) = False := eq_false (Nat.not_lt.2 c27)
                          try have c27b3 : (9223372036854775807 < 1 + t168.size + 2) = False := eq_false (Nat.not_lt.2 (by have h_ := c27; (try simp only [ByteArray.size_append] at h_); exact h_))
                          by_cases c28 : (((⟨#[107]⟩ : ByteArray) ++ t168) ++ (⟨#[61, 118]⟩ : ByteArray)).size + t169.size ≤ 9223372036854775807
                          · rw [if_pos c28] at H
                            have c28b0 := eq_true c28
                            have c28b1 : decide ((((⟨#[107]⟩ : ByteArray) ++ t168) ++ (⟨#[61, 118]⟩ : ByteArray)).size + t169.size ≤ 9223372036854775807) = true := decide_eq_true c28
                            try have c28b2 : (9223372036854775807 < (((⟨#[107]⟩ : ByteArray) ++ t168) ++ (⟨#[61, 118]⟩ : ByteArray)).size + t169.size) = False := eq_false (Nat.not_lt.2 c28)
                            try have c28b3 : (9223372036854775807 < 1 + t168.size + 2 + t169.size) = False := eq_false (Nat.not_lt.2 (by have h_ := c28; (try simp only [ByteArray.size_append] at h_); exact h_))
                            by_cases c29 : (x3_1 ++ (⟨#[38]⟩ : ByteArray)).size + ((((⟨#[107]⟩ : ByteArray) ++ t168) ++ (⟨#[61, 118]⟩ : ByteArray)) ++ t169).size ≤ 9223372036854775807
                            · rw [if_pos c29] at H
                              have c29b0 := eq_true c29
                              have c29b1 : decide ((x3_1 ++ (⟨#[38]⟩ : ByteArray)).size + ((((⟨#[107]⟩ : ByteArray) ++ t168) ++ (⟨#[61, 118]⟩ : ByteArray)) ++ t169).size ≤ 9223372036854775807) = true := decide_eq_true c29
                              try have c29b2 : (9223372036854775807 < (x3_1 ++ (⟨#[38]⟩ : ByteArray)).size + ((((⟨#[107]⟩ : ByteArray) ++ t168) ++ (⟨#[61, 118]⟩ : ByteArray)) ++ t169).size) = False := eq_false (Nat.not_lt.2 c29)
                              try have c29b3 : (9223372036854775807 < x3_1.size + 1 + (1 + t168.size + 2 + t169.size)) = False := eq_false (Nat.not_lt.2 (by have h_ := c29; (try simp only [ByteArray.size_append] at h_); exact h_))
                              have H' := Aside0.mk H
                              clear H
                              have p166 : 0 ≤ (x17_1 : Int) := of_decide_eq_true (by first | (with_reducible assumption) | assumption)
                              have q166 : x17_1 < (y160.length : Int) := of_decide_eq_true (by first | (with_reducible assumption) | assumption)
                              obtain ⟨ad166, e166, hx166_0, hx166_1⟩ := at_T32 HR163.out x17_1 p166 q166
                              cases e166
                              replace hx166_0 := (HB.out.cell (World.block_lt_of_cell? w _ hx166_0)).trans hx166_0
                              replace hx166_1 := (HB.out.cell (World.block_lt_of_cell? w _ hx166_1)).trans hx166_1
                              replace p166 := eq_true p166
                              replace q166 := eq_true q166
                              try go_wp2_with (first | ((with_reducible refine gate_dst (N := 5) rfl ?_); refine box_event ?hg (N := 5) ?hd (cs := #[.string (⟨#[]⟩ : ByteArray), .string (⟨#[]⟩ : ByteArray)]) (t := 32) ?hr ?_; (case hd => rfl); (case hg => rfl); (case hr => first | (go_simp; done) | (go_simp; rfl)); intro gb167 hg w30 hbox hb; have n0_ := Aside0.mk (below_step (by repeat (first | (with_reducible first | exact HB.out | apply below_alloc | apply pw_below_drewN | apply below_drew1) | exact HB.out)) hb); have n1_ := Aside0.mk (hbox); have n2_ := Aside0.mk ((by rw [hg]; exact (below_size (by repeat (first | (with_reducible first | exact HB.out | apply below_alloc | apply pw_below_drewN | apply below_drew1) | exact HB.out))) : w.heap.size ≤ gb167)); have n3_ := Aside0.mk ((by rw [hg]; exact (below_size (by repeat (first | (with_reducible first | exact HB.out | apply below_alloc | apply pw_below_drewN | apply below_drew1) | exact HB.out))) : w.heap.size ≤ gb167)); clear HB; have HB := n0_; have BK167 := n1_; have GW167 := n2_; have GE167 := n3_; clear n0_ n1_ n2_ n3_; clear hb hbox hg; have hcz31_0 : w30.cell? ⟨gb167, 0, none⟩ = some (.string (⟨#[]⟩ : ByteArray)) := (blk_cell BK167.out 0).trans rfl; have hcz31_1 : w30.cell? ⟨gb167, 1, none⟩ = some (.string (⟨#[]⟩ : ByteArray)) := (blk_cell BK167.out 1).trans rfl; have hfz31_0 := blk_frozen BK167.out 0; have hfz31_1 := blk_frozen BK167.out 1))
                              have n0_ : Aside0 (((w30.setCell ⟨gb167, 0, none⟩ (.string ((rd_T32 y160 x17_1).f0))).setCell ⟨gb167, 1, none⟩ (.string ((rd_T32 y160 x17_1).f1))).heap[gb167]? = some (.cells #[.string ((rd_T32 y160 x17_1).f0), .string ((rd_T32 y160 x17_1).f1)] 32 (0, 0))) := ⟨by (with_reducible repeat (first | refine blk_drewN ?_ _ | refine blk_drew ?_ | refine blk_alloc ?_ _)); refine blk_put (cs := #[.string ((rd_T32 y160 x17_1).f0), .string (⟨#[]⟩ : ByteArray)]) ?_ 1 _ rfl; (with_reducible repeat (first | refine blk_drewN ?_ _ | refine blk_drew ?_ | refine blk_alloc ?_ _)); refine blk_put (cs := #[.string (⟨#[]⟩ : ByteArray), .string (⟨#[]⟩ : ByteArray)]) ?_ 0 _ rfl; (with_reducible repeat (first | refine blk_drewN ?_ _ | refine blk_drew ?_ | refine blk_alloc ?_ _)); exact BK167.out⟩
                              have n1_ : Aside0 (Below w.heap.size w ((w30.setCell ⟨gb167, 0, none⟩ (.string ((rd_T32 y160 x17_1).f0))).setCell ⟨gb167, 1, none⟩ (.string ((rd_T32 y160 x17_1).f1)))) := ⟨by repeat (first | (with_reducible first | exact HB.out | apply below_alloc | apply pw_below_drewN | apply below_drew1 | refine below_set ?_ GE167.out) | exact HB.out)⟩
                              (try clear BK167)
                              (try clear HB)
                              generalize ((w30.setCell ⟨gb167, 0, none⟩ (.string ((rd_T32 y160 x17_1).f0))).setCell ⟨gb167, 1, none⟩ (.string ((rd_T32 y160 x17_1).f1))) = w32 at n0_ n1_ ⊢
                              have BK167 := n0_
                              have HB := n1_
                              clear n0_ n1_
                              have n0_ := Aside0.mk (blk_drew BK167.out)
                              have n1_ := Aside0.mk (below_drew1 HB.out)
                              clear BK167
                              clear HB
                              have BK167 := n0_
                              have HB := n1_
                              clear n0_ n1_
                              refine start_ (n := 8) (S := fun w' => w'.cell? ⟨gb167, 0, none⟩ = some (.string ((rd_T32 y160 x17_1).f0)) ∧ w'.cell? ⟨gb167, 1, none⟩ = some (.string ((rd_T32 y160 x17_1).f1))) (ds := []) #[false, false, false, false, false, false, false, false] (by kernel_rfl) rfl rfl ⟨(blk_cell BK167.out 0).trans rfl, (blk_cell BK167.out 1).trans rfl⟩ (fun hHeld => ?_); refine with_tabW laws_FnQuery.tab7 laws_FnQuery.bits7 (fun HT_ HW_ => ?_)
                              generalize w32.drew = w33 at BK167 HB hHeld ⊢
                              refine pure_ (i := 0) (N := some 21) (v := ?_) (a' := ?_) #[true, false, false, false, false, false, false, false] rfl rfl (any_of HT_.out (by kernel_rfl)) (fun _ _ _ h => h) (Or.inl ⟨by rfl, ?_⟩) ?_ ?_
                              rotate_left
                              · intro w'
                                go_simp
                                with_reducible rfl
                              rotate_left
                              · simp only [Act.put, List.setIfInBounds_toArray, List.set_cons_zero, List.set_cons_succ, i64_w, i32_w]
                                rfl
                              refine pure_ (i := 3) (N := some 24) (v := ?_) (a' := ?_) #[true, false, false, true, false, false, false, false] rfl rfl (any_of HT_.out (by kernel_rfl)) (fun _ _ _ h => h) (Or.inl ⟨by rfl, ?_⟩) ?_ ?_
                              rotate_left
                              · intro w'
                                go_simp
                                with_reducible rfl
                              rotate_left
                              · simp only [Act.put, List.setIfInBounds_toArray, List.set_cons_zero, List.set_cons_succ, i64_w, i32_w]
                                rfl
                              refine take_ (i := 1) (N := some 22) (v := ?_) (a' := ?_) #[true, true, false, true, false, false, false, false] rfl rfl (take_ofW HT_.out HW_.out (by kernel_rfl)) (fun _ _ _ h => h) (Or.inl ⟨by rfl, ?_⟩) hHeld ?_ ?_
                              rotate_left
                              · rintro w' ⟨s0, s1⟩
                                go_simp
                                with_reducible rfl
                              rotate_left
                              · simp only [Act.put, List.setIfInBounds_toArray, List.set_cons_zero, List.set_cons_succ, i64_w, i32_w]
                                rfl
                              refine take_ (i := 4) (N := some 25) (v := ?_) (a' := ?_) #[true, true, false, true, true, false, false, false] rfl rfl (take_ofW HT_.out HW_.out (by kernel_rfl)) (fun _ _ _ h => h) (Or.inl ⟨by rfl, ?_⟩) hHeld ?_ ?_
                              rotate_left
                              · rintro w' ⟨s0, s1⟩
                                go_simp
                                with_reducible rfl
                              rotate_left
                              · simp only [Act.put, List.setIfInBounds_toArray, List.set_cons_zero, List.set_cons_succ, i64_w, i32_w]
                                rfl
                              refine one_ (i := 2) (N := some 23) #[true, true, true, true, true, false, false, false] rfl rfl (one_of HT_.out (by kernel_rfl)) (by decide) (fun K hK => ?_)
                              refine goes_ Tryd.func18 (by kernel_rfl) rfl #[.string ((rd_T32 y160 x17_1).f0)] (by rfl) rfl rfl (by (try simp only [List.map_toArray, List.map_cons, List.map_nil]); first | done | rfl | (simp only [List.length_drop, List.length_take]; rfl)) ?_
                              with_reducible refine (laws_inlineLetters.calls k1 ((rd_T32 y160 x17_1).f0) t168 _ A12.out).mono ?_
                              rintro e w34 ⟨rfl, hb⟩
                              refine ⟨_, rfl, ?_⟩
                              have n0_ := Aside0.mk (blk_below (g := gb167) (o := .cells #[.string ((rd_T32 y160 x17_1).f0), .string ((rd_T32 y160 x17_1).f1)] 32 (0, 0)) (by (with_reducible repeat (first | refine blk_drewN ?_ _ | refine blk_drew ?_ | refine blk_alloc ?_ _)); exact BK167.out) hb)
                              have n1_ := Aside0.mk (below_step (by repeat (first | (with_reducible first | exact HB.out | apply below_alloc | apply pw_below_drewN | apply below_drew1 | refine below_set ?_ GE167.out) | exact HB.out)) hb)
                              clear BK167
                              clear HB
                              have BK167 := n0_
                              have HB := n1_
                              clear n0_ n1_
                              (try clear hb)
                              (try clear hb2)
                              (try clear hk)
                              (try clear hi)
                              refine hK.out _ _ ⟨(blk_cell BK167.out 0).trans rfl, (blk_cell BK167.out 1).trans rfl⟩ (fun hHeld => ?_)
                              clear hK K
                              refine norm_ (a' := ?_) ?_ ?_
                              rotate_left
                              · show Act.put _ (some 23) _ = _
                                simp only [Act.put, List.setIfInBounds_toArray, List.set_cons_zero, List.set_cons_succ, i64_w, i32_w]
                                rfl
                              refine one_ (i := 5) (N := some 26) #[true, true, true, true, true, true, false, false] rfl rfl (one_of HT_.out (by kernel_rfl)) (by decide) (fun K hK => ?_)
                              refine goes_ Tryd.func18 (by kernel_rfl) rfl #[.string ((rd_T32 y160 x17_1).f1)] (by rfl) rfl rfl (by (try simp only [List.map_toArray, List.map_cons, List.map_nil]); first | done | rfl | (simp only [List.length_drop, List.length_take]; rfl)) ?_
                              with_reducible refine (laws_inlineLetters.calls k1 ((rd_T32 y160 x17_1).f1) t169 _ A13.out).mono ?_
                              rintro e w35 ⟨rfl, hb⟩
                              refine ⟨_, rfl, ?_⟩
                              have n0_ := Aside0.mk (blk_below (g := gb167) (o := .cells #[.string ((rd_T32 y160 x17_1).f0), .string ((rd_T32 y160 x17_1).f1)] 32 (0, 0)) (by (with_reducible repeat (first | refine blk_drewN ?_ _ | refine blk_drew ?_ | refine blk_alloc ?_ _)); exact BK167.out) hb)
                              have n1_ := Aside0.mk (below_step (by repeat (first | (with_reducible first | exact HB.out | apply below_alloc | apply pw_below_drewN | apply below_drew1 | refine below_set ?_ GE167.out) | exact HB.out)) hb)
                              clear BK167
                              clear HB
                              have BK167 := n0_
                              have HB := n1_
                              clear n0_ n1_
                              (try clear hb)
                              (try clear hb2)
                              (try clear hk)
                              (try clear hi)
                              refine hK.out _ _ ⟨(blk_cell BK167.out 0).trans rfl, (blk_cell BK167.out 1).trans rfl⟩ (fun hHeld => ?_)
                              clear hK K
                              refine norm_ (a' := ?_) ?_ ?_
                              rotate_left
                              · show Act.put _ (some 26) _ = _
                                simp only [Act.put, List.setIfInBounds_toArray, List.set_cons_zero, List.set_cons_succ, i64_w, i32_w]
                                rfl
                              refine pure_ (i := 6) (N := some 6) (v := ?_) (a' := ?_) #[true, true, true, true, true, true, true, false] rfl rfl (any_of HT_.out (by kernel_rfl)) (fun _ _ _ h => h) (Or.inl ⟨by rfl, ?_⟩) ?_ ?_
                              rotate_left
                              · intro w'
                                go_simp
                                with_reducible rfl
                              rotate_left
                              · simp only [Act.put, List.setIfInBounds_toArray, List.set_cons_zero, List.set_cons_succ, i64_w, i32_w]
                                rfl
                              refine pure_ (i := 7) (N := some 7) (v := ?_) (a' := ?_) #[true, true, true, true, true, true, true, true] rfl rfl (any_of HT_.out (by kernel_rfl)) (fun _ _ _ h => h) (Or.inl ⟨by rfl, ?_⟩) ?_ ?_
                              rotate_left
                              · intro w'
                                go_simp
                                with_reducible rfl
                              rotate_left
                              · simp only [Act.put, List.setIfInBounds_toArray, List.set_cons_zero, List.set_cons_succ, i64_w, i32_w]
                                rfl
                              refine done_ (done_of HT_.out (by kernel_rfl)) ?_
                              try go_wp2
                              go_roundg k1
                              case measure => have := HK1.out; omega
                              case rel => exact ⟨((x3_1 ++ (⟨#[38]⟩ : ByteArray)) ++ ((((⟨#[107]⟩ : ByteArray) ++ t168) ++ (⟨#[61, 118]⟩ : ByteArray)) ++ t169)), (wrap64 (x17_1 + 1)), (by first | rfl | (simp; done) | (simp [*]; done)), (by first | rfl | (simp; done) | (simp [*]; done)), H', ⟨by have := HK1.out; omega⟩, ⟨by repeat (first | (with_reducible first | exact HB.out | apply below_alloc | apply pw_below_drewN | apply below_drew1 | refine below_set ?_ GE167.out) | exact HB.out)⟩⟩
                            · rw [if_neg c29] at H
                              exact absurd H (by simp)
                          · rw [if_neg c28] at H
                            exact absurd H (by simp)
                        · rw [if_neg c27] at H
                          exact absurd H (by simp)
                      · rw [if_neg c26] at H
                        exact absurd H (by simp)
                    · rw [if_neg c25] at H
                      exact absurd H (by simp)
                · rw [if_neg c11] at H
                  exact absurd H (by simp)
              · rw [if_neg c10] at H
                exact absurd H (by simp)
            · rw [if_neg c9] at H
              have c9b0 : decide (x17_1 < (y160.length : Int)) = false := decide_eq_false c9
              clear c9
              replace H := Option.bind_eq_some_iff.mp H
              obtain ⟨t164, A360, H⟩ := H
              replace H : (if t164.toList = x3_1.toList then ((laws_inlineLives.f).bind fun t165 => (some t165)) else (some false)) = some r := H
              have A36 := Aside0.mk A360
              clear A360
              by_cases c37 : t164.toList = x3_1.toList
              · rw [if_pos c37] at H
                have c37b0 : (t164.toList == x3_1.toList) = true := beq_iff_eq.mpr c37
                have c37b1 : (t164.toList != x3_1.toList) = false := bne_eq_false_iff_eq.mpr c37
                clear c37
                replace H := Option.bind_eq_some_iff.mp H
                obtain ⟨t165, A380, H⟩ := H
                replace H : (some t165) = some r := H
                have A38 := Aside0.mk A380
                clear A380
                obtain rfl := Option.some.inj H
                go_wp2_with (first | ((with_reducible refine gate_callee (f := 19) rfl ?_); refine goesL_ (some 40) rfl rfl Tryd.func19 (by kernel_rfl) rfl #[.string x3_1] rfl (by (try simp only [List.map_toArray, List.map_cons, List.map_nil]); first | done | rfl | (simp only [List.length_drop, List.length_take]; rfl)) ?_; (with_reducible refine (impl_Query.calls k1 x3_1 t164 _ A36.out ?sideT).mono ?_); (case sideT => exact Hand.tabB_below HT0.out (by repeat (first | (with_reducible first | exact HB.out | apply below_alloc | apply pw_below_drewN | apply below_drew1) | exact HB.out))); rintro e w39 ⟨rfl, hb⟩; refine ⟨_, rfl, ?_⟩; have n0_ := Aside0.mk (below_step (by repeat (first | (with_reducible first | exact HB.out | apply below_alloc | apply pw_below_drewN | apply below_drew1) | exact HB.out)) hb); clear HB; have HB := n0_; clear n0_; (try clear hb); (try clear hb2); (try clear hk); (try clear hi)) | (go_at_call 10; (with_reducible refine (laws_inlineLives.calls  t165 _ A38.out).mono ?_); rintro e w40 ⟨rfl, hb⟩; have n0_ := Aside0.mk (below_step (by repeat (first | (with_reducible first | exact HB.out | apply below_alloc | apply pw_below_drewN | apply below_drew1) | exact HB.out)) hb); clear HB; have HB := n0_; clear n0_; (try clear hb); (try clear hb2); (try clear hk); (try clear hi)))
                go_ret
                exact ⟨by first | rfl | (simp [errW_none, errW_some] <;> rfl) | (simp only [← hji4]; first | rfl | (simp [errW_none, errW_some] <;> rfl)) | (simp [*, errW_none, errW_some] <;> rfl), by repeat (first | (with_reducible first | exact HB.out | apply below_alloc | apply pw_below_drewN | apply below_drew1) | exact HB.out)⟩
              · rw [if_neg c37] at H
                have c37b0 : (t164.toList == x3_1.toList) = false := beq_eq_false_iff_ne.mpr c37
                have c37b1 : (t164.toList != x3_1.toList) = true := bne_iff_ne.mpr c37
                obtain rfl := Option.some.inj H
                go_wp2_with (first | ((with_reducible refine gate_callee (f := 19) rfl ?_); refine goesL_ (some 40) rfl rfl Tryd.func19 (by kernel_rfl) rfl #[.string x3_1] rfl (by (try simp only [List.map_toArray, List.map_cons, List.map_nil]); first | done | rfl | (simp only [List.length_drop, List.length_take]; rfl)) ?_; (with_reducible refine (impl_Query.calls k1 x3_1 t164 _ A36.out ?sideT).mono ?_); (case sideT => exact Hand.tabB_below HT0.out (by repeat (first | (with_reducible first | exact HB.out | apply below_alloc | apply pw_below_drewN | apply below_drew1) | exact HB.out))); rintro e w41 ⟨rfl, hb⟩; refine ⟨_, rfl, ?_⟩; have n0_ := Aside0.mk (below_step (by repeat (first | (with_reducible first | exact HB.out | apply below_alloc | apply pw_below_drewN | apply below_drew1) | exact HB.out)) hb); clear HB; have HB := n0_; clear n0_; (try clear hb); (try clear hb2); (try clear hk); (try clear hi)))
                go_ret
                exact ⟨by first | rfl | (simp [errW_none, errW_some] <;> rfl) | (simp only [← hji4]; first | rfl | (simp [errW_none, errW_some] <;> rfl)) | (simp [*, errW_none, errW_some] <;> rfl), by repeat (first | (with_reducible first | exact HB.out | apply below_alloc | apply pw_below_drewN | apply below_drew1) | exact HB.out)⟩
      · rw [if_neg c6] at H
        exact absurd H (by simp)
    · rw [if_neg c5] at H
      exact absurd H (by simp)
  · replace c3 := Bool.eq_false_iff.mpr c3
    subst c3
    have H1 : (some true) = some r := by rw [if_neg (show ¬ (false = true) by decide)] at H; exact H
    clear H
    have H := H1
    clear H1
    obtain rfl := Option.some.inj H
    go_enter Tryd.func6, Tryd.ntmps6
    go_wp2_with (first | ((with_reducible refine gate_callee (f := 17) rfl ?_); refine goesL_ (some 9) rfl rfl Tryd.func17 (by kernel_rfl) rfl #[.slice A0 l0.length c0] rfl (by (try simp only [List.map_toArray, List.map_cons, List.map_nil]); first | done | rfl | (simp only [List.length_drop, List.length_take]; rfl)) ?_; (with_reducible refine (laws_zzFits3.calls k _ _ l0 false _ ?side1 ?side2 A2.out).mono ?_); (case side1 => repeat (first | exact HR0.out | (with_reducible refine Kd.C_alloc ?_ _) | (with_reducible refine Kd.C_drewN ?_ _) | (with_reducible refine Kd.C_drew ?_))); (case side2 => exact HC0.out); rintro e w42 ⟨rfl, hb⟩; refine ⟨_, rfl, ?_⟩; have n0_ := Aside0.mk (below_step (by repeat (first | (with_reducible first | exact HB.out | apply below_alloc | apply pw_below_drewN | apply below_drew1) | exact HB.out)) hb); clear HB; have HB := n0_; clear n0_; (try clear hb); (try clear hb2); (try clear hk); (try clear hi)))
    go_ret
    exact ⟨by first | rfl | (simp [errW_none, errW_some] <;> rfl) | (simp [*, errW_none, errW_some] <;> rfl), by repeat (first | (with_reducible first | exact HB.out | apply below_alloc | apply pw_below_drewN | apply below_drew1) | exact HB.out)⟩

end Go.Proofs.YtnhcocjdkmelhaaDoor.GFnQuery
