-- made by a program of this session, after the kit's print
import Derived.Test.YtnhcocjdkmelhaaGFnLinex0
import Derived.Test.YtnhcocjdkmelhaaGFnLinex1
import Derived.Test.YtnhcocjdkmelhaaGivFnLine
namespace Go.Proofs.Ytnhcocjdkmelhaa.GFnLine
open Go.RowKit Go.Proofs.YtnhcocjdkmelhaaW.PrintWords Go.Proofs.YtnhcocjdkmelhaaW.PrintLast Go.Proofs.YtnhcocjdkmelhaaW.PrintMore
attribute [local go_sem] max2_int min2_int max_two min_two max_three min_three max_four min_four   -- for this text's walks alone
set_option linter.unusedVariables false
set_option linter.unusedSimpArgs false

/-! ### laws_FnLine: function 4 -/
mutual
def laws_FnLine.j0 : Nat → List ByteArray → List Int → Bool → Option (Bool)
  | 0, _, _, _ => none
  | k + 1, x0, x1, x17 => if x17 = true then (some true) else (if (x0.length : Int) = (x1.length : Int) then (laws_FnLine.j1 k x0 x1 ((x1.length : Int) == 0)) else (laws_FnLine.j1 k x0 x1 true))
def laws_FnLine.j1 : Nat → List ByteArray → List Int → Bool → Option (Bool)
  | 0, _, _, _ => none
  | k + 1, x0, x1, x27 => if x27 = true then (some true) else (laws_FnLine.l0 k x0 x1 (⟨#[124]⟩ : ByteArray) x1 (x1.length : Int) 0)
def laws_FnLine.l0 : Nat → List ByteArray → List Int → ByteArray → List Int → Int → Int → Option (Bool)
  | 0, _, _, _, _, _, _ => none
  | k + 1, x0, x1, x5, x28, x29, x30 => if x30 < x29 then (if 0 ≤ x30 then (if x30 < (x28.length : Int) then (if (rd x28 x30) < 0 then (laws_FnLine.j3 k x0 x1 x5 x30 (rd x28 x30) x28 x29 x30 true) else (laws_FnLine.j3 k x0 x1 x5 x30 (rd x28 x30) x28 x29 x30 (decide ((rd x28 x30) > 1000)))) else (none)) else (none)) else ((impl_Line.f 0 x0 x1).bind fun t109 => (if t109.toList = x5.toList then ((impl_Line.f 1 x0 x1).bind fun t110 => (some (t110.toList == x5.toList))) else (some false)))
def laws_FnLine.j3 : Nat → List ByteArray → List Int → ByteArray → Int → Int → List Int → Int → Int → Bool → Option (Bool)
  | 0, _, _, _, _, _, _, _, _, _ => none
  | k + 1, x0, x1, x5, x6, x7, x28, x29, x30, x40 => if x40 = true then (some true) else (if 0 ≤ x6 then (if x6 < (x0.length : Int) then (if (rdOf ByteArray.empty x0 x6).toList = ([108, 101, 102, 116] : List UInt8) then (laws_FnLine.j4 k x0 x1 x5 x6 x7 (⟨#[45]⟩ : ByteArray) (⟨#[45]⟩ : ByteArray) x28 x29 x30 true) else (laws_FnLine.j4 k x0 x1 x5 x6 x7 (⟨#[45]⟩ : ByteArray) (⟨#[45]⟩ : ByteArray) x28 x29 x30 ((rdOf ByteArray.empty x0 x6).toList == ([99, 101, 110, 116, 101, 114] : List UInt8)))) else (none)) else (none))
def laws_FnLine.j4 : Nat → List ByteArray → List Int → ByteArray → Int → Int → ByteArray → ByteArray → List Int → Int → Int → Bool → Option (Bool)
  | 0, _, _, _, _, _, _, _, _, _, _, _ => none
  | k + 1, x0, x1, x5, x6, x7, x8, x9, x28, x29, x30, x52 => if x52 = true then (if 0 ≤ x6 then (if x6 < (x0.length : Int) then (if (rdOf ByteArray.empty x0 x6).toList = ([114, 105, 103, 104, 116] : List UInt8) then ((spec_Times29.f k (⟨#[45]⟩ : ByteArray) x7).bind fun t115 => (if 1 + t115.size ≤ 9223372036854775807 then (if ((⟨#[58]⟩ : ByteArray) ++ t115).size + 1 ≤ 9223372036854775807 then (if (((⟨#[58]⟩ : ByteArray) ++ t115) ++ (⟨#[58]⟩ : ByteArray)).size + 1 ≤ 9223372036854775807 then (if x5.size + ((((⟨#[58]⟩ : ByteArray) ++ t115) ++ (⟨#[58]⟩ : ByteArray)) ++ (⟨#[124]⟩ : ByteArray)).size ≤ 9223372036854775807 then (laws_FnLine.l0 k x0 x1 (x5 ++ ((((⟨#[58]⟩ : ByteArray) ++ t115) ++ (⟨#[58]⟩ : ByteArray)) ++ (⟨#[124]⟩ : ByteArray))) x28 x29 (wrap64 (x30 + 1))) else (none)) else (none)) else (none)) else (none))) else (if (rdOf ByteArray.empty x0 x6).toList = ([99, 101, 110, 116, 101, 114] : List UInt8) then ((spec_Times29.f k (⟨#[45]⟩ : ByteArray) x7).bind fun t117 => (if 1 + t117.size ≤ 9223372036854775807 then (if ((⟨#[58]⟩ : ByteArray) ++ t117).size + 1 ≤ 9223372036854775807 then (if (((⟨#[58]⟩ : ByteArray) ++ t117) ++ (⟨#[58]⟩ : ByteArray)).size + 1 ≤ 9223372036854775807 then (if x5.size + ((((⟨#[58]⟩ : ByteArray) ++ t117) ++ (⟨#[58]⟩ : ByteArray)) ++ (⟨#[124]⟩ : ByteArray)).size ≤ 9223372036854775807 then (laws_FnLine.l0 k x0 x1 (x5 ++ ((((⟨#[58]⟩ : ByteArray) ++ t117) ++ (⟨#[58]⟩ : ByteArray)) ++ (⟨#[124]⟩ : ByteArray))) x28 x29 (wrap64 (x30 + 1))) else (none)) else (none)) else (none)) else (none))) else ((spec_Times29.f k (⟨#[45]⟩ : ByteArray) x7).bind fun t118 => (if 1 + t118.size ≤ 9223372036854775807 then (if ((⟨#[58]⟩ : ByteArray) ++ t118).size + x9.size ≤ 9223372036854775807 then (if (((⟨#[58]⟩ : ByteArray) ++ t118) ++ x9).size + 1 ≤ 9223372036854775807 then (if x5.size + ((((⟨#[58]⟩ : ByteArray) ++ t118) ++ x9) ++ (⟨#[124]⟩ : ByteArray)).size ≤ 9223372036854775807 then (laws_FnLine.l0 k x0 x1 (x5 ++ ((((⟨#[58]⟩ : ByteArray) ++ t118) ++ x9) ++ (⟨#[124]⟩ : ByteArray))) x28 x29 (wrap64 (x30 + 1))) else (none)) else (none)) else (none)) else (none))))) else (none)) else (none)) else (if 0 ≤ x6 then (if x6 < (x0.length : Int) then (if (rdOf ByteArray.empty x0 x6).toList = ([114, 105, 103, 104, 116] : List UInt8) then ((spec_Times29.f k (⟨#[45]⟩ : ByteArray) x7).bind fun t120 => (if x8.size + t120.size ≤ 9223372036854775807 then (if (x8 ++ t120).size + 1 ≤ 9223372036854775807 then (if ((x8 ++ t120) ++ (⟨#[58]⟩ : ByteArray)).size + 1 ≤ 9223372036854775807 then (if x5.size + (((x8 ++ t120) ++ (⟨#[58]⟩ : ByteArray)) ++ (⟨#[124]⟩ : ByteArray)).size ≤ 9223372036854775807 then (laws_FnLine.l0 k x0 x1 (x5 ++ (((x8 ++ t120) ++ (⟨#[58]⟩ : ByteArray)) ++ (⟨#[124]⟩ : ByteArray))) x28 x29 (wrap64 (x30 + 1))) else (none)) else (none)) else (none)) else (none))) else (if (rdOf ByteArray.empty x0 x6).toList = ([99, 101, 110, 116, 101, 114] : List UInt8) then ((spec_Times29.f k (⟨#[45]⟩ : ByteArray) x7).bind fun t122 => (if x8.size + t122.size ≤ 9223372036854775807 then (if (x8 ++ t122).size + 1 ≤ 9223372036854775807 then (if ((x8 ++ t122) ++ (⟨#[58]⟩ : ByteArray)).size + 1 ≤ 9223372036854775807 then (if x5.size + (((x8 ++ t122) ++ (⟨#[58]⟩ : ByteArray)) ++ (⟨#[124]⟩ : ByteArray)).size ≤ 9223372036854775807 then (laws_FnLine.l0 k x0 x1 (x5 ++ (((x8 ++ t122) ++ (⟨#[58]⟩ : ByteArray)) ++ (⟨#[124]⟩ : ByteArray))) x28 x29 (wrap64 (x30 + 1))) else (none)) else (none)) else (none)) else (none))) else ((spec_Times29.f k (⟨#[45]⟩ : ByteArray) x7).bind fun t123 => (if x8.size + t123.size ≤ 9223372036854775807 then (if (x8 ++ t123).size + x9.size ≤ 9223372036854775807 then (if ((x8 ++ t123) ++ x9).size + 1 ≤ 9223372036854775807 then (if x5.size + (((x8 ++ t123) ++ x9) ++ (⟨#[124]⟩ : ByteArray)).size ≤ 9223372036854775807 then (laws_FnLine.l0 k x0 x1 (x5 ++ (((x8 ++ t123) ++ x9) ++ (⟨#[124]⟩ : ByteArray))) x28 x29 (wrap64 (x30 + 1))) else (none)) else (none)) else (none)) else (none))))) else (none)) else (none))
end
def laws_FnLine.f (k : Nat) (l0 : List ByteArray) (l1 : List Int) : Option (Bool) := (laws_zzFits5.f k l0).bind fun t108 => (if t108 = true then (laws_FnLine.j0 k l0 l1 (decide ((l1.length : Int) > 2147483647))) else (laws_FnLine.j0 k l0 l1 true))
theorem laws_FnLine.mono_l : ∀ k, (∀ y0 y1 y2, LeO (laws_FnLine.j0 k y0 y1 y2) (laws_FnLine.j0 (k + 1) y0 y1 y2)) ∧ (∀ y0 y1 y2, LeO (laws_FnLine.j1 k y0 y1 y2) (laws_FnLine.j1 (k + 1) y0 y1 y2)) ∧ (∀ y0 y1 y2 y3 y4 y5, LeO (laws_FnLine.l0 k y0 y1 y2 y3 y4 y5) (laws_FnLine.l0 (k + 1) y0 y1 y2 y3 y4 y5)) ∧ (∀ y0 y1 y2 y3 y4 y5 y6 y7 y8, LeO (laws_FnLine.j3 k y0 y1 y2 y3 y4 y5 y6 y7 y8) (laws_FnLine.j3 (k + 1) y0 y1 y2 y3 y4 y5 y6 y7 y8)) ∧ (∀ y0 y1 y2 y3 y4 y5 y6 y7 y8 y9 y10, LeO (laws_FnLine.j4 k y0 y1 y2 y3 y4 y5 y6 y7 y8 y9 y10) (laws_FnLine.j4 (k + 1) y0 y1 y2 y3 y4 y5 y6 y7 y8 y9 y10))
  | 0 => ⟨fun _ _ _ r h => by simp [laws_FnLine.j0] at h, fun _ _ _ r h => by simp [laws_FnLine.j1] at h, fun _ _ _ _ _ _ r h => by simp [laws_FnLine.l0] at h, fun _ _ _ _ _ _ _ _ _ r h => by simp [laws_FnLine.j3] at h, fun _ _ _ _ _ _ _ _ _ _ _ r h => by simp [laws_FnLine.j4] at h⟩
  | k + 1 => by
    obtain ⟨ih0, ih1, ih2, ih3, ih4⟩ := laws_FnLine.mono_l k
    refine ⟨?_, ?_, ?_, ?_, ?_⟩
    · intro y0 y1 y2
      unfold laws_FnLine.j0
      repeat' first
      | (with_reducible exact ih0 _ _ _)
      | (with_reducible exact ih1 _ _ _)
      | (with_reducible exact ih2 _ _ _ _ _ _)
      | (with_reducible exact ih3 _ _ _ _ _ _ _ _ _)
      | (with_reducible exact ih4 _ _ _ _ _ _ _ _ _ _ _)
      | (with_reducible exact laws_zzFits5.mono _ _)
      | (with_reducible exact spec_Times29.mono _ _ _)
      | (with_reducible exact LeO.refl _)
      | (with_reducible exact LeO.none _)
      | (with_reducible refine LeO.ite ?_ ?_)
      | (with_reducible refine LeO.bind ?_ (fun _ => ?_))
      | exact ih0 _ _ _
      | exact ih1 _ _ _
      | exact ih2 _ _ _ _ _ _
      | exact ih3 _ _ _ _ _ _ _ _ _
      | exact ih4 _ _ _ _ _ _ _ _ _ _ _
      | exact laws_zzFits5.mono _ _
      | exact spec_Times29.mono _ _ _
      | exact LeO.none _
      | refine LeO.ite ?_ ?_
      | refine LeO.bind ?_ (fun _ => ?_)
    · intro y0 y1 y2
      unfold laws_FnLine.j1
      repeat' first
      | (with_reducible exact ih0 _ _ _)
      | (with_reducible exact ih1 _ _ _)
      | (with_reducible exact ih2 _ _ _ _ _ _)
      | (with_reducible exact ih3 _ _ _ _ _ _ _ _ _)
      | (with_reducible exact ih4 _ _ _ _ _ _ _ _ _ _ _)
      | (with_reducible exact laws_zzFits5.mono _ _)
      | (with_reducible exact spec_Times29.mono _ _ _)
      | (with_reducible exact LeO.refl _)
      | (with_reducible exact LeO.none _)
      | (with_reducible refine LeO.ite ?_ ?_)
      | (with_reducible refine LeO.bind ?_ (fun _ => ?_))
      | exact ih0 _ _ _
      | exact ih1 _ _ _
      | exact ih2 _ _ _ _ _ _
      | exact ih3 _ _ _ _ _ _ _ _ _
      | exact ih4 _ _ _ _ _ _ _ _ _ _ _
      | exact laws_zzFits5.mono _ _
      | exact spec_Times29.mono _ _ _
      | exact LeO.none _
      | refine LeO.ite ?_ ?_
      | refine LeO.bind ?_ (fun _ => ?_)
    · intro y0 y1 y2 y3 y4 y5
      unfold laws_FnLine.l0
      repeat' first
      | (with_reducible exact ih0 _ _ _)
      | (with_reducible exact ih1 _ _ _)
      | (with_reducible exact ih2 _ _ _ _ _ _)
      | (with_reducible exact ih3 _ _ _ _ _ _ _ _ _)
      | (with_reducible exact ih4 _ _ _ _ _ _ _ _ _ _ _)
      | (with_reducible exact laws_zzFits5.mono _ _)
      | (with_reducible exact spec_Times29.mono _ _ _)
      | (with_reducible exact LeO.refl _)
      | (with_reducible exact LeO.none _)
      | (with_reducible refine LeO.ite ?_ ?_)
      | (with_reducible refine LeO.bind ?_ (fun _ => ?_))
      | exact ih0 _ _ _
      | exact ih1 _ _ _
      | exact ih2 _ _ _ _ _ _
      | exact ih3 _ _ _ _ _ _ _ _ _
      | exact ih4 _ _ _ _ _ _ _ _ _ _ _
      | exact laws_zzFits5.mono _ _
      | exact spec_Times29.mono _ _ _
      | exact LeO.none _
      | refine LeO.ite ?_ ?_
      | refine LeO.bind ?_ (fun _ => ?_)
    · intro y0 y1 y2 y3 y4 y5 y6 y7 y8
      unfold laws_FnLine.j3
      repeat' first
      | (with_reducible exact ih0 _ _ _)
      | (with_reducible exact ih1 _ _ _)
      | (with_reducible exact ih2 _ _ _ _ _ _)
      | (with_reducible exact ih3 _ _ _ _ _ _ _ _ _)
      | (with_reducible exact ih4 _ _ _ _ _ _ _ _ _ _ _)
      | (with_reducible exact laws_zzFits5.mono _ _)
      | (with_reducible exact spec_Times29.mono _ _ _)
      | (with_reducible exact LeO.refl _)
      | (with_reducible exact LeO.none _)
      | (with_reducible refine LeO.ite ?_ ?_)
      | (with_reducible refine LeO.bind ?_ (fun _ => ?_))
      | exact ih0 _ _ _
      | exact ih1 _ _ _
      | exact ih2 _ _ _ _ _ _
      | exact ih3 _ _ _ _ _ _ _ _ _
      | exact ih4 _ _ _ _ _ _ _ _ _ _ _
      | exact laws_zzFits5.mono _ _
      | exact spec_Times29.mono _ _ _
      | exact LeO.none _
      | refine LeO.ite ?_ ?_
      | refine LeO.bind ?_ (fun _ => ?_)
    · intro y0 y1 y2 y3 y4 y5 y6 y7 y8 y9 y10
      unfold laws_FnLine.j4
      repeat' first
      | (with_reducible exact ih0 _ _ _)
      | (with_reducible exact ih1 _ _ _)
      | (with_reducible exact ih2 _ _ _ _ _ _)
      | (with_reducible exact ih3 _ _ _ _ _ _ _ _ _)
      | (with_reducible exact ih4 _ _ _ _ _ _ _ _ _ _ _)
      | (with_reducible exact laws_zzFits5.mono _ _)
      | (with_reducible exact spec_Times29.mono _ _ _)
      | (with_reducible exact LeO.refl _)
      | (with_reducible exact LeO.none _)
      | (with_reducible refine LeO.ite ?_ ?_)
      | (with_reducible refine LeO.bind ?_ (fun _ => ?_))
      | exact ih0 _ _ _
      | exact ih1 _ _ _
      | exact ih2 _ _ _ _ _ _
      | exact ih3 _ _ _ _ _ _ _ _ _
      | exact ih4 _ _ _ _ _ _ _ _ _ _ _
      | exact laws_zzFits5.mono _ _
      | exact spec_Times29.mono _ _ _
      | exact LeO.none _
      | refine LeO.ite ?_ ?_
      | refine LeO.bind ?_ (fun _ => ?_)
theorem laws_FnLine.mono : ∀ a0 a1 k, LeO (laws_FnLine.f k a0 a1) (laws_FnLine.f (k + 1) a0 a1) := by
  intro a0 a1 k
  obtain ⟨ih0, ih1, ih2, ih3, ih4⟩ := laws_FnLine.mono_l k
  unfold laws_FnLine.f
  repeat' first
      | (with_reducible exact ih0 _ _ _)
      | (with_reducible exact ih1 _ _ _)
      | (with_reducible exact ih2 _ _ _ _ _ _)
      | (with_reducible exact ih3 _ _ _ _ _ _ _ _ _)
      | (with_reducible exact ih4 _ _ _ _ _ _ _ _ _ _ _)
      | (with_reducible exact laws_zzFits5.mono _ _)
      | (with_reducible exact spec_Times29.mono _ _ _)
      | (with_reducible exact LeO.refl _)
      | (with_reducible exact LeO.none _)
      | (with_reducible refine LeO.ite ?_ ?_)
      | (with_reducible refine LeO.bind ?_ (fun _ => ?_))
      | exact ih0 _ _ _
      | exact ih1 _ _ _
      | exact ih2 _ _ _ _ _ _
      | exact ih3 _ _ _ _ _ _ _ _ _
      | exact ih4 _ _ _ _ _ _ _ _ _ _ _
      | exact laws_zzFits5.mono _ _
      | exact spec_Times29.mono _ _ _
      | exact LeO.none _
      | refine LeO.ite ?_ ?_
      | refine LeO.bind ?_ (fun _ => ?_)
set_option maxHeartbeats 8000000 in
set_option maxRecDepth 100000 in
theorem laws_FnLine.calls (k : Nat) (A0 : Option Addr) (c0 : Nat) (l0 : List ByteArray) (A1 : Option Addr) (c1 : Nat) (l1 : List Int) (r : Bool) (w : World) (hr0 : Kd.C Kd.string w A0 l0.length l0) (hc0 : l0.length ≤ c0) (hr1 : Kd.C (Kd.int .i64) w A1 l1.length l1) (hc1 : l1.length ≤ c1) (h : laws_FnLine.f k l0 l1 = some r) :
    Calls Try.prog 4 #[.slice A0 l0.length c0, .slice A1 l1.length c1] w fun e w' => e = .returned (.bool r) ∧ Below w.heap.size w w' := by
  have HR0 := Aside0.mk hr0
  have HC0 := Aside0.mk hc0
  clear hr0 hc0
  have HR1 := Aside0.mk hr1
  have HC1 := Aside0.mk hc1
  clear hr1 hc1
  have HB := Aside0.mk (Below.refl w.heap.size w)
  have H : ((laws_zzFits5.f k l0).bind fun t108 => (if t108 = true then (laws_FnLine.j0 k l0 l1 (decide ((l1.length : Int) > 2147483647))) else (laws_FnLine.j0 k l0 l1 true))) = some r := h
  clear h
  have HC3 := Aside0.mk H
  clear H
  go_enter Try.func4, Try.ntmps4
  go_upto_region 1 with (fail)
  go_cut [17] (fun v17 wc => ∃ (kq : Nat) (x17_2 : Bool), v17 = .bool x17_2 ∧ Aside0 (laws_FnLine.j0 kq l0 l1 x17_2 = some r) ∧ Aside0 (kq ≤ k) ∧ Aside0 (Below w.heap.size w wc))
  case first =>
    have H := HC3.out
    clear HC3
    replace H := Option.bind_eq_some_iff.mp H
    obtain ⟨t108, A40, H⟩ := H
    replace H : (if t108 = true then (laws_FnLine.j0 k l0 l1 (decide ((l1.length : Int) > 2147483647))) else (laws_FnLine.j0 k l0 l1 true)) = some r := H
    have A4 := Aside0.mk A40
    clear A40
    by_cases c5 : t108 = true
    · subst c5
      have H1 : (laws_FnLine.j0 k l0 l1 (decide ((l1.length : Int) > 2147483647))) = some r := by rw [if_pos rfl] at H; exact H
      clear H
      have H := H1
      clear H1
      have H' := Aside0.mk H
      clear H
      go_wp2_with (first | ((with_reducible refine gate_callee (f := 11) rfl ?_); refine goesL_ (some 11) rfl rfl Try.func11 (by kernel_rfl) rfl #[.slice A0 l0.length c0] rfl (by (try simp only [List.map_toArray, List.map_cons, List.map_nil]); first | done | rfl | (simp only [List.length_drop, List.length_take]; rfl)) ?_; (with_reducible refine (laws_zzFits5.calls k _ _ l0 true _ ?side1 ?side2 A4.out).mono ?_); (case side1 => repeat (first | exact (Kd.C_below HR0.out HB.out) | (with_reducible refine Kd.C_alloc ?_ _) | (with_reducible refine Kd.C_drewN ?_ _) | (with_reducible refine Kd.C_drew ?_))); (case side2 => exact HC0.out); rintro e w' ⟨rfl, ⟨nd, rfl⟩⟩; refine ⟨_, rfl, ?_⟩))
      go_meet
      case rel => exact ⟨_, (decide ((l1.length : Int) > 2147483647)), (by first | rfl | (simp; done) | (simp [*]; done)), H', ⟨by first | omega | exact Nat.le_refl _⟩, ⟨by repeat (first | (with_reducible first | exact HB.out | apply below_alloc | apply pw_below_drewN | apply below_drew1) | exact HB.out)⟩⟩
    · replace c5 := Bool.eq_false_iff.mpr c5
      subst c5
      have H1 : (laws_FnLine.j0 k l0 l1 true) = some r := by rw [if_neg (show ¬ (false = true) by decide)] at H; exact H
      clear H
      have H := H1
      clear H1
      have H' := Aside0.mk H
      clear H
      go_wp2_with (first | ((with_reducible refine gate_callee (f := 11) rfl ?_); refine goesL_ (some 11) rfl rfl Try.func11 (by kernel_rfl) rfl #[.slice A0 l0.length c0] rfl (by (try simp only [List.map_toArray, List.map_cons, List.map_nil]); first | done | rfl | (simp only [List.length_drop, List.length_take]; rfl)) ?_; (with_reducible refine (laws_zzFits5.calls k _ _ l0 false _ ?side1 ?side2 A4.out).mono ?_); (case side1 => repeat (first | exact (Kd.C_below HR0.out HB.out) | (with_reducible refine Kd.C_alloc ?_ _) | (with_reducible refine Kd.C_drewN ?_ _) | (with_reducible refine Kd.C_drew ?_))); (case side2 => exact HC0.out); rintro e w' ⟨rfl, ⟨nd, rfl⟩⟩; refine ⟨_, rfl, ?_⟩))
      go_meet
      case rel => exact ⟨_, (true), (by first | rfl | (simp; done) | (simp [*]; done)), H', ⟨by first | omega | exact Nat.le_refl _⟩, ⟨by repeat (first | (with_reducible first | exact HB.out | apply below_alloc | apply pw_below_drewN | apply below_drew1) | exact HB.out)⟩⟩
  case rest =>
    clear HC3
    try clear c1
    try clear p2
    try clear c4
    try clear c5
    obtain ⟨kq, x17_2, rfl, HA, HJ2, HB⟩ := hcut
    cases kq with
    | zero => exact absurd HA.out (by simp [laws_FnLine.j0])
    | succ kj2 =>
      have H := HA.out
      clear HA
      simp only [laws_FnLine.j0] at H
      by_cases c6 : x17_2 = true
      · subst c6
        have H1 : (some true) = some r := by rw [if_pos rfl] at H; exact H
        clear H
        have H := H1
        clear H1
        obtain rfl := Option.some.inj H
        go_wp2
        go_ret
        exact ⟨by first | rfl | (simp [errW_none, errW_some] <;> rfl) | (simp [*, errW_none, errW_some] <;> rfl), by repeat (first | (with_reducible first | exact HB.out | apply below_alloc | apply pw_below_drewN | apply below_drew1) | exact HB.out)⟩
      · replace c6 := Bool.eq_false_iff.mpr c6
        subst c6
        have H1 : (if (l0.length : Int) = (l1.length : Int) then (laws_FnLine.j1 kj2 l0 l1 ((l1.length : Int) == 0)) else (laws_FnLine.j1 kj2 l0 l1 true)) = some r := by rw [if_neg (show ¬ (false = true) by decide)] at H; exact H
        clear H
        have H := H1
        clear H1
        have HC7 := Aside0.mk H
        clear H
        go_upto_region 3 with (fail)
        go_cut [27] (fun v27 wc => ∃ (kq : Nat) (x27_6 : Bool), v27 = .bool x27_6 ∧ Aside0 (laws_FnLine.j1 kq l0 l1 x27_6 = some r) ∧ Aside0 (kq ≤ kj2) ∧ Aside0 (Below w.heap.size w wc))
        case first =>
          have H := HC7.out
          clear HC7
          by_cases c8 : (l0.length : Int) = (l1.length : Int)
          · rw [if_pos c8] at H
            have c8b0 : ((l0.length : Int) == (l1.length : Int)) = true := beq_iff_eq.mpr c8
            have c8b1 : ((l0.length : Int) != (l1.length : Int)) = false := bne_eq_false_iff_eq.mpr c8
            have c8b2 : (l0.length == l1.length) = true := by first | simpa using c8 | (simp at c8 ⊢; omega)
            clear c8
            (first | rw [c8b0] | (simp only [i64_w, i32_w]; rw [c8b0]) | skip)
            have H' := Aside0.mk H
            clear H
            go_wp2
            go_meet
            case rel => exact ⟨_, (((l1.length : Int) == 0)), (by first | rfl | (simp; done) | (simp [*]; done)), H', ⟨by have := HJ2.out; first | omega | exact Nat.le_refl _⟩, ⟨by repeat (first | (with_reducible first | exact HB.out | apply below_alloc | apply pw_below_drewN | apply below_drew1) | exact HB.out)⟩⟩
          · rw [if_neg c8] at H
            have c8b0 : ((l0.length : Int) == (l1.length : Int)) = false := beq_eq_false_iff_ne.mpr c8
            have c8b1 : ((l0.length : Int) != (l1.length : Int)) = true := bne_iff_ne.mpr c8
            have c8b2 : (l0.length == l1.length) = false := by first | simpa using c8 | (simp at c8 ⊢; omega)
            (first | rw [c8b0] | (simp only [i64_w, i32_w]; rw [c8b0]) | skip)
            have H' := Aside0.mk H
            clear H
            go_wp2
            go_meet
            case rel => exact ⟨_, (true), (by first | rfl | (simp; done) | (simp [*]; done)), H', ⟨by have := HJ2.out; first | omega | exact Nat.le_refl _⟩, ⟨by repeat (first | (with_reducible first | exact HB.out | apply below_alloc | apply pw_below_drewN | apply below_drew1) | exact HB.out)⟩⟩
        case rest =>
          clear HC7
          try clear c1
          try clear p2
          try clear c4
          try clear c5
          try clear c6
          try clear c8
          try clear c8b0
          try clear c8b1
          try clear c8b2
          try clear p2
          obtain ⟨kq, x27_6, rfl, HA, HJ6, HB⟩ := hcut
          cases kq with
          | zero => exact absurd HA.out (by simp [laws_FnLine.j1])
          | succ kj6 =>
            have H := HA.out
            clear HA
            simp only [laws_FnLine.j1] at H
            by_cases c9 : x27_6 = true
            · subst c9
              have H1 : (some true) = some r := by rw [if_pos rfl] at H; exact H
              clear H
              have H := H1
              clear H1
              obtain rfl := Option.some.inj H
              go_wp2
              go_ret
              exact ⟨by first | rfl | (simp [errW_none, errW_some] <;> rfl) | (simp [*, errW_none, errW_some] <;> rfl), by repeat (first | (with_reducible first | exact HB.out | apply below_alloc | apply pw_below_drewN | apply below_drew1) | exact HB.out)⟩
            · replace c9 := Bool.eq_false_iff.mpr c9
              subst c9
              have H1 : (laws_FnLine.l0 kj6 l0 l1 (⟨#[124]⟩ : ByteArray) l1 (l1.length : Int) 0) = some r := by rw [if_neg (show ¬ (false = true) by decide)] at H; exact H
              clear H
              have H := H1
              clear H1
              have H' := Aside0.mk H
              clear H
              go_wp2
              go_loopg [5, 30] kj6 (fun kq v5 v30 w' => ∃ (x5_3 : ByteArray) (x30_3 : Int), v5 = .string x5_3 ∧ v30 = .int .i64 x30_3 ∧ Aside0 (laws_FnLine.l0 kq l0 l1 x5_3 l1 (l1.length : Int) x30_3 = some r) ∧ Aside0 (kq ≤ kj6) ∧ Aside0 (Below w.heap.size w w'))
              case atStart => exact ⟨((⟨#[124]⟩ : ByteArray)), (0), (by first | rfl | (simp; done) | (simp [*]; done)), (by first | rfl | (simp; done) | (simp [*]; done)), H', ⟨Nat.le_refl _⟩, ⟨by repeat (first | (with_reducible first | exact HB.out | apply below_alloc | apply pw_below_drewN | apply below_drew1) | exact HB.out)⟩⟩
              case round =>
                clear H'
                try clear c1
                try clear p2
                try clear c4
                try clear c5
                try clear c6
                try clear c8
                try clear c8b0
                try clear c8b1
                try clear c8b2
                try clear c9
                try clear p2
                obtain ⟨x5_3, x30_3, rfl, rfl, HA, HK3, HB⟩ := hrel
                cases gk with
                | zero => exact absurd HA.out (by simp [laws_FnLine.l0])
                | succ k3 =>
                  have H := HA.out
                  clear HA
                  simp only [laws_FnLine.l0] at H
                  by_cases c10 : x30_3 < (l1.length : Int)
                  · rw [if_pos c10] at H
                    have c10b0 : decide (x30_3 < (l1.length : Int)) = true := decide_eq_true c10
                    clear c10
                    by_cases c11 : 0 ≤ x30_3
                    · rw [if_pos c11] at H
                      have c11b0 : decide (0 ≤ x30_3) = true := decide_eq_true c11
                      clear c11
                      by_cases c12 : x30_3 < (l1.length : Int)
                      · rw [if_pos c12] at H
                        have c12b0 : decide (x30_3 < (l1.length : Int)) = true := decide_eq_true c12
                        clear c12
                        have HC13 := Aside0.mk H
                        clear H
                        have p111 : 0 ≤ (x30_3 : Int) := of_decide_eq_true (by first | (with_reducible assumption) | assumption)
                        have q111 : x30_3 < (l1.length : Int) := of_decide_eq_true (by first | (with_reducible assumption) | assumption)
                        obtain ⟨ad111, e111, hx111_0⟩ := Kd.at_int HR1.out x30_3 p111 q111
                        cases e111
                        replace hx111_0 := (HB.out.cell (World.block_lt_of_cell? w _ hx111_0)).trans hx111_0
                        replace p111 := eq_true p111
                        replace q111 := eq_true q111
                        go_upto_region 9 with (fail)
                        go_cut [40] (fun v40 wc => ∃ (kq : Nat) (x40_12 : Bool), v40 = .bool x40_12 ∧ Aside0 (laws_FnLine.j3 kq l0 l1 x5_3 x30_3 (rd l1 x30_3) l1 (l1.length : Int) x30_3 x40_12 = some r) ∧ Aside0 (kq ≤ k3) ∧ Aside0 (Below w.heap.size w wc))
                        case first =>
                          have H := HC13.out
                          clear HC13
                          by_cases c14 : (rd l1 x30_3) < 0
                          · rw [if_pos c14] at H
                            have c14b0 : decide ((rd l1 x30_3) < 0) = true := decide_eq_true c14
                            clear c14
                            (first | rw [c14b0] | (simp only [i64_w, i32_w]; rw [c14b0]) | skip)
                            have H' := Aside0.mk H
                            clear H
                            go_wp2
                            go_meet
                            case rel => exact ⟨_, (true), (by first | rfl | (simp; done) | (simp [*]; done)), H', ⟨by have := HJ2.out; have := HJ6.out; have := HK3.out; first | omega | exact Nat.le_refl _⟩, ⟨by repeat (first | (with_reducible first | exact HB.out | apply below_alloc | apply pw_below_drewN | apply below_drew1) | exact HB.out)⟩⟩
                          · rw [if_neg c14] at H
                            have c14b0 : decide ((rd l1 x30_3) < 0) = false := decide_eq_false c14
                            clear c14
                            (first | rw [c14b0] | (simp only [i64_w, i32_w]; rw [c14b0]) | skip)
                            have H' := Aside0.mk H
                            clear H
                            go_wp2
                            go_meet
                            case rel => exact ⟨_, (decide ((rd l1 x30_3) > 1000)), (by first | rfl | (simp; done) | (simp [*]; done)), H', ⟨by have := HJ2.out; have := HJ6.out; have := HK3.out; first | omega | exact Nat.le_refl _⟩, ⟨by repeat (first | (with_reducible first | exact HB.out | apply below_alloc | apply pw_below_drewN | apply below_drew1) | exact HB.out)⟩⟩
                        case rest =>
                          clear HC13
                          try clear c1
                          try clear p1
                          try clear q1
                          try clear hx1
                          try clear p2
                          try clear c4
                          try clear c5
                          try clear c6
                          try clear c8
                          try clear c8b0
                          try clear c8b1
                          try clear c8b2
                          try clear c9
                          try clear c10
                          try clear c10b0
                          try clear c11
                          try clear c11b0
                          try clear p11
                          try clear q11
                          try clear hx11
                          try clear c12
                          try clear c12b0
                          try clear c14
                          try clear c14b0
                          try clear hx111_0
                          try clear p111
                          try clear p2
                          try clear q111
                          obtain ⟨kq, x40_12, rfl, HA, HJ12, HB⟩ := hcut
                          cases kq with
                          | zero => exact absurd HA.out (by simp [laws_FnLine.j3])
                          | succ kj12 =>
                            have H := HA.out
                            clear HA
                            simp only [laws_FnLine.j3] at H
                            by_cases c15 : x40_12 = true
                            · subst c15
                              have H1 : (some true) = some r := by rw [if_pos rfl] at H; exact H
                              clear H
                              have H := H1
                              clear H1
                              obtain rfl := Option.some.inj H
                              go_wp2
                              go_ret
                              exact ⟨by first | rfl | (simp [errW_none, errW_some] <;> rfl) | (simp [*, errW_none, errW_some] <;> rfl), by repeat (first | (with_reducible first | exact HB.out | apply below_alloc | apply pw_below_drewN | apply below_drew1) | exact HB.out)⟩
                            · replace c15 := Bool.eq_false_iff.mpr c15
                              subst c15
                              have H1 : (if 0 ≤ x30_3 then (if x30_3 < (l0.length : Int) then (if (rdOf ByteArray.empty l0 x30_3).toList = ([108, 101, 102, 116] : List UInt8) then (laws_FnLine.j4 kj12 l0 l1 x5_3 x30_3 (rd l1 x30_3) (⟨#[45]⟩ : ByteArray) (⟨#[45]⟩ : ByteArray) l1 (l1.length : Int) x30_3 true) else (laws_FnLine.j4 kj12 l0 l1 x5_3 x30_3 (rd l1 x30_3) (⟨#[45]⟩ : ByteArray) (⟨#[45]⟩ : ByteArray) l1 (l1.length : Int) x30_3 ((rdOf ByteArray.empty l0 x30_3).toList == ([99, 101, 110, 116, 101, 114] : List UInt8)))) else (none)) else (none)) = some r := by rw [if_neg (show ¬ (false = true) by decide)] at H; exact H
                              clear H
                              have H := H1
                              clear H1
                              have HC16 := Aside0.mk H
                              clear H
                              go_upto_region 12 with (fail)
                              go_cut [52] (fun v52 wc => ∃ (kq : Nat) (x52_15 : Bool), v52 = .bool x52_15 ∧ Aside0 (laws_FnLine.j4 kq l0 l1 x5_3 x30_3 (rd l1 x30_3) (⟨#[45]⟩ : ByteArray) (⟨#[45]⟩ : ByteArray) l1 (l1.length : Int) x30_3 x52_15 = some r) ∧ Aside0 (kq ≤ kj12) ∧ Aside0 (Below w.heap.size w wc))
                              case first =>
                                have H := HC16.out
                                clear HC16
                                by_cases c17 : 0 ≤ x30_3
                                · rw [if_pos c17] at H
                                  have c17b0 : decide (0 ≤ x30_3) = true := decide_eq_true c17
                                  clear c17
                                  (first | rw [c17b0] | (simp only [i64_w, i32_w]; rw [c17b0]) | skip)
                                  by_cases c18 : x30_3 < (l0.length : Int)
                                  · rw [if_pos c18] at H
                                    have c18b0 : decide (x30_3 < (l0.length : Int)) = true := decide_eq_true c18
                                    clear c18
                                    by_cases c19 : (rdOf ByteArray.empty l0 x30_3).toList = ([108, 101, 102, 116] : List UInt8)
                                    · rw [if_pos c19] at H
                                      have c19b0 : ((rdOf ByteArray.empty l0 x30_3).toList == ([108, 101, 102, 116] : List UInt8)) = true := beq_iff_eq.mpr c19
                                      have c19b1 : ((rdOf ByteArray.empty l0 x30_3).toList != ([108, 101, 102, 116] : List UInt8)) = false := bne_eq_false_iff_eq.mpr c19
                                      clear c19
                                      have H' := Aside0.mk H
                                      clear H
                                      have p112 : 0 ≤ (x30_3 : Int) := of_decide_eq_true (by first | (with_reducible assumption) | assumption)
                                      have q112 : x30_3 < (l0.length : Int) := of_decide_eq_true (by first | (with_reducible assumption) | assumption)
                                      obtain ⟨ad112, e112, hx112_0⟩ := Kd.at_string HR0.out x30_3 p112 q112
                                      cases e112
                                      replace hx112_0 := (HB.out.cell (World.block_lt_of_cell? w _ hx112_0)).trans hx112_0
                                      replace p112 := eq_true p112
                                      replace q112 := eq_true q112
                                      go_wp2
                                      go_meet
                                      case rel => exact ⟨_, (true), (by first | rfl | (simp; done) | (simp [*]; done)), H', ⟨by have := HJ2.out; have := HJ6.out; have := HK3.out; have := HJ12.out; first | omega | exact Nat.le_refl _⟩, ⟨by repeat (first | (with_reducible first | exact HB.out | apply below_alloc | apply pw_below_drewN | apply below_drew1) | exact HB.out)⟩⟩
                                    · rw [if_neg c19] at H
                                      have c19b0 : ((rdOf ByteArray.empty l0 x30_3).toList == ([108, 101, 102, 116] : List UInt8)) = false := beq_eq_false_iff_ne.mpr c19
                                      have c19b1 : ((rdOf ByteArray.empty l0 x30_3).toList != ([108, 101, 102, 116] : List UInt8)) = true := bne_iff_ne.mpr c19
                                      have H' := Aside0.mk H
                                      clear H
                                      have p112 : 0 ≤ (x30_3 : Int) := of_decide_eq_true (by first | (with_reducible assumption) | assumption)
                                      have q112 : x30_3 < (l0.length : Int) := of_decide_eq_true (by first | (with_reducible assumption) | assumption)
                                      obtain ⟨ad112, e112, hx112_0⟩ := Kd.at_string HR0.out x30_3 p112 q112
                                      cases e112
                                      replace hx112_0 := (HB.out.cell (World.block_lt_of_cell? w _ hx112_0)).trans hx112_0
                                      replace p112 := eq_true p112
                                      replace q112 := eq_true q112
                                      have p113 : 0 ≤ (x30_3 : Int) := of_decide_eq_true (by first | (with_reducible assumption) | assumption)
                                      have q113 : x30_3 < (l0.length : Int) := of_decide_eq_true (by first | (with_reducible assumption) | assumption)
                                      obtain ⟨ad113, e113, hx113_0⟩ := Kd.at_string HR0.out x30_3 p113 q113
                                      obtain rfl : ad112 = ad113 := (by injection e113)
                                      replace hx113_0 := (HB.out.cell (World.block_lt_of_cell? w _ hx113_0)).trans hx113_0
                                      replace p113 := eq_true p113
                                      replace q113 := eq_true q113
                                      go_wp2
                                      go_meet
                                      case rel => exact ⟨_, (((rdOf ByteArray.empty l0 x30_3).toList == ([99, 101, 110, 116, 101, 114] : List UInt8))), (by first | rfl | (simp; done) | (simp [*]; done)), H', ⟨by have := HJ2.out; have := HJ6.out; have := HK3.out; have := HJ12.out; first | omega | exact Nat.le_refl _⟩, ⟨by repeat (first | (with_reducible first | exact HB.out | apply below_alloc | apply pw_below_drewN | apply below_drew1) | exact HB.out)⟩⟩
                                  · rw [if_neg c18] at H
                                    exact absurd H (by simp)
                                · rw [if_neg c17] at H
                                  exact absurd H (by simp)
                              case rest =>
                                clear HC16
                                try clear c1
                                try clear p1
                                try clear q1
                                try clear hx1
                                try clear p2
                                try clear c4
                                try clear c5
                                try clear c6
                                try clear c8
                                try clear c8b0
                                try clear c8b1
                                try clear c8b2
                                try clear c9
                                try clear c10
                                try clear c10b0
                                try clear c11
                                try clear c11b0
                                try clear p11
                                try clear q11
                                try clear hx11
                                try clear c12
                                try clear c12b0
                                try clear c14
                                try clear c14b0
                                try clear c15
                                try clear c17
                                try clear c17b0
                                try clear c18
                                try clear c18b0
                                try clear c19
                                try clear c19b0
                                try clear c19b1
                                try clear hx111_0
                                try clear hx112_0
                                try clear hx113_0
                                try clear p1
                                try clear p11
                                try clear p111
                                try clear p112
                                try clear p113
                                try clear p2
                                try clear q1
                                try clear q11
                                try clear q111
                                try clear q112
                                try clear q113
                                obtain ⟨kq, x52_15, rfl, HA, HJ15, HB⟩ := hcut
                                cases kq with
                                | zero => exact absurd HA.out (by simp [laws_FnLine.j4])
                                | succ kj15 =>
                                  have H := HA.out
                                  clear HA
                                  simp only [laws_FnLine.j4] at H
                                  by_cases c20 : x52_15 = true
                                  · subst c20
                                    have H1 : (if 0 ≤ x30_3 then (if x30_3 < (l0.length : Int) then (if (rdOf ByteArray.empty l0 x30_3).toList = ([114, 105, 103, 104, 116] : List UInt8) then ((spec_Times29.f kj15 (⟨#[45]⟩ : ByteArray) (rd l1 x30_3)).bind fun t115 => (if 1 + t115.size ≤ 9223372036854775807 then (if ((⟨#[58]⟩ : ByteArray) ++ t115).size + 1 ≤ 9223372036854775807 then (if (((⟨#[58]⟩ : ByteArray) ++ t115) ++ (⟨#[58]⟩ : ByteArray)).size + 1 ≤ 9223372036854775807 then (if x5_3.size + ((((⟨#[58]⟩ : ByteArray) ++ t115) ++ (⟨#[58]⟩ : ByteArray)) ++ (⟨#[124]⟩ : ByteArray)).size ≤ 9223372036854775807 then (laws_FnLine.l0 kj15 l0 l1 (x5_3 ++ ((((⟨#[58]⟩ : ByteArray) ++ t115) ++ (⟨#[58]⟩ : ByteArray)) ++ (⟨#[124]⟩ : ByteArray))) l1 (l1.length : Int) (wrap64 (x30_3 + 1))) else (none)) else (none)) else (none)) else (none))) else (if (rdOf ByteArray.empty l0 x30_3).toList = ([99, 101, 110, 116, 101, 114] : List UInt8) then ((spec_Times29.f kj15 (⟨#[45]⟩ : ByteArray) (rd l1 x30_3)).bind fun t117 => (if 1 + t117.size ≤ 9223372036854775807 then (if ((⟨#[58]⟩ : ByteArray) ++ t117).size + 1 ≤ 9223372036854775807 then (if (((⟨#[58]⟩ : ByteArray) ++ t117) ++ (⟨#[58]⟩ : ByteArray)).size + 1 ≤ 9223372036854775807 then (if x5_3.size + ((((⟨#[58]⟩ : ByteArray) ++ t117) ++ (⟨#[58]⟩ : ByteArray)) ++ (⟨#[124]⟩ : ByteArray)).size ≤ 9223372036854775807 then (laws_FnLine.l0 kj15 l0 l1 (x5_3 ++ ((((⟨#[58]⟩ : ByteArray) ++ t117) ++ (⟨#[58]⟩ : ByteArray)) ++ (⟨#[124]⟩ : ByteArray))) l1 (l1.length : Int) (wrap64 (x30_3 + 1))) else (none)) else (none)) else (none)) else (none))) else ((spec_Times29.f kj15 (⟨#[45]⟩ : ByteArray) (rd l1 x30_3)).bind fun t118 => (if 1 + t118.size ≤ 9223372036854775807 then (if ((⟨#[58]⟩ : ByteArray) ++ t118).size + (⟨#[45]⟩ : ByteArray).size ≤ 9223372036854775807 then (if (((⟨#[58]⟩ : ByteArray) ++ t118) ++ (⟨#[45]⟩ : ByteArray)).size + 1 ≤ 9223372036854775807 then (if x5_3.size + ((((⟨#[58]⟩ : ByteArray) ++ t118) ++ (⟨#[45]⟩ : ByteArray)) ++ (⟨#[124]⟩ : ByteArray)).size ≤ 9223372036854775807 then (laws_FnLine.l0 kj15 l0 l1 (x5_3 ++ ((((⟨#[58]⟩ : ByteArray) ++ t118) ++ (⟨#[45]⟩ : ByteArray)) ++ (⟨#[124]⟩ : ByteArray))) l1 (l1.length : Int) (wrap64 (x30_3 + 1))) else (none)) else (none)) else (none)) else (none))))) else (none)) else (none)) = some r := by rw [if_pos rfl] at H; exact H
                                    clear H
                                    have H := H1
                                    clear H1
                                    by_cases c21 : 0 ≤ x30_3
                                    · rw [if_pos c21] at H
                                      have c21b0 : decide (0 ≤ x30_3) = true := decide_eq_true c21
                                      clear c21
                                      by_cases c22 : x30_3 < (l0.length : Int)
                                      · rw [if_pos c22] at H
                                        have c22b0 : decide (x30_3 < (l0.length : Int)) = true := decide_eq_true c22
                                        clear c22
                                        by_cases c23 : (rdOf ByteArray.empty l0 x30_3).toList = ([114, 105, 103, 104, 116] : List UInt8)
                                        · rw [if_pos c23] at H
                                          have c23b0 : ((rdOf ByteArray.empty l0 x30_3).toList == ([114, 105, 103, 104, 116] : List UInt8)) = true := beq_iff_eq.mpr c23
                                          have c23b1 : ((rdOf ByteArray.empty l0 x30_3).toList != ([114, 105, 103, 104, 116] : List UInt8)) = false := bne_eq_false_iff_eq.mpr c23
                                          clear c23
                                          replace H := Option.bind_eq_some_iff.mp H
                                          obtain ⟨t115, A240, H⟩ := H
                                          replace H : (if 1 + t115.size ≤ 9223372036854775807 then (if ((⟨#[58]⟩ : ByteArray) ++ t115).size + 1 ≤ 9223372036854775807 then (if (((⟨#[58]⟩ : ByteArray) ++ t115) ++ (⟨#[58]⟩ : ByteArray)).size + 1 ≤ 9223372036854775807 then (if x5_3.size + ((((⟨#[58]⟩ : ByteArray) ++ t115) ++ (⟨#[58]⟩ : ByteArray)) ++ (⟨#[124]⟩ : ByteArray)).size ≤ 9223372036854775807 then (laws_FnLine.l0 kj15 l0 l1 (x5_3 ++ ((((⟨#[58]⟩ : ByteArray) ++ t115) ++ (⟨#[58]⟩ : ByteArray)) ++ (⟨#[124]⟩ : ByteArray))) l1 (l1.length : Int) (wrap64 (x30_3 + 1))) else (none)) else (none)) else (none)) else (none)) = some r := H
                                          have A24 := Aside0.mk A240
                                          clear A240
                                          by_cases c25 : 1 + t115.size ≤ 9223372036854775807
                                          · rw [if_pos c25] at H
                                            have c25b0 := eq_true c25
                                            have c25b1 : decide (1 + t115.size ≤ 9223372036854775807) = true := decide_eq_true c25
                                            try have c25b2 : (9223372036854775807 < 1 + t115.size) = False := eq_false (Nat.not_lt.2 c25)
                                            by_cases c26 : ((⟨#[58]⟩ : ByteArray) ++ t115).size + 1 ≤ 9223372036854775807
                                            · rw [if_pos c26] at H
                                              have c26b0 := eq_true c26
                                              have c26b1 : decide (((⟨#[58]⟩ : ByteArray) ++ t115).size + 1 ≤ 9223372036854775807) = true := decide_eq_true c26
                                              try have c26b2 : (9223372036854775807 < ((⟨#[58]⟩ : ByteArray) ++ t115).size + 1) = False := eq_false (Nat.not_lt.2 c26)
                                              try have c26b3 : (9223372036854775807 < 1 + t115.size + 1) = False := eq_false (Nat.not_lt.2 (by have h_ := c26; (try simp only [ByteArray.size_append] at h_); exact h_))
                                              by_cases c27 : (((⟨#[58]⟩ : ByteArray) ++ t115) ++ (⟨#[58]⟩ : ByteArray)).size + 1 ≤ 9223372036854775807
                                              · rw [if_pos c27] at H
                                                have c27b0 := eq_true c27
                                                have c27b1 : decide ((((⟨#[58]⟩ : ByteArray) ++ t115) ++ (⟨#[58]⟩ : ByteArray)).size + 1 ≤ 9223372036854775807) = true := decide_eq_true c27
                                                try have c27b2 : (9223372036854775807 < (((⟨#[58]⟩ : ByteArray) ++ t115) ++ (⟨#[58]⟩ : ByteArray)).size + 1) = False := eq_false (Nat.not_lt.2 c27)
                                                try have c27b3 : (9223372036854775807 < 1 + t115.size + 1 + 1) = False := eq_false (Nat.not_lt.2 (by have h_ := c27; (try simp only [ByteArray.size_append] at h_); exact h_))
                                                by_cases c28 : x5_3.size + ((((⟨#[58]⟩ : ByteArray) ++ t115) ++ (⟨#[58]⟩ : ByteArray)) ++ (⟨#[124]⟩ : ByteArray)).size ≤ 9223372036854775807
                                                · rw [if_pos c28] at H
                                                  have c28b0 := eq_true c28
                                                  have c28b1 : decide (x5_3.size + ((((⟨#[58]⟩ : ByteArray) ++ t115) ++ (⟨#[58]⟩ : ByteArray)) ++ (⟨#[124]⟩ : ByteArray)).size ≤ 9223372036854775807) = true := decide_eq_true c28
                                                  try have c28b2 : (9223372036854775807 < x5_3.size + ((((⟨#[58]⟩ : ByteArray) ++ t115) ++ (⟨#[58]⟩ : ByteArray)) ++ (⟨#[124]⟩ : ByteArray)).size) = False := eq_false (Nat.not_lt.2 c28)
                                                  try have c28b3 : (9223372036854775807 < x5_3.size + (1 + t115.size + 1 + 1)) = False := eq_false (Nat.not_lt.2 (by have h_ := c28; (try simp only [ByteArray.size_append] at h_); exact h_))
                                                  have H' := Aside0.mk H
                                                  clear H
                                                  have p114 : 0 ≤ (x30_3 : Int) := of_decide_eq_true (by first | (with_reducible assumption) | assumption)
                                                  have q114 : x30_3 < (l0.length : Int) := of_decide_eq_true (by first | (with_reducible assumption) | assumption)
                                                  obtain ⟨ad114, e114, hx114_0⟩ := Kd.at_string HR0.out x30_3 p114 q114
                                                  cases e114
                                                  replace hx114_0 := (HB.out.cell (World.block_lt_of_cell? w _ hx114_0)).trans hx114_0
                                                  replace p114 := eq_true p114
                                                  replace q114 := eq_true q114
                                                  go_wp2_with (first | ((with_reducible refine gate_callee (f := 12) rfl ?_); refine goesL_ (some 68) rfl rfl Try.func12 (by kernel_rfl) rfl #[.string (⟨#[45]⟩ : ByteArray), .int .i64 (rd l1 x30_3)] rfl (by (try simp only [List.map_toArray, List.map_cons, List.map_nil]); first | done | rfl | (simp only [List.length_drop, List.length_take]; rfl)) ?_; (with_reducible refine (spec_Times29.calls kj15 (⟨#[45]⟩ : ByteArray) (rd l1 x30_3) t115 _ A24.out).mono ?_); rintro e w29 ⟨rfl, hb⟩; refine ⟨_, rfl, ?_⟩; have n0_ := Aside0.mk (below_step (by repeat (first | (with_reducible first | exact HB.out | apply below_alloc | apply pw_below_drewN | apply below_drew1) | exact HB.out)) hb); clear HB; have HB := n0_; clear n0_; (try clear hb); (try clear hb2); (try clear hk); (try clear hi)))
                                                  go_roundg kj15
                                                  case measure => have := HJ2.out; have := HJ6.out; have := HK3.out; have := HJ12.out; have := HJ15.out; omega
                                                  case rel => exact ⟨(x5_3 ++ ((((⟨#[58]⟩ : ByteArray) ++ t115) ++ (⟨#[58]⟩ : ByteArray)) ++ (⟨#[124]⟩ : ByteArray))), (wrap64 (x30_3 + 1)), (by first | rfl | (simp; done) | (simp [*]; done)), (by first | rfl | (simp; done) | (simp [*]; done)), H', ⟨by have := HJ2.out; have := HJ6.out; have := HK3.out; have := HJ12.out; have := HJ15.out; omega⟩, ⟨by repeat (first | (with_reducible first | exact HB.out | apply below_alloc | apply pw_below_drewN | apply below_drew1) | exact HB.out)⟩⟩
                                                · rw [if_neg c28] at H
                                                  exact absurd H (by simp)
                                              · rw [if_neg c27] at H
                                                exact absurd H (by simp)
                                            · rw [if_neg c26] at H
                                              exact absurd H (by simp)
                                          · rw [if_neg c25] at H
                                            exact absurd H (by simp)
                                        · rw [if_neg c23] at H
                                          have c23b0 : ((rdOf ByteArray.empty l0 x30_3).toList == ([114, 105, 103, 104, 116] : List UInt8)) = false := beq_eq_false_iff_ne.mpr c23
                                          have c23b1 : ((rdOf ByteArray.empty l0 x30_3).toList != ([114, 105, 103, 104, 116] : List UInt8)) = true := bne_iff_ne.mpr c23
                                          by_cases c30 : (rdOf ByteArray.empty l0 x30_3).toList = ([99, 101, 110, 116, 101, 114] : List UInt8)
                                          · rw [if_pos c30] at H
                                            have c30b0 : ((rdOf ByteArray.empty l0 x30_3).toList == ([99, 101, 110, 116, 101, 114] : List UInt8)) = true := beq_iff_eq.mpr c30
                                            have c30b1 : ((rdOf ByteArray.empty l0 x30_3).toList != ([99, 101, 110, 116, 101, 114] : List UInt8)) = false := bne_eq_false_iff_eq.mpr c30
                                            clear c30
                                            replace H := Option.bind_eq_some_iff.mp H
                                            obtain ⟨t117, A310, H⟩ := H
                                            replace H : (if 1 + t117.size ≤ 9223372036854775807 then (if ((⟨#[58]⟩ : ByteArray) ++ t117).size + 1 ≤ 9223372036854775807 then (if (((⟨#[58]⟩ : ByteArray) ++ t117) ++ (⟨#[58]⟩ : ByteArray)).size + 1 ≤ 9223372036854775807 then (if x5_3.size + ((((⟨#[58]⟩ : ByteArray) ++ t117) ++ (⟨#[58]⟩ : ByteArray)) ++ (⟨#[124]⟩ : ByteArray)).size ≤ 9223372036854775807 then (laws_FnLine.l0 kj15 l0 l1 (x5_3 ++ ((((⟨#[58]⟩ : ByteArray) ++ t117) ++ (⟨#[58]⟩ : ByteArray)) ++ (⟨#[124]⟩ : ByteArray))) l1 (l1.length : Int) (wrap64 (x30_3 + 1))) else (none)) else (none)) else (none)) else (none)) = some r := H
                                            have A31 := Aside0.mk A310
                                            clear A310
                                            by_cases c32 : 1 + t117.size ≤ 9223372036854775807
                                            · rw [if_pos c32] at H
                                              have c32b0 := eq_true c32
                                              have c32b1 : decide (1 + t117.size ≤ 9223372036854775807) = true := decide_eq_true c32
                                              try have c32b2 : (9223372036854775807 < 1 + t117.size) = False := eq_false (Nat.not_lt.2 c32)
                                              by_cases c33 : ((⟨#[58]⟩ : ByteArray) ++ t117).size + 1 ≤ 9223372036854775807
                                              · rw [if_pos c33] at H
                                                have c33b0 := eq_true c33
                                                have c33b1 : decide (((⟨#[58]⟩ : ByteArray) ++ t117).size + 1 ≤ 9223372036854775807) = true := decide_eq_true c33
                                                try have c33b2 : (9223372036854775807 < ((⟨#[58]⟩ : ByteArray) ++ t117).size + 1) = False := eq_false (Nat.not_lt.2 c33)
                                                try have c33b3 : (9223372036854775807 < 1 + t117.size + 1) = False := eq_false (Nat.not_lt.2 (by have h_ := c33; (try simp only [ByteArray.size_append] at h_); exact h_))
                                                by_cases c34 : (((⟨#[58]⟩ : ByteArray) ++ t117) ++ (⟨#[58]⟩ : ByteArray)).size + 1 ≤ 9223372036854775807
                                                · rw [if_pos c34] at H
                                                  have c34b0 := eq_true c34
                                                  have c34b1 : decide ((((⟨#[58]⟩ : ByteArray) ++ t117) ++ (⟨#[58]⟩ : ByteArray)).size + 1 ≤ 9223372036854775807) = true := decide_eq_true c34
                                                  try have c34b2 : (9223372036854775807 < (((⟨#[58]⟩ : ByteArray) ++ t117) ++ (⟨#[58]⟩ : ByteArray)).size + 1) = False := eq_false (Nat.not_lt.2 c34)
                                                  try have c34b3 : (9223372036854775807 < 1 + t117.size + 1 + 1) = False := eq_false (Nat.not_lt.2 (by have h_ := c34; (try simp only [ByteArray.size_append] at h_); exact h_))
                                                  by_cases c35 : x5_3.size + ((((⟨#[58]⟩ : ByteArray) ++ t117) ++ (⟨#[58]⟩ : ByteArray)) ++ (⟨#[124]⟩ : ByteArray)).size ≤ 9223372036854775807
                                                  · rw [if_pos c35] at H
                                                    have c35b0 := eq_true c35
                                                    have c35b1 : decide (x5_3.size + ((((⟨#[58]⟩ : ByteArray) ++ t117) ++ (⟨#[58]⟩ : ByteArray)) ++ (⟨#[124]⟩ : ByteArray)).size ≤ 9223372036854775807) = true := decide_eq_true c35
                                                    try have c35b2 : (9223372036854775807 < x5_3.size + ((((⟨#[58]⟩ : ByteArray) ++ t117) ++ (⟨#[58]⟩ : ByteArray)) ++ (⟨#[124]⟩ : ByteArray)).size) = False := eq_false (Nat.not_lt.2 c35)
                                                    try have c35b3 : (9223372036854775807 < x5_3.size + (1 + t117.size + 1 + 1)) = False := eq_false (Nat.not_lt.2 (by have h_ := c35; (try simp only [ByteArray.size_append] at h_); exact h_))
                                                    have H' := Aside0.mk H
                                                    clear H
                                                    have p114 : 0 ≤ (x30_3 : Int) := of_decide_eq_true (by first | (with_reducible assumption) | assumption)
                                                    have q114 : x30_3 < (l0.length : Int) := of_decide_eq_true (by first | (with_reducible assumption) | assumption)
                                                    obtain ⟨ad114, e114, hx114_0⟩ := Kd.at_string HR0.out x30_3 p114 q114
                                                    cases e114
                                                    replace hx114_0 := (HB.out.cell (World.block_lt_of_cell? w _ hx114_0)).trans hx114_0
                                                    replace p114 := eq_true p114
                                                    replace q114 := eq_true q114
                                                    have p116 : 0 ≤ (x30_3 : Int) := of_decide_eq_true (by first | (with_reducible assumption) | assumption)
                                                    have q116 : x30_3 < (l0.length : Int) := of_decide_eq_true (by first | (with_reducible assumption) | assumption)
                                                    obtain ⟨ad116, e116, hx116_0⟩ := Kd.at_string HR0.out x30_3 p116 q116
                                                    obtain rfl : ad114 = ad116 := (by injection e116)
                                                    replace hx116_0 := (HB.out.cell (World.block_lt_of_cell? w _ hx116_0)).trans hx116_0
                                                    replace p116 := eq_true p116
                                                    replace q116 := eq_true q116
                                                    go_wp2_with (first | ((with_reducible refine gate_callee (f := 12) rfl ?_); refine goesL_ (some 68) rfl rfl Try.func12 (by kernel_rfl) rfl #[.string (⟨#[45]⟩ : ByteArray), .int .i64 (rd l1 x30_3)] rfl (by (try simp only [List.map_toArray, List.map_cons, List.map_nil]); first | done | rfl | (simp only [List.length_drop, List.length_take]; rfl)) ?_; (with_reducible refine (spec_Times29.calls kj15 (⟨#[45]⟩ : ByteArray) (rd l1 x30_3) t117 _ A31.out).mono ?_); rintro e w36 ⟨rfl, hb⟩; refine ⟨_, rfl, ?_⟩; have n0_ := Aside0.mk (below_step (by repeat (first | (with_reducible first | exact HB.out | apply below_alloc | apply pw_below_drewN | apply below_drew1) | exact HB.out)) hb); clear HB; have HB := n0_; clear n0_; (try clear hb); (try clear hb2); (try clear hk); (try clear hi)))
                                                    go_roundg kj15
                                                    case measure => have := HJ2.out; have := HJ6.out; have := HK3.out; have := HJ12.out; have := HJ15.out; omega
                                                    case rel => exact ⟨(x5_3 ++ ((((⟨#[58]⟩ : ByteArray) ++ t117) ++ (⟨#[58]⟩ : ByteArray)) ++ (⟨#[124]⟩ : ByteArray))), (wrap64 (x30_3 + 1)), (by first | rfl | (simp; done) | (simp [*]; done)), (by first | rfl | (simp; done) | (simp [*]; done)), H', ⟨by have := HJ2.out; have := HJ6.out; have := HK3.out; have := HJ12.out; have := HJ15.out; omega⟩, ⟨by repeat (first | (with_reducible first | exact HB.out | apply below_alloc | apply pw_below_drewN | apply below_drew1) | exact HB.out)⟩⟩
                                                  · rw [if_neg c35] at H
                                                    exact absurd H (by simp)
                                                · rw [if_neg c34] at H
                                                  exact absurd H (by simp)
                                              · rw [if_neg c33] at H
                                                exact absurd H (by simp)
                                            · rw [if_neg c32] at H
                                              exact absurd H (by simp)
                                          · rw [if_neg c30] at H
                                            have c30b0 : ((rdOf ByteArray.empty l0 x30_3).toList == ([99, 101, 110, 116, 101, 114] : List UInt8)) = false := beq_eq_false_iff_ne.mpr c30
                                            have c30b1 : ((rdOf ByteArray.empty l0 x30_3).toList != ([99, 101, 110, 116, 101, 114] : List UInt8)) = true := bne_iff_ne.mpr c30
                                            replace H := Option.bind_eq_some_iff.mp H
                                            obtain ⟨t118, A370, H⟩ := H
                                            replace H : (if 1 + t118.size ≤ 9223372036854775807 then (if ((⟨#[58]⟩ : ByteArray) ++ t118).size + (⟨#[45]⟩ : ByteArray).size ≤ 9223372036854775807 then (if (((⟨#[58]⟩ : ByteArray) ++ t118) ++ (⟨#[45]⟩ : ByteArray)).size + 1 ≤ 9223372036854775807 then (if x5_3.size + ((((⟨#[58]⟩ : ByteArray) ++ t118) ++ (⟨#[45]⟩ : ByteArray)) ++ (⟨#[124]⟩ : ByteArray)).size ≤ 9223372036854775807 then (laws_FnLine.l0 kj15 l0 l1 (x5_3 ++ ((((⟨#[58]⟩ : ByteArray) ++ t118) ++ (⟨#[45]⟩ : ByteArray)) ++ (⟨#[124]⟩ : ByteArray))) l1 (l1.length : Int) (wrap64 (x30_3 + 1))) else (none)) else (none)) else (none)) else (none)) = some r := H
                                            have A37 := Aside0.mk A370
                                            clear A370
                                            by_cases c38 : 1 + t118.size ≤ 9223372036854775807
                                            · rw [if_pos c38] at H
                                              have c38b0 := eq_true c38
                                              have c38b1 : decide (1 + t118.size ≤ 9223372036854775807) = true := decide_eq_true c38
                                              try have c38b2 : (9223372036854775807 < 1 + t118.size) = False := eq_false (Nat.not_lt.2 c38)
                                              by_cases c39 : ((⟨#[58]⟩ : ByteArray) ++ t118).size + (⟨#[45]⟩ : ByteArray).size ≤ 9223372036854775807
                                              · rw [if_pos c39] at H
                                                have c39b0 := eq_true c39
                                                have c39b1 : decide (((⟨#[58]⟩ : ByteArray) ++ t118).size + (⟨#[45]⟩ : ByteArray).size ≤ 9223372036854775807) = true := decide_eq_true c39
                                                try have c39b2 : (9223372036854775807 < ((⟨#[58]⟩ : ByteArray) ++ t118).size + (⟨#[45]⟩ : ByteArray).size) = False := eq_false (Nat.not_lt.2 c39)
                                                try have c39b3 : (9223372036854775807 < 1 + t118.size + 1) = False := eq_false (Nat.not_lt.2 (by have h_ := c39; (try simp only [ByteArray.size_append] at h_); exact h_))
                                                by_cases c40 : (((⟨#[58]⟩ : ByteArray) ++ t118) ++ (⟨#[45]⟩ : ByteArray)).size + 1 ≤ 9223372036854775807
                                                · rw [if_pos c40] at H
                                                  have c40b0 := eq_true c40
                                                  have c40b1 : decide ((((⟨#[58]⟩ : ByteArray) ++ t118) ++ (⟨#[45]⟩ : ByteArray)).size + 1 ≤ 9223372036854775807) = true := decide_eq_true c40
                                                  try have c40b2 : (9223372036854775807 < (((⟨#[58]⟩ : ByteArray) ++ t118) ++ (⟨#[45]⟩ : ByteArray)).size + 1) = False := eq_false (Nat.not_lt.2 c40)
                                                  try have c40b3 : (9223372036854775807 < 1 + t118.size + 1 + 1) = False := eq_false (Nat.not_lt.2 (by have h_ := c40; (try simp only [ByteArray.size_append] at h_); exact h_))
                                                  by_cases c41 : x5_3.size + ((((⟨#[58]⟩ : ByteArray) ++ t118) ++ (⟨#[45]⟩ : ByteArray)) ++ (⟨#[124]⟩ : ByteArray)).size ≤ 9223372036854775807
                                                  · rw [if_pos c41] at H
                                                    have c41b0 := eq_true c41
                                                    have c41b1 : decide (x5_3.size + ((((⟨#[58]⟩ : ByteArray) ++ t118) ++ (⟨#[45]⟩ : ByteArray)) ++ (⟨#[124]⟩ : ByteArray)).size ≤ 9223372036854775807) = true := decide_eq_true c41
                                                    try have c41b2 : (9223372036854775807 < x5_3.size + ((((⟨#[58]⟩ : ByteArray) ++ t118) ++ (⟨#[45]⟩ : ByteArray)) ++ (⟨#[124]⟩ : ByteArray)).size) = False := eq_false (Nat.not_lt.2 c41)
                                                    try have c41b3 : (9223372036854775807 < x5_3.size + (1 + t118.size + 1 + 1)) = False := eq_false (Nat.not_lt.2 (by have h_ := c41; (try simp only [ByteArray.size_append] at h_); exact h_))
                                                    have H' := Aside0.mk H
                                                    clear H
                                                    have p114 : 0 ≤ (x30_3 : Int) := of_decide_eq_true (by first | (with_reducible assumption) | assumption)
                                                    have q114 : x30_3 < (l0.length : Int) := of_decide_eq_true (by first | (with_reducible assumption) | assumption)
                                                    obtain ⟨ad114, e114, hx114_0⟩ := Kd.at_string HR0.out x30_3 p114 q114
                                                    cases e114
                                                    replace hx114_0 := (HB.out.cell (World.block_lt_of_cell? w _ hx114_0)).trans hx114_0
                                                    replace p114 := eq_true p114
                                                    replace q114 := eq_true q114
                                                    have p116 : 0 ≤ (x30_3 : Int) := of_decide_eq_true (by first | (with_reducible assumption) | assumption)
                                                    have q116 : x30_3 < (l0.length : Int) := of_decide_eq_true (by first | (with_reducible assumption) | assumption)
                                                    obtain ⟨ad116, e116, hx116_0⟩ := Kd.at_string HR0.out x30_3 p116 q116
                                                    obtain rfl : ad114 = ad116 := (by injection e116)
                                                    replace hx116_0 := (HB.out.cell (World.block_lt_of_cell? w _ hx116_0)).trans hx116_0
                                                    replace p116 := eq_true p116
                                                    replace q116 := eq_true q116
                                                    go_wp2_with (first | ((with_reducible refine gate_callee (f := 12) rfl ?_); refine goesL_ (some 68) rfl rfl Try.func12 (by kernel_rfl) rfl #[.string (⟨#[45]⟩ : ByteArray), .int .i64 (rd l1 x30_3)] rfl (by (try simp only [List.map_toArray, List.map_cons, List.map_nil]); first | done | rfl | (simp only [List.length_drop, List.length_take]; rfl)) ?_; (with_reducible refine (spec_Times29.calls kj15 (⟨#[45]⟩ : ByteArray) (rd l1 x30_3) t118 _ A37.out).mono ?_); rintro e w42 ⟨rfl, hb⟩; refine ⟨_, rfl, ?_⟩; have n0_ := Aside0.mk (below_step (by repeat (first | (with_reducible first | exact HB.out | apply below_alloc | apply pw_below_drewN | apply below_drew1) | exact HB.out)) hb); clear HB; have HB := n0_; clear n0_; (try clear hb); (try clear hb2); (try clear hk); (try clear hi)))
                                                    go_roundg kj15
                                                    case measure => have := HJ2.out; have := HJ6.out; have := HK3.out; have := HJ12.out; have := HJ15.out; omega
                                                    case rel => exact ⟨(x5_3 ++ ((((⟨#[58]⟩ : ByteArray) ++ t118) ++ (⟨#[45]⟩ : ByteArray)) ++ (⟨#[124]⟩ : ByteArray))), (wrap64 (x30_3 + 1)), (by first | rfl | (simp; done) | (simp [*]; done)), (by first | rfl | (simp; done) | (simp [*]; done)), H', ⟨by have := HJ2.out; have := HJ6.out; have := HK3.out; have := HJ12.out; have := HJ15.out; omega⟩, ⟨by repeat (first | (with_reducible first | exact HB.out | apply below_alloc | apply pw_below_drewN | apply below_drew1) | exact HB.out)⟩⟩
                                                  · rw [if_neg c41] at H
                                                    exact absurd H (by simp)
                                                · rw [if_neg c40] at H
                                                  exact absurd H (by simp)
                                              · rw [if_neg c39] at H
                                                exact absurd H (by simp)
                                            · rw [if_neg c38] at H
                                              exact absurd H (by simp)
                                      · rw [if_neg c22] at H
                                        exact absurd H (by simp)
                                    · rw [if_neg c21] at H
                                      exact absurd H (by simp)
                                  · replace c20 := Bool.eq_false_iff.mpr c20
                                    subst c20
                                    have H1 : (if 0 ≤ x30_3 then (if x30_3 < (l0.length : Int) then (if (rdOf ByteArray.empty l0 x30_3).toList = ([114, 105, 103, 104, 116] : List UInt8) then ((spec_Times29.f kj15 (⟨#[45]⟩ : ByteArray) (rd l1 x30_3)).bind fun t120 => (if (⟨#[45]⟩ : ByteArray).size + t120.size ≤ 9223372036854775807 then (if ((⟨#[45]⟩ : ByteArray) ++ t120).size + 1 ≤ 9223372036854775807 then (if (((⟨#[45]⟩ : ByteArray) ++ t120) ++ (⟨#[58]⟩ : ByteArray)).size + 1 ≤ 9223372036854775807 then (if x5_3.size + ((((⟨#[45]⟩ : ByteArray) ++ t120) ++ (⟨#[58]⟩ : ByteArray)) ++ (⟨#[124]⟩ : ByteArray)).size ≤ 9223372036854775807 then (laws_FnLine.l0 kj15 l0 l1 (x5_3 ++ ((((⟨#[45]⟩ : ByteArray) ++ t120) ++ (⟨#[58]⟩ : ByteArray)) ++ (⟨#[124]⟩ : ByteArray))) l1 (l1.length : Int) (wrap64 (x30_3 + 1))) else (none)) else (none)) else (none)) else (none))) else (if (rdOf ByteArray.empty l0 x30_3).toList = ([99, 101, 110, 116, 101, 114] : List UInt8) then ((spec_Times29.f kj15 (⟨#[45]⟩ : ByteArray) (rd l1 x30_3)).bind fun t122 => (if (⟨#[45]⟩ : ByteArray).size + t122.size ≤ 9223372036854775807 then (if ((⟨#[45]⟩ : ByteArray) ++ t122).size + 1 ≤ 9223372036854775807 then (if (((⟨#[45]⟩ : ByteArray) ++ t122) ++ (⟨#[58]⟩ : ByteArray)).size + 1 ≤ 9223372036854775807 then (if x5_3.size + ((((⟨#[45]⟩ : ByteArray) ++ t122) ++ (⟨#[58]⟩ : ByteArray)) ++ (⟨#[124]⟩ : ByteArray)).size ≤ 9223372036854775807 then (laws_FnLine.l0 kj15 l0 l1 (x5_3 ++ ((((⟨#[45]⟩ : ByteArray) ++ t122) ++ (⟨#[58]⟩ : ByteArray)) ++ (⟨#[124]⟩ : ByteArray))) l1 (l1.length : Int) (wrap64 (x30_3 + 1))) else (none)) else (none)) else (none)) else (none))) else ((spec_Times29.f kj15 (⟨#[45]⟩ : ByteArray) (rd l1 x30_3)).bind fun t123 => (if (⟨#[45]⟩ : ByteArray).size + t123.size ≤ 9223372036854775807 then (if ((⟨#[45]⟩ : ByteArray) ++ t123).size + (⟨#[45]⟩ : ByteArray).size ≤ 9223372036854775807 then (if (((⟨#[45]⟩ : ByteArray) ++ t123) ++ (⟨#[45]⟩ : ByteArray)).size + 1 ≤ 9223372036854775807 then (if x5_3.size + ((((⟨#[45]⟩ : ByteArray) ++ t123) ++ (⟨#[45]⟩ : ByteArray)) ++ (⟨#[124]⟩ : ByteArray)).size ≤ 9223372036854775807 then (laws_FnLine.l0 kj15 l0 l1 (x5_3 ++ ((((⟨#[45]⟩ : ByteArray) ++ t123) ++ (⟨#[45]⟩ : ByteArray)) ++ (⟨#[124]⟩ : ByteArray))) l1 (l1.length : Int) (wrap64 (x30_3 + 1))) else (none)) else (none)) else (none)) else (none))))) else (none)) else (none)) = some r := by rw [if_neg (show ¬ (false = true) by decide)] at H; exact H
                                    clear H
                                    have H := H1
                                    clear H1
                                    by_cases c43 : 0 ≤ x30_3
                                    · rw [if_pos c43] at H
                                      have c43b0 : decide (0 ≤ x30_3) = true := decide_eq_true c43
                                      clear c43
                                      by_cases c44 : x30_3 < (l0.length : Int)
                                      · rw [if_pos c44] at H
                                        have c44b0 : decide (x30_3 < (l0.length : Int)) = true := decide_eq_true c44
                                        clear c44
                                        by_cases c45 : (rdOf ByteArray.empty l0 x30_3).toList = ([114, 105, 103, 104, 116] : List UInt8)
                                        · rw [if_pos c45] at H
                                          have c45b0 : ((rdOf ByteArray.empty l0 x30_3).toList == ([114, 105, 103, 104, 116] : List UInt8)) = true := beq_iff_eq.mpr c45
                                          have c45b1 : ((rdOf ByteArray.empty l0 x30_3).toList != ([114, 105, 103, 104, 116] : List UInt8)) = false := bne_eq_false_iff_eq.mpr c45
                                          clear c45
                                          replace H := Option.bind_eq_some_iff.mp H
                                          obtain ⟨t120, A460, H⟩ := H
                                          replace H : (if (⟨#[45]⟩ : ByteArray).size + t120.size ≤ 9223372036854775807 then (if ((⟨#[45]⟩ : ByteArray) ++ t120).size + 1 ≤ 9223372036854775807 then (if (((⟨#[45]⟩ : ByteArray) ++ t120) ++ (⟨#[58]⟩ : ByteArray)).size + 1 ≤ 9223372036854775807 then (if x5_3.size + ((((⟨#[45]⟩ : ByteArray) ++ t120) ++ (⟨#[58]⟩ : ByteArray)) ++ (⟨#[124]⟩ : ByteArray)).size ≤ 9223372036854775807 then (laws_FnLine.l0 kj15 l0 l1 (x5_3 ++ ((((⟨#[45]⟩ : ByteArray) ++ t120) ++ (⟨#[58]⟩ : ByteArray)) ++ (⟨#[124]⟩ : ByteArray))) l1 (l1.length : Int) (wrap64 (x30_3 + 1))) else (none)) else (none)) else (none)) else (none)) = some r := H
                                          have A46 := Aside0.mk A460
                                          clear A460
                                          by_cases c47 : (⟨#[45]⟩ : ByteArray).size + t120.size ≤ 9223372036854775807
                                          · rw [if_pos c47] at H
                                            have c47b0 := eq_true c47
                                            have c47b1 : decide ((⟨#[45]⟩ : ByteArray).size + t120.size ≤ 9223372036854775807) = true := decide_eq_true c47
                                            try have c47b2 : (9223372036854775807 < (⟨#[45]⟩ : ByteArray).size + t120.size) = False := eq_false (Nat.not_lt.2 c47)
                                            try have c47b3 : (9223372036854775807 < 1 + t120.size) = False := eq_false (Nat.not_lt.2 (by have h_ := c47; (try simp only [ByteArray.size_append] at h_); exact h_))
                                            by_cases c48 : ((⟨#[45]⟩ : ByteArray) ++ t120).size + 1 ≤ 9223372036854775807
                                            · rw [if_pos c48] at H
                                              have c48b0 := eq_true c48
                                              have c48b1 : decide (((⟨#[45]⟩ : ByteArray) ++ t120).size + 1 ≤ 9223372036854775807) = true := decide_eq_true c48
                                              try have c48b2 : (9223372036854775807 < ((⟨#[45]⟩ : ByteArray) ++ t120).size + 1) = False := eq_false (Nat.not_lt.2 c48)
                                              try have c48b3 : (9223372036854775807 < 1 + t120.size + 1) = False := eq_false (Nat.not_lt.2 (by have h_ := c48; (try simp only [ByteArray.size_append] at h_); exact h_))
                                              by_cases c49 : (((⟨#[45]⟩ : ByteArray) ++ t120) ++ (⟨#[58]⟩ : ByteArray)).size + 1 ≤ 9223372036854775807
                                              · rw [if_pos c49] at H
                                                have c49b0 := eq_true c49
                                                have c49b1 : decide ((((⟨#[45]⟩ : ByteArray) ++ t120) ++ (⟨#[58]⟩ : ByteArray)).size + 1 ≤ 9223372036854775807) = true := decide_eq_true c49
                                                try have c49b2 : (9223372036854775807 < (((⟨#[45]⟩ : ByteArray) ++ t120) ++ (⟨#[58]⟩ : ByteArray)).size + 1) = False := eq_false (Nat.not_lt.2 c49)
                                                try have c49b3 : (9223372036854775807 < 1 + t120.size + 1 + 1) = False := eq_false (Nat.not_lt.2 (by have h_ := c49; (try simp only [ByteArray.size_append] at h_); exact h_))
                                                by_cases c50 : x5_3.size + ((((⟨#[45]⟩ : ByteArray) ++ t120) ++ (⟨#[58]⟩ : ByteArray)) ++ (⟨#[124]⟩ : ByteArray)).size ≤ 9223372036854775807
                                                · rw [if_pos c50] at H
                                                  have c50b0 := eq_true c50
                                                  have c50b1 : decide (x5_3.size + ((((⟨#[45]⟩ : ByteArray) ++ t120) ++ (⟨#[58]⟩ : ByteArray)) ++ (⟨#[124]⟩ : ByteArray)).size ≤ 9223372036854775807) = true := decide_eq_true c50
                                                  try have c50b2 : (9223372036854775807 < x5_3.size + ((((⟨#[45]⟩ : ByteArray) ++ t120) ++ (⟨#[58]⟩ : ByteArray)) ++ (⟨#[124]⟩ : ByteArray)).size) = False := eq_false (Nat.not_lt.2 c50)
                                                  try have c50b3 : (9223372036854775807 < x5_3.size + (1 + t120.size + 1 + 1)) = False := eq_false (Nat.not_lt.2 (by have h_ := c50; (try simp only [ByteArray.size_append] at h_); exact h_))
                                                  have H' := Aside0.mk H
                                                  clear H
                                                  have p119 : 0 ≤ (x30_3 : Int) := of_decide_eq_true (by first | (with_reducible assumption) | assumption)
                                                  have q119 : x30_3 < (l0.length : Int) := of_decide_eq_true (by first | (with_reducible assumption) | assumption)
                                                  obtain ⟨ad119, e119, hx119_0⟩ := Kd.at_string HR0.out x30_3 p119 q119
                                                  cases e119
                                                  replace hx119_0 := (HB.out.cell (World.block_lt_of_cell? w _ hx119_0)).trans hx119_0
                                                  replace p119 := eq_true p119
                                                  replace q119 := eq_true q119
                                                  go_wp2_with (first | ((with_reducible refine gate_callee (f := 12) rfl ?_); refine goesL_ (some 68) rfl rfl Try.func12 (by kernel_rfl) rfl #[.string (⟨#[45]⟩ : ByteArray), .int .i64 (rd l1 x30_3)] rfl (by (try simp only [List.map_toArray, List.map_cons, List.map_nil]); first | done | rfl | (simp only [List.length_drop, List.length_take]; rfl)) ?_; (with_reducible refine (spec_Times29.calls kj15 (⟨#[45]⟩ : ByteArray) (rd l1 x30_3) t120 _ A46.out).mono ?_); rintro e w51 ⟨rfl, hb⟩; refine ⟨_, rfl, ?_⟩; have n0_ := Aside0.mk (below_step (by repeat (first | (with_reducible first | exact HB.out | apply below_alloc | apply pw_below_drewN | apply below_drew1) | exact HB.out)) hb); clear HB; have HB := n0_; clear n0_; (try clear hb); (try clear hb2); (try clear hk); (try clear hi)))
                                                  go_roundg kj15
                                                  case measure => have := HJ2.out; have := HJ6.out; have := HK3.out; have := HJ12.out; have := HJ15.out; omega
                                                  case rel => exact ⟨(x5_3 ++ ((((⟨#[45]⟩ : ByteArray) ++ t120) ++ (⟨#[58]⟩ : ByteArray)) ++ (⟨#[124]⟩ : ByteArray))), (wrap64 (x30_3 + 1)), (by first | rfl | (simp; done) | (simp [*]; done)), (by first | rfl | (simp; done) | (simp [*]; done)), H', ⟨by have := HJ2.out; have := HJ6.out; have := HK3.out; have := HJ12.out; have := HJ15.out; omega⟩, ⟨by repeat (first | (with_reducible first | exact HB.out | apply below_alloc | apply pw_below_drewN | apply below_drew1) | exact HB.out)⟩⟩
                                                · rw [if_neg c50] at H
                                                  exact absurd H (by simp)
                                              · rw [if_neg c49] at H
                                                exact absurd H (by simp)
                                            · rw [if_neg c48] at H
                                              exact absurd H (by simp)
                                          · rw [if_neg c47] at H
                                            exact absurd H (by simp)
                                        · rw [if_neg c45] at H
                                          have c45b0 : ((rdOf ByteArray.empty l0 x30_3).toList == ([114, 105, 103, 104, 116] : List UInt8)) = false := beq_eq_false_iff_ne.mpr c45
                                          have c45b1 : ((rdOf ByteArray.empty l0 x30_3).toList != ([114, 105, 103, 104, 116] : List UInt8)) = true := bne_iff_ne.mpr c45
                                          by_cases c52 : (rdOf ByteArray.empty l0 x30_3).toList = ([99, 101, 110, 116, 101, 114] : List UInt8)
                                          · rw [if_pos c52] at H
                                            have c52b0 : ((rdOf ByteArray.empty l0 x30_3).toList == ([99, 101, 110, 116, 101, 114] : List UInt8)) = true := beq_iff_eq.mpr c52
                                            have c52b1 : ((rdOf ByteArray.empty l0 x30_3).toList != ([99, 101, 110, 116, 101, 114] : List UInt8)) = false := bne_eq_false_iff_eq.mpr c52
                                            clear c52
                                            replace H := Option.bind_eq_some_iff.mp H
                                            obtain ⟨t122, A530, H⟩ := H
                                            replace H : (if (⟨#[45]⟩ : ByteArray).size + t122.size ≤ 9223372036854775807 then (if ((⟨#[45]⟩ : ByteArray) ++ t122).size + 1 ≤ 9223372036854775807 then (if (((⟨#[45]⟩ : ByteArray) ++ t122) ++ (⟨#[58]⟩ : ByteArray)).size + 1 ≤ 9223372036854775807 then (if x5_3.size + ((((⟨#[45]⟩ : ByteArray) ++ t122) ++ (⟨#[58]⟩ : ByteArray)) ++ (⟨#[124]⟩ : ByteArray)).size ≤ 9223372036854775807 then (laws_FnLine.l0 kj15 l0 l1 (x5_3 ++ ((((⟨#[45]⟩ : ByteArray) ++ t122) ++ (⟨#[58]⟩ : ByteArray)) ++ (⟨#[124]⟩ : ByteArray))) l1 (l1.length : Int) (wrap64 (x30_3 + 1))) else (none)) else (none)) else (none)) else (none)) = some r := H
                                            have A53 := Aside0.mk A530
                                            clear A530
                                            by_cases c54 : (⟨#[45]⟩ : ByteArray).size + t122.size ≤ 9223372036854775807
                                            · rw [if_pos c54] at H
                                              have c54b0 := eq_true c54
                                              have c54b1 : decide ((⟨#[45]⟩ : ByteArray).size + t122.size ≤ 9223372036854775807) = true := decide_eq_true c54
                                              try have c54b2 : (9223372036854775807 < (⟨#[45]⟩ : ByteArray).size + t122.size) = False := eq_false (Nat.not_lt.2 c54)
                                              try have c54b3 : (9223372036854775807 < 1 + t122.size) = False := eq_false (Nat.not_lt.2 (by have h_ := c54; (try simp only [ByteArray.size_append] at h_); exact h_))
                                              by_cases c55 : ((⟨#[45]⟩ : ByteArray) ++ t122).size + 1 ≤ 9223372036854775807
                                              · rw [if_pos c55] at H
                                                have c55b0 := eq_true c55
                                                have c55b1 : decide (((⟨#[45]⟩ : ByteArray) ++ t122).size + 1 ≤ 9223372036854775807) = true := decide_eq_true c55
                                                try have c55b2 : (9223372036854775807 < ((⟨#[45]⟩ : ByteArray) ++ t122).size + 1) = False := eq_false (Nat.not_lt.2 c55)
                                                try have c55b3 : (9223372036854775807 < 1 + t122.size + 1) = False := eq_false (Nat.not_lt.2 (by have h_ := c55; (try simp only [ByteArray.size_append] at h_); exact h_))
                                                by_cases c56 : (((⟨#[45]⟩ : ByteArray) ++ t122) ++ (⟨#[58]⟩ : ByteArray)).size + 1 ≤ 9223372036854775807
                                                · rw [if_pos c56] at H
                                                  have c56b0 := eq_true c56
                                                  have c56b1 : decide ((((⟨#[45]⟩ : ByteArray) ++ t122) ++ (⟨#[58]⟩ : ByteArray)).size + 1 ≤ 9223372036854775807) = true := decide_eq_true c56
                                                  try have c56b2 : (9223372036854775807 < (((⟨#[45]⟩ : ByteArray) ++ t122) ++ (⟨#[58]⟩ : ByteArray)).size + 1) = False := eq_false (Nat.not_lt.2 c56)
                                                  try have c56b3 : (9223372036854775807 < 1 + t122.size + 1 + 1) = False := eq_false (Nat.not_lt.2 (by have h_ := c56; (try simp only [ByteArray.size_append] at h_); exact h_))
                                                  by_cases c57 : x5_3.size + ((((⟨#[45]⟩ : ByteArray) ++ t122) ++ (⟨#[58]⟩ : ByteArray)) ++ (⟨#[124]⟩ : ByteArray)).size ≤ 9223372036854775807
                                                  · rw [if_pos c57] at H
                                                    have c57b0 := eq_true c57
                                                    have c57b1 : decide (x5_3.size + ((((⟨#[45]⟩ : ByteArray) ++ t122) ++ (⟨#[58]⟩ : ByteArray)) ++ (⟨#[124]⟩ : ByteArray)).size ≤ 9223372036854775807) = true := decide_eq_true c57
                                                    try have c57b2 : (9223372036854775807 < x5_3.size + ((((⟨#[45]⟩ : ByteArray) ++ t122) ++ (⟨#[58]⟩ : ByteArray)) ++ (⟨#[124]⟩ : ByteArray)).size) = False := eq_false (Nat.not_lt.2 c57)
                                                    try have c57b3 : (9223372036854775807 < x5_3.size + (1 + t122.size + 1 + 1)) = False := eq_false (Nat.not_lt.2 (by have h_ := c57; (try simp only [ByteArray.size_append] at h_); exact h_))
                                                    have H' := Aside0.mk H
                                                    clear H
                                                    have p119 : 0 ≤ (x30_3 : Int) := of_decide_eq_true (by first | (with_reducible assumption) | assumption)
                                                    have q119 : x30_3 < (l0.length : Int) := of_decide_eq_true (by first | (with_reducible assumption) | assumption)
                                                    obtain ⟨ad119, e119, hx119_0⟩ := Kd.at_string HR0.out x30_3 p119 q119
                                                    cases e119
                                                    replace hx119_0 := (HB.out.cell (World.block_lt_of_cell? w _ hx119_0)).trans hx119_0
                                                    replace p119 := eq_true p119
                                                    replace q119 := eq_true q119
                                                    have p121 : 0 ≤ (x30_3 : Int) := of_decide_eq_true (by first | (with_reducible assumption) | assumption)
                                                    have q121 : x30_3 < (l0.length : Int) := of_decide_eq_true (by first | (with_reducible assumption) | assumption)
                                                    obtain ⟨ad121, e121, hx121_0⟩ := Kd.at_string HR0.out x30_3 p121 q121
                                                    obtain rfl : ad119 = ad121 := (by injection e121)
                                                    replace hx121_0 := (HB.out.cell (World.block_lt_of_cell? w _ hx121_0)).trans hx121_0
                                                    replace p121 := eq_true p121
                                                    replace q121 := eq_true q121
                                                    go_wp2_with (first | ((with_reducible refine gate_callee (f := 12) rfl ?_); refine goesL_ (some 68) rfl rfl Try.func12 (by kernel_rfl) rfl #[.string (⟨#[45]⟩ : ByteArray), .int .i64 (rd l1 x30_3)] rfl (by (try simp only [List.map_toArray, List.map_cons, List.map_nil]); first | done | rfl | (simp only [List.length_drop, List.length_take]; rfl)) ?_; (with_reducible refine (spec_Times29.calls kj15 (⟨#[45]⟩ : ByteArray) (rd l1 x30_3) t122 _ A53.out).mono ?_); rintro e w58 ⟨rfl, hb⟩; refine ⟨_, rfl, ?_⟩; have n0_ := Aside0.mk (below_step (by repeat (first | (with_reducible first | exact HB.out | apply below_alloc | apply pw_below_drewN | apply below_drew1) | exact HB.out)) hb); clear HB; have HB := n0_; clear n0_; (try clear hb); (try clear hb2); (try clear hk); (try clear hi)))
                                                    go_roundg kj15
                                                    case measure => have := HJ2.out; have := HJ6.out; have := HK3.out; have := HJ12.out; have := HJ15.out; omega
                                                    case rel => exact ⟨(x5_3 ++ ((((⟨#[45]⟩ : ByteArray) ++ t122) ++ (⟨#[58]⟩ : ByteArray)) ++ (⟨#[124]⟩ : ByteArray))), (wrap64 (x30_3 + 1)), (by first | rfl | (simp; done) | (simp [*]; done)), (by first | rfl | (simp; done) | (simp [*]; done)), H', ⟨by have := HJ2.out; have := HJ6.out; have := HK3.out; have := HJ12.out; have := HJ15.out; omega⟩, ⟨by repeat (first | (with_reducible first | exact HB.out | apply below_alloc | apply pw_below_drewN | apply below_drew1) | exact HB.out)⟩⟩
                                                  · rw [if_neg c57] at H
                                                    exact absurd H (by simp)
                                                · rw [if_neg c56] at H
                                                  exact absurd H (by simp)
                                              · rw [if_neg c55] at H
                                                exact absurd H (by simp)
                                            · rw [if_neg c54] at H
                                              exact absurd H (by simp)
                                          · rw [if_neg c52] at H
                                            have c52b0 : ((rdOf ByteArray.empty l0 x30_3).toList == ([99, 101, 110, 116, 101, 114] : List UInt8)) = false := beq_eq_false_iff_ne.mpr c52
                                            have c52b1 : ((rdOf ByteArray.empty l0 x30_3).toList != ([99, 101, 110, 116, 101, 114] : List UInt8)) = true := bne_iff_ne.mpr c52
                                            replace H := Option.bind_eq_some_iff.mp H
                                            obtain ⟨t123, A590, H⟩ := H
                                            replace H : (if (⟨#[45]⟩ : ByteArray).size + t123.size ≤ 9223372036854775807 then (if ((⟨#[45]⟩ : ByteArray) ++ t123).size + (⟨#[45]⟩ : ByteArray).size ≤ 9223372036854775807 then (if (((⟨#[45]⟩ : ByteArray) ++ t123) ++ (⟨#[45]⟩ : ByteArray)).size + 1 ≤ 9223372036854775807 then (if x5_3.size + ((((⟨#[45]⟩ : ByteArray) ++ t123) ++ (⟨#[45]⟩ : ByteArray)) ++ (⟨#[124]⟩ : ByteArray)).size ≤ 9223372036854775807 then (laws_FnLine.l0 kj15 l0 l1 (x5_3 ++ ((((⟨#[45]⟩ : ByteArray) ++ t123) ++ (⟨#[45]⟩ : ByteArray)) ++ (⟨#[124]⟩ : ByteArray))) l1 (l1.length : Int) (wrap64 (x30_3 + 1))) else (none)) else (none)) else (none)) else (none)) = some r := H
                                            have A59 := Aside0.mk A590
                                            clear A590
                                            by_cases c60 : (⟨#[45]⟩ : ByteArray).size + t123.size ≤ 9223372036854775807
                                            · rw [if_pos c60] at H
                                              have c60b0 := eq_true c60
                                              have c60b1 : decide ((⟨#[45]⟩ : ByteArray).size + t123.size ≤ 9223372036854775807) = true := decide_eq_true c60
                                              try have c60b2 : (9223372036854775807 < (⟨#[45]⟩ : ByteArray).size + t123.size) = False := eq_false (Nat.not_lt.2 c60)
                                              try have c60b3 : (9223372036854775807 < 1 + t123.size) = False := eq_false (Nat.not_lt.2 (by have h_ := c60; (try simp only [ByteArray.size_append] at h_); exact h_))
                                              by_cases c61 : ((⟨#[45]⟩ : ByteArray) ++ t123).size + (⟨#[45]⟩ : ByteArray).size ≤ 9223372036854775807
                                              · rw [if_pos c61] at H
                                                have c61b0 := eq_true c61
                                                have c61b1 : decide (((⟨#[45]⟩ : ByteArray) ++ t123).size + (⟨#[45]⟩ : ByteArray).size ≤ 9223372036854775807) = true := decide_eq_true c61
                                                try have c61b2 : (9223372036854775807 < ((⟨#[45]⟩ : ByteArray) ++ t123).size + (⟨#[45]⟩ : ByteArray).size) = False := eq_false (Nat.not_lt.2 c61)
                                                try have c61b3 : (9223372036854775807 < 1 + t123.size + 1) = False := eq_false (Nat.not_lt.2 (by have h_ := c61; (try simp only [ByteArray.size_append] at h_); exact h_))
                                                by_cases c62 : (((⟨#[45]⟩ : ByteArray) ++ t123) ++ (⟨#[45]⟩ : ByteArray)).size + 1 ≤ 9223372036854775807
                                                · rw [if_pos c62] at H
                                                  have c62b0 := eq_true c62
                                                  have c62b1 : decide ((((⟨#[45]⟩ : ByteArray) ++ t123) ++ (⟨#[45]⟩ : ByteArray)).size + 1 ≤ 9223372036854775807) = true := decide_eq_true c62
                                                  try have c62b2 : (9223372036854775807 < (((⟨#[45]⟩ : ByteArray) ++ t123) ++ (⟨#[45]⟩ : ByteArray)).size + 1) = False := eq_false (Nat.not_lt.2 c62)
                                                  try have c62b3 : (9223372036854775807 < 1 + t123.size + 1 + 1) = False := eq_false (Nat.not_lt.2 (by have h_ := c62; (try simp only [ByteArray.size_append] at h_); exact h_))
                                                  by_cases c63 : x5_3.size + ((((⟨#[45]⟩ : ByteArray) ++ t123) ++ (⟨#[45]⟩ : ByteArray)) ++ (⟨#[124]⟩ : ByteArray)).size ≤ 9223372036854775807
                                                  · rw [if_pos c63] at H
                                                    have c63b0 := eq_true c63
                                                    have c63b1 : decide (x5_3.size + ((((⟨#[45]⟩ : ByteArray) ++ t123) ++ (⟨#[45]⟩ : ByteArray)) ++ (⟨#[124]⟩ : ByteArray)).size ≤ 9223372036854775807) = true := decide_eq_true c63
                                                    try have c63b2 : (9223372036854775807 < x5_3.size + ((((⟨#[45]⟩ : ByteArray) ++ t123) ++ (⟨#[45]⟩ : ByteArray)) ++ (⟨#[124]⟩ : ByteArray)).size) = False := eq_false (Nat.not_lt.2 c63)
                                                    try have c63b3 : (9223372036854775807 < x5_3.size + (1 + t123.size + 1 + 1)) = False := eq_false (Nat.not_lt.2 (by have h_ := c63; (try simp only [ByteArray.size_append] at h_); exact h_))
                                                    have H' := Aside0.mk H
                                                    clear H
                                                    have p119 : 0 ≤ (x30_3 : Int) := of_decide_eq_true (by first | (with_reducible assumption) | assumption)
                                                    have q119 : x30_3 < (l0.length : Int) := of_decide_eq_true (by first | (with_reducible assumption) | assumption)
                                                    obtain ⟨ad119, e119, hx119_0⟩ := Kd.at_string HR0.out x30_3 p119 q119
                                                    cases e119
                                                    replace hx119_0 := (HB.out.cell (World.block_lt_of_cell? w _ hx119_0)).trans hx119_0
                                                    replace p119 := eq_true p119
                                                    replace q119 := eq_true q119
                                                    have p121 : 0 ≤ (x30_3 : Int) := of_decide_eq_true (by first | (with_reducible assumption) | assumption)
                                                    have q121 : x30_3 < (l0.length : Int) := of_decide_eq_true (by first | (with_reducible assumption) | assumption)
                                                    obtain ⟨ad121, e121, hx121_0⟩ := Kd.at_string HR0.out x30_3 p121 q121
                                                    obtain rfl : ad119 = ad121 := (by injection e121)
                                                    replace hx121_0 := (HB.out.cell (World.block_lt_of_cell? w _ hx121_0)).trans hx121_0
                                                    replace p121 := eq_true p121
                                                    replace q121 := eq_true q121
                                                    go_wp2_with (first | ((with_reducible refine gate_callee (f := 12) rfl ?_); refine goesL_ (some 68) rfl rfl Try.func12 (by kernel_rfl) rfl #[.string (⟨#[45]⟩ : ByteArray), .int .i64 (rd l1 x30_3)] rfl (by (try simp only [List.map_toArray, List.map_cons, List.map_nil]); first | done | rfl | (simp only [List.length_drop, List.length_take]; rfl)) ?_; (with_reducible refine (spec_Times29.calls kj15 (⟨#[45]⟩ : ByteArray) (rd l1 x30_3) t123 _ A59.out).mono ?_); rintro e w64 ⟨rfl, hb⟩; refine ⟨_, rfl, ?_⟩; have n0_ := Aside0.mk (below_step (by repeat (first | (with_reducible first | exact HB.out | apply below_alloc | apply pw_below_drewN | apply below_drew1) | exact HB.out)) hb); clear HB; have HB := n0_; clear n0_; (try clear hb); (try clear hb2); (try clear hk); (try clear hi)))
                                                    go_roundg kj15
                                                    case measure => have := HJ2.out; have := HJ6.out; have := HK3.out; have := HJ12.out; have := HJ15.out; omega
                                                    case rel => exact ⟨(x5_3 ++ ((((⟨#[45]⟩ : ByteArray) ++ t123) ++ (⟨#[45]⟩ : ByteArray)) ++ (⟨#[124]⟩ : ByteArray))), (wrap64 (x30_3 + 1)), (by first | rfl | (simp; done) | (simp [*]; done)), (by first | rfl | (simp; done) | (simp [*]; done)), H', ⟨by have := HJ2.out; have := HJ6.out; have := HK3.out; have := HJ12.out; have := HJ15.out; omega⟩, ⟨by repeat (first | (with_reducible first | exact HB.out | apply below_alloc | apply pw_below_drewN | apply below_drew1) | exact HB.out)⟩⟩
                                                  · rw [if_neg c63] at H
                                                    exact absurd H (by simp)
                                                · rw [if_neg c62] at H
                                                  exact absurd H (by simp)
                                              · rw [if_neg c61] at H
                                                exact absurd H (by simp)
                                            · rw [if_neg c60] at H
                                              exact absurd H (by simp)
                                      · rw [if_neg c44] at H
                                        exact absurd H (by simp)
                                    · rw [if_neg c43] at H
                                      exact absurd H (by simp)
                      · rw [if_neg c12] at H
                        exact absurd H (by simp)
                    · rw [if_neg c11] at H
                      exact absurd H (by simp)
                  · rw [if_neg c10] at H
                    have c10b0 : decide (x30_3 < (l1.length : Int)) = false := decide_eq_false c10
                    clear c10
                    replace H := Option.bind_eq_some_iff.mp H
                    obtain ⟨t109, A650, H⟩ := H
                    replace H : (if t109.toList = x5_3.toList then ((impl_Line.f 1 l0 l1).bind fun t110 => (some (t110.toList == x5_3.toList))) else (some false)) = some r := H
                    have A65 := Aside0.mk A650
                    clear A650
                    by_cases c66 : t109.toList = x5_3.toList
                    · rw [if_pos c66] at H
                      have c66b0 : (t109.toList == x5_3.toList) = true := beq_iff_eq.mpr c66
                      have c66b1 : (t109.toList != x5_3.toList) = false := bne_eq_false_iff_eq.mpr c66
                      clear c66
                      replace H := Option.bind_eq_some_iff.mp H
                      obtain ⟨t110, A670, H⟩ := H
                      replace H : (some (t110.toList == x5_3.toList)) = some r := H
                      have A67 := Aside0.mk A670
                      clear A670
                      obtain rfl := Option.some.inj H
                      go_wp2_with (first | ((with_reducible refine gate_callee (f := 13) rfl ?_); refine goesL_ (some 77) rfl rfl Try.func13 (by kernel_rfl) rfl #[.int .i64 0, .slice A0 l0.length c0, .slice A1 l1.length c1] rfl (by (try simp only [List.map_toArray, List.map_cons, List.map_nil]); first | done | rfl | (simp only [List.length_drop, List.length_take]; rfl)) ?_; (with_reducible refine (impl_Line.calls 0 _ _ l0 _ _ l1 t109 _ ?side1 ?side2 ?side3 ?side4 A65.out).mono ?_); (case side1 => repeat (first | exact (Kd.C_below HR0.out HB.out) | (with_reducible refine Kd.C_alloc ?_ _) | (with_reducible refine Kd.C_drewN ?_ _) | (with_reducible refine Kd.C_drew ?_))); (case side2 => exact HC0.out); (case side3 => repeat (first | exact (Kd.C_below HR1.out HB.out) | (with_reducible refine Kd.C_alloc ?_ _) | (with_reducible refine Kd.C_drewN ?_ _) | (with_reducible refine Kd.C_drew ?_))); (case side4 => exact HC1.out); rintro e w68 ⟨rfl, hb⟩; refine ⟨_, rfl, ?_⟩; have n0_ := Aside0.mk (below_step (by repeat (first | (with_reducible first | exact HB.out | apply below_alloc | apply pw_below_drewN | apply below_drew1) | exact HB.out)) hb); clear HB; have HB := n0_; clear n0_; (try clear hb); (try clear hb2); (try clear hk); (try clear hi)) | (go_at_call 13; (with_reducible refine (impl_Line.calls 1 _ _ l0 _ _ l1 t110 _ ?side1 ?side2 ?side3 ?side4 A67.out).mono ?_); (case side1 => repeat (first | exact (Kd.C_below HR0.out HB.out) | (with_reducible refine Kd.C_alloc ?_ _) | (with_reducible refine Kd.C_drewN ?_ _) | (with_reducible refine Kd.C_drew ?_))); (case side2 => exact HC0.out); (case side3 => repeat (first | exact (Kd.C_below HR1.out HB.out) | (with_reducible refine Kd.C_alloc ?_ _) | (with_reducible refine Kd.C_drewN ?_ _) | (with_reducible refine Kd.C_drew ?_))); (case side4 => exact HC1.out); rintro e w69 ⟨rfl, hb⟩; have n0_ := Aside0.mk (below_step (by repeat (first | (with_reducible first | exact HB.out | apply below_alloc | apply pw_below_drewN | apply below_drew1) | exact HB.out)) hb); clear HB; have HB := n0_; clear n0_; (try clear hb); (try clear hb2); (try clear hk); (try clear hi)))
                      go_ret
                      exact ⟨by first | rfl | (simp [errW_none, errW_some] <;> rfl) | (simp [*, errW_none, errW_some] <;> rfl), by repeat (first | (with_reducible first | exact HB.out | apply below_alloc | apply pw_below_drewN | apply below_drew1) | exact HB.out)⟩
                    · rw [if_neg c66] at H
                      have c66b0 : (t109.toList == x5_3.toList) = false := beq_eq_false_iff_ne.mpr c66
                      have c66b1 : (t109.toList != x5_3.toList) = true := bne_iff_ne.mpr c66
                      obtain rfl := Option.some.inj H
                      go_wp2_with (first | ((with_reducible refine gate_callee (f := 13) rfl ?_); refine goesL_ (some 77) rfl rfl Try.func13 (by kernel_rfl) rfl #[.int .i64 0, .slice A0 l0.length c0, .slice A1 l1.length c1] rfl (by (try simp only [List.map_toArray, List.map_cons, List.map_nil]); first | done | rfl | (simp only [List.length_drop, List.length_take]; rfl)) ?_; (with_reducible refine (impl_Line.calls 0 _ _ l0 _ _ l1 t109 _ ?side1 ?side2 ?side3 ?side4 A65.out).mono ?_); (case side1 => repeat (first | exact (Kd.C_below HR0.out HB.out) | (with_reducible refine Kd.C_alloc ?_ _) | (with_reducible refine Kd.C_drewN ?_ _) | (with_reducible refine Kd.C_drew ?_))); (case side2 => exact HC0.out); (case side3 => repeat (first | exact (Kd.C_below HR1.out HB.out) | (with_reducible refine Kd.C_alloc ?_ _) | (with_reducible refine Kd.C_drewN ?_ _) | (with_reducible refine Kd.C_drew ?_))); (case side4 => exact HC1.out); rintro e w70 ⟨rfl, hb⟩; refine ⟨_, rfl, ?_⟩; have n0_ := Aside0.mk (below_step (by repeat (first | (with_reducible first | exact HB.out | apply below_alloc | apply pw_below_drewN | apply below_drew1) | exact HB.out)) hb); clear HB; have HB := n0_; clear n0_; (try clear hb); (try clear hb2); (try clear hk); (try clear hi)))
                      go_ret
                      exact ⟨by first | rfl | (simp [errW_none, errW_some] <;> rfl) | (simp [*, errW_none, errW_some] <;> rfl), by repeat (first | (with_reducible first | exact HB.out | apply below_alloc | apply pw_below_drewN | apply below_drew1) | exact HB.out)⟩

end Go.Proofs.Ytnhcocjdkmelhaa.GFnLine
