-- made by a program of this session, after the kit's print
import Derived.Test.YtnhcocjdkmelhaaDoorGIn1x0
namespace Go.Proofs.YtnhcocjdkmelhaaDoor.GIn1
open Go.RowKit Go.Proofs.YtnhcocjdkmelhaaDoorW.PrintWords Go.Proofs.YtnhcocjdkmelhaaDoorW.PrintLast Go.Proofs.YtnhcocjdkmelhaaDoorW.PrintMore
attribute [local go_sem] max2_int min2_int max_two min_two max_three min_three max_four min_four   -- for this text's walks alone
set_option linter.unusedVariables false
set_option linter.unusedSimpArgs false

/-! ### textutils_zzHas: function 46 -/
def textutils_zzHas.l0 : Nat → List Int → Int → Int → Option (Bool)
  | 0, _, _, _ => none
  | k + 1, x0, x1, x5 => if x5 < (x0.length : Int) then (if 0 ≤ x5 then (if (rd x0 x5) = x1 then (some true) else (textutils_zzHas.l0 k x0 x1 (wrap64 (x5 + 1)))) else (none)) else (some false)
def textutils_zzHas.f (k : Nat) (l0 : List Int) (a1 : Int) : Option (Bool) := textutils_zzHas.l0 k l0 a1 0
theorem textutils_zzHas.mono_l : ∀ k, (∀ y0 y1 y2, LeO (textutils_zzHas.l0 k y0 y1 y2) (textutils_zzHas.l0 (k + 1) y0 y1 y2))
  | 0 => fun _ _ _ r h => by simp [textutils_zzHas.l0] at h
  | k + 1 => by
    have ih0 := textutils_zzHas.mono_l k
    · intro y0 y1 y2
      unfold textutils_zzHas.l0
      repeat' first
      | (with_reducible exact ih0 _ _ _)
      | (with_reducible exact LeO.refl _)
      | (with_reducible exact LeO.none _)
      | (with_reducible refine LeO.ite ?_ ?_)
      | (with_reducible refine LeO.bind ?_ (fun _ => ?_))
      | exact ih0 _ _ _
      | exact LeO.none _
      | refine LeO.ite ?_ ?_
      | refine LeO.bind ?_ (fun _ => ?_)
theorem textutils_zzHas.mono : ∀ a0 a1 k, LeO (textutils_zzHas.f k a0 a1) (textutils_zzHas.f (k + 1) a0 a1) := by
  intro a0 a1 k
  have ih0 := textutils_zzHas.mono_l k
  unfold textutils_zzHas.f
  repeat' first
      | (with_reducible exact ih0 _ _ _)
      | (with_reducible exact LeO.refl _)
      | (with_reducible exact LeO.none _)
      | (with_reducible refine LeO.ite ?_ ?_)
      | (with_reducible refine LeO.bind ?_ (fun _ => ?_))
      | exact ih0 _ _ _
      | exact LeO.none _
      | refine LeO.ite ?_ ?_
      | refine LeO.bind ?_ (fun _ => ?_)
set_option maxHeartbeats 8000000 in
set_option maxRecDepth 100000 in
theorem textutils_zzHas.calls (k : Nat) (A0 : Option Addr) (c0 : Nat) (l0 : List Int) (a1 : Int) (r : Bool) (w : World) (hr0 : Kd.C (Kd.int .u8) w A0 l0.length l0) (hc0 : l0.length ≤ c0) (h : textutils_zzHas.f k l0 a1 = some r) :
    Calls Tryd.prog 46 #[.slice A0 l0.length c0, .int .u8 a1] w fun e w' => e = .returned (.bool r) ∧ Drawn0 w w' := by
  have HR0 := Aside0.mk hr0
  have HC0 := Aside0.mk hc0
  clear hr0 hc0
  have H : (textutils_zzHas.l0 k l0 a1 0) = some r := h
  clear h
  have H' := Aside0.mk H
  clear H
  go_enter Tryd.func46, Tryd.ntmps46
  go_wp2
  go_loopg [5] k (fun kq v5 w' => ∃ (x5_1 : Int), v5 = .int .i64 x5_1 ∧ Aside0 (textutils_zzHas.l0 kq l0 a1 x5_1 = some r) ∧ Aside0 (kq ≤ k) ∧ Drawn0 w w')
  case atStart => exact ⟨(0), (by first | rfl | (simp; done) | (simp [*]; done)), H', ⟨Nat.le_refl _⟩, by repeat (first | exact Drawn0.refl _ | apply Drawn0.step)⟩
  case round =>
    clear H'
    try clear p2
    obtain ⟨x5_1, rfl, HA, HK1, ⟨m1, rfl⟩⟩ := hrel
    cases gk with
    | zero => exact absurd HA.out (by simp [textutils_zzHas.l0])
    | succ k1 =>
      have H := HA.out
      clear HA
      simp only [textutils_zzHas.l0] at H
      by_cases c3 : x5_1 < (l0.length : Int)
      · rw [if_pos c3] at H
        have c3b0 : decide (x5_1 < (l0.length : Int)) = true := decide_eq_true c3
        clear c3
        by_cases c4 : 0 ≤ x5_1
        · rw [if_pos c4] at H
          have c4b0 : decide (0 ≤ x5_1) = true := decide_eq_true c4
          clear c4
          by_cases c5 : (rd l0 x5_1) = a1
          · rw [if_pos c5] at H
            have c5b0 : ((rd l0 x5_1) == a1) = true := beq_iff_eq.mpr c5
            have c5b1 : ((rd l0 x5_1) != a1) = false := bne_eq_false_iff_eq.mpr c5
            clear c5
            obtain rfl := Option.some.inj H
            have p101 : 0 ≤ (x5_1 : Int) := of_decide_eq_true (by first | (with_reducible assumption) | assumption)
            have q101 : x5_1 < (l0.length : Int) := of_decide_eq_true (by first | (with_reducible assumption) | assumption)
            obtain ⟨ad101, e101, hx101_0⟩ := Kd.at_int HR0.out x5_1 p101 q101
            cases e101
            replace p101 := eq_true p101
            replace q101 := eq_true q101
            go_wp2
            go_ret
            exact ⟨by first | rfl | (simp; done) | (simp [*]; done), by repeat (first | exact Drawn0.refl _ | apply Drawn0.step)⟩
          · rw [if_neg c5] at H
            have c5b0 : ((rd l0 x5_1) == a1) = false := beq_eq_false_iff_ne.mpr c5
            have c5b1 : ((rd l0 x5_1) != a1) = true := bne_iff_ne.mpr c5
            have H' := Aside0.mk H
            clear H
            have p101 : 0 ≤ (x5_1 : Int) := of_decide_eq_true (by first | (with_reducible assumption) | assumption)
            have q101 : x5_1 < (l0.length : Int) := of_decide_eq_true (by first | (with_reducible assumption) | assumption)
            obtain ⟨ad101, e101, hx101_0⟩ := Kd.at_int HR0.out x5_1 p101 q101
            cases e101
            replace p101 := eq_true p101
            replace q101 := eq_true q101
            go_wp2
            go_roundg k1
            case measure => have := HK1.out; omega
            case rel => exact ⟨(wrap64 (x5_1 + 1)), (by first | rfl | (simp; done) | (simp [*]; done)), H', ⟨by have := HK1.out; omega⟩, by repeat (first | exact Drawn0.refl _ | apply Drawn0.step)⟩
        · rw [if_neg c4] at H
          exact absurd H (by simp)
      · rw [if_neg c3] at H
        have c3b0 : decide (x5_1 < (l0.length : Int)) = false := decide_eq_false c3
        clear c3
        obtain rfl := Option.some.inj H
        go_wp2
        go_ret
        exact ⟨by first | rfl | (simp; done) | (simp [*]; done), by repeat (first | exact Drawn0.refl _ | apply Drawn0.step)⟩

/-- THE ONE PURE STATEMENT of textutils_zzHas: yours. -/
def textutils_zzHas.Pure : Prop := ∀ (l0 : List Int) (a1 : Int), l0.length ≤ maxLen → l0.length * 1 ≤ 140737488351232 → (∀ x ∈ l0, (Lit.int .u8 x).wf = true) → (Lit.int .u8 a1).wf = true → ∃ k, textutils_zzHas.f k l0 a1 = some true
theorem textutils_zzHas.walk (P : textutils_zzHas.Pure) (a0 : Option Addr) (len0 cap0 : Nat) (z0 : List Int) (a1 : Int) (w : World) (w0 : (a0 = none ∧ len0 = 0 ∧ cap0 = 0 ∧ z0 = []) ∨ ∃ x, a0 = some x ∧ len0 ≤ cap0 ∧ cap0 ≤ maxLen ∧ z0.length = cap0 ∧ (∀ i, i < z0.length → w.cell? (x.add i) = some (.int .u8 (z0.getD i 0))) ∧ ∀ n ∈ z0, (Lit.int .u8 n).wf = true) (y0 : len0 * 1 ≤ 140737488351232) (w1 : (Lit.int .u8 a1).wf = true) :
    Calls Tryd.prog 46 #[.slice a0 len0 cap0, .int .u8 a1] w fun e w' => e = .returned (.bool true) ∧ Below w.heap.size w w' := by
  obtain ⟨l0, rfl, hr0, hm0, hw0, hc0⟩ := ReadsInt.ofRowC w0
  obtain ⟨k, h⟩ := P l0 a1 hm0 y0 hw0 w1
  refine (textutils_zzHas.calls k _ _ l0 a1 true w (Kd.C_of_reads (d := (0 : Int)) (h1 := fun _ => rfl) hr0) hc0 h).mono ?_
  rintro e w' ⟨rfl, hd⟩
  exact ⟨rfl, hd.below⟩

/-! ### textutils_zzReplaceAll: function 38 -/
def textutils_zzReplaceAll.l0 : Nat → List Int → ByteArray → ByteArray → List Int → Int → Option (List Int)
  | 0, _, _, _, _, _ => none
  | k + 1, x0, x1, x2, x7, x8 => if x8 < (x0.length : Int) then (if (wrap64 (x8 + (x1.size : Int))) ≤ (x0.length : Int) then (if 0 ≤ x8 then (if x8 ≤ (wrap64 (x8 + (x1.size : Int))) then (if (strOfNums ((x0.take ((wrap64 (x8 + (x1.size : Int))) : Int).toNat).drop (x8 : Int).toNat)).toList = x1.toList then (if x7.length + x2.size < 140737488355328 then (textutils_zzReplaceAll.l0 k x0 x1 x2 (x7 ++ bytesOf x2) (wrap64 (x8 + (x1.size : Int)))) else (none)) else (if x7.length < 140737488355328 then (textutils_zzReplaceAll.l0 k x0 x1 x2 (x7 ++ [rd x0 x8]) (wrap64 (x8 + 1))) else (none))) else (none)) else (none)) else (if 0 ≤ x8 then (if x7.length < 140737488355328 then (textutils_zzReplaceAll.l0 k x0 x1 x2 (x7 ++ [rd x0 x8]) (wrap64 (x8 + 1))) else (none)) else (none))) else (some x7)
def textutils_zzReplaceAll.f (k : Nat) (l0 : List Int) (a1 : ByteArray) (a2 : ByteArray) : Option (List Int) := textutils_zzReplaceAll.l0 k l0 a1 a2 ([] : List Int) 0
theorem textutils_zzReplaceAll.mono_l : ∀ k, (∀ y0 y1 y2 y3 y4, LeO (textutils_zzReplaceAll.l0 k y0 y1 y2 y3 y4) (textutils_zzReplaceAll.l0 (k + 1) y0 y1 y2 y3 y4))
  | 0 => fun _ _ _ _ _ r h => by simp [textutils_zzReplaceAll.l0] at h
  | k + 1 => by
    have ih0 := textutils_zzReplaceAll.mono_l k
    · intro y0 y1 y2 y3 y4
      unfold textutils_zzReplaceAll.l0
      repeat' first
      | (with_reducible exact ih0 _ _ _ _ _)
      | (with_reducible exact LeO.refl _)
      | (with_reducible exact LeO.none _)
      | (with_reducible refine LeO.ite ?_ ?_)
      | (with_reducible refine LeO.bind ?_ (fun _ => ?_))
      | exact ih0 _ _ _ _ _
      | exact LeO.none _
      | refine LeO.ite ?_ ?_
      | refine LeO.bind ?_ (fun _ => ?_)
theorem textutils_zzReplaceAll.mono : ∀ a0 a1 a2 k, LeO (textutils_zzReplaceAll.f k a0 a1 a2) (textutils_zzReplaceAll.f (k + 1) a0 a1 a2) := by
  intro a0 a1 a2 k
  have ih0 := textutils_zzReplaceAll.mono_l k
  unfold textutils_zzReplaceAll.f
  repeat' first
      | (with_reducible exact ih0 _ _ _ _ _)
      | (with_reducible exact LeO.refl _)
      | (with_reducible exact LeO.none _)
      | (with_reducible refine LeO.ite ?_ ?_)
      | (with_reducible refine LeO.bind ?_ (fun _ => ?_))
      | exact ih0 _ _ _ _ _
      | exact LeO.none _
      | refine LeO.ite ?_ ?_
      | refine LeO.bind ?_ (fun _ => ?_)
set_option maxHeartbeats 8000000 in
set_option maxRecDepth 100000 in
theorem textutils_zzReplaceAll.calls (k : Nat) (A0 : Option Addr) (c0 : Nat) (l0 : List Int) (a1 : ByteArray) (a2 : ByteArray) (r : List Int) (w : World) (hr0 : Kd.C (Kd.int .u8) w A0 l0.length l0) (hc0 : l0.length ≤ c0) (h : textutils_zzReplaceAll.f k l0 a1 a2 = some r) :
    Calls Tryd.prog 38 #[.slice A0 l0.length c0, .string a1, .string a2] w fun e w' => ∃ v0_ : Value, e = .returned (v0_) ∧ Kd.R (Kd.int .u8) 5 w' w.heap.size (fun _ => True) v0_ r ∧ Below w.heap.size w w' := by
  have HR0 := Aside0.mk hr0
  have HC0 := Aside0.mk hc0
  clear hr0 hc0
  have HB := Aside0.mk (Below.refl w.heap.size w)
  have H : (textutils_zzReplaceAll.l0 k l0 a1 a2 ([] : List Int) 0) = some r := h
  clear h
  have H' := Aside0.mk H
  clear H
  go_enter Tryd.func38, Tryd.ntmps38
  go_wp2
  go_loopg [7, 8] k (fun kq v7 v8 w' => ∃ (x7_1 : List Int) (x8_1 : Int), v8 = .int .i64 x8_1 ∧ Aside0 (textutils_zzReplaceAll.l0 kq l0 a1 a2 x7_1 x8_1 = some r) ∧ Aside0 (kq ≤ k) ∧ Aside0 (Kd.R (Kd.int .u8) 5 w' w.heap.size (fun _ => True) v7 x7_1) ∧ Aside0 (Below w.heap.size w w'))
  case atStart => exact ⟨(([] : List Int)), (0), (by first | rfl | (simp; done) | (simp [*]; done)), H', ⟨Nat.le_refl _⟩, ⟨by first | exact Kd.R_nil _ _ _ _ _ | exact Kd.N_nil _ _ _ _ _ | exact Kd.V_nil _ _ _ _ _ | exact Kd.Q_nil _ _ _ _ _ | exact Kd.S_nil _ _ _ _ _⟩, ⟨by repeat (first | (with_reducible first | exact HB.out | apply below_alloc | apply pw_below_drewN | apply below_drew1) | exact HB.out)⟩⟩
  case round =>
    clear H'
    try clear p2
    try clear c3
    obtain ⟨x7_1, x8_1, rfl, HA, HK1, HO_7, HB⟩ := hrel
    cases gk with
    | zero => exact absurd HA.out (by simp [textutils_zzReplaceAll.l0])
    | succ k1 =>
      have H := HA.out
      clear HA
      simp only [textutils_zzReplaceAll.l0] at H
      by_cases c4 : x8_1 < (l0.length : Int)
      · rw [if_pos c4] at H
        have c4b0 : decide (x8_1 < (l0.length : Int)) = true := decide_eq_true c4
        clear c4
        by_cases c5 : (wrap64 (x8_1 + (a1.size : Int))) ≤ (l0.length : Int)
        · rw [if_pos c5] at H
          have c5b0 : decide ((wrap64 (x8_1 + (a1.size : Int))) ≤ (l0.length : Int)) = true := decide_eq_true c5
          clear c5
          by_cases c6 : 0 ≤ x8_1
          · rw [if_pos c6] at H
            have c6b0 := eq_true c6
            have c6b1 : decide (0 ≤ x8_1) = true := decide_eq_true c6
            clear c6
            by_cases c7 : x8_1 ≤ (wrap64 (x8_1 + (a1.size : Int)))
            · rw [if_pos c7] at H
              have c7b0 := eq_true c7
              have c7b1 : decide (x8_1 ≤ (wrap64 (x8_1 + (a1.size : Int)))) = true := decide_eq_true c7
              have c8b0 := eq_true (of_decide_eq_true (by first | (with_reducible assumption) | assumption) : (wrap64 (x8_1 + (a1.size : Int))) ≤ (l0.length : Int))
              by_cases c9 : (strOfNums ((l0.take ((wrap64 (x8_1 + (a1.size : Int))) : Int).toNat).drop (x8_1 : Int).toNat)).toList = a1.toList
              · rw [if_pos c9] at H
                have c9b0 : ((strOfNums ((l0.take ((wrap64 (x8_1 + (a1.size : Int))) : Int).toNat).drop (x8_1 : Int).toNat)).toList == a1.toList) = true := beq_iff_eq.mpr c9
                have c9b1 : ((strOfNums ((l0.take ((wrap64 (x8_1 + (a1.size : Int))) : Int).toNat).drop (x8_1 : Int).toNat)).toList != a1.toList) = false := bne_eq_false_iff_eq.mpr c9
                clear c9
                by_cases c10 : x7_1.length + a2.size < 140737488355328
                · rw [if_pos c10] at H
                  have LMc10 := Aside0.mk c10
                  clear c10
                  obtain ⟨y103, hy103⟩ : ∃ y_ : List Int, y_ = (x7_1 ++ bytesOf a2) := ⟨_, rfl⟩
                  replace H : (textutils_zzReplaceAll.l0 k1 l0 a1 a2 y103 (wrap64 (x8_1 + (a1.size : Int)))) = some r := by first | (rw [hy103]; with_reducible exact H) | (have H2_ := (Option.bind_some _ _).symm.trans H; rw [hy103]; with_reducible exact H2_) | (have H2_ := (Option.bind_some _ _).symm.trans H; with_reducible exact H2_) | with_reducible exact H | (rw [hy103]; exact H) | exact H
                  have Ny103 := Aside0.mk hy103
                  clear hy103
                  have H' := Aside0.mk H
                  clear H
                  obtain ⟨i011, hi011, _, hsz11, _⟩ := info_parts info5
                  obtain ⟨A11, hcut11, hA11, hC11⟩ := print_mid_of (P := Tryd.prog) (Value.int .u8) 0 33 5 .i64 .i64 Tryd.underlying33 hi011 hsz11 A0 c0 l0 x8_1 (wrap64 (x8_1 + (a1.size : Int))) (of_decide_eq_true (by first | (with_reducible assumption) | assumption)) (by first | omega | exact of_decide_eq_true (by first | (with_reducible assumption) | assumption)) (of_decide_eq_true (by first | (with_reducible assumption) | assumption)) HC0.out
                  have HR102 := Aside0.mk (Kd.C_of_reads (h1 := fun _ => rfl) (hA11 _ (Kd.reads_of_C HR0.out)))
                  have HC102 := Aside0.mk hC11
                  clear hA11 hC11 hi011 hsz11
                  have hcv12 := Kd.C_string (P := Tryd.prog) (A := A11) (c := (c0 - x8_1.toNat)) Tryd.underlying33 Tryd.underlying5 Tryd.underlying9 (Kd.C_below HR102.out HB.out)
                  try rw [show ((l0.take ((wrap64 (x8_1 + (a1.size : Int))) : Int).toNat).drop (x8_1 : Int).toNat).length = ((wrap64 (x8_1 + (a1.size : Int))) : Int).toNat - (x8_1 : Int).toNat from cut_len (of_decide_eq_true (by first | (with_reducible assumption) | assumption))] at hcv12
                  go_wp2_with (first | (at_builtin; refine print_append_str (w0 := w) w.heap.size rfl (.tmp 32) _ 33 9 5 rfl Tryd.underlying33 Tryd.underlying9 info5 u7 x7_1 a2 rfl rfl ?aO ?aB ?aS ?aL ?_; (case aB => exact (by repeat (first | (with_reducible first | exact HB.out | apply below_alloc | apply pw_below_drewN | apply below_drew1) | exact HB.out))); (case aO => exact (Kd.own_of_R (by (with_reducible repeat (first | apply Kd.R_alloc | apply Kd.R_drewN | apply Kd.R_drew)); exact HO_7.out))); (case aS => exact (below_size (by repeat (first | (with_reducible first | exact HB.out | apply below_alloc | apply pw_below_drewN | apply below_drew1) | exact HB.out)))); (case aL => have := LMc10.out; (first | omega | (simp only [ByteArray.size, List.size_toArray, List.length_cons, List.length_nil]; omega))); intro v104 w13 ho0 hb hg; have ho := Kd.R_of_own (h1 := fun _ => rfl) (ok := fun _ => True) ho0 (fun _ _ => trivial); clear ho0; have hat := True.intro; rw [← Ny103.out] at ho; change Kd.R (Kd.int .u8) 5 w13 w.heap.size (fun _ => True) v104 y103 at ho; have n0_ := Aside0.mk (hb); have n1_ := Aside0.mk (ho); clear HB; clear HO_7; have HB := n0_; have HO105 := n1_; clear n0_ n1_; clear ho hb hg hat))
                  go_roundg k1
                  case measure => have := HK1.out; omega
                  case rel => exact ⟨(y103), (wrap64 (x8_1 + (a1.size : Int))), (by first | rfl | (simp; done) | (simp [*]; done)), H', ⟨by have := HK1.out; omega⟩, ⟨by (with_reducible repeat (first | apply Kd.R_alloc | apply Kd.R_drewN | apply Kd.R_drew)); exact HO105.out⟩, ⟨by repeat (first | (with_reducible first | exact HB.out | apply below_alloc | apply pw_below_drewN | apply below_drew1) | exact HB.out)⟩⟩
                · rw [if_neg c10] at H
                  exact absurd H (by simp)
              · rw [if_neg c9] at H
                have c9b0 : ((strOfNums ((l0.take ((wrap64 (x8_1 + (a1.size : Int))) : Int).toNat).drop (x8_1 : Int).toNat)).toList == a1.toList) = false := beq_eq_false_iff_ne.mpr c9
                have c9b1 : ((strOfNums ((l0.take ((wrap64 (x8_1 + (a1.size : Int))) : Int).toNat).drop (x8_1 : Int).toNat)).toList != a1.toList) = true := bne_iff_ne.mpr c9
                by_cases c14 : x7_1.length < 140737488355328
                · rw [if_pos c14] at H
                  have LMc14 := Aside0.mk c14
                  clear c14
                  obtain ⟨y107, hy107⟩ : ∃ y_ : List Int, y_ = (x7_1 ++ [rd l0 x8_1]) := ⟨_, rfl⟩
                  replace H : (textutils_zzReplaceAll.l0 k1 l0 a1 a2 y107 (wrap64 (x8_1 + 1))) = some r := by first | (rw [hy107]; with_reducible exact H) | (have H2_ := (Option.bind_some _ _).symm.trans H; rw [hy107]; with_reducible exact H2_) | (have H2_ := (Option.bind_some _ _).symm.trans H; with_reducible exact H2_) | with_reducible exact H | (rw [hy107]; exact H) | exact H
                  have Ny107 := Aside0.mk hy107
                  clear hy107
                  have H' := Aside0.mk H
                  clear H
                  obtain ⟨i015, hi015, _, hsz15, _⟩ := info_parts info5
                  obtain ⟨A15, hcut15, hA15, hC15⟩ := print_mid_of (P := Tryd.prog) (Value.int .u8) 0 33 5 .i64 .i64 Tryd.underlying33 hi015 hsz15 A0 c0 l0 x8_1 (wrap64 (x8_1 + (a1.size : Int))) (of_decide_eq_true (by first | (with_reducible assumption) | assumption)) (by first | omega | exact of_decide_eq_true (by first | (with_reducible assumption) | assumption)) (of_decide_eq_true (by first | (with_reducible assumption) | assumption)) HC0.out
                  have HR102 := Aside0.mk (Kd.C_of_reads (h1 := fun _ => rfl) (hA15 _ (Kd.reads_of_C HR0.out)))
                  have HC102 := Aside0.mk hC15
                  clear hA15 hC15 hi015 hsz15
                  have hcv16 := Kd.C_string (P := Tryd.prog) (A := A15) (c := (c0 - x8_1.toNat)) Tryd.underlying33 Tryd.underlying5 Tryd.underlying9 (Kd.C_below HR102.out HB.out)
                  try rw [show ((l0.take ((wrap64 (x8_1 + (a1.size : Int))) : Int).toNat).drop (x8_1 : Int).toNat).length = ((wrap64 (x8_1 + (a1.size : Int))) : Int).toNat - (x8_1 : Int).toNat from cut_len (of_decide_eq_true (by first | (with_reducible assumption) | assumption))] at hcv16
                  have p106 : 0 ≤ (x8_1 : Int) := of_decide_eq_true (by first | (with_reducible assumption) | assumption)
                  have q106 : x8_1 < (l0.length : Int) := of_decide_eq_true (by first | (with_reducible assumption) | assumption)
                  obtain ⟨ad106, e106, hx106_0⟩ := Kd.at_int HR0.out x8_1 p106 q106
                  cases e106
                  replace hx106_0 := (HB.out.cell (World.block_lt_of_cell? w _ hx106_0)).trans hx106_0
                  replace p106 := eq_true p106
                  replace q106 := eq_true q106
                  go_wp2_with (first | ((with_reducible refine gate_builtin (b := .append) (xs := #[.tmp 39, .tmp 44]) rfl ?_); (try (refine gate_guard (by rfl) ?_; dsimp only)); at_builtin; refine Kd.R_append (Kd.int .u8) (w0 := w) w.heap.size rfl (.tmp 39) (.tmp 44) 33 5 (.int .u8 0) 1 rfl Tryd.underlying33 info5 rfl (by decide) (by omega) u7 x7_1 (rd l0 x8_1) [.int .u8 (rd l0 x8_1)] (fun _ => True) (fun _ => False) rfl rfl ?aP (fun _ hk => hk.elim) ?aF ?aO ?aB ?aS ?aL ?_; (case aP => exact rfl); (case aB => exact (by repeat (first | (with_reducible first | exact HB.out | apply below_alloc | apply pw_below_drewN | apply below_drew1) | exact HB.out))); (case aF => exact (fun _ _ => trivial)); (case aO => exact (by (with_reducible repeat (first | apply Kd.R_alloc | apply Kd.R_drewN | apply Kd.R_drew)); exact HO_7.out)); (case aS => exact (below_size (by repeat (first | (with_reducible first | exact HB.out | apply below_alloc | apply pw_below_drewN | apply below_drew1) | exact HB.out)))); (case aL => have := LMc14.out; (first | omega | (simp only [ByteArray.size, List.size_toArray, List.length_cons, List.length_nil]; omega))); intro v108 w17 ho hb hg hat; rw [← Ny107.out] at ho; have n0_ := Aside0.mk (hb); have n1_ := Aside0.mk (ho); clear HB; clear HO_7; have HB := n0_; have HO109 := n1_; clear n0_ n1_; clear ho hb hg hat))
                  go_roundg k1
                  case measure => have := HK1.out; omega
                  case rel => exact ⟨(y107), (wrap64 (x8_1 + 1)), (by first | rfl | (simp; done) | (simp [*]; done)), H', ⟨by have := HK1.out; omega⟩, ⟨by (with_reducible repeat (first | apply Kd.R_alloc | apply Kd.R_drewN | apply Kd.R_drew)); exact HO109.out⟩, ⟨by repeat (first | (with_reducible first | exact HB.out | apply below_alloc | apply pw_below_drewN | apply below_drew1) | exact HB.out)⟩⟩
                · rw [if_neg c14] at H
                  exact absurd H (by simp)
            · rw [if_neg c7] at H
              exact absurd H (by simp)
          · rw [if_neg c6] at H
            exact absurd H (by simp)
        · rw [if_neg c5] at H
          have c5b0 : decide ((wrap64 (x8_1 + (a1.size : Int))) ≤ (l0.length : Int)) = false := decide_eq_false c5
          clear c5
          by_cases c18 : 0 ≤ x8_1
          · rw [if_pos c18] at H
            have c18b0 : decide (0 ≤ x8_1) = true := decide_eq_true c18
            clear c18
            by_cases c19 : x7_1.length < 140737488355328
            · rw [if_pos c19] at H
              have LMc19 := Aside0.mk c19
              clear c19
              obtain ⟨y111, hy111⟩ : ∃ y_ : List Int, y_ = (x7_1 ++ [rd l0 x8_1]) := ⟨_, rfl⟩
              replace H : (textutils_zzReplaceAll.l0 k1 l0 a1 a2 y111 (wrap64 (x8_1 + 1))) = some r := by first | (rw [hy111]; with_reducible exact H) | (have H2_ := (Option.bind_some _ _).symm.trans H; rw [hy111]; with_reducible exact H2_) | (have H2_ := (Option.bind_some _ _).symm.trans H; with_reducible exact H2_) | with_reducible exact H | (rw [hy111]; exact H) | exact H
              have Ny111 := Aside0.mk hy111
              clear hy111
              have H' := Aside0.mk H
              clear H
              have p110 : 0 ≤ (x8_1 : Int) := of_decide_eq_true (by first | (with_reducible assumption) | assumption)
              have q110 : x8_1 < (l0.length : Int) := of_decide_eq_true (by first | (with_reducible assumption) | assumption)
              obtain ⟨ad110, e110, hx110_0⟩ := Kd.at_int HR0.out x8_1 p110 q110
              cases e110
              replace hx110_0 := (HB.out.cell (World.block_lt_of_cell? w _ hx110_0)).trans hx110_0
              replace p110 := eq_true p110
              replace q110 := eq_true q110
              go_wp2_with (first | ((with_reducible refine gate_builtin (b := .append) (xs := #[.tmp 39, .tmp 44]) rfl ?_); (try (refine gate_guard (by rfl) ?_; dsimp only)); at_builtin; refine Kd.R_append (Kd.int .u8) (w0 := w) w.heap.size rfl (.tmp 39) (.tmp 44) 33 5 (.int .u8 0) 1 rfl Tryd.underlying33 info5 rfl (by decide) (by omega) u7 x7_1 (rd l0 x8_1) [.int .u8 (rd l0 x8_1)] (fun _ => True) (fun _ => False) rfl rfl ?aP (fun _ hk => hk.elim) ?aF ?aO ?aB ?aS ?aL ?_; (case aP => exact rfl); (case aB => exact (by repeat (first | (with_reducible first | exact HB.out | apply below_alloc | apply pw_below_drewN | apply below_drew1) | exact HB.out))); (case aF => exact (fun _ _ => trivial)); (case aO => exact (by (with_reducible repeat (first | apply Kd.R_alloc | apply Kd.R_drewN | apply Kd.R_drew)); exact HO_7.out)); (case aS => exact (below_size (by repeat (first | (with_reducible first | exact HB.out | apply below_alloc | apply pw_below_drewN | apply below_drew1) | exact HB.out)))); (case aL => have := LMc19.out; (first | omega | (simp only [ByteArray.size, List.size_toArray, List.length_cons, List.length_nil]; omega))); intro v112 w20 ho hb hg hat; rw [← Ny111.out] at ho; have n0_ := Aside0.mk (hb); have n1_ := Aside0.mk (ho); clear HB; clear HO_7; have HB := n0_; have HO113 := n1_; clear n0_ n1_; clear ho hb hg hat))
              go_roundg k1
              case measure => have := HK1.out; omega
              case rel => exact ⟨(y111), (wrap64 (x8_1 + 1)), (by first | rfl | (simp; done) | (simp [*]; done)), H', ⟨by have := HK1.out; omega⟩, ⟨by (with_reducible repeat (first | apply Kd.R_alloc | apply Kd.R_drewN | apply Kd.R_drew)); exact HO113.out⟩, ⟨by repeat (first | (with_reducible first | exact HB.out | apply below_alloc | apply pw_below_drewN | apply below_drew1) | exact HB.out)⟩⟩
            · rw [if_neg c19] at H
              exact absurd H (by simp)
          · rw [if_neg c18] at H
            exact absurd H (by simp)
      · rw [if_neg c4] at H
        have c4b0 : decide (x8_1 < (l0.length : Int)) = false := decide_eq_false c4
        clear c4
        obtain rfl := Option.some.inj H
        go_wp2
        go_ret
        exact ⟨_, by first | rfl | (simp [errW_none, errW_some] <;> rfl) | (simp [*, errW_none, errW_some] <;> rfl), by (with_reducible repeat (first | apply Kd.R_alloc | apply Kd.R_drewN | apply Kd.R_drew)); exact HO_7.out, by repeat (first | (with_reducible first | exact HB.out | apply below_alloc | apply pw_below_drewN | apply below_drew1) | exact HB.out)⟩

end Go.Proofs.YtnhcocjdkmelhaaDoor.GIn1
