-- made by a program of this session, after the kit's print
import Derived.Test.YtlallihdiffheaaDoorGTx0
import Derived.Test.YtlallihdiffheaaDoorGTx1
namespace Go.Proofs.YtlallihdiffheaaDoor.GT
open Go.RowKit Go.Proofs.YtlallihdiffheaaDoorW.PrintWords Go.Proofs.YtlallihdiffheaaDoorW.PrintLast Go.Proofs.YtlallihdiffheaaDoorW.PrintMore
attribute [local go_sem] max2_int min2_int max_two min_two max_three min_three max_four min_four   -- for this text's walks alone
set_option linter.unusedVariables false
set_option linter.unusedSimpArgs false

/-! ### laws_right29: function 29 -/
mutual
def laws_right29.j4 : Nat → Int → ByteArray → ByteArray → List (S29) → List (S25) → Option (Bool)
  | 0, _, _, _, _, _ => none
  | k + 1, x112000, x112001, x112002, x112003, x112004 => laws_right29.l2 k x112004 (x112004.length : Int) 0
def laws_right29.l2 : Nat → List (S25) → Int → Int → Option (Bool)
  | 0, _, _, _ => none
  | k + 1, x87, x88, x89 => if x89 < x88 then (if 0 ≤ x89 then (if x89 < (x87.length : Int) then ((laws_right29.f k ((rd_T25 x87 x89).f0) ((rd_T25 x87 x89).f1) ((rd_T25 x87 x89).f2) ((rd_T25 x87 x89).f3) ((rd_T25 x87 x89).f4) false).bind fun t123 => (if t123 = true then (laws_right29.l2 k x87 x88 (wrap64 (x89 + 1))) else (some false))) else (none)) else (none)) else (some true)
def laws_right29.j0 : Nat → Bool → Int → Bool → Int → ByteArray → ByteArray → List (S29) → List (S25) → Option (Bool)
  | 0, _, _, _, _, _, _, _, _ => none
  | k + 1, x1, x12, x13, x112000, x112001, x112002, x112003, x112004 => if x13 = true then (if (x112004.length : Int) = 0 then (if x112001.toList = ([] : List UInt8) then (some ((x112003.length : Int) == 0)) else (some false)) else (some false)) else (if x12 = 3 then (if x1 = true then (if x112001.toList = ([] : List UInt8) then (if x112002.toList = ([] : List UInt8) then (if (x112003.length : Int) > 0 then (some false) else (laws_right29.j4 k x112000 x112001 x112002 x112003 x112004)) else (some false)) else (some false)) else (some false)) else (if x12 = 0 then ((laws_name29.f k x112001).bind fun t112 => (if t112 = true then (laws_right29.j1 k (x112002.toList != ([] : List UInt8)) x112000 x112001 x112002 x112003 x112004) else (laws_right29.j1 k true x112000 x112001 x112002 x112003 x112004))) else (some false)))
def laws_right29.j1 : Nat → Bool → Int → ByteArray → ByteArray → List (S29) → List (S25) → Option (Bool)
  | 0, _, _, _, _, _, _ => none
  | k + 1, x61, x112000, x112001, x112002, x112003, x112004 => if x61 = true then (some false) else (laws_right29.l0 k x112003 (x112003.length : Int) 0 x112000 x112001 x112002 x112003 x112004)
def laws_right29.l0 : Nat → List (S29) → Int → Int → Int → ByteArray → ByteArray → List (S29) → List (S25) → Option (Bool)
  | 0, _, _, _, _, _, _, _, _ => none
  | k + 1, x63, x64, x65, x112000, x112001, x112002, x112003, x112004 => if x65 < x64 then (if 0 ≤ x65 then (if x65 < (x63.length : Int) then (if x65 ≤ (x112003.length : Int) then ((some (x112003.take (x65 : Int).toNat : List (S29))).bind fun y115 => (laws_right29.l1 k x63 x64 x65 y115 (y115.length : Int) 0 x112000 x112001 x112002 x112003 x112004 ((rd_T29 x63 x65).f0) ((rd_T29 x63 x65).f1))) else (none)) else (none)) else (none)) else (laws_right29.j4 k x112000 x112001 x112002 x112003 x112004)
def laws_right29.l1 : Nat → List (S29) → Int → Int → List (S29) → Int → Int → Int → ByteArray → ByteArray → List (S29) → List (S25) → ByteArray → ByteArray → Option (Bool)
  | 0, _, _, _, _, _, _, _, _, _, _, _, _, _ => none
  | k + 1, x63, x64, x65, x73, x74, x75, x112000, x112001, x112002, x112003, x112004, x115000, x115001 => if x75 < x74 then (if 0 ≤ x75 then (if x75 < (x73.length : Int) then (if x115000.toList = ((rd_T29 x73 x75).f0).toList then (some false) else (laws_right29.l1 k x63 x64 x65 x73 x74 (wrap64 (x75 + 1)) x112000 x112001 x112002 x112003 x112004 x115000 x115001)) else (none)) else (none)) else (laws_right29.l0 k x63 x64 (wrap64 (x65 + 1)) x112000 x112001 x112002 x112003 x112004)
def laws_right29.f : Nat → Int → ByteArray → ByteArray → List (S29) → List (S25) → Bool → Option (Bool)
  | 0, _, _, _, _, _, _ => none
  | k + 1, a0_0, a0_1, a0_2, l0_3, l0_4, a1 => if a0_0 = 1 then (laws_right29.j0 k a1 a0_0 (a0_0 == 1) a0_0 a0_1 a0_2 l0_3 l0_4) else (laws_right29.j0 k a1 a0_0 (a0_0 == 2) a0_0 a0_1 a0_2 l0_3 l0_4)
end
theorem laws_right29.mono_l : ∀ k, (∀ y0 y1 y2 y3 y4 y5, LeO (laws_right29.f k y0 y1 y2 y3 y4 y5) (laws_right29.f (k + 1) y0 y1 y2 y3 y4 y5)) ∧ (∀ y0 y1 y2 y3 y4, LeO (laws_right29.j4 k y0 y1 y2 y3 y4) (laws_right29.j4 (k + 1) y0 y1 y2 y3 y4)) ∧ (∀ y0 y1 y2, LeO (laws_right29.l2 k y0 y1 y2) (laws_right29.l2 (k + 1) y0 y1 y2)) ∧ (∀ y0 y1 y2 y3 y4 y5 y6 y7, LeO (laws_right29.j0 k y0 y1 y2 y3 y4 y5 y6 y7) (laws_right29.j0 (k + 1) y0 y1 y2 y3 y4 y5 y6 y7)) ∧ (∀ y0 y1 y2 y3 y4 y5, LeO (laws_right29.j1 k y0 y1 y2 y3 y4 y5) (laws_right29.j1 (k + 1) y0 y1 y2 y3 y4 y5)) ∧ (∀ y0 y1 y2 y3 y4 y5 y6 y7, LeO (laws_right29.l0 k y0 y1 y2 y3 y4 y5 y6 y7) (laws_right29.l0 (k + 1) y0 y1 y2 y3 y4 y5 y6 y7)) ∧ (∀ y0 y1 y2 y3 y4 y5 y6 y7 y8 y9 y10 y11 y12, LeO (laws_right29.l1 k y0 y1 y2 y3 y4 y5 y6 y7 y8 y9 y10 y11 y12) (laws_right29.l1 (k + 1) y0 y1 y2 y3 y4 y5 y6 y7 y8 y9 y10 y11 y12))
  | 0 => ⟨fun _ _ _ _ _ _ r h => by simp [laws_right29.f] at h, fun _ _ _ _ _ r h => by simp [laws_right29.j4] at h, fun _ _ _ r h => by simp [laws_right29.l2] at h, fun _ _ _ _ _ _ _ _ r h => by simp [laws_right29.j0] at h, fun _ _ _ _ _ _ r h => by simp [laws_right29.j1] at h, fun _ _ _ _ _ _ _ _ r h => by simp [laws_right29.l0] at h, fun _ _ _ _ _ _ _ _ _ _ _ _ _ r h => by simp [laws_right29.l1] at h⟩
  | k + 1 => by
    obtain ⟨ih0, ih1, ih2, ih3, ih4, ih5, ih6⟩ := laws_right29.mono_l k
    refine ⟨?_, ?_, ?_, ?_, ?_, ?_, ?_⟩
    · intro y0 y1 y2 y3 y4 y5
      unfold laws_right29.f
      repeat' first
      | (with_reducible exact ih0 _ _ _ _ _ _)
      | (with_reducible exact ih1 _ _ _ _ _)
      | (with_reducible exact ih2 _ _ _)
      | (with_reducible exact ih3 _ _ _ _ _ _ _ _)
      | (with_reducible exact ih4 _ _ _ _ _ _)
      | (with_reducible exact ih5 _ _ _ _ _ _ _ _)
      | (with_reducible exact ih6 _ _ _ _ _ _ _ _ _ _ _ _ _)
      | (with_reducible exact laws_name29.mono _ _)
      | (with_reducible exact LeO.refl _)
      | (with_reducible exact LeO.none _)
      | (with_reducible refine LeO.ite ?_ ?_)
      | (with_reducible refine LeO.bind ?_ (fun _ => ?_))
      | exact ih0 _ _ _ _ _ _
      | exact ih1 _ _ _ _ _
      | exact ih2 _ _ _
      | exact ih3 _ _ _ _ _ _ _ _
      | exact ih4 _ _ _ _ _ _
      | exact ih5 _ _ _ _ _ _ _ _
      | exact ih6 _ _ _ _ _ _ _ _ _ _ _ _ _
      | exact laws_name29.mono _ _
      | exact LeO.none _
      | refine LeO.ite ?_ ?_
      | refine LeO.bind ?_ (fun _ => ?_)
    · intro y0 y1 y2 y3 y4
      unfold laws_right29.j4
      repeat' first
      | (with_reducible exact ih0 _ _ _ _ _ _)
      | (with_reducible exact ih1 _ _ _ _ _)
      | (with_reducible exact ih2 _ _ _)
      | (with_reducible exact ih3 _ _ _ _ _ _ _ _)
      | (with_reducible exact ih4 _ _ _ _ _ _)
      | (with_reducible exact ih5 _ _ _ _ _ _ _ _)
      | (with_reducible exact ih6 _ _ _ _ _ _ _ _ _ _ _ _ _)
      | (with_reducible exact laws_name29.mono _ _)
      | (with_reducible exact LeO.refl _)
      | (with_reducible exact LeO.none _)
      | (with_reducible refine LeO.ite ?_ ?_)
      | (with_reducible refine LeO.bind ?_ (fun _ => ?_))
      | exact ih0 _ _ _ _ _ _
      | exact ih1 _ _ _ _ _
      | exact ih2 _ _ _
      | exact ih3 _ _ _ _ _ _ _ _
      | exact ih4 _ _ _ _ _ _
      | exact ih5 _ _ _ _ _ _ _ _
      | exact ih6 _ _ _ _ _ _ _ _ _ _ _ _ _
      | exact laws_name29.mono _ _
      | exact LeO.none _
      | refine LeO.ite ?_ ?_
      | refine LeO.bind ?_ (fun _ => ?_)
    · intro y0 y1 y2
      unfold laws_right29.l2
      repeat' first
      | (with_reducible exact ih0 _ _ _ _ _ _)
      | (with_reducible exact ih1 _ _ _ _ _)
      | (with_reducible exact ih2 _ _ _)
      | (with_reducible exact ih3 _ _ _ _ _ _ _ _)
      | (with_reducible exact ih4 _ _ _ _ _ _)
      | (with_reducible exact ih5 _ _ _ _ _ _ _ _)
      | (with_reducible exact ih6 _ _ _ _ _ _ _ _ _ _ _ _ _)
      | (with_reducible exact laws_name29.mono _ _)
      | (with_reducible exact LeO.refl _)
      | (with_reducible exact LeO.none _)
      | (with_reducible refine LeO.ite ?_ ?_)
      | (with_reducible refine LeO.bind ?_ (fun _ => ?_))
      | exact ih0 _ _ _ _ _ _
      | exact ih1 _ _ _ _ _
      | exact ih2 _ _ _
      | exact ih3 _ _ _ _ _ _ _ _
      | exact ih4 _ _ _ _ _ _
      | exact ih5 _ _ _ _ _ _ _ _
      | exact ih6 _ _ _ _ _ _ _ _ _ _ _ _ _
      | exact laws_name29.mono _ _
      | exact LeO.none _
      | refine LeO.ite ?_ ?_
      | refine LeO.bind ?_ (fun _ => ?_)
    · intro y0 y1 y2 y3 y4 y5 y6 y7
      unfold laws_right29.j0
      repeat' first
      | (with_reducible exact ih0 _ _ _ _ _ _)
      | (with_reducible exact ih1 _ _ _ _ _)
      | (with_reducible exact ih2 _ _ _)
      | (with_reducible exact ih3 _ _ _ _ _ _ _ _)
      | (with_reducible exact ih4 _ _ _ _ _ _)
      | (with_reducible exact ih5 _ _ _ _ _ _ _ _)
      | (with_reducible exact ih6 _ _ _ _ _ _ _ _ _ _ _ _ _)
      | (with_reducible exact laws_name29.mono _ _)
      | (with_reducible exact LeO.refl _)
      | (with_reducible exact LeO.none _)
      | (with_reducible refine LeO.ite ?_ ?_)
      | (with_reducible refine LeO.bind ?_ (fun _ => ?_))
      | exact ih0 _ _ _ _ _ _
      | exact ih1 _ _ _ _ _
      | exact ih2 _ _ _
      | exact ih3 _ _ _ _ _ _ _ _
      | exact ih4 _ _ _ _ _ _
      | exact ih5 _ _ _ _ _ _ _ _
      | exact ih6 _ _ _ _ _ _ _ _ _ _ _ _ _
      | exact laws_name29.mono _ _
      | exact LeO.none _
      | refine LeO.ite ?_ ?_
      | refine LeO.bind ?_ (fun _ => ?_)
    · intro y0 y1 y2 y3 y4 y5
      unfold laws_right29.j1
      repeat' first
      | (with_reducible exact ih0 _ _ _ _ _ _)
      | (with_reducible exact ih1 _ _ _ _ _)
      | (with_reducible exact ih2 _ _ _)
      | (with_reducible exact ih3 _ _ _ _ _ _ _ _)
      | (with_reducible exact ih4 _ _ _ _ _ _)
      | (with_reducible exact ih5 _ _ _ _ _ _ _ _)
      | (with_reducible exact ih6 _ _ _ _ _ _ _ _ _ _ _ _ _)
      | (with_reducible exact laws_name29.mono _ _)
      | (with_reducible exact LeO.refl _)
      | (with_reducible exact LeO.none _)
      | (with_reducible refine LeO.ite ?_ ?_)
      | (with_reducible refine LeO.bind ?_ (fun _ => ?_))
      | exact ih0 _ _ _ _ _ _
      | exact ih1 _ _ _ _ _
      | exact ih2 _ _ _
      | exact ih3 _ _ _ _ _ _ _ _
      | exact ih4 _ _ _ _ _ _
      | exact ih5 _ _ _ _ _ _ _ _
      | exact ih6 _ _ _ _ _ _ _ _ _ _ _ _ _
      | exact laws_name29.mono _ _
      | exact LeO.none _
      | refine LeO.ite ?_ ?_
      | refine LeO.bind ?_ (fun _ => ?_)
    · intro y0 y1 y2 y3 y4 y5 y6 y7
      unfold laws_right29.l0
      repeat' first
      | (with_reducible exact ih0 _ _ _ _ _ _)
      | (with_reducible exact ih1 _ _ _ _ _)
      | (with_reducible exact ih2 _ _ _)
      | (with_reducible exact ih3 _ _ _ _ _ _ _ _)
      | (with_reducible exact ih4 _ _ _ _ _ _)
      | (with_reducible exact ih5 _ _ _ _ _ _ _ _)
      | (with_reducible exact ih6 _ _ _ _ _ _ _ _ _ _ _ _ _)
      | (with_reducible exact laws_name29.mono _ _)
      | (with_reducible exact LeO.refl _)
      | (with_reducible exact LeO.none _)
      | (with_reducible refine LeO.ite ?_ ?_)
      | (with_reducible refine LeO.bind ?_ (fun _ => ?_))
      | exact ih0 _ _ _ _ _ _
      | exact ih1 _ _ _ _ _
      | exact ih2 _ _ _
      | exact ih3 _ _ _ _ _ _ _ _
      | exact ih4 _ _ _ _ _ _
      | exact ih5 _ _ _ _ _ _ _ _
      | exact ih6 _ _ _ _ _ _ _ _ _ _ _ _ _
      | exact laws_name29.mono _ _
      | exact LeO.none _
      | refine LeO.ite ?_ ?_
      | refine LeO.bind ?_ (fun _ => ?_)
    · intro y0 y1 y2 y3 y4 y5 y6 y7 y8 y9 y10 y11 y12
      unfold laws_right29.l1
      repeat' first
      | (with_reducible exact ih0 _ _ _ _ _ _)
      | (with_reducible exact ih1 _ _ _ _ _)
      | (with_reducible exact ih2 _ _ _)
      | (with_reducible exact ih3 _ _ _ _ _ _ _ _)
      | (with_reducible exact ih4 _ _ _ _ _ _)
      | (with_reducible exact ih5 _ _ _ _ _ _ _ _)
      | (with_reducible exact ih6 _ _ _ _ _ _ _ _ _ _ _ _ _)
      | (with_reducible exact laws_name29.mono _ _)
      | (with_reducible exact LeO.refl _)
      | (with_reducible exact LeO.none _)
      | (with_reducible refine LeO.ite ?_ ?_)
      | (with_reducible refine LeO.bind ?_ (fun _ => ?_))
      | exact ih0 _ _ _ _ _ _
      | exact ih1 _ _ _ _ _
      | exact ih2 _ _ _
      | exact ih3 _ _ _ _ _ _ _ _
      | exact ih4 _ _ _ _ _ _
      | exact ih5 _ _ _ _ _ _ _ _
      | exact ih6 _ _ _ _ _ _ _ _ _ _ _ _ _
      | exact laws_name29.mono _ _
      | exact LeO.none _
      | refine LeO.ite ?_ ?_
      | refine LeO.bind ?_ (fun _ => ?_)
theorem laws_right29.mono : ∀ a0 a1 a2 a3 a4 a5 k, LeO (laws_right29.f k a0 a1 a2 a3 a4 a5) (laws_right29.f (k + 1) a0 a1 a2 a3 a4 a5) := by
  intro a0 a1 a2 a3 a4 a5 k
  obtain ⟨ih0, ih1, ih2, ih3, ih4, ih5, ih6⟩ := laws_right29.mono_l k
  exact ih0 a0 a1 a2 a3 a4 a5
set_option maxHeartbeats 8000000 in
set_option maxRecDepth 100000 in
theorem laws_right29.calls (k : Nat) : ∀ (a0_0 : Int) (a0_1 : ByteArray) (a0_2 : ByteArray) (A0_3 : Option Addr) (c0_3 : Nat) (l0_3 : List (S29)) (A0_4 : Option Addr) (c0_4 : Nat) (l0_4 : List (S25)) (a1 : Bool) (r : Bool) (w : World) (hr0_3 : Kd.C k29 w A0_3 l0_3.length l0_3) (hc0_3 : l0_3.length ≤ c0_3) (hr0_4 : Kd.C k25 w A0_4 l0_4.length l0_4) (hc0_4 : l0_4.length ≤ c0_4) (h : laws_right29.f k a0_0 a0_1 a0_2 l0_3 l0_4 a1 = some r),
    Calls Tryd.prog 29 #[.agg #[.int .i64 a0_0, .string a0_1, .string a0_2, .slice A0_3 l0_3.length c0_3, .slice A0_4 l0_4.length c0_4], .bool a1] w fun e w' => e = .returned (.bool r) ∧ Below w.heap.size w w' := by
  induction k using Nat.strongRecOn with
  | _ k ih =>
  intro a0_0 a0_1 a0_2 A0_3 c0_3 l0_3 A0_4 c0_4 l0_4 a1 r w hr0_3 hc0_3 hr0_4 hc0_4 h
  cases k with
  | zero => exact absurd h (by simp [laws_right29.f])
  | succ k =>
  simp only [laws_right29.f] at h
  have hu25 := Tryd.underlying25
  have hu29 := Tryd.underlying29
  have HR0_3 := Aside0.mk hr0_3
  have HC0_3 := Aside0.mk hc0_3
  clear hr0_3 hc0_3
  have HR0_4 := Aside0.mk hr0_4
  have HC0_4 := Aside0.mk hc0_4
  clear hr0_4 hc0_4
  have HB := Aside0.mk (Below.refl w.heap.size w)
  have H : (if a0_0 = 1 then (laws_right29.j0 k a1 a0_0 (a0_0 == 1) a0_0 a0_1 a0_2 l0_3 l0_4) else (laws_right29.j0 k a1 a0_0 (a0_0 == 2) a0_0 a0_1 a0_2 l0_3 l0_4)) = some r := h
  clear h
  have HC3 := Aside0.mk H
  clear H
  go_enter Tryd.func29, Tryd.ntmps29
  go_upto_block 0 with (first | ((with_reducible refine gate_dst (N := 2) rfl ?_); (try (refine gate_guard (by rfl) ?_; dsimp only)); refine box_event ?hg (N := 2) ?hd (cs := #[.int .i64 a0_0, .string a0_1, .string a0_2, .slice A0_3 l0_3.length c0_3, .slice A0_4 l0_4.length c0_4]) (t := 25) ?hr ?_; (case hd => rfl); (case hg => rfl); (case hr => first | (go_simp; done) | (go_simp; rfl)); intro gb111 hg w4 hbox hb; have n0_ := Aside0.mk (below_step (by repeat (first | (with_reducible first | exact HB.out | apply below_alloc | apply pw_below_drewN | apply below_drew1) | exact HB.out)) hb); have n1_ := Aside0.mk (hbox); have n2_ := Aside0.mk ((by rw [hg]; exact (below_size (by repeat (first | (with_reducible first | exact HB.out | apply below_alloc | apply pw_below_drewN | apply below_drew1) | exact HB.out))) : w.heap.size ≤ gb111)); have n3_ := Aside0.mk ((by rw [hg]; exact (below_size (by repeat (first | (with_reducible first | exact HB.out | apply below_alloc | apply pw_below_drewN | apply below_drew1) | exact HB.out))) : w.heap.size ≤ gb111)); clear HB; have HB := n0_; have BK111 := n1_; have GW111 := n2_; have GE111 := n3_; clear n0_ n1_ n2_ n3_; clear hb hbox hg; have hcz5_0 : w4.cell? ⟨gb111, 0, none⟩ = some (.int .i64 a0_0) := (blk_cell BK111.out 0).trans rfl; have hcz5_1 : w4.cell? ⟨gb111, 1, none⟩ = some (.string a0_1) := (blk_cell BK111.out 1).trans rfl; have hcz5_2 : w4.cell? ⟨gb111, 2, none⟩ = some (.string a0_2) := (blk_cell BK111.out 2).trans rfl; have hcz5_3 : w4.cell? ⟨gb111, 3, none⟩ = some (.slice A0_3 l0_3.length c0_3) := (blk_cell BK111.out 3).trans rfl; have hcz5_4 : w4.cell? ⟨gb111, 4, none⟩ = some (.slice A0_4 l0_4.length c0_4) := (blk_cell BK111.out 4).trans rfl; have hfz5_0 := blk_frozen BK111.out 0; have hfz5_1 := blk_frozen BK111.out 1; have hfz5_2 := blk_frozen BK111.out 2; have hfz5_3 := blk_frozen BK111.out 3; have hfz5_4 := blk_frozen BK111.out 4))
  (try simp only [Act.put, List.setIfInBounds_toArray, List.set_cons_zero, List.set_cons_succ])
  go_cut [] (fun wc => ∃ (kq : Nat), Aside0 (laws_right29.j4 kq a0_0 a0_1 a0_2 l0_3 l0_4 = some r) ∧ Aside0 (kq ≤ k) ∧ Aside0 (wc.heap[gb111]? = some (.cells #[.int .i64 a0_0, .string a0_1, .string a0_2, (.slice A0_3 l0_3.length c0_3), (.slice A0_4 l0_4.length c0_4)] 25 (0, 0))) ∧ Aside0 (Below w.heap.size w wc))
  case first =>
    have H := HC3.out
    clear HC3
    have HC6 := Aside0.mk H
    clear H
    go_upto_if 13 with (fail)
    go_cut [13] (fun v13 wc => ∃ (kq : Nat) (x13_5 : Bool), v13 = .bool x13_5 ∧ Aside0 (laws_right29.j0 kq a1 a0_0 x13_5 a0_0 a0_1 a0_2 l0_3 l0_4 = some r) ∧ Aside0 (kq ≤ k) ∧ Aside0 (wc.heap[gb111]? = some (.cells #[.int .i64 a0_0, .string a0_1, .string a0_2, (.slice A0_3 l0_3.length c0_3), (.slice A0_4 l0_4.length c0_4)] 25 (0, 0))) ∧ Aside0 (Below w.heap.size w wc))
    case first =>
      have H := HC6.out
      clear HC6
      by_cases c7 : a0_0 = 1
      · rw [if_pos c7] at H
        have c7b0 : (a0_0 == 1) = true := beq_iff_eq.mpr c7
        have c7b1 : (a0_0 != 1) = false := bne_eq_false_iff_eq.mpr c7
        clear c7
        (first | rw [c7b0] | (simp only [i64_w, i32_w]; rw [c7b0]) | skip)
        have H' := Aside0.mk H
        clear H
        go_wp2
        go_meet
        case rel => exact ⟨_, ((a0_0 == 1)), (by first | rfl | (simp; done) | (simp [*]; done)), H', ⟨by first | omega | exact Nat.le_refl _⟩, ⟨by (with_reducible repeat (first | refine blk_drewN ?_ _ | refine blk_drew ?_ | refine blk_alloc ?_ _)); exact BK111.out⟩, ⟨by repeat (first | (with_reducible first | exact HB.out | apply below_alloc | apply pw_below_drewN | apply below_drew1 | refine below_set ?_ GE111.out) | exact HB.out)⟩⟩
      · rw [if_neg c7] at H
        have c7b0 : (a0_0 == 1) = false := beq_eq_false_iff_ne.mpr c7
        have c7b1 : (a0_0 != 1) = true := bne_iff_ne.mpr c7
        (first | rw [c7b0] | (simp only [i64_w, i32_w]; rw [c7b0]) | skip)
        have H' := Aside0.mk H
        clear H
        go_wp2
        go_meet
        case rel => exact ⟨_, ((a0_0 == 2)), (by first | rfl | (simp; done) | (simp [*]; done)), H', ⟨by first | omega | exact Nat.le_refl _⟩, ⟨by (with_reducible repeat (first | refine blk_drewN ?_ _ | refine blk_drew ?_ | refine blk_alloc ?_ _)); exact BK111.out⟩, ⟨by repeat (first | (with_reducible first | exact HB.out | apply below_alloc | apply pw_below_drewN | apply below_drew1 | refine below_set ?_ GE111.out) | exact HB.out)⟩⟩
    case rest =>
      clear HC6
      try clear c2
      try clear p2
      try clear c7
      try clear c7b0
      try clear c7b1
      try clear hcz5_0
      try clear hcz5_1
      try clear hcz5_2
      try clear hcz5_3
      try clear hcz5_4
      try clear hfz5_0
      try clear hfz5_1
      try clear hfz5_2
      try clear hfz5_3
      try clear hfz5_4
      obtain ⟨kq, x13_5, rfl, HA, HJ5, BK111, HB⟩ := hcut
      cases kq with
      | zero => exact absurd HA.out (by simp [laws_right29.j0])
      | succ kj5 =>
        have H := HA.out
        clear HA
        simp only [laws_right29.j0] at H
        by_cases c8 : x13_5 = true
        · subst c8
          have H1 : (if (l0_4.length : Int) = 0 then (if a0_1.toList = ([] : List UInt8) then (some ((l0_3.length : Int) == 0)) else (some false)) else (some false)) = some r := by rw [if_pos rfl] at H; exact H
          clear H
          have H := H1
          clear H1
          by_cases c9 : (l0_4.length : Int) = 0
          · rw [if_pos c9] at H
            have c9b0 : ((l0_4.length : Int) == 0) = true := beq_iff_eq.mpr c9
            have c9b1 : ((l0_4.length : Int) != 0) = false := bne_eq_false_iff_eq.mpr c9
            clear c9
            by_cases c10 : a0_1.toList = ([] : List UInt8)
            · rw [if_pos c10] at H
              have c10b0 : (a0_1.toList == ([] : List UInt8)) = true := beq_iff_eq.mpr c10
              have c10b1 : (a0_1.toList != ([] : List UInt8)) = false := bne_eq_false_iff_eq.mpr c10
              clear c10
              obtain rfl := Option.some.inj H
              have hcz11_0 : wc.cell? ⟨gb111, 0, none⟩ = some (.int .i64 a0_0) := (blk_cell BK111.out 0).trans rfl
              have hcz11_1 : wc.cell? ⟨gb111, 1, none⟩ = some (.string a0_1) := (blk_cell BK111.out 1).trans rfl
              have hcz11_2 : wc.cell? ⟨gb111, 2, none⟩ = some (.string a0_2) := (blk_cell BK111.out 2).trans rfl
              have hcz11_3 : wc.cell? ⟨gb111, 3, none⟩ = some (.slice A0_3 l0_3.length c0_3) := (blk_cell BK111.out 3).trans rfl
              have hcz11_4 : wc.cell? ⟨gb111, 4, none⟩ = some (.slice A0_4 l0_4.length c0_4) := (blk_cell BK111.out 4).trans rfl
              have hfz11_0 := blk_frozen BK111.out 0
              have hfz11_1 := blk_frozen BK111.out 1
              have hfz11_2 := blk_frozen BK111.out 2
              have hfz11_3 := blk_frozen BK111.out 3
              have hfz11_4 := blk_frozen BK111.out 4
              go_wp2
              go_ret
              exact ⟨by first | rfl | (simp [errW_none, errW_some] <;> rfl) | (simp [*, errW_none, errW_some] <;> rfl), by repeat (first | (with_reducible first | exact HB.out | apply below_alloc | apply pw_below_drewN | apply below_drew1 | refine below_set ?_ GE111.out) | exact HB.out)⟩
            · rw [if_neg c10] at H
              have c10b0 : (a0_1.toList == ([] : List UInt8)) = false := beq_eq_false_iff_ne.mpr c10
              have c10b1 : (a0_1.toList != ([] : List UInt8)) = true := bne_iff_ne.mpr c10
              obtain rfl := Option.some.inj H
              have hcz12_0 : wc.cell? ⟨gb111, 0, none⟩ = some (.int .i64 a0_0) := (blk_cell BK111.out 0).trans rfl
              have hcz12_1 : wc.cell? ⟨gb111, 1, none⟩ = some (.string a0_1) := (blk_cell BK111.out 1).trans rfl
              have hcz12_2 : wc.cell? ⟨gb111, 2, none⟩ = some (.string a0_2) := (blk_cell BK111.out 2).trans rfl
              have hcz12_3 : wc.cell? ⟨gb111, 3, none⟩ = some (.slice A0_3 l0_3.length c0_3) := (blk_cell BK111.out 3).trans rfl
              have hcz12_4 : wc.cell? ⟨gb111, 4, none⟩ = some (.slice A0_4 l0_4.length c0_4) := (blk_cell BK111.out 4).trans rfl
              have hfz12_0 := blk_frozen BK111.out 0
              have hfz12_1 := blk_frozen BK111.out 1
              have hfz12_2 := blk_frozen BK111.out 2
              have hfz12_3 := blk_frozen BK111.out 3
              have hfz12_4 := blk_frozen BK111.out 4
              go_wp2
              go_ret
              exact ⟨by first | rfl | (simp [errW_none, errW_some] <;> rfl) | (simp [*, errW_none, errW_some] <;> rfl), by repeat (first | (with_reducible first | exact HB.out | apply below_alloc | apply pw_below_drewN | apply below_drew1 | refine below_set ?_ GE111.out) | exact HB.out)⟩
          · rw [if_neg c9] at H
            have c9b0 : ((l0_4.length : Int) == 0) = false := beq_eq_false_iff_ne.mpr c9
            have c9b1 : ((l0_4.length : Int) != 0) = true := bne_iff_ne.mpr c9
            have c9b2 : ¬ (l0_4 = []) := fun h_ => c9 (by rw [h_]; rfl)
            obtain rfl := Option.some.inj H
            have hcz13_0 : wc.cell? ⟨gb111, 0, none⟩ = some (.int .i64 a0_0) := (blk_cell BK111.out 0).trans rfl
            have hcz13_1 : wc.cell? ⟨gb111, 1, none⟩ = some (.string a0_1) := (blk_cell BK111.out 1).trans rfl
            have hcz13_2 : wc.cell? ⟨gb111, 2, none⟩ = some (.string a0_2) := (blk_cell BK111.out 2).trans rfl
            have hcz13_3 : wc.cell? ⟨gb111, 3, none⟩ = some (.slice A0_3 l0_3.length c0_3) := (blk_cell BK111.out 3).trans rfl
            have hcz13_4 : wc.cell? ⟨gb111, 4, none⟩ = some (.slice A0_4 l0_4.length c0_4) := (blk_cell BK111.out 4).trans rfl
            have hfz13_0 := blk_frozen BK111.out 0
            have hfz13_1 := blk_frozen BK111.out 1
            have hfz13_2 := blk_frozen BK111.out 2
            have hfz13_3 := blk_frozen BK111.out 3
            have hfz13_4 := blk_frozen BK111.out 4
            go_wp2
            go_ret
            exact ⟨by first | rfl | (simp [errW_none, errW_some] <;> rfl) | (simp [*, errW_none, errW_some] <;> rfl), by repeat (first | (with_reducible first | exact HB.out | apply below_alloc | apply pw_below_drewN | apply below_drew1 | refine below_set ?_ GE111.out) | exact HB.out)⟩
        · replace c8 := Bool.eq_false_iff.mpr c8
          subst c8
          have H1 : (if a0_0 = 3 then (if a1 = true then (if a0_1.toList = ([] : List UInt8) then (if a0_2.toList = ([] : List UInt8) then (if (l0_3.length : Int) > 0 then (some false) else (laws_right29.j4 kj5 a0_0 a0_1 a0_2 l0_3 l0_4)) else (some false)) else (some false)) else (some false)) else (if a0_0 = 0 then ((laws_name29.f kj5 a0_1).bind fun t112 => (if t112 = true then (laws_right29.j1 kj5 (a0_2.toList != ([] : List UInt8)) a0_0 a0_1 a0_2 l0_3 l0_4) else (laws_right29.j1 kj5 true a0_0 a0_1 a0_2 l0_3 l0_4))) else (some false))) = some r := by rw [if_neg (show ¬ (false = true) by decide)] at H; exact H
          clear H
          have H := H1
          clear H1
          by_cases c14 : a0_0 = 3
          · rw [if_pos c14] at H
            have c14b0 : (a0_0 == 3) = true := beq_iff_eq.mpr c14
            have c14b1 : (a0_0 != 3) = false := bne_eq_false_iff_eq.mpr c14
            clear c14
            by_cases c15 : a1 = true
            · subst c15
              have H1 : (if a0_1.toList = ([] : List UInt8) then (if a0_2.toList = ([] : List UInt8) then (if (l0_3.length : Int) > 0 then (some false) else (laws_right29.j4 kj5 a0_0 a0_1 a0_2 l0_3 l0_4)) else (some false)) else (some false)) = some r := by rw [if_pos rfl] at H; exact H
              clear H
              have H := H1
              clear H1
              by_cases c16 : a0_1.toList = ([] : List UInt8)
              · rw [if_pos c16] at H
                have c16b0 : (a0_1.toList == ([] : List UInt8)) = true := beq_iff_eq.mpr c16
                have c16b1 : (a0_1.toList != ([] : List UInt8)) = false := bne_eq_false_iff_eq.mpr c16
                clear c16
                by_cases c17 : a0_2.toList = ([] : List UInt8)
                · rw [if_pos c17] at H
                  have c17b0 : (a0_2.toList == ([] : List UInt8)) = true := beq_iff_eq.mpr c17
                  have c17b1 : (a0_2.toList != ([] : List UInt8)) = false := bne_eq_false_iff_eq.mpr c17
                  clear c17
                  by_cases c18 : (l0_3.length : Int) > 0
                  · rw [if_pos c18] at H
                    have c18b0 : decide (0 < (l0_3.length : Int)) = true := decide_eq_true c18
                    have c18b1 : decide (0 < l0_3.length) = true := decide_eq_true (by omega)
                    clear c18
                    obtain rfl := Option.some.inj H
                    have hcz19_0 : wc.cell? ⟨gb111, 0, none⟩ = some (.int .i64 a0_0) := (blk_cell BK111.out 0).trans rfl
                    have hcz19_1 : wc.cell? ⟨gb111, 1, none⟩ = some (.string a0_1) := (blk_cell BK111.out 1).trans rfl
                    have hcz19_2 : wc.cell? ⟨gb111, 2, none⟩ = some (.string a0_2) := (blk_cell BK111.out 2).trans rfl
                    have hcz19_3 : wc.cell? ⟨gb111, 3, none⟩ = some (.slice A0_3 l0_3.length c0_3) := (blk_cell BK111.out 3).trans rfl
                    have hcz19_4 : wc.cell? ⟨gb111, 4, none⟩ = some (.slice A0_4 l0_4.length c0_4) := (blk_cell BK111.out 4).trans rfl
                    have hfz19_0 := blk_frozen BK111.out 0
                    have hfz19_1 := blk_frozen BK111.out 1
                    have hfz19_2 := blk_frozen BK111.out 2
                    have hfz19_3 := blk_frozen BK111.out 3
                    have hfz19_4 := blk_frozen BK111.out 4
                    go_wp2
                    go_ret
                    exact ⟨by first | rfl | (simp [errW_none, errW_some] <;> rfl) | (simp [*, errW_none, errW_some] <;> rfl), by repeat (first | (with_reducible first | exact HB.out | apply below_alloc | apply pw_below_drewN | apply below_drew1 | refine below_set ?_ GE111.out) | exact HB.out)⟩
                  · rw [if_neg c18] at H
                    have c18b0 : decide (0 < (l0_3.length : Int)) = false := decide_eq_false c18
                    have c18b1 : decide (0 < l0_3.length) = false := decide_eq_false (by omega)
                    clear c18
                    have H' := Aside0.mk H
                    clear H
                    have hcz20_0 : wc.cell? ⟨gb111, 0, none⟩ = some (.int .i64 a0_0) := (blk_cell BK111.out 0).trans rfl
                    have hcz20_1 : wc.cell? ⟨gb111, 1, none⟩ = some (.string a0_1) := (blk_cell BK111.out 1).trans rfl
                    have hcz20_2 : wc.cell? ⟨gb111, 2, none⟩ = some (.string a0_2) := (blk_cell BK111.out 2).trans rfl
                    have hcz20_3 : wc.cell? ⟨gb111, 3, none⟩ = some (.slice A0_3 l0_3.length c0_3) := (blk_cell BK111.out 3).trans rfl
                    have hcz20_4 : wc.cell? ⟨gb111, 4, none⟩ = some (.slice A0_4 l0_4.length c0_4) := (blk_cell BK111.out 4).trans rfl
                    have hfz20_0 := blk_frozen BK111.out 0
                    have hfz20_1 := blk_frozen BK111.out 1
                    have hfz20_2 := blk_frozen BK111.out 2
                    have hfz20_3 := blk_frozen BK111.out 3
                    have hfz20_4 := blk_frozen BK111.out 4
                    go_wp2
                    go_meet
                    case rel => exact ⟨_, H', ⟨by have := HJ5.out; first | omega | exact Nat.le_refl _⟩, ⟨by (with_reducible repeat (first | refine blk_drewN ?_ _ | refine blk_drew ?_ | refine blk_alloc ?_ _)); exact BK111.out⟩, ⟨by repeat (first | (with_reducible first | exact HB.out | apply below_alloc | apply pw_below_drewN | apply below_drew1 | refine below_set ?_ GE111.out) | exact HB.out)⟩⟩
                · rw [if_neg c17] at H
                  have c17b0 : (a0_2.toList == ([] : List UInt8)) = false := beq_eq_false_iff_ne.mpr c17
                  have c17b1 : (a0_2.toList != ([] : List UInt8)) = true := bne_iff_ne.mpr c17
                  obtain rfl := Option.some.inj H
                  have hcz21_0 : wc.cell? ⟨gb111, 0, none⟩ = some (.int .i64 a0_0) := (blk_cell BK111.out 0).trans rfl
                  have hcz21_1 : wc.cell? ⟨gb111, 1, none⟩ = some (.string a0_1) := (blk_cell BK111.out 1).trans rfl
                  have hcz21_2 : wc.cell? ⟨gb111, 2, none⟩ = some (.string a0_2) := (blk_cell BK111.out 2).trans rfl
                  have hcz21_3 : wc.cell? ⟨gb111, 3, none⟩ = some (.slice A0_3 l0_3.length c0_3) := (blk_cell BK111.out 3).trans rfl
                  have hcz21_4 : wc.cell? ⟨gb111, 4, none⟩ = some (.slice A0_4 l0_4.length c0_4) := (blk_cell BK111.out 4).trans rfl
                  have hfz21_0 := blk_frozen BK111.out 0
                  have hfz21_1 := blk_frozen BK111.out 1
                  have hfz21_2 := blk_frozen BK111.out 2
                  have hfz21_3 := blk_frozen BK111.out 3
                  have hfz21_4 := blk_frozen BK111.out 4
                  go_wp2
                  go_ret
                  exact ⟨by first | rfl | (simp [errW_none, errW_some] <;> rfl) | (simp [*, errW_none, errW_some] <;> rfl), by repeat (first | (with_reducible first | exact HB.out | apply below_alloc | apply pw_below_drewN | apply below_drew1 | refine below_set ?_ GE111.out) | exact HB.out)⟩
              · rw [if_neg c16] at H
                have c16b0 : (a0_1.toList == ([] : List UInt8)) = false := beq_eq_false_iff_ne.mpr c16
                have c16b1 : (a0_1.toList != ([] : List UInt8)) = true := bne_iff_ne.mpr c16
                obtain rfl := Option.some.inj H
                have hcz22_0 : wc.cell? ⟨gb111, 0, none⟩ = some (.int .i64 a0_0) := (blk_cell BK111.out 0).trans rfl
                have hcz22_1 : wc.cell? ⟨gb111, 1, none⟩ = some (.string a0_1) := (blk_cell BK111.out 1).trans rfl
                have hcz22_2 : wc.cell? ⟨gb111, 2, none⟩ = some (.string a0_2) := (blk_cell BK111.out 2).trans rfl
                have hcz22_3 : wc.cell? ⟨gb111, 3, none⟩ = some (.slice A0_3 l0_3.length c0_3) := (blk_cell BK111.out 3).trans rfl
                have hcz22_4 : wc.cell? ⟨gb111, 4, none⟩ = some (.slice A0_4 l0_4.length c0_4) := (blk_cell BK111.out 4).trans rfl
                have hfz22_0 := blk_frozen BK111.out 0
                have hfz22_1 := blk_frozen BK111.out 1
                have hfz22_2 := blk_frozen BK111.out 2
                have hfz22_3 := blk_frozen BK111.out 3
                have hfz22_4 := blk_frozen BK111.out 4
                go_wp2
                go_ret
                exact ⟨by first | rfl | (simp [errW_none, errW_some] <;> rfl) | (simp [*, errW_none, errW_some] <;> rfl), by repeat (first | (with_reducible first | exact HB.out | apply below_alloc | apply pw_below_drewN | apply below_drew1 | refine below_set ?_ GE111.out) | exact HB.out)⟩
            · replace c15 := Bool.eq_false_iff.mpr c15
              subst c15
              have H1 : (some false) = some r := by rw [if_neg (show ¬ (false = true) by decide)] at H; exact H
              clear H
              have H := H1
              clear H1
              obtain rfl := Option.some.inj H
              go_wp2
              go_ret
              exact ⟨by first | rfl | (simp [errW_none, errW_some] <;> rfl) | (simp [*, errW_none, errW_some] <;> rfl), by repeat (first | (with_reducible first | exact HB.out | apply below_alloc | apply pw_below_drewN | apply below_drew1 | refine below_set ?_ GE111.out) | exact HB.out)⟩
          · rw [if_neg c14] at H
            have c14b0 : (a0_0 == 3) = false := beq_eq_false_iff_ne.mpr c14
            have c14b1 : (a0_0 != 3) = true := bne_iff_ne.mpr c14
            by_cases c23 : a0_0 = 0
            · rw [if_pos c23] at H
              have c23b0 : (a0_0 == 0) = true := beq_iff_eq.mpr c23
              have c23b1 : (a0_0 != 0) = false := bne_eq_false_iff_eq.mpr c23
              clear c23
              have HC24 := Aside0.mk H
              clear H
              go_upto_region 10 with (fail)
              go_cut [61] (fun v61 wc => ∃ (kq : Nat) (x61_23 : Bool), v61 = .bool x61_23 ∧ Aside0 (laws_right29.j1 kq x61_23 a0_0 a0_1 a0_2 l0_3 l0_4 = some r) ∧ Aside0 (kq ≤ kj5) ∧ Aside0 (wc.heap[gb111]? = some (.cells #[.int .i64 a0_0, .string a0_1, .string a0_2, (.slice A0_3 l0_3.length c0_3), (.slice A0_4 l0_4.length c0_4)] 25 (0, 0))) ∧ Aside0 (Below w.heap.size w wc))
              case first =>
                have H := HC24.out
                clear HC24
                replace H := Option.bind_eq_some_iff.mp H
                obtain ⟨t112, A250, H⟩ := H
                replace H : (if t112 = true then (laws_right29.j1 kj5 (a0_2.toList != ([] : List UInt8)) a0_0 a0_1 a0_2 l0_3 l0_4) else (laws_right29.j1 kj5 true a0_0 a0_1 a0_2 l0_3 l0_4)) = some r := H
                have A25 := Aside0.mk A250
                clear A250
                by_cases c26 : t112 = true
                · subst c26
                  have H1 : (laws_right29.j1 kj5 (a0_2.toList != ([] : List UInt8)) a0_0 a0_1 a0_2 l0_3 l0_4) = some r := by rw [if_pos rfl] at H; exact H
                  clear H
                  have H := H1
                  clear H1
                  have H' := Aside0.mk H
                  clear H
                  have hcz27_0 : wc.cell? ⟨gb111, 0, none⟩ = some (.int .i64 a0_0) := (blk_cell BK111.out 0).trans rfl
                  have hcz27_1 : wc.cell? ⟨gb111, 1, none⟩ = some (.string a0_1) := (blk_cell BK111.out 1).trans rfl
                  have hcz27_2 : wc.cell? ⟨gb111, 2, none⟩ = some (.string a0_2) := (blk_cell BK111.out 2).trans rfl
                  have hcz27_3 : wc.cell? ⟨gb111, 3, none⟩ = some (.slice A0_3 l0_3.length c0_3) := (blk_cell BK111.out 3).trans rfl
                  have hcz27_4 : wc.cell? ⟨gb111, 4, none⟩ = some (.slice A0_4 l0_4.length c0_4) := (blk_cell BK111.out 4).trans rfl
                  have hfz27_0 := blk_frozen BK111.out 0
                  have hfz27_1 := blk_frozen BK111.out 1
                  have hfz27_2 := blk_frozen BK111.out 2
                  have hfz27_3 := blk_frozen BK111.out 3
                  have hfz27_4 := blk_frozen BK111.out 4
                  go_wp2_with (first | ((with_reducible refine gate_callee (f := 53) rfl ?_); refine goesL_ (some 55) rfl rfl Tryd.func53 (by kernel_rfl) rfl #[.string a0_1] rfl (by (try simp only [List.map_toArray, List.map_cons, List.map_nil]); first | done | rfl | (simp only [List.length_drop, List.length_take]; rfl)) ?_; (with_reducible refine (laws_name29.calls kj5 a0_1 true _ A25.out).mono ?_); rintro e w' ⟨rfl, ⟨nd, rfl⟩⟩; refine ⟨_, rfl, ?_⟩))
                  go_meet
                  case rel => exact ⟨_, ((a0_2.toList != ([] : List UInt8))), (by first | rfl | (simp; done) | (simp [*]; done) | (simp; cases a0_2.toList <;> rfl)), H', ⟨by have := HJ5.out; first | omega | exact Nat.le_refl _⟩, ⟨by (with_reducible repeat (first | refine blk_drewN ?_ _ | refine blk_drew ?_ | refine blk_alloc ?_ _)); exact BK111.out⟩, ⟨by repeat (first | (with_reducible first | exact HB.out | apply below_alloc | apply pw_below_drewN | apply below_drew1 | refine below_set ?_ GE111.out) | exact HB.out)⟩⟩
                · replace c26 := Bool.eq_false_iff.mpr c26
                  subst c26
                  have H1 : (laws_right29.j1 kj5 true a0_0 a0_1 a0_2 l0_3 l0_4) = some r := by rw [if_neg (show ¬ (false = true) by decide)] at H; exact H
                  clear H
                  have H := H1
                  clear H1
                  have H' := Aside0.mk H
                  clear H
                  have hcz28_0 : wc.cell? ⟨gb111, 0, none⟩ = some (.int .i64 a0_0) := (blk_cell BK111.out 0).trans rfl
                  have hcz28_1 : wc.cell? ⟨gb111, 1, none⟩ = some (.string a0_1) := (blk_cell BK111.out 1).trans rfl
                  have hcz28_2 : wc.cell? ⟨gb111, 2, none⟩ = some (.string a0_2) := (blk_cell BK111.out 2).trans rfl
                  have hcz28_3 : wc.cell? ⟨gb111, 3, none⟩ = some (.slice A0_3 l0_3.length c0_3) := (blk_cell BK111.out 3).trans rfl
                  have hcz28_4 : wc.cell? ⟨gb111, 4, none⟩ = some (.slice A0_4 l0_4.length c0_4) := (blk_cell BK111.out 4).trans rfl
                  have hfz28_0 := blk_frozen BK111.out 0
                  have hfz28_1 := blk_frozen BK111.out 1
                  have hfz28_2 := blk_frozen BK111.out 2
                  have hfz28_3 := blk_frozen BK111.out 3
                  have hfz28_4 := blk_frozen BK111.out 4
                  go_wp2_with (first | ((with_reducible refine gate_callee (f := 53) rfl ?_); refine goesL_ (some 55) rfl rfl Tryd.func53 (by kernel_rfl) rfl #[.string a0_1] rfl (by (try simp only [List.map_toArray, List.map_cons, List.map_nil]); first | done | rfl | (simp only [List.length_drop, List.length_take]; rfl)) ?_; (with_reducible refine (laws_name29.calls kj5 a0_1 false _ A25.out).mono ?_); rintro e w' ⟨rfl, ⟨nd, rfl⟩⟩; refine ⟨_, rfl, ?_⟩))
                  go_meet
                  case rel => exact ⟨_, (true), (by first | rfl | (simp; done) | (simp [*]; done)), H', ⟨by have := HJ5.out; first | omega | exact Nat.le_refl _⟩, ⟨by (with_reducible repeat (first | refine blk_drewN ?_ _ | refine blk_drew ?_ | refine blk_alloc ?_ _)); exact BK111.out⟩, ⟨by repeat (first | (with_reducible first | exact HB.out | apply below_alloc | apply pw_below_drewN | apply below_drew1 | refine below_set ?_ GE111.out) | exact HB.out)⟩⟩
              case rest =>
                clear HC24
                try clear c1
                try clear c2
                try clear p2
                try clear c5
                try clear c7
                try clear c7b0
                try clear c7b1
                try clear c8
                try clear c9
                try clear c9b0
                try clear c9b1
                try clear c9b2
                try clear c10
                try clear c10b0
                try clear c10b1
                try clear c14
                try clear c14b0
                try clear c14b1
                try clear c15
                try clear c16
                try clear c16b0
                try clear c16b1
                try clear c17
                try clear c17b0
                try clear c17b1
                try clear c18
                try clear c18b0
                try clear c18b1
                try clear c23
                try clear c23b0
                try clear c23b1
                try clear c26
                try clear hcz11_0
                try clear hcz11_1
                try clear hcz11_2
                try clear hcz11_3
                try clear hcz11_4
                try clear hcz12_0
                try clear hcz12_1
                try clear hcz12_2
                try clear hcz12_3
                try clear hcz12_4
                try clear hcz13_0
                try clear hcz13_1
                try clear hcz13_2
                try clear hcz13_3
                try clear hcz13_4
                try clear hcz19_0
                try clear hcz19_1
                try clear hcz19_2
                try clear hcz19_3
                try clear hcz19_4
                try clear hcz20_0
                try clear hcz20_1
                try clear hcz20_2
                try clear hcz20_3
                try clear hcz20_4
                try clear hcz21_0
                try clear hcz21_1
                try clear hcz21_2
                try clear hcz21_3
                try clear hcz21_4
                try clear hcz22_0
                try clear hcz22_1
                try clear hcz22_2
                try clear hcz22_3
                try clear hcz22_4
                try clear hcz27_0
                try clear hcz27_1
                try clear hcz27_2
                try clear hcz27_3
                try clear hcz27_4
                try clear hcz28_0
                try clear hcz28_1
                try clear hcz28_2
                try clear hcz28_3
                try clear hcz28_4
                try clear hcz5_0
                try clear hcz5_1
                try clear hcz5_2
                try clear hcz5_3
                try clear hcz5_4
                try clear hfz11_0
                try clear hfz11_1
                try clear hfz11_2
                try clear hfz11_3
                try clear hfz11_4
                try clear hfz12_0
                try clear hfz12_1
                try clear hfz12_2
                try clear hfz12_3
                try clear hfz12_4
                try clear hfz13_0
                try clear hfz13_1
                try clear hfz13_2
                try clear hfz13_3
                try clear hfz13_4
                try clear hfz19_0
                try clear hfz19_1
                try clear hfz19_2
                try clear hfz19_3
                try clear hfz19_4
                try clear hfz20_0
                try clear hfz20_1
                try clear hfz20_2
                try clear hfz20_3
                try clear hfz20_4
                try clear hfz21_0
                try clear hfz21_1
                try clear hfz21_2
                try clear hfz21_3
                try clear hfz21_4
                try clear hfz22_0
                try clear hfz22_1
                try clear hfz22_2
                try clear hfz22_3
                try clear hfz22_4
                try clear hfz27_0
                try clear hfz27_1
                try clear hfz27_2
                try clear hfz27_3
                try clear hfz27_4
                try clear hfz28_0
                try clear hfz28_1
                try clear hfz28_2
                try clear hfz28_3
                try clear hfz28_4
                try clear hfz5_0
                try clear hfz5_1
                try clear hfz5_2
                try clear hfz5_3
                try clear hfz5_4
                try clear p2
                obtain ⟨kq, x61_23, rfl, HA, HJ23, BK111, HB⟩ := hcut
                cases kq with
                | zero => exact absurd HA.out (by simp [laws_right29.j1])
                | succ kj23 =>
                  have H := HA.out
                  clear HA
                  simp only [laws_right29.j1] at H
                  by_cases c29 : x61_23 = true
                  · subst c29
                    have H1 : (some false) = some r := by rw [if_pos rfl] at H; exact H
                    clear H
                    have H := H1
                    clear H1
                    obtain rfl := Option.some.inj H
                    go_wp2
                    go_ret
                    exact ⟨by first | rfl | (simp [errW_none, errW_some] <;> rfl) | (simp [*, errW_none, errW_some] <;> rfl), by repeat (first | (with_reducible first | exact HB.out | apply below_alloc | apply pw_below_drewN | apply below_drew1 | refine below_set ?_ GE111.out) | exact HB.out)⟩
                  · replace c29 := Bool.eq_false_iff.mpr c29
                    subst c29
                    have H1 : (laws_right29.l0 kj23 l0_3 (l0_3.length : Int) 0 a0_0 a0_1 a0_2 l0_3 l0_4) = some r := by rw [if_neg (show ¬ (false = true) by decide)] at H; exact H
                    clear H
                    have H := H1
                    clear H1
                    have H' := Aside0.mk H
                    clear H
                    have hcz30_0 : wc.cell? ⟨gb111, 0, none⟩ = some (.int .i64 a0_0) := (blk_cell BK111.out 0).trans rfl
                    have hcz30_1 : wc.cell? ⟨gb111, 1, none⟩ = some (.string a0_1) := (blk_cell BK111.out 1).trans rfl
                    have hcz30_2 : wc.cell? ⟨gb111, 2, none⟩ = some (.string a0_2) := (blk_cell BK111.out 2).trans rfl
                    have hcz30_3 : wc.cell? ⟨gb111, 3, none⟩ = some (.slice A0_3 l0_3.length c0_3) := (blk_cell BK111.out 3).trans rfl
                    have hcz30_4 : wc.cell? ⟨gb111, 4, none⟩ = some (.slice A0_4 l0_4.length c0_4) := (blk_cell BK111.out 4).trans rfl
                    have hfz30_0 := blk_frozen BK111.out 0
                    have hfz30_1 := blk_frozen BK111.out 1
                    have hfz30_2 := blk_frozen BK111.out 2
                    have hfz30_3 := blk_frozen BK111.out 3
                    have hfz30_4 := blk_frozen BK111.out 4
                    go_wp2
                    go_loopg [65] kj23 (fun kq v65 w' => ∃ (x65_3 : Int), v65 = .int .i64 x65_3 ∧ Aside0 (laws_right29.l0 kq l0_3 (l0_3.length : Int) x65_3 a0_0 a0_1 a0_2 l0_3 l0_4 = some r) ∧ Aside0 (kq ≤ kj23) ∧ Aside0 (w'.heap[gb111]? = some (.cells #[.int .i64 a0_0, .string a0_1, .string a0_2, (.slice A0_3 l0_3.length c0_3), (.slice A0_4 l0_4.length c0_4)] 25 (0, 0))) ∧ Aside0 (Below w.heap.size w w'))
                    case atStart => exact ⟨(0), (by first | rfl | (simp; done) | (simp [*]; done)), H', ⟨Nat.le_refl _⟩, ⟨by (with_reducible repeat (first | refine blk_drewN ?_ _ | refine blk_drew ?_ | refine blk_alloc ?_ _)); exact BK111.out⟩, ⟨by repeat (first | (with_reducible first | exact HB.out | apply below_alloc | apply pw_below_drewN | apply below_drew1 | refine below_set ?_ GE111.out) | exact HB.out)⟩⟩
                    case round =>
                      clear H'
                      try clear c1
                      try clear c2
                      try clear p2
                      try clear c5
                      try clear c7
                      try clear c7b0
                      try clear c7b1
                      try clear c8
                      try clear c9
                      try clear c9b0
                      try clear c9b1
                      try clear c9b2
                      try clear c10
                      try clear c10b0
                      try clear c10b1
                      try clear c14
                      try clear c14b0
                      try clear c14b1
                      try clear c15
                      try clear c16
                      try clear c16b0
                      try clear c16b1
                      try clear c17
                      try clear c17b0
                      try clear c17b1
                      try clear c18
                      try clear c18b0
                      try clear c18b1
                      try clear c23
                      try clear c23b0
                      try clear c23b1
                      try clear c26
                      try clear c29
                      try clear hcz11_0
                      try clear hcz11_1
                      try clear hcz11_2
                      try clear hcz11_3
                      try clear hcz11_4
                      try clear hcz12_0
                      try clear hcz12_1
                      try clear hcz12_2
                      try clear hcz12_3
                      try clear hcz12_4
                      try clear hcz13_0
                      try clear hcz13_1
                      try clear hcz13_2
                      try clear hcz13_3
                      try clear hcz13_4
                      try clear hcz19_0
                      try clear hcz19_1
                      try clear hcz19_2
                      try clear hcz19_3
                      try clear hcz19_4
                      try clear hcz20_0
                      try clear hcz20_1
                      try clear hcz20_2
                      try clear hcz20_3
                      try clear hcz20_4
                      try clear hcz21_0
                      try clear hcz21_1
                      try clear hcz21_2
                      try clear hcz21_3
                      try clear hcz21_4
                      try clear hcz22_0
                      try clear hcz22_1
                      try clear hcz22_2
                      try clear hcz22_3
                      try clear hcz22_4
                      try clear hcz27_0
                      try clear hcz27_1
                      try clear hcz27_2
                      try clear hcz27_3
                      try clear hcz27_4
                      try clear hcz28_0
                      try clear hcz28_1
                      try clear hcz28_2
                      try clear hcz28_3
                      try clear hcz28_4
                      try clear hcz30_0
                      try clear hcz30_1
                      try clear hcz30_2
                      try clear hcz30_3
                      try clear hcz30_4
                      try clear hcz5_0
                      try clear hcz5_1
                      try clear hcz5_2
                      try clear hcz5_3
                      try clear hcz5_4
                      try clear hfz11_0
                      try clear hfz11_1
                      try clear hfz11_2
                      try clear hfz11_3
                      try clear hfz11_4
                      try clear hfz12_0
                      try clear hfz12_1
                      try clear hfz12_2
                      try clear hfz12_3
                      try clear hfz12_4
                      try clear hfz13_0
                      try clear hfz13_1
                      try clear hfz13_2
                      try clear hfz13_3
                      try clear hfz13_4
                      try clear hfz19_0
                      try clear hfz19_1
                      try clear hfz19_2
                      try clear hfz19_3
                      try clear hfz19_4
                      try clear hfz20_0
                      try clear hfz20_1
                      try clear hfz20_2
                      try clear hfz20_3
                      try clear hfz20_4
                      try clear hfz21_0
                      try clear hfz21_1
                      try clear hfz21_2
                      try clear hfz21_3
                      try clear hfz21_4
                      try clear hfz22_0
                      try clear hfz22_1
                      try clear hfz22_2
                      try clear hfz22_3
                      try clear hfz22_4
                      try clear hfz27_0
                      try clear hfz27_1
                      try clear hfz27_2
                      try clear hfz27_3
                      try clear hfz27_4
                      try clear hfz28_0
                      try clear hfz28_1
                      try clear hfz28_2
                      try clear hfz28_3
                      try clear hfz28_4
                      try clear hfz30_0
                      try clear hfz30_1
                      try clear hfz30_2
                      try clear hfz30_3
                      try clear hfz30_4
                      try clear hfz5_0
                      try clear hfz5_1
                      try clear hfz5_2
                      try clear hfz5_3
                      try clear hfz5_4
                      try clear p2
                      obtain ⟨x65_3, rfl, HA, HK3, BK111, HB⟩ := hrel
                      cases gk with
                      | zero => exact absurd HA.out (by simp [laws_right29.l0])
                      | succ k3 =>
                        have H := HA.out
                        clear HA
                        simp only [laws_right29.l0] at H
                        by_cases c31 : x65_3 < (l0_3.length : Int)
                        · rw [if_pos c31] at H
                          have c31b0 : decide (x65_3 < (l0_3.length : Int)) = true := decide_eq_true c31
                          clear c31
                          by_cases c32 : 0 ≤ x65_3
                          · rw [if_pos c32] at H
                            have c32b0 : decide (0 ≤ x65_3) = true := decide_eq_true c32
                            clear c32
                            by_cases c33 : x65_3 < (l0_3.length : Int)
                            · rw [if_pos c33] at H
                              have c33b0 : decide (x65_3 < (l0_3.length : Int)) = true := decide_eq_true c33
                              clear c33
                              have c34b0 := eq_true (of_decide_eq_true (by first | (with_reducible assumption) | assumption) : 0 ≤ x65_3)
                              by_cases c35 : x65_3 ≤ (l0_3.length : Int)
                              · rw [if_pos c35] at H
                                have c35b0 := eq_true c35
                                have c35b1 : decide (x65_3 ≤ (l0_3.length : Int)) = true := decide_eq_true c35
                                clear c35
                                obtain ⟨y115, hy115⟩ : ∃ y_ : List (S29), y_ = (l0_3.take (x65_3 : Int).toNat) := ⟨_, rfl⟩
                                replace H : (laws_right29.l1 k3 l0_3 (l0_3.length : Int) x65_3 y115 (y115.length : Int) 0 a0_0 a0_1 a0_2 l0_3 l0_4 ((rd_T29 l0_3 x65_3).f0) ((rd_T29 l0_3 x65_3).f1)) = some r := by first | (rw [hy115]; with_reducible exact H) | (have H2_ := (Option.bind_some _ _).symm.trans H; rw [hy115]; with_reducible exact H2_) | (have H2_ := (Option.bind_some _ _).symm.trans H; with_reducible exact H2_) | with_reducible exact H | (rw [hy115]; exact H) | exact H
                                have Ny115 := Aside0.mk hy115
                                clear hy115
                                have H' := Aside0.mk H
                                clear H
                                have p113 : 0 ≤ (x65_3 : Int) := of_decide_eq_true (by first | (with_reducible assumption) | assumption)
                                have q113 : x65_3 < (l0_3.length : Int) := of_decide_eq_true (by first | (with_reducible assumption) | assumption)
                                obtain ⟨ad113, e113, hx113_0, hx113_1⟩ := at_T29 HR0_3.out x65_3 p113 q113
                                cases e113
                                replace hx113_0 := (HB.out.cell (World.block_lt_of_cell? w _ hx113_0)).trans hx113_0
                                replace hx113_1 := (HB.out.cell (World.block_lt_of_cell? w _ hx113_1)).trans hx113_1
                                replace p113 := eq_true p113
                                replace q113 := eq_true q113
                                go_wp2_with (first | ((with_reducible refine gate_dst (N := 6) rfl ?_); (try (refine gate_guard (by rfl) ?_; dsimp only)); refine box_event ?hg (N := 6) ?hd (cs := #[.string (⟨#[]⟩ : ByteArray), .string (⟨#[]⟩ : ByteArray)]) (t := 29) ?hr ?_; (case hd => rfl); (case hg => rfl); (case hr => first | (go_simp; done) | (go_simp; rfl)); intro gb114 hg w36 hbox hb; have n0_ := Aside0.mk (blk_below (g := gb111) (o := .cells #[.int .i64 a0_0, .string a0_1, .string a0_2, .slice (some ad113) l0_3.length c0_3, .slice A0_4 l0_4.length c0_4] 25 (0, 0)) (by (with_reducible repeat (first | refine blk_drewN ?_ _ | refine blk_drew ?_ | refine blk_alloc ?_ _)); exact BK111.out) hb); have n1_ := Aside0.mk (below_step (by repeat (first | (with_reducible first | exact HB.out | apply below_alloc | apply pw_below_drewN | apply below_drew1 | refine below_set ?_ GE111.out) | exact HB.out)) hb); have n2_ := Aside0.mk (hbox); have n3_ := Aside0.mk ((by rw [hg]; exact (below_size (by repeat (first | (with_reducible first | exact HB.out | apply below_alloc | apply pw_below_drewN | apply below_drew1 | refine below_set ?_ GE111.out) | exact HB.out))) : w.heap.size ≤ gb114)); have n4_ := Aside0.mk ((by rw [hg]; exact (below_size (by repeat (first | (with_reducible first | exact HB.out | apply below_alloc | apply pw_below_drewN | apply below_drew1 | refine below_set ?_ GE111.out) | exact HB.out))) : w.heap.size ≤ gb114)); have n5_ := Aside0.mk ((by rw [hg]; exact Nat.ne_of_lt (blk_lt (g := gb111) (o := .cells #[.int .i64 a0_0, .string a0_1, .string a0_2, .slice (some ad113) l0_3.length c0_3, .slice A0_4 l0_4.length c0_4] 25 (0, 0)) (by (with_reducible repeat (first | refine blk_drewN ?_ _ | refine blk_drew ?_ | refine blk_alloc ?_ _)); exact BK111.out)) : gb111 ≠ gb114)); have n6_ := Aside0.mk ((by rw [hg]; exact Nat.ne_of_gt (blk_lt (g := gb111) (o := .cells #[.int .i64 a0_0, .string a0_1, .string a0_2, .slice (some ad113) l0_3.length c0_3, .slice A0_4 l0_4.length c0_4] 25 (0, 0)) (by (with_reducible repeat (first | refine blk_drewN ?_ _ | refine blk_drew ?_ | refine blk_alloc ?_ _)); exact BK111.out)) : gb114 ≠ gb111)); clear BK111; clear HB; have BK111 := n0_; have HB := n1_; have BK114 := n2_; have GW114 := n3_; have GE114 := n4_; have NB111_114 := n5_; have NB114_111 := n6_; clear n0_ n1_ n2_ n3_ n4_ n5_ n6_; clear hb hbox hg; have hnb37 := NB114_111.out; have hnc37 := NB111_114.out; have hcz38_0 : w36.cell? ⟨gb114, 0, none⟩ = some (.string (⟨#[]⟩ : ByteArray)) := (blk_cell BK114.out 0).trans rfl; have hcz38_1 : w36.cell? ⟨gb114, 1, none⟩ = some (.string (⟨#[]⟩ : ByteArray)) := (blk_cell BK114.out 1).trans rfl; have hfz38_0 := blk_frozen BK114.out 0; have hfz38_1 := blk_frozen BK114.out 1) | ((with_reducible refine gate_store (t := 29) (p := 6) rfl ?_); refine store_event (t := 29) (p := 6) (v := ?vo_w39) (w1 := ((w36.setCell ⟨gb114, 0, none⟩ (.string ((rd_T29 l0_3 x65_3).f0))).setCell ⟨gb114, 1, none⟩ (.string ((rd_T29 l0_3 x65_3).f1)))) ?hg ?ho ?hn ?hr ?_; (case ho => rfl); (case hg => rfl); (case hn => rfl); (case hr => first | (go_simp; done) | (go_simp; rfl)); intro w39 hw; have n0_ : Aside0 (w39.heap[gb111]? = some (.cells #[.int .i64 a0_0, .string a0_1, .string a0_2, .slice (some ad113) l0_3.length c0_3, .slice A0_4 l0_4.length c0_4] 25 (0, 0))) := ⟨(by rw [hw]; exact (by (with_reducible repeat (first | refine blk_drewN ?_ _ | refine blk_drew ?_ | refine blk_alloc ?_ _)); refine blk_far ?_ NB111_114.out _; (with_reducible repeat (first | refine blk_drewN ?_ _ | refine blk_drew ?_ | refine blk_alloc ?_ _)); refine blk_far ?_ NB111_114.out _; (with_reducible repeat (first | refine blk_drewN ?_ _ | refine blk_drew ?_ | refine blk_alloc ?_ _)); exact BK111.out))⟩; have n1_ : Aside0 (w39.heap[gb114]? = some (.cells #[.string ((rd_T29 l0_3 x65_3).f0), .string ((rd_T29 l0_3 x65_3).f1)] 29 (0, 0))) := ⟨(by rw [hw]; exact (by (with_reducible repeat (first | refine blk_drewN ?_ _ | refine blk_drew ?_ | refine blk_alloc ?_ _)); refine blk_put (cs := #[.string ((rd_T29 l0_3 x65_3).f0), .string (⟨#[]⟩ : ByteArray)]) ?_ 1 _ rfl; (with_reducible repeat (first | refine blk_drewN ?_ _ | refine blk_drew ?_ | refine blk_alloc ?_ _)); refine blk_put (cs := #[.string (⟨#[]⟩ : ByteArray), .string (⟨#[]⟩ : ByteArray)]) ?_ 0 _ rfl; (with_reducible repeat (first | refine blk_drewN ?_ _ | refine blk_drew ?_ | refine blk_alloc ?_ _)); exact BK114.out))⟩; have n2_ : Aside0 (Below w.heap.size w w39) := ⟨(by rw [hw]; exact (by repeat (first | (with_reducible first | exact HB.out | apply below_alloc | apply pw_below_drewN | apply below_drew1 | refine below_set ?_ GE111.out | refine below_set ?_ GE114.out) | exact HB.out)))⟩; clear hw; clear BK111; clear BK114; clear HB; have BK111 := n0_; have BK114 := n1_; have HB := n2_; clear n0_ n1_ n2_; have hcz40_0 : w39.cell? ⟨gb111, 0, none⟩ = some (.int .i64 a0_0) := (blk_cell BK111.out 0).trans rfl; have hcz40_1 : w39.cell? ⟨gb111, 1, none⟩ = some (.string a0_1) := (blk_cell BK111.out 1).trans rfl; have hcz40_2 : w39.cell? ⟨gb111, 2, none⟩ = some (.string a0_2) := (blk_cell BK111.out 2).trans rfl; have hcz40_3 : w39.cell? ⟨gb111, 3, none⟩ = some (.slice (some ad113) l0_3.length c0_3) := (blk_cell BK111.out 3).trans rfl; have hcz40_4 : w39.cell? ⟨gb111, 4, none⟩ = some (.slice A0_4 l0_4.length c0_4) := (blk_cell BK111.out 4).trans rfl; have hfz40_0 := blk_frozen BK111.out 0; have hfz40_1 := blk_frozen BK111.out 1; have hfz40_2 := blk_frozen BK111.out 2; have hfz40_3 := blk_frozen BK111.out 3; have hfz40_4 := blk_frozen BK111.out 4; have q41 : (x65_3 : Int) ≤ ((l0_3.length : Int) : Int) := of_decide_eq_true (by first | (with_reducible assumption) | assumption); obtain ⟨i041, hi041, _, hsz41, _⟩ := info_parts info29; have hroom41 : l0_3.length ≤ c0_3 := HC0_3.out; have hC41 : Kd.C k29 _ (some ad113) l0_3.length l0_3 := HR0_3.out; have hcut41 := cut_to (P := Tryd.prog) 22 29 .i64 Tryd.underlying22 hi041 (some ad113) l0_3.length c0_3 x65_3 (of_decide_eq_true (by first | (with_reducible assumption) | assumption)) q41 hroom41; have hr41 := Kd.C_take (m := (x65_3 : Int).toNat) hC41 (by omega); have hy41 : y115.length = (x65_3 : Int).toNat := (by rw [Ny115.out, List.length_take]; omega); rw [← Ny115.out] at hr41; rw [← hy41] at hcut41; have HR118 := Aside0.mk hr41; have HC118 := Aside0.mk (show y115.length ≤ c0_3 from by omega); clear hr41 hC41 hroom41 hi041 hsz41; have KY41 := Aside0.mk hy41; clear hy41; replace q41 := eq_true q41))
                                go_loopg [75] k3 (fun kq v75 w' => ∃ (x75_4 : Int), v75 = .int .i64 x75_4 ∧ Aside0 (laws_right29.l1 kq l0_3 (l0_3.length : Int) x65_3 y115 (y115.length : Int) x75_4 a0_0 a0_1 a0_2 l0_3 l0_4 ((rd_T29 l0_3 x65_3).f0) ((rd_T29 l0_3 x65_3).f1) = some r) ∧ Aside0 (kq ≤ k3) ∧ Aside0 (w'.heap[gb111]? = some (.cells #[.int .i64 a0_0, .string a0_1, .string a0_2, (.slice (some ad113) l0_3.length c0_3), (.slice A0_4 l0_4.length c0_4)] 25 (0, 0))) ∧ Aside0 (w'.heap[gb114]? = some (.cells #[.string ((rd_T29 l0_3 x65_3).f0), .string ((rd_T29 l0_3 x65_3).f1)] 29 (0, 0))) ∧ Aside0 (Below w.heap.size w w'))
                                case atStart => exact ⟨(0), (by first | rfl | (simp; done) | (simp [*]; done)), H', ⟨Nat.le_refl _⟩, ⟨by (with_reducible repeat (first | refine blk_drewN ?_ _ | refine blk_drew ?_ | refine blk_alloc ?_ _)); exact BK111.out⟩, ⟨by (with_reducible repeat (first | refine blk_drewN ?_ _ | refine blk_drew ?_ | refine blk_alloc ?_ _)); exact BK114.out⟩, ⟨by repeat (first | (with_reducible first | exact HB.out | apply below_alloc | apply pw_below_drewN | apply below_drew1 | refine below_set ?_ GE111.out | refine below_set ?_ GE114.out) | exact HB.out)⟩⟩
                                case round =>
                                  clear H'
                                  try clear c1
                                  try clear p1
                                  try clear q1
                                  try clear hx1
                                  try clear c2
                                  try clear p2
                                  try clear c3
                                  try clear q4
                                  try clear c5
                                  try clear c7
                                  try clear c7b0
                                  try clear c7b1
                                  try clear c8
                                  try clear c9
                                  try clear c9b0
                                  try clear c9b1
                                  try clear c9b2
                                  try clear c10
                                  try clear c10b0
                                  try clear c10b1
                                  try clear p11
                                  try clear q11
                                  try clear hx11
                                  try clear c14
                                  try clear c14b0
                                  try clear c14b1
                                  try clear c15
                                  try clear c16
                                  try clear c16b0
                                  try clear c16b1
                                  try clear c17
                                  try clear c17b0
                                  try clear c17b1
                                  try clear c18
                                  try clear c18b0
                                  try clear c18b1
                                  try clear c23
                                  try clear c23b0
                                  try clear c23b1
                                  try clear c26
                                  try clear c29
                                  try clear c31
                                  try clear c31b0
                                  try clear c32
                                  try clear c32b0
                                  try clear c33
                                  try clear c33b0
                                  try clear c34
                                  try clear c34b0
                                  try clear c35
                                  try clear c35b0
                                  try clear c35b1
                                  try clear c37
                                  try clear q41
                                  try clear hcz11_0
                                  try clear hcz11_1
                                  try clear hcz11_2
                                  try clear hcz11_3
                                  try clear hcz11_4
                                  try clear hcz12_0
                                  try clear hcz12_1
                                  try clear hcz12_2
                                  try clear hcz12_3
                                  try clear hcz12_4
                                  try clear hcz13_0
                                  try clear hcz13_1
                                  try clear hcz13_2
                                  try clear hcz13_3
                                  try clear hcz13_4
                                  try clear hcz19_0
                                  try clear hcz19_1
                                  try clear hcz19_2
                                  try clear hcz19_3
                                  try clear hcz19_4
                                  try clear hcz20_0
                                  try clear hcz20_1
                                  try clear hcz20_2
                                  try clear hcz20_3
                                  try clear hcz20_4
                                  try clear hcz21_0
                                  try clear hcz21_1
                                  try clear hcz21_2
                                  try clear hcz21_3
                                  try clear hcz21_4
                                  try clear hcz22_0
                                  try clear hcz22_1
                                  try clear hcz22_2
                                  try clear hcz22_3
                                  try clear hcz22_4
                                  try clear hcz27_0
                                  try clear hcz27_1
                                  try clear hcz27_2
                                  try clear hcz27_3
                                  try clear hcz27_4
                                  try clear hcz28_0
                                  try clear hcz28_1
                                  try clear hcz28_2
                                  try clear hcz28_3
                                  try clear hcz28_4
                                  try clear hcz30_0
                                  try clear hcz30_1
                                  try clear hcz30_2
                                  try clear hcz30_3
                                  try clear hcz30_4
                                  try clear hcz38_0
                                  try clear hcz38_1
                                  try clear hcz40_0
                                  try clear hcz40_1
                                  try clear hcz40_2
                                  try clear hcz40_3
                                  try clear hcz40_4
                                  try clear hcz5_0
                                  try clear hcz5_1
                                  try clear hcz5_2
                                  try clear hcz5_3
                                  try clear hcz5_4
                                  try clear hfz11_0
                                  try clear hfz11_1
                                  try clear hfz11_2
                                  try clear hfz11_3
                                  try clear hfz11_4
                                  try clear hfz12_0
                                  try clear hfz12_1
                                  try clear hfz12_2
                                  try clear hfz12_3
                                  try clear hfz12_4
                                  try clear hfz13_0
                                  try clear hfz13_1
                                  try clear hfz13_2
                                  try clear hfz13_3
                                  try clear hfz13_4
                                  try clear hfz19_0
                                  try clear hfz19_1
                                  try clear hfz19_2
                                  try clear hfz19_3
                                  try clear hfz19_4
                                  try clear hfz20_0
                                  try clear hfz20_1
                                  try clear hfz20_2
                                  try clear hfz20_3
                                  try clear hfz20_4
                                  try clear hfz21_0
                                  try clear hfz21_1
                                  try clear hfz21_2
                                  try clear hfz21_3
                                  try clear hfz21_4
                                  try clear hfz22_0
                                  try clear hfz22_1
                                  try clear hfz22_2
                                  try clear hfz22_3
                                  try clear hfz22_4
                                  try clear hfz27_0
                                  try clear hfz27_1
                                  try clear hfz27_2
                                  try clear hfz27_3
                                  try clear hfz27_4
                                  try clear hfz28_0
                                  try clear hfz28_1
                                  try clear hfz28_2
                                  try clear hfz28_3
                                  try clear hfz28_4
                                  try clear hfz30_0
                                  try clear hfz30_1
                                  try clear hfz30_2
                                  try clear hfz30_3
                                  try clear hfz30_4
                                  try clear hfz38_0
                                  try clear hfz38_1
                                  try clear hfz40_0
                                  try clear hfz40_1
                                  try clear hfz40_2
                                  try clear hfz40_3
                                  try clear hfz40_4
                                  try clear hfz5_0
                                  try clear hfz5_1
                                  try clear hfz5_2
                                  try clear hfz5_3
                                  try clear hfz5_4
                                  try clear hx113_0
                                  try clear hx113_1
                                  try clear p113
                                  try clear p2
                                  try clear q113
                                  try clear q41
                                  obtain ⟨x75_4, rfl, HA, HK4, BK111, BK114, HB⟩ := hrel
                                  cases gk with
                                  | zero => exact absurd HA.out (by simp [laws_right29.l1])
                                  | succ k4 =>
                                    have H := HA.out
                                    clear HA
                                    simp only [laws_right29.l1] at H
                                    by_cases c42 : x75_4 < (y115.length : Int)
                                    · rw [if_pos c42] at H
                                      have c42b0 : decide (x75_4 < (y115.length : Int)) = true := decide_eq_true c42
                                      clear c42
                                      by_cases c43 : 0 ≤ x75_4
                                      · rw [if_pos c43] at H
                                        have c43b0 : decide (0 ≤ x75_4) = true := decide_eq_true c43
                                        clear c43
                                        by_cases c44 : x75_4 < (y115.length : Int)
                                        · rw [if_pos c44] at H
                                          have c44b0 : decide (x75_4 < (y115.length : Int)) = true := decide_eq_true c44
                                          clear c44
                                          by_cases c45 : ((rd_T29 l0_3 x65_3).f0).toList = ((rd_T29 y115 x75_4).f0).toList
                                          · rw [if_pos c45] at H
                                            have c45b0 : (((rd_T29 l0_3 x65_3).f0).toList == ((rd_T29 y115 x75_4).f0).toList) = true := beq_iff_eq.mpr c45
                                            have c45b1 : (((rd_T29 l0_3 x65_3).f0).toList != ((rd_T29 y115 x75_4).f0).toList) = false := bne_eq_false_iff_eq.mpr c45
                                            clear c45
                                            obtain rfl := Option.some.inj H
                                            have p119 : 0 ≤ (x75_4 : Int) := of_decide_eq_true (by first | (with_reducible assumption) | assumption)
                                            have q119 : x75_4 < (y115.length : Int) := of_decide_eq_true (by first | (with_reducible assumption) | assumption)
                                            obtain ⟨ad119, e119, hx119_0, hx119_1⟩ := at_T29 HR118.out x75_4 p119 q119
                                            obtain rfl : ad113 = ad119 := (by injection e119)
                                            replace hx119_0 := (HB.out.cell (World.block_lt_of_cell? w _ hx119_0)).trans hx119_0
                                            replace hx119_1 := (HB.out.cell (World.block_lt_of_cell? w _ hx119_1)).trans hx119_1
                                            replace p119 := eq_true p119
                                            replace q119 := eq_true q119
                                            go_wp2_with (first | ((with_reducible refine gate_dst (N := 8) rfl ?_); (try (refine gate_guard (by rfl) ?_; dsimp only)); refine box_event ?hg (N := 8) ?hd (cs := #[.string (⟨#[]⟩ : ByteArray), .string (⟨#[]⟩ : ByteArray)]) (t := 29) ?hr ?_; (case hd => rfl); (case hg => rfl); (case hr => first | (go_simp; done) | (go_simp; rfl)); intro gb120 hg w46 hbox hb; have n0_ := Aside0.mk (blk_below (g := gb111) (o := .cells #[.int .i64 a0_0, .string a0_1, .string a0_2, .slice (some ad113) l0_3.length c0_3, .slice A0_4 l0_4.length c0_4] 25 (0, 0)) (by (with_reducible repeat (first | refine blk_drewN ?_ _ | refine blk_drew ?_ | refine blk_alloc ?_ _)); exact BK111.out) hb); have n1_ := Aside0.mk (blk_below (g := gb114) (o := .cells #[.string ((rd_T29 l0_3 x65_3).f0), .string ((rd_T29 l0_3 x65_3).f1)] 29 (0, 0)) (by (with_reducible repeat (first | refine blk_drewN ?_ _ | refine blk_drew ?_ | refine blk_alloc ?_ _)); exact BK114.out) hb); have n2_ := Aside0.mk (below_step (by repeat (first | (with_reducible first | exact HB.out | apply below_alloc | apply pw_below_drewN | apply below_drew1 | refine below_set ?_ GE111.out | refine below_set ?_ GE114.out) | exact HB.out)) hb); have n3_ := Aside0.mk (hbox); have n4_ := Aside0.mk ((by rw [hg]; exact (below_size (by repeat (first | (with_reducible first | exact HB.out | apply below_alloc | apply pw_below_drewN | apply below_drew1 | refine below_set ?_ GE111.out | refine below_set ?_ GE114.out) | exact HB.out))) : w.heap.size ≤ gb120)); have n5_ := Aside0.mk ((by rw [hg]; exact (below_size (by repeat (first | (with_reducible first | exact HB.out | apply below_alloc | apply pw_below_drewN | apply below_drew1 | refine below_set ?_ GE111.out | refine below_set ?_ GE114.out) | exact HB.out))) : w.heap.size ≤ gb120)); have n6_ := Aside0.mk ((by rw [hg]; exact Nat.ne_of_lt (blk_lt (g := gb111) (o := .cells #[.int .i64 a0_0, .string a0_1, .string a0_2, .slice (some ad113) l0_3.length c0_3, .slice A0_4 l0_4.length c0_4] 25 (0, 0)) (by (with_reducible repeat (first | refine blk_drewN ?_ _ | refine blk_drew ?_ | refine blk_alloc ?_ _)); exact BK111.out)) : gb111 ≠ gb120)); have n7_ := Aside0.mk ((by rw [hg]; exact Nat.ne_of_gt (blk_lt (g := gb111) (o := .cells #[.int .i64 a0_0, .string a0_1, .string a0_2, .slice (some ad113) l0_3.length c0_3, .slice A0_4 l0_4.length c0_4] 25 (0, 0)) (by (with_reducible repeat (first | refine blk_drewN ?_ _ | refine blk_drew ?_ | refine blk_alloc ?_ _)); exact BK111.out)) : gb120 ≠ gb111)); have n8_ := Aside0.mk ((by rw [hg]; exact Nat.ne_of_lt (blk_lt (g := gb114) (o := .cells #[.string ((rd_T29 l0_3 x65_3).f0), .string ((rd_T29 l0_3 x65_3).f1)] 29 (0, 0)) (by (with_reducible repeat (first | refine blk_drewN ?_ _ | refine blk_drew ?_ | refine blk_alloc ?_ _)); exact BK114.out)) : gb114 ≠ gb120)); have n9_ := Aside0.mk ((by rw [hg]; exact Nat.ne_of_gt (blk_lt (g := gb114) (o := .cells #[.string ((rd_T29 l0_3 x65_3).f0), .string ((rd_T29 l0_3 x65_3).f1)] 29 (0, 0)) (by (with_reducible repeat (first | refine blk_drewN ?_ _ | refine blk_drew ?_ | refine blk_alloc ?_ _)); exact BK114.out)) : gb120 ≠ gb114)); clear BK111; clear BK114; clear HB; have BK111 := n0_; have BK114 := n1_; have HB := n2_; have BK120 := n3_; have GW120 := n4_; have GE120 := n5_; have NB111_120 := n6_; have NB120_111 := n7_; have NB114_120 := n8_; have NB120_114 := n9_; clear n0_ n1_ n2_ n3_ n4_ n5_ n6_ n7_ n8_ n9_; clear hb hbox hg; have hnb47 := NB120_111.out; have hnc47 := NB111_120.out; have hnb48 := NB120_114.out; have hnc48 := NB114_120.out; have hcz49_0 : w46.cell? ⟨gb120, 0, none⟩ = some (.string (⟨#[]⟩ : ByteArray)) := (blk_cell BK120.out 0).trans rfl; have hcz49_1 : w46.cell? ⟨gb120, 1, none⟩ = some (.string (⟨#[]⟩ : ByteArray)) := (blk_cell BK120.out 1).trans rfl; have hfz49_0 := blk_frozen BK120.out 0; have hfz49_1 := blk_frozen BK120.out 1; have hnb50 := NB114_111.out; have hnc50 := NB111_114.out; have hcz51_0 : w46.cell? ⟨gb114, 0, none⟩ = some (.string ((rd_T29 l0_3 x65_3).f0)) := (blk_cell BK114.out 0).trans rfl; have hcz51_1 : w46.cell? ⟨gb114, 1, none⟩ = some (.string ((rd_T29 l0_3 x65_3).f1)) := (blk_cell BK114.out 1).trans rfl; have hfz51_0 := blk_frozen BK114.out 0; have hfz51_1 := blk_frozen BK114.out 1))
                                            go_ret
                                            exact ⟨by first | rfl | (simp [errW_none, errW_some] <;> rfl) | (simp [*, errW_none, errW_some] <;> rfl), by repeat (first | (with_reducible first | exact HB.out | apply below_alloc | apply pw_below_drewN | apply below_drew1 | refine below_set ?_ GE111.out | refine below_set ?_ GE114.out | refine below_set ?_ GE120.out) | exact HB.out)⟩
                                          · rw [if_neg c45] at H
                                            have c45b0 : (((rd_T29 l0_3 x65_3).f0).toList == ((rd_T29 y115 x75_4).f0).toList) = false := beq_eq_false_iff_ne.mpr c45
                                            have c45b1 : (((rd_T29 l0_3 x65_3).f0).toList != ((rd_T29 y115 x75_4).f0).toList) = true := bne_iff_ne.mpr c45
                                            have H' := Aside0.mk H
                                            clear H
                                            have p119 : 0 ≤ (x75_4 : Int) := of_decide_eq_true (by first | (with_reducible assumption) | assumption)
                                            have q119 : x75_4 < (y115.length : Int) := of_decide_eq_true (by first | (with_reducible assumption) | assumption)
                                            obtain ⟨ad119, e119, hx119_0, hx119_1⟩ := at_T29 HR118.out x75_4 p119 q119
                                            obtain rfl : ad113 = ad119 := (by injection e119)
                                            replace hx119_0 := (HB.out.cell (World.block_lt_of_cell? w _ hx119_0)).trans hx119_0
                                            replace hx119_1 := (HB.out.cell (World.block_lt_of_cell? w _ hx119_1)).trans hx119_1
                                            replace p119 := eq_true p119
                                            replace q119 := eq_true q119
                                            go_wp2_with (first | ((with_reducible refine gate_dst (N := 8) rfl ?_); (try (refine gate_guard (by rfl) ?_; dsimp only)); refine box_event ?hg (N := 8) ?hd (cs := #[.string (⟨#[]⟩ : ByteArray), .string (⟨#[]⟩ : ByteArray)]) (t := 29) ?hr ?_; (case hd => rfl); (case hg => rfl); (case hr => first | (go_simp; done) | (go_simp; rfl)); intro gb120 hg w52 hbox hb; have n0_ := Aside0.mk (blk_below (g := gb111) (o := .cells #[.int .i64 a0_0, .string a0_1, .string a0_2, .slice (some ad113) l0_3.length c0_3, .slice A0_4 l0_4.length c0_4] 25 (0, 0)) (by (with_reducible repeat (first | refine blk_drewN ?_ _ | refine blk_drew ?_ | refine blk_alloc ?_ _)); exact BK111.out) hb); have n1_ := Aside0.mk (blk_below (g := gb114) (o := .cells #[.string ((rd_T29 l0_3 x65_3).f0), .string ((rd_T29 l0_3 x65_3).f1)] 29 (0, 0)) (by (with_reducible repeat (first | refine blk_drewN ?_ _ | refine blk_drew ?_ | refine blk_alloc ?_ _)); exact BK114.out) hb); have n2_ := Aside0.mk (below_step (by repeat (first | (with_reducible first | exact HB.out | apply below_alloc | apply pw_below_drewN | apply below_drew1 | refine below_set ?_ GE111.out | refine below_set ?_ GE114.out) | exact HB.out)) hb); have n3_ := Aside0.mk (hbox); have n4_ := Aside0.mk ((by rw [hg]; exact (below_size (by repeat (first | (with_reducible first | exact HB.out | apply below_alloc | apply pw_below_drewN | apply below_drew1 | refine below_set ?_ GE111.out | refine below_set ?_ GE114.out) | exact HB.out))) : w.heap.size ≤ gb120)); have n5_ := Aside0.mk ((by rw [hg]; exact (below_size (by repeat (first | (with_reducible first | exact HB.out | apply below_alloc | apply pw_below_drewN | apply below_drew1 | refine below_set ?_ GE111.out | refine below_set ?_ GE114.out) | exact HB.out))) : w.heap.size ≤ gb120)); have n6_ := Aside0.mk ((by rw [hg]; exact Nat.ne_of_lt (blk_lt (g := gb111) (o := .cells #[.int .i64 a0_0, .string a0_1, .string a0_2, .slice (some ad113) l0_3.length c0_3, .slice A0_4 l0_4.length c0_4] 25 (0, 0)) (by (with_reducible repeat (first | refine blk_drewN ?_ _ | refine blk_drew ?_ | refine blk_alloc ?_ _)); exact BK111.out)) : gb111 ≠ gb120)); have n7_ := Aside0.mk ((by rw [hg]; exact Nat.ne_of_gt (blk_lt (g := gb111) (o := .cells #[.int .i64 a0_0, .string a0_1, .string a0_2, .slice (some ad113) l0_3.length c0_3, .slice A0_4 l0_4.length c0_4] 25 (0, 0)) (by (with_reducible repeat (first | refine blk_drewN ?_ _ | refine blk_drew ?_ | refine blk_alloc ?_ _)); exact BK111.out)) : gb120 ≠ gb111)); have n8_ := Aside0.mk ((by rw [hg]; exact Nat.ne_of_lt (blk_lt (g := gb114) (o := .cells #[.string ((rd_T29 l0_3 x65_3).f0), .string ((rd_T29 l0_3 x65_3).f1)] 29 (0, 0)) (by (with_reducible repeat (first | refine blk_drewN ?_ _ | refine blk_drew ?_ | refine blk_alloc ?_ _)); exact BK114.out)) : gb114 ≠ gb120)); have n9_ := Aside0.mk ((by rw [hg]; exact Nat.ne_of_gt (blk_lt (g := gb114) (o := .cells #[.string ((rd_T29 l0_3 x65_3).f0), .string ((rd_T29 l0_3 x65_3).f1)] 29 (0, 0)) (by (with_reducible repeat (first | refine blk_drewN ?_ _ | refine blk_drew ?_ | refine blk_alloc ?_ _)); exact BK114.out)) : gb120 ≠ gb114)); clear BK111; clear BK114; clear HB; have BK111 := n0_; have BK114 := n1_; have HB := n2_; have BK120 := n3_; have GW120 := n4_; have GE120 := n5_; have NB111_120 := n6_; have NB120_111 := n7_; have NB114_120 := n8_; have NB120_114 := n9_; clear n0_ n1_ n2_ n3_ n4_ n5_ n6_ n7_ n8_ n9_; clear hb hbox hg; have hnb53 := NB120_111.out; have hnc53 := NB111_120.out; have hnb54 := NB120_114.out; have hnc54 := NB114_120.out; have hcz55_0 : w52.cell? ⟨gb120, 0, none⟩ = some (.string (⟨#[]⟩ : ByteArray)) := (blk_cell BK120.out 0).trans rfl; have hcz55_1 : w52.cell? ⟨gb120, 1, none⟩ = some (.string (⟨#[]⟩ : ByteArray)) := (blk_cell BK120.out 1).trans rfl; have hfz55_0 := blk_frozen BK120.out 0; have hfz55_1 := blk_frozen BK120.out 1; have hnb56 := NB114_111.out; have hnc56 := NB111_114.out; have hcz57_0 : w52.cell? ⟨gb114, 0, none⟩ = some (.string ((rd_T29 l0_3 x65_3).f0)) := (blk_cell BK114.out 0).trans rfl; have hcz57_1 : w52.cell? ⟨gb114, 1, none⟩ = some (.string ((rd_T29 l0_3 x65_3).f1)) := (blk_cell BK114.out 1).trans rfl; have hfz57_0 := blk_frozen BK114.out 0; have hfz57_1 := blk_frozen BK114.out 1))
                                            go_roundg k4
                                            case measure => have := HJ5.out; have := HJ23.out; have := HK3.out; have := HK4.out; omega
                                            case rel => exact ⟨(wrap64 (x75_4 + 1)), (by first | rfl | (simp; done) | (simp [*]; done)), H', ⟨by have := HJ5.out; have := HJ23.out; have := HK3.out; have := HK4.out; omega⟩, ⟨by (with_reducible repeat (first | refine blk_drewN ?_ _ | refine blk_drew ?_ | refine blk_alloc ?_ _)); refine blk_far ?_ NB111_120.out _; (with_reducible repeat (first | refine blk_drewN ?_ _ | refine blk_drew ?_ | refine blk_alloc ?_ _)); refine blk_far ?_ NB111_120.out _; (with_reducible repeat (first | refine blk_drewN ?_ _ | refine blk_drew ?_ | refine blk_alloc ?_ _)); exact BK111.out⟩, ⟨by (with_reducible repeat (first | refine blk_drewN ?_ _ | refine blk_drew ?_ | refine blk_alloc ?_ _)); refine blk_far ?_ NB114_120.out _; (with_reducible repeat (first | refine blk_drewN ?_ _ | refine blk_drew ?_ | refine blk_alloc ?_ _)); refine blk_far ?_ NB114_120.out _; (with_reducible repeat (first | refine blk_drewN ?_ _ | refine blk_drew ?_ | refine blk_alloc ?_ _)); exact BK114.out⟩, ⟨by repeat (first | (with_reducible first | exact HB.out | apply below_alloc | apply pw_below_drewN | apply below_drew1 | refine below_set ?_ GE111.out | refine below_set ?_ GE114.out | refine below_set ?_ GE120.out) | exact HB.out)⟩⟩
                                        · rw [if_neg c44] at H
                                          exact absurd H (by simp)
                                      · rw [if_neg c43] at H
                                        exact absurd H (by simp)
                                    · rw [if_neg c42] at H
                                      have c42b0 : decide (x75_4 < (y115.length : Int)) = false := decide_eq_false c42
                                      clear c42
                                      have H' := Aside0.mk H
                                      clear H
                                      go_wp2
                                      go_roundg k4
                                      case measure => have := HJ5.out; have := HJ23.out; have := HK3.out; have := HK4.out; omega
                                      case rel => exact ⟨(wrap64 (x65_3 + 1)), (by first | rfl | (simp; done) | (simp [*]; done)), H', ⟨by have := HJ5.out; have := HJ23.out; have := HK3.out; have := HK4.out; omega⟩, ⟨by (with_reducible repeat (first | refine blk_drewN ?_ _ | refine blk_drew ?_ | refine blk_alloc ?_ _)); exact BK111.out⟩, ⟨by repeat (first | (with_reducible first | exact HB.out | apply below_alloc | apply pw_below_drewN | apply below_drew1 | refine below_set ?_ GE111.out | refine below_set ?_ GE114.out) | exact HB.out)⟩⟩
                              · rw [if_neg c35] at H
                                exact absurd H (by simp)
                            · rw [if_neg c33] at H
                              exact absurd H (by simp)
                          · rw [if_neg c32] at H
                            exact absurd H (by simp)
                        · rw [if_neg c31] at H
                          have c31b0 : decide (x65_3 < (l0_3.length : Int)) = false := decide_eq_false c31
                          clear c31
                          have H' := Aside0.mk H
                          clear H
                          go_wp2
                          go_meet
                          case rel => exact ⟨_, H', ⟨by have := HJ5.out; have := HJ23.out; have := HK3.out; first | omega | exact Nat.le_refl _⟩, ⟨by (with_reducible repeat (first | refine blk_drewN ?_ _ | refine blk_drew ?_ | refine blk_alloc ?_ _)); exact BK111.out⟩, ⟨by repeat (first | (with_reducible first | exact HB.out | apply below_alloc | apply pw_below_drewN | apply below_drew1 | refine below_set ?_ GE111.out) | exact HB.out)⟩⟩
            · rw [if_neg c23] at H
              have c23b0 : (a0_0 == 0) = false := beq_eq_false_iff_ne.mpr c23
              have c23b1 : (a0_0 != 0) = true := bne_iff_ne.mpr c23
              obtain rfl := Option.some.inj H
              go_wp2
              go_ret
              exact ⟨by first | rfl | (simp [errW_none, errW_some] <;> rfl) | (simp [*, errW_none, errW_some] <;> rfl), by repeat (first | (with_reducible first | exact HB.out | apply below_alloc | apply pw_below_drewN | apply below_drew1 | refine below_set ?_ GE111.out) | exact HB.out)⟩
  case rest =>
    clear HC3
    try clear c1
    try clear p1
    try clear q1
    try clear hx1
    try clear c2
    try clear p2
    try clear c3
    try clear c4
    try clear q4
    try clear c5
    try clear p6
    try clear c7
    try clear c7b0
    try clear c7b1
    try clear c8
    try clear c9
    try clear c9b0
    try clear c9b1
    try clear c9b2
    try clear c10
    try clear c10b0
    try clear c10b1
    try clear p11
    try clear q11
    try clear hx11
    try clear c14
    try clear c14b0
    try clear c14b1
    try clear c15
    try clear c16
    try clear c16b0
    try clear c16b1
    try clear c17
    try clear c17b0
    try clear c17b1
    try clear c18
    try clear c18b0
    try clear c18b1
    try clear c23
    try clear c23b0
    try clear c23b1
    try clear c26
    try clear c29
    try clear c31
    try clear c31b0
    try clear c32
    try clear c32b0
    try clear c33
    try clear c33b0
    try clear c34
    try clear c34b0
    try clear c35
    try clear c35b0
    try clear c35b1
    try clear c37
    try clear q41
    try clear c42
    try clear c42b0
    try clear c43
    try clear c43b0
    try clear c44
    try clear c44b0
    try clear c45
    try clear c45b0
    try clear c45b1
    try clear c47
    try clear c48
    try clear c50
    try clear c53
    try clear c54
    try clear c56
    try clear hcz11_0
    try clear hcz11_1
    try clear hcz11_2
    try clear hcz11_3
    try clear hcz11_4
    try clear hcz12_0
    try clear hcz12_1
    try clear hcz12_2
    try clear hcz12_3
    try clear hcz12_4
    try clear hcz13_0
    try clear hcz13_1
    try clear hcz13_2
    try clear hcz13_3
    try clear hcz13_4
    try clear hcz19_0
    try clear hcz19_1
    try clear hcz19_2
    try clear hcz19_3
    try clear hcz19_4
    try clear hcz20_0
    try clear hcz20_1
    try clear hcz20_2
    try clear hcz20_3
    try clear hcz20_4
    try clear hcz21_0
    try clear hcz21_1
    try clear hcz21_2
    try clear hcz21_3
    try clear hcz21_4
    try clear hcz22_0
    try clear hcz22_1
    try clear hcz22_2
    try clear hcz22_3
    try clear hcz22_4
    try clear hcz27_0
    try clear hcz27_1
    try clear hcz27_2
    try clear hcz27_3
    try clear hcz27_4
    try clear hcz28_0
    try clear hcz28_1
    try clear hcz28_2
    try clear hcz28_3
    try clear hcz28_4
    try clear hcz30_0
    try clear hcz30_1
    try clear hcz30_2
    try clear hcz30_3
    try clear hcz30_4
    try clear hcz38_0
    try clear hcz38_1
    try clear hcz40_0
    try clear hcz40_1
    try clear hcz40_2
    try clear hcz40_3
    try clear hcz40_4
    try clear hcz49_0
    try clear hcz49_1
    try clear hcz51_0
    try clear hcz51_1
    try clear hcz55_0
    try clear hcz55_1
    try clear hcz57_0
    try clear hcz57_1
    try clear hcz5_0
    try clear hcz5_1
    try clear hcz5_2
    try clear hcz5_3
    try clear hcz5_4
    try clear hfz11_0
    try clear hfz11_1
    try clear hfz11_2
    try clear hfz11_3
    try clear hfz11_4
    try clear hfz12_0
    try clear hfz12_1
    try clear hfz12_2
    try clear hfz12_3
    try clear hfz12_4
    try clear hfz13_0
    try clear hfz13_1
    try clear hfz13_2
    try clear hfz13_3
    try clear hfz13_4
    try clear hfz19_0
    try clear hfz19_1
    try clear hfz19_2
    try clear hfz19_3
    try clear hfz19_4
    try clear hfz20_0
    try clear hfz20_1
    try clear hfz20_2
    try clear hfz20_3
    try clear hfz20_4
    try clear hfz21_0
    try clear hfz21_1
    try clear hfz21_2
    try clear hfz21_3
    try clear hfz21_4
    try clear hfz22_0
    try clear hfz22_1
    try clear hfz22_2
    try clear hfz22_3
    try clear hfz22_4
    try clear hfz27_0
    try clear hfz27_1
    try clear hfz27_2
    try clear hfz27_3
    try clear hfz27_4
    try clear hfz28_0
    try clear hfz28_1
    try clear hfz28_2
    try clear hfz28_3
    try clear hfz28_4
    try clear hfz30_0
    try clear hfz30_1
    try clear hfz30_2
    try clear hfz30_3
    try clear hfz30_4
    try clear hfz38_0
    try clear hfz38_1
    try clear hfz40_0
    try clear hfz40_1
    try clear hfz40_2
    try clear hfz40_3
    try clear hfz40_4
    try clear hfz49_0
    try clear hfz49_1
    try clear hfz51_0
    try clear hfz51_1
    try clear hfz55_0
    try clear hfz55_1
    try clear hfz57_0
    try clear hfz57_1
    try clear hfz5_0
    try clear hfz5_1
    try clear hfz5_2
    try clear hfz5_3
    try clear hfz5_4
    try clear hx113_0
    try clear hx113_1
    try clear hx119_0
    try clear hx119_1
    try clear p1
    try clear p11
    try clear p113
    try clear p119
    try clear p2
    try clear q1
    try clear q11
    try clear q113
    try clear q119
    try clear q4
    try clear q41
    obtain ⟨kq, HA, HJ2, BK111, HB⟩ := hcut
    cases kq with
    | zero => exact absurd HA.out (by simp [laws_right29.j4])
    | succ kj2 =>
      have H := HA.out
      clear HA
      simp only [laws_right29.j4] at H
      have H' := Aside0.mk H
      clear H
      have hcz58_0 : wc.cell? ⟨gb111, 0, none⟩ = some (.int .i64 a0_0) := (blk_cell BK111.out 0).trans rfl
      have hcz58_1 : wc.cell? ⟨gb111, 1, none⟩ = some (.string a0_1) := (blk_cell BK111.out 1).trans rfl
      have hcz58_2 : wc.cell? ⟨gb111, 2, none⟩ = some (.string a0_2) := (blk_cell BK111.out 2).trans rfl
      have hcz58_3 : wc.cell? ⟨gb111, 3, none⟩ = some (.slice A0_3 l0_3.length c0_3) := (blk_cell BK111.out 3).trans rfl
      have hcz58_4 : wc.cell? ⟨gb111, 4, none⟩ = some (.slice A0_4 l0_4.length c0_4) := (blk_cell BK111.out 4).trans rfl
      have hfz58_0 := blk_frozen BK111.out 0
      have hfz58_1 := blk_frozen BK111.out 1
      have hfz58_2 := blk_frozen BK111.out 2
      have hfz58_3 := blk_frozen BK111.out 3
      have hfz58_4 := blk_frozen BK111.out 4
      go_wp2
      go_loopg [89] kj2 (fun kq v89 w' => ∃ (x89_2 : Int), v89 = .int .i64 x89_2 ∧ Aside0 (laws_right29.l2 kq l0_4 (l0_4.length : Int) x89_2 = some r) ∧ Aside0 (kq ≤ kj2) ∧ Aside0 (w'.heap[gb111]? = some (.cells #[.int .i64 a0_0, .string a0_1, .string a0_2, (.slice A0_3 l0_3.length c0_3), (.slice A0_4 l0_4.length c0_4)] 25 (0, 0))) ∧ Aside0 (Below w.heap.size w w'))
      case atStart => exact ⟨(0), (by first | rfl | (simp; done) | (simp [*]; done)), H', ⟨Nat.le_refl _⟩, ⟨by (with_reducible repeat (first | refine blk_drewN ?_ _ | refine blk_drew ?_ | refine blk_alloc ?_ _)); exact BK111.out⟩, ⟨by repeat (first | (with_reducible first | exact HB.out | apply below_alloc | apply pw_below_drewN | apply below_drew1 | refine below_set ?_ GE111.out) | exact HB.out)⟩⟩
      case round =>
        clear H'
        try clear c1
        try clear p1
        try clear q1
        try clear hx1
        try clear c2
        try clear p2
        try clear c3
        try clear c4
        try clear q4
        try clear c5
        try clear p6
        try clear c7
        try clear c7b0
        try clear c7b1
        try clear c8
        try clear c9
        try clear c9b0
        try clear c9b1
        try clear c9b2
        try clear c10
        try clear c10b0
        try clear c10b1
        try clear p11
        try clear q11
        try clear hx11
        try clear c14
        try clear c14b0
        try clear c14b1
        try clear c15
        try clear c16
        try clear c16b0
        try clear c16b1
        try clear c17
        try clear c17b0
        try clear c17b1
        try clear c18
        try clear c18b0
        try clear c18b1
        try clear c23
        try clear c23b0
        try clear c23b1
        try clear c26
        try clear c29
        try clear c31
        try clear c31b0
        try clear c32
        try clear c32b0
        try clear c33
        try clear c33b0
        try clear c34
        try clear c34b0
        try clear c35
        try clear c35b0
        try clear c35b1
        try clear c37
        try clear q41
        try clear c42
        try clear c42b0
        try clear c43
        try clear c43b0
        try clear c44
        try clear c44b0
        try clear c45
        try clear c45b0
        try clear c45b1
        try clear c47
        try clear c48
        try clear c50
        try clear c53
        try clear c54
        try clear c56
        try clear hcz11_0
        try clear hcz11_1
        try clear hcz11_2
        try clear hcz11_3
        try clear hcz11_4
        try clear hcz12_0
        try clear hcz12_1
        try clear hcz12_2
        try clear hcz12_3
        try clear hcz12_4
        try clear hcz13_0
        try clear hcz13_1
        try clear hcz13_2
        try clear hcz13_3
        try clear hcz13_4
        try clear hcz19_0
        try clear hcz19_1
        try clear hcz19_2
        try clear hcz19_3
        try clear hcz19_4
        try clear hcz20_0
        try clear hcz20_1
        try clear hcz20_2
        try clear hcz20_3
        try clear hcz20_4
        try clear hcz21_0
        try clear hcz21_1
        try clear hcz21_2
        try clear hcz21_3
        try clear hcz21_4
        try clear hcz22_0
        try clear hcz22_1
        try clear hcz22_2
        try clear hcz22_3
        try clear hcz22_4
        try clear hcz27_0
        try clear hcz27_1
        try clear hcz27_2
        try clear hcz27_3
        try clear hcz27_4
        try clear hcz28_0
        try clear hcz28_1
        try clear hcz28_2
        try clear hcz28_3
        try clear hcz28_4
        try clear hcz30_0
        try clear hcz30_1
        try clear hcz30_2
        try clear hcz30_3
        try clear hcz30_4
        try clear hcz38_0
        try clear hcz38_1
        try clear hcz40_0
        try clear hcz40_1
        try clear hcz40_2
        try clear hcz40_3
        try clear hcz40_4
        try clear hcz49_0
        try clear hcz49_1
        try clear hcz51_0
        try clear hcz51_1
        try clear hcz55_0
        try clear hcz55_1
        try clear hcz57_0
        try clear hcz57_1
        try clear hcz58_0
        try clear hcz58_1
        try clear hcz58_2
        try clear hcz58_3
        try clear hcz58_4
        try clear hcz5_0
        try clear hcz5_1
        try clear hcz5_2
        try clear hcz5_3
        try clear hcz5_4
        try clear hfz11_0
        try clear hfz11_1
        try clear hfz11_2
        try clear hfz11_3
        try clear hfz11_4
        try clear hfz12_0
        try clear hfz12_1
        try clear hfz12_2
        try clear hfz12_3
        try clear hfz12_4
        try clear hfz13_0
        try clear hfz13_1
        try clear hfz13_2
        try clear hfz13_3
        try clear hfz13_4
        try clear hfz19_0
        try clear hfz19_1
        try clear hfz19_2
        try clear hfz19_3
        try clear hfz19_4
        try clear hfz20_0
        try clear hfz20_1
        try clear hfz20_2
        try clear hfz20_3
        try clear hfz20_4
        try clear hfz21_0
        try clear hfz21_1
        try clear hfz21_2
        try clear hfz21_3
        try clear hfz21_4
        try clear hfz22_0
        try clear hfz22_1
        try clear hfz22_2
        try clear hfz22_3
        try clear hfz22_4
        try clear hfz27_0
        try clear hfz27_1
        try clear hfz27_2
        try clear hfz27_3
        try clear hfz27_4
        try clear hfz28_0
        try clear hfz28_1
        try clear hfz28_2
        try clear hfz28_3
        try clear hfz28_4
        try clear hfz30_0
        try clear hfz30_1
        try clear hfz30_2
        try clear hfz30_3
        try clear hfz30_4
        try clear hfz38_0
        try clear hfz38_1
        try clear hfz40_0
        try clear hfz40_1
        try clear hfz40_2
        try clear hfz40_3
        try clear hfz40_4
        try clear hfz49_0
        try clear hfz49_1
        try clear hfz51_0
        try clear hfz51_1
        try clear hfz55_0
        try clear hfz55_1
        try clear hfz57_0
        try clear hfz57_1
        try clear hfz58_0
        try clear hfz58_1
        try clear hfz58_2
        try clear hfz58_3
        try clear hfz58_4
        try clear hfz5_0
        try clear hfz5_1
        try clear hfz5_2
        try clear hfz5_3
        try clear hfz5_4
        try clear hx113_0
        try clear hx113_1
        try clear hx119_0
        try clear hx119_1
        try clear p1
        try clear p11
        try clear p113
        try clear p119
        try clear p2
        try clear p6
        try clear q1
        try clear q11
        try clear q113
        try clear q119
        try clear q4
        try clear q41
        obtain ⟨x89_2, rfl, HA, HK2, BK111, HB⟩ := hrel
        cases gk with
        | zero => exact absurd HA.out (by simp [laws_right29.l2])
        | succ k2 =>
          have H := HA.out
          clear HA
          simp only [laws_right29.l2] at H
          by_cases c59 : x89_2 < (l0_4.length : Int)
          · rw [if_pos c59] at H
            have c59b0 : decide (x89_2 < (l0_4.length : Int)) = true := decide_eq_true c59
            clear c59
            by_cases c60 : 0 ≤ x89_2
            · rw [if_pos c60] at H
              have c60b0 : decide (0 ≤ x89_2) = true := decide_eq_true c60
              clear c60
              by_cases c61 : x89_2 < (l0_4.length : Int)
              · rw [if_pos c61] at H
                have c61b0 : decide (x89_2 < (l0_4.length : Int)) = true := decide_eq_true c61
                clear c61
                replace H := Option.bind_eq_some_iff.mp H
                obtain ⟨t123, A620, H⟩ := H
                replace H : (if t123 = true then (laws_right29.l2 k2 l0_4 (l0_4.length : Int) (wrap64 (x89_2 + 1))) else (some false)) = some r := H
                have A62 := Aside0.mk A620
                clear A620
                by_cases c63 : t123 = true
                · subst c63
                  have H1 : (laws_right29.l2 k2 l0_4 (l0_4.length : Int) (wrap64 (x89_2 + 1))) = some r := by rw [if_pos rfl] at H; exact H
                  clear H
                  have H := H1
                  clear H1
                  have H' := Aside0.mk H
                  clear H
                  have p121 : 0 ≤ (x89_2 : Int) := of_decide_eq_true (by first | (with_reducible assumption) | assumption)
                  have q121 : x89_2 < (l0_4.length : Int) := of_decide_eq_true (by first | (with_reducible assumption) | assumption)
                  obtain ⟨ad121, A121_3, c121_3, A121_4, c121_4, e121, hx121_0, hx121_1, hx121_2, hx121_3, hx121_4, hl121_3, hi121_3, hl121_4, hi121_4⟩ := at_T25 HR0_4.out x89_2 p121 q121
                  cases e121
                  replace hx121_0 := (HB.out.cell (World.block_lt_of_cell? w _ hx121_0)).trans hx121_0
                  replace hx121_1 := (HB.out.cell (World.block_lt_of_cell? w _ hx121_1)).trans hx121_1
                  replace hx121_2 := (HB.out.cell (World.block_lt_of_cell? w _ hx121_2)).trans hx121_2
                  replace hx121_3 := (HB.out.cell (World.block_lt_of_cell? w _ hx121_3)).trans hx121_3
                  replace hx121_4 := (HB.out.cell (World.block_lt_of_cell? w _ hx121_4)).trans hx121_4
                  have HR121_3 := Aside0.mk hi121_3
                  have HC121_3 := Aside0.mk hl121_3
                  clear hi121_3 hl121_3
                  have HR121_4 := Aside0.mk hi121_4
                  have HC121_4 := Aside0.mk hl121_4
                  clear hi121_4 hl121_4
                  replace p121 := eq_true p121
                  replace q121 := eq_true q121
                  go_wp2_with (first | ((with_reducible refine gate_dst (N := 10) rfl ?_); (try (refine gate_guard (by rfl) ?_; dsimp only)); refine box_event ?hg (N := 10) ?hd (cs := #[.int .i64 0, .string (⟨#[]⟩ : ByteArray), .string (⟨#[]⟩ : ByteArray), .slice none 0 0, .slice none 0 0]) (t := 25) ?hr ?_; (case hd => rfl); (case hg => rfl); (case hr => first | (go_simp; done) | (go_simp; rfl)); intro gb122 hg w64 hbox hb; have n0_ := Aside0.mk (blk_below (g := gb111) (o := .cells #[.int .i64 a0_0, .string a0_1, .string a0_2, .slice A0_3 l0_3.length c0_3, .slice (some ad121) l0_4.length c0_4] 25 (0, 0)) (by (with_reducible repeat (first | refine blk_drewN ?_ _ | refine blk_drew ?_ | refine blk_alloc ?_ _)); exact BK111.out) hb); have n1_ := Aside0.mk (below_step (by repeat (first | (with_reducible first | exact HB.out | apply below_alloc | apply pw_below_drewN | apply below_drew1 | refine below_set ?_ GE111.out) | exact HB.out)) hb); have n2_ := Aside0.mk (hbox); have n3_ := Aside0.mk ((by rw [hg]; exact (below_size (by repeat (first | (with_reducible first | exact HB.out | apply below_alloc | apply pw_below_drewN | apply below_drew1 | refine below_set ?_ GE111.out) | exact HB.out))) : w.heap.size ≤ gb122)); have n4_ := Aside0.mk ((by rw [hg]; exact (below_size (by repeat (first | (with_reducible first | exact HB.out | apply below_alloc | apply pw_below_drewN | apply below_drew1 | refine below_set ?_ GE111.out) | exact HB.out))) : w.heap.size ≤ gb122)); have n5_ := Aside0.mk ((by rw [hg]; exact Nat.ne_of_lt (blk_lt (g := gb111) (o := .cells #[.int .i64 a0_0, .string a0_1, .string a0_2, .slice A0_3 l0_3.length c0_3, .slice (some ad121) l0_4.length c0_4] 25 (0, 0)) (by (with_reducible repeat (first | refine blk_drewN ?_ _ | refine blk_drew ?_ | refine blk_alloc ?_ _)); exact BK111.out)) : gb111 ≠ gb122)); have n6_ := Aside0.mk ((by rw [hg]; exact Nat.ne_of_gt (blk_lt (g := gb111) (o := .cells #[.int .i64 a0_0, .string a0_1, .string a0_2, .slice A0_3 l0_3.length c0_3, .slice (some ad121) l0_4.length c0_4] 25 (0, 0)) (by (with_reducible repeat (first | refine blk_drewN ?_ _ | refine blk_drew ?_ | refine blk_alloc ?_ _)); exact BK111.out)) : gb122 ≠ gb111)); clear BK111; clear HB; have BK111 := n0_; have HB := n1_; have BK122 := n2_; have GW122 := n3_; have GE122 := n4_; have NB111_122 := n5_; have NB122_111 := n6_; clear n0_ n1_ n2_ n3_ n4_ n5_ n6_; clear hb hbox hg; have hnb65 := NB122_111.out; have hnc65 := NB111_122.out; have hcz66_0 : w64.cell? ⟨gb122, 0, none⟩ = some (.int .i64 0) := (blk_cell BK122.out 0).trans rfl; have hcz66_1 : w64.cell? ⟨gb122, 1, none⟩ = some (.string (⟨#[]⟩ : ByteArray)) := (blk_cell BK122.out 1).trans rfl; have hcz66_2 : w64.cell? ⟨gb122, 2, none⟩ = some (.string (⟨#[]⟩ : ByteArray)) := (blk_cell BK122.out 2).trans rfl; have hcz66_3 : w64.cell? ⟨gb122, 3, none⟩ = some (.slice none 0 0) := (blk_cell BK122.out 3).trans rfl; have hcz66_4 : w64.cell? ⟨gb122, 4, none⟩ = some (.slice none 0 0) := (blk_cell BK122.out 4).trans rfl; have hfz66_0 := blk_frozen BK122.out 0; have hfz66_1 := blk_frozen BK122.out 1; have hfz66_2 := blk_frozen BK122.out 2; have hfz66_3 := blk_frozen BK122.out 3; have hfz66_4 := blk_frozen BK122.out 4) | ((with_reducible refine gate_callee (f := 29) rfl ?_); refine goesL_ (some 94) rfl rfl Tryd.func29 (by kernel_rfl) rfl #[.agg #[.int .i64 ((rd_T25 l0_4 x89_2).f0), .string ((rd_T25 l0_4 x89_2).f1), .string ((rd_T25 l0_4 x89_2).f2), .slice A121_3 ((rd_T25 l0_4 x89_2).f3).length c121_3, .slice A121_4 ((rd_T25 l0_4 x89_2).f4).length c121_4], .bool false] rfl (by (try simp only [List.map_toArray, List.map_cons, List.map_nil]); first | done | rfl | (simp only [List.length_drop, List.length_take]; rfl)) ?_; (with_reducible refine (ih k2 (by have := HJ2.out; have := HK2.out; omega) ((rd_T25 l0_4 x89_2).f0) ((rd_T25 l0_4 x89_2).f1) ((rd_T25 l0_4 x89_2).f2) _ _ ((rd_T25 l0_4 x89_2).f3) _ _ ((rd_T25 l0_4 x89_2).f4) false true _ ?side1 ?side2 ?side3 ?side4 A62.out).mono ?_); (case side1 => exact Kd.C_below HR121_3.out (by repeat (first | (with_reducible first | exact HB.out | apply below_alloc | apply pw_below_drewN | apply below_drew1 | refine below_set ?_ GE111.out | refine below_set ?_ GE122.out) | exact HB.out))); (case side2 => exact HC121_3.out); (case side3 => exact Kd.C_below HR121_4.out (by repeat (first | (with_reducible first | exact HB.out | apply below_alloc | apply pw_below_drewN | apply below_drew1 | refine below_set ?_ GE111.out | refine below_set ?_ GE122.out) | exact HB.out))); (case side4 => exact HC121_4.out); rintro e w67 ⟨rfl, hb⟩; refine ⟨_, rfl, ?_⟩; have n0_ := Aside0.mk (blk_below (g := gb111) (o := .cells #[.int .i64 a0_0, .string a0_1, .string a0_2, .slice A0_3 l0_3.length c0_3, .slice (some ad121) l0_4.length c0_4] 25 (0, 0)) (by (with_reducible repeat (first | refine blk_drewN ?_ _ | refine blk_drew ?_ | refine blk_alloc ?_ _)); refine blk_far ?_ NB111_122.out _; (with_reducible repeat (first | refine blk_drewN ?_ _ | refine blk_drew ?_ | refine blk_alloc ?_ _)); refine blk_far ?_ NB111_122.out _; (with_reducible repeat (first | refine blk_drewN ?_ _ | refine blk_drew ?_ | refine blk_alloc ?_ _)); refine blk_far ?_ NB111_122.out _; (with_reducible repeat (first | refine blk_drewN ?_ _ | refine blk_drew ?_ | refine blk_alloc ?_ _)); refine blk_far ?_ NB111_122.out _; (with_reducible repeat (first | refine blk_drewN ?_ _ | refine blk_drew ?_ | refine blk_alloc ?_ _)); refine blk_far ?_ NB111_122.out _; (with_reducible repeat (first | refine blk_drewN ?_ _ | refine blk_drew ?_ | refine blk_alloc ?_ _)); exact BK111.out) hb); have n1_ := Aside0.mk (blk_below (g := gb122) (o := .cells #[.int .i64 ((rd_T25 l0_4 x89_2).f0), .string ((rd_T25 l0_4 x89_2).f1), .string ((rd_T25 l0_4 x89_2).f2), .slice A121_3 ((rd_T25 l0_4 x89_2).f3).length c121_3, .slice A121_4 ((rd_T25 l0_4 x89_2).f4).length c121_4] 25 (0, 0)) (by (with_reducible repeat (first | refine blk_drewN ?_ _ | refine blk_drew ?_ | refine blk_alloc ?_ _)); refine blk_put (cs := #[.int .i64 ((rd_T25 l0_4 x89_2).f0), .string ((rd_T25 l0_4 x89_2).f1), .string ((rd_T25 l0_4 x89_2).f2), .slice A121_3 ((rd_T25 l0_4 x89_2).f3).length c121_3, .slice none 0 0]) ?_ 4 _ rfl; (with_reducible repeat (first | refine blk_drewN ?_ _ | refine blk_drew ?_ | refine blk_alloc ?_ _)); refine blk_put (cs := #[.int .i64 ((rd_T25 l0_4 x89_2).f0), .string ((rd_T25 l0_4 x89_2).f1), .string ((rd_T25 l0_4 x89_2).f2), .slice none 0 0, .slice none 0 0]) ?_ 3 _ rfl; (with_reducible repeat (first | refine blk_drewN ?_ _ | refine blk_drew ?_ | refine blk_alloc ?_ _)); refine blk_put (cs := #[.int .i64 ((rd_T25 l0_4 x89_2).f0), .string ((rd_T25 l0_4 x89_2).f1), .string (⟨#[]⟩ : ByteArray), .slice none 0 0, .slice none 0 0]) ?_ 2 _ rfl; (with_reducible repeat (first | refine blk_drewN ?_ _ | refine blk_drew ?_ | refine blk_alloc ?_ _)); refine blk_put (cs := #[.int .i64 ((rd_T25 l0_4 x89_2).f0), .string (⟨#[]⟩ : ByteArray), .string (⟨#[]⟩ : ByteArray), .slice none 0 0, .slice none 0 0]) ?_ 1 _ rfl; (with_reducible repeat (first | refine blk_drewN ?_ _ | refine blk_drew ?_ | refine blk_alloc ?_ _)); refine blk_put (cs := #[.int .i64 0, .string (⟨#[]⟩ : ByteArray), .string (⟨#[]⟩ : ByteArray), .slice none 0 0, .slice none 0 0]) ?_ 0 _ rfl; (with_reducible repeat (first | refine blk_drewN ?_ _ | refine blk_drew ?_ | refine blk_alloc ?_ _)); exact BK122.out) hb); have n2_ := Aside0.mk (below_step (by repeat (first | (with_reducible first | exact HB.out | apply below_alloc | apply pw_below_drewN | apply below_drew1 | refine below_set ?_ GE111.out | refine below_set ?_ GE122.out) | exact HB.out)) hb); clear BK111; clear BK122; clear HB; have BK111 := n0_; have BK122 := n1_; have HB := n2_; clear n0_ n1_ n2_; (try clear hb); (try clear hb2); (try clear hk); (try clear hi)))
                  go_roundg k2
                  case measure => have := HJ2.out; have := HK2.out; omega
                  case rel => exact ⟨(wrap64 (x89_2 + 1)), (by first | rfl | (simp; done) | (simp [*]; done)), H', ⟨by have := HJ2.out; have := HK2.out; omega⟩, ⟨by (with_reducible repeat (first | refine blk_drewN ?_ _ | refine blk_drew ?_ | refine blk_alloc ?_ _)); exact BK111.out⟩, ⟨by repeat (first | (with_reducible first | exact HB.out | apply below_alloc | apply pw_below_drewN | apply below_drew1 | refine below_set ?_ GE111.out | refine below_set ?_ GE122.out) | exact HB.out)⟩⟩
                · replace c63 := Bool.eq_false_iff.mpr c63
                  subst c63
                  have H1 : (some false) = some r := by rw [if_neg (show ¬ (false = true) by decide)] at H; exact H
                  clear H
                  have H := H1
                  clear H1
                  obtain rfl := Option.some.inj H
                  have p121 : 0 ≤ (x89_2 : Int) := of_decide_eq_true (by first | (with_reducible assumption) | assumption)
                  have q121 : x89_2 < (l0_4.length : Int) := of_decide_eq_true (by first | (with_reducible assumption) | assumption)
                  obtain ⟨ad121, A121_3, c121_3, A121_4, c121_4, e121, hx121_0, hx121_1, hx121_2, hx121_3, hx121_4, hl121_3, hi121_3, hl121_4, hi121_4⟩ := at_T25 HR0_4.out x89_2 p121 q121
                  cases e121
                  replace hx121_0 := (HB.out.cell (World.block_lt_of_cell? w _ hx121_0)).trans hx121_0
                  replace hx121_1 := (HB.out.cell (World.block_lt_of_cell? w _ hx121_1)).trans hx121_1
                  replace hx121_2 := (HB.out.cell (World.block_lt_of_cell? w _ hx121_2)).trans hx121_2
                  replace hx121_3 := (HB.out.cell (World.block_lt_of_cell? w _ hx121_3)).trans hx121_3
                  replace hx121_4 := (HB.out.cell (World.block_lt_of_cell? w _ hx121_4)).trans hx121_4
                  have HR121_3 := Aside0.mk hi121_3
                  have HC121_3 := Aside0.mk hl121_3
                  clear hi121_3 hl121_3
                  have HR121_4 := Aside0.mk hi121_4
                  have HC121_4 := Aside0.mk hl121_4
                  clear hi121_4 hl121_4
                  replace p121 := eq_true p121
                  replace q121 := eq_true q121
                  go_wp2_with (first | ((with_reducible refine gate_dst (N := 10) rfl ?_); (try (refine gate_guard (by rfl) ?_; dsimp only)); refine box_event ?hg (N := 10) ?hd (cs := #[.int .i64 0, .string (⟨#[]⟩ : ByteArray), .string (⟨#[]⟩ : ByteArray), .slice none 0 0, .slice none 0 0]) (t := 25) ?hr ?_; (case hd => rfl); (case hg => rfl); (case hr => first | (go_simp; done) | (go_simp; rfl)); intro gb122 hg w68 hbox hb; have n0_ := Aside0.mk (blk_below (g := gb111) (o := .cells #[.int .i64 a0_0, .string a0_1, .string a0_2, .slice A0_3 l0_3.length c0_3, .slice (some ad121) l0_4.length c0_4] 25 (0, 0)) (by (with_reducible repeat (first | refine blk_drewN ?_ _ | refine blk_drew ?_ | refine blk_alloc ?_ _)); exact BK111.out) hb); have n1_ := Aside0.mk (below_step (by repeat (first | (with_reducible first | exact HB.out | apply below_alloc | apply pw_below_drewN | apply below_drew1 | refine below_set ?_ GE111.out) | exact HB.out)) hb); have n2_ := Aside0.mk (hbox); have n3_ := Aside0.mk ((by rw [hg]; exact (below_size (by repeat (first | (with_reducible first | exact HB.out | apply below_alloc | apply pw_below_drewN | apply below_drew1 | refine below_set ?_ GE111.out) | exact HB.out))) : w.heap.size ≤ gb122)); have n4_ := Aside0.mk ((by rw [hg]; exact (below_size (by repeat (first | (with_reducible first | exact HB.out | apply below_alloc | apply pw_below_drewN | apply below_drew1 | refine below_set ?_ GE111.out) | exact HB.out))) : w.heap.size ≤ gb122)); have n5_ := Aside0.mk ((by rw [hg]; exact Nat.ne_of_lt (blk_lt (g := gb111) (o := .cells #[.int .i64 a0_0, .string a0_1, .string a0_2, .slice A0_3 l0_3.length c0_3, .slice (some ad121) l0_4.length c0_4] 25 (0, 0)) (by (with_reducible repeat (first | refine blk_drewN ?_ _ | refine blk_drew ?_ | refine blk_alloc ?_ _)); exact BK111.out)) : gb111 ≠ gb122)); have n6_ := Aside0.mk ((by rw [hg]; exact Nat.ne_of_gt (blk_lt (g := gb111) (o := .cells #[.int .i64 a0_0, .string a0_1, .string a0_2, .slice A0_3 l0_3.length c0_3, .slice (some ad121) l0_4.length c0_4] 25 (0, 0)) (by (with_reducible repeat (first | refine blk_drewN ?_ _ | refine blk_drew ?_ | refine blk_alloc ?_ _)); exact BK111.out)) : gb122 ≠ gb111)); clear BK111; clear HB; have BK111 := n0_; have HB := n1_; have BK122 := n2_; have GW122 := n3_; have GE122 := n4_; have NB111_122 := n5_; have NB122_111 := n6_; clear n0_ n1_ n2_ n3_ n4_ n5_ n6_; clear hb hbox hg; have hnb69 := NB122_111.out; have hnc69 := NB111_122.out; have hcz70_0 : w68.cell? ⟨gb122, 0, none⟩ = some (.int .i64 0) := (blk_cell BK122.out 0).trans rfl; have hcz70_1 : w68.cell? ⟨gb122, 1, none⟩ = some (.string (⟨#[]⟩ : ByteArray)) := (blk_cell BK122.out 1).trans rfl; have hcz70_2 : w68.cell? ⟨gb122, 2, none⟩ = some (.string (⟨#[]⟩ : ByteArray)) := (blk_cell BK122.out 2).trans rfl; have hcz70_3 : w68.cell? ⟨gb122, 3, none⟩ = some (.slice none 0 0) := (blk_cell BK122.out 3).trans rfl; have hcz70_4 : w68.cell? ⟨gb122, 4, none⟩ = some (.slice none 0 0) := (blk_cell BK122.out 4).trans rfl; have hfz70_0 := blk_frozen BK122.out 0; have hfz70_1 := blk_frozen BK122.out 1; have hfz70_2 := blk_frozen BK122.out 2; have hfz70_3 := blk_frozen BK122.out 3; have hfz70_4 := blk_frozen BK122.out 4) | ((with_reducible refine gate_callee (f := 29) rfl ?_); refine goesL_ (some 94) rfl rfl Tryd.func29 (by kernel_rfl) rfl #[.agg #[.int .i64 ((rd_T25 l0_4 x89_2).f0), .string ((rd_T25 l0_4 x89_2).f1), .string ((rd_T25 l0_4 x89_2).f2), .slice A121_3 ((rd_T25 l0_4 x89_2).f3).length c121_3, .slice A121_4 ((rd_T25 l0_4 x89_2).f4).length c121_4], .bool false] rfl (by (try simp only [List.map_toArray, List.map_cons, List.map_nil]); first | done | rfl | (simp only [List.length_drop, List.length_take]; rfl)) ?_; (with_reducible refine (ih k2 (by have := HJ2.out; have := HK2.out; omega) ((rd_T25 l0_4 x89_2).f0) ((rd_T25 l0_4 x89_2).f1) ((rd_T25 l0_4 x89_2).f2) _ _ ((rd_T25 l0_4 x89_2).f3) _ _ ((rd_T25 l0_4 x89_2).f4) false false _ ?side1 ?side2 ?side3 ?side4 A62.out).mono ?_); (case side1 => exact Kd.C_below HR121_3.out (by repeat (first | (with_reducible first | exact HB.out | apply below_alloc | apply pw_below_drewN | apply below_drew1 | refine below_set ?_ GE111.out | refine below_set ?_ GE122.out) | exact HB.out))); (case side2 => exact HC121_3.out); (case side3 => exact Kd.C_below HR121_4.out (by repeat (first | (with_reducible first | exact HB.out | apply below_alloc | apply pw_below_drewN | apply below_drew1 | refine below_set ?_ GE111.out | refine below_set ?_ GE122.out) | exact HB.out))); (case side4 => exact HC121_4.out); rintro e w71 ⟨rfl, hb⟩; refine ⟨_, rfl, ?_⟩; have n0_ := Aside0.mk (blk_below (g := gb111) (o := .cells #[.int .i64 a0_0, .string a0_1, .string a0_2, .slice A0_3 l0_3.length c0_3, .slice (some ad121) l0_4.length c0_4] 25 (0, 0)) (by (with_reducible repeat (first | refine blk_drewN ?_ _ | refine blk_drew ?_ | refine blk_alloc ?_ _)); refine blk_far ?_ NB111_122.out _; (with_reducible repeat (first | refine blk_drewN ?_ _ | refine blk_drew ?_ | refine blk_alloc ?_ _)); refine blk_far ?_ NB111_122.out _; (with_reducible repeat (first | refine blk_drewN ?_ _ | refine blk_drew ?_ | refine blk_alloc ?_ _)); refine blk_far ?_ NB111_122.out _; (with_reducible repeat (first | refine blk_drewN ?_ _ | refine blk_drew ?_ | refine blk_alloc ?_ _)); refine blk_far ?_ NB111_122.out _; (with_reducible repeat (first | refine blk_drewN ?_ _ | refine blk_drew ?_ | refine blk_alloc ?_ _)); refine blk_far ?_ NB111_122.out _; (with_reducible repeat (first | refine blk_drewN ?_ _ | refine blk_drew ?_ | refine blk_alloc ?_ _)); exact BK111.out) hb); have n1_ := Aside0.mk (blk_below (g := gb122) (o := .cells #[.int .i64 ((rd_T25 l0_4 x89_2).f0), .string ((rd_T25 l0_4 x89_2).f1), .string ((rd_T25 l0_4 x89_2).f2), .slice A121_3 ((rd_T25 l0_4 x89_2).f3).length c121_3, .slice A121_4 ((rd_T25 l0_4 x89_2).f4).length c121_4] 25 (0, 0)) (by (with_reducible repeat (first | refine blk_drewN ?_ _ | refine blk_drew ?_ | refine blk_alloc ?_ _)); refine blk_put (cs := #[.int .i64 ((rd_T25 l0_4 x89_2).f0), .string ((rd_T25 l0_4 x89_2).f1), .string ((rd_T25 l0_4 x89_2).f2), .slice A121_3 ((rd_T25 l0_4 x89_2).f3).length c121_3, .slice none 0 0]) ?_ 4 _ rfl; (with_reducible repeat (first | refine blk_drewN ?_ _ | refine blk_drew ?_ | refine blk_alloc ?_ _)); refine blk_put (cs := #[.int .i64 ((rd_T25 l0_4 x89_2).f0), .string ((rd_T25 l0_4 x89_2).f1), .string ((rd_T25 l0_4 x89_2).f2), .slice none 0 0, .slice none 0 0]) ?_ 3 _ rfl; (with_reducible repeat (first | refine blk_drewN ?_ _ | refine blk_drew ?_ | refine blk_alloc ?_ _)); refine blk_put (cs := #[.int .i64 ((rd_T25 l0_4 x89_2).f0), .string ((rd_T25 l0_4 x89_2).f1), .string (⟨#[]⟩ : ByteArray), .slice none 0 0, .slice none 0 0]) ?_ 2 _ rfl; (with_reducible repeat (first | refine blk_drewN ?_ _ | refine blk_drew ?_ | refine blk_alloc ?_ _)); refine blk_put (cs := #[.int .i64 ((rd_T25 l0_4 x89_2).f0), .string (⟨#[]⟩ : ByteArray), .string (⟨#[]⟩ : ByteArray), .slice none 0 0, .slice none 0 0]) ?_ 1 _ rfl; (with_reducible repeat (first | refine blk_drewN ?_ _ | refine blk_drew ?_ | refine blk_alloc ?_ _)); refine blk_put (cs := #[.int .i64 0, .string (⟨#[]⟩ : ByteArray), .string (⟨#[]⟩ : ByteArray), .slice none 0 0, .slice none 0 0]) ?_ 0 _ rfl; (with_reducible repeat (first | refine blk_drewN ?_ _ | refine blk_drew ?_ | refine blk_alloc ?_ _)); exact BK122.out) hb); have n2_ := Aside0.mk (below_step (by repeat (first | (with_reducible first | exact HB.out | apply below_alloc | apply pw_below_drewN | apply below_drew1 | refine below_set ?_ GE111.out | refine below_set ?_ GE122.out) | exact HB.out)) hb); clear BK111; clear BK122; clear HB; have BK111 := n0_; have BK122 := n1_; have HB := n2_; clear n0_ n1_ n2_; (try clear hb); (try clear hb2); (try clear hk); (try clear hi)))
                  go_ret
                  exact ⟨by first | rfl | (simp [errW_none, errW_some] <;> rfl) | (simp [*, errW_none, errW_some] <;> rfl), by repeat (first | (with_reducible first | exact HB.out | apply below_alloc | apply pw_below_drewN | apply below_drew1 | refine below_set ?_ GE111.out | refine below_set ?_ GE122.out) | exact HB.out)⟩
              · rw [if_neg c61] at H
                exact absurd H (by simp)
            · rw [if_neg c60] at H
              exact absurd H (by simp)
          · rw [if_neg c59] at H
            have c59b0 : decide (x89_2 < (l0_4.length : Int)) = false := decide_eq_false c59
            clear c59
            obtain rfl := Option.some.inj H
            go_wp2
            go_ret
            exact ⟨by first | rfl | (simp [errW_none, errW_some] <;> rfl) | (simp [*, errW_none, errW_some] <;> rfl), by repeat (first | (with_reducible first | exact HB.out | apply below_alloc | apply pw_below_drewN | apply below_drew1 | refine below_set ?_ GE111.out) | exact HB.out)⟩

end Go.Proofs.YtlallihdiffheaaDoor.GT
