/- laws.inlineTree by hand: elements. laws.inlineCutTree by hand: a small tree of an element. -/
import Derived.Test.YtlallihdiffheaaZInline
import Derived.Deep.RegionLaw
namespace Go.Proofs.Ytlallihdiffheaa.Hand
open Go.RowKit Go.Proofs.YtlallihdiffheaaW.PrintWords Go.Proofs.YtlallihdiffheaaW.PrintLast Go.Proofs.Ytlallihdiffheaa.GT
set_option linter.unusedVariables false
set_option linter.unusedSimpArgs false

theorem SmL.len : ∀ {n : Nat} {l : List S25}, SmL n l → l.length ≤ n
  | _, _, .nil => Nat.le_refl _
  | _, _, .cons a b y l hy hl => by
    have h1 := SmL.len hl
    have h2 : 1 ≤ a := by cases hy <;> omega
    rw [List.length_cons]
    omega
theorem KidsAt.low {base : Nat} {w w1 : World} {v : Value} {xs : List S25} {bl : Nat} (h : KidsAt base w v xs) (hg : w.grownBy w1 (some bl)) (hbl : bl < base) : KidsAt base w1 v xs := by
  obtain ⟨css, h1, h2, h3⟩ := h
  refine ⟨css, own_other h1 hg ?_, h2, fun i y cs hy hc => ?_⟩
  · cases hv : v.ownBlock with
    | none => exact .inl rfl
    | some k =>
      refine .inr fun e => ?_
      have := own_base h1 k hv
      have := Option.some.inj e
      omega
  · obtain ⟨h4, lo, hi, h5, h6, h7, h8⟩ := h3 i y cs hy hc
    exact ⟨h4, lo, hi, h5, Nat.le_trans h6 hg.size, h7, h8.move fun k a b => hg.block k (by omega) (fun e => by have := Option.some.inj e; omega)⟩
theorem below_row {a b : World} {bl B : Nat} (h : a.grownBy b (some bl)) (hB : B ≤ a.heap.size) (hbl : B ≤ bl) : Below B a b :=
  ⟨h.os, h.tape, h.output, h.size, fun k hk => h.block k (by omega) (fun e => by have := Option.some.inj e; omega)⟩
set_option maxRecDepth 100000 in
set_option maxHeartbeats 1200000 in
theorem cut_elem (x : S25) (h1 : x.f0 ≠ 1) (h2 : x.f0 ≠ 2) (ih : ∀ y ∈ x.f4, CutP y) : CutP x := by
  intro W0 w A3 A4 c3 c4 deep lv bl hB h3 l3 h4 l4 hbl0 hbl hlv1 hlv2 hd1 hd2
  obtain ⟨r, hr⟩ := As.name_some x.f1
  obtain ⟨bc, bf⟩ := out_cell hbl 0
  have hblt : bl < w.heap.size := (Array.getElem?_eq_some_iff.1 hbl).1
  simp only [List.getElem?_toArray, List.getElem?_cons_succ, List.getElem?_cons_zero] at bc
  have hgS : w.grownBy (w.setCell ⟨bl, 0, none⟩ (.int .i64 ((lv : Int) - 1))) (some bl) := Lib.grownBy_setCell w bl 0 _
  have hsS : (w.setCell ⟨bl, 0, none⟩ (.int .i64 ((lv : Int) - 1))).heap.size = w.heap.size := by simp only [World.size_setCell]
  have hbS : (w.setCell ⟨bl, 0, none⟩ (.int .i64 ((lv : Int) - 1))).heap[bl]? = some (.cells #[.int .i64 ((lv : Int) - 1)] 3 (0, 0)) := Lib.heap_setCell_same hbl _
  have hA := alloc3 (w.setCell ⟨bl, 0, none⟩ (.int .i64 ((lv : Int) - 1))) (.cells #[.int .i64 x.f0, .string x.f1, .string x.f2, .slice A3 x.f3.length c3, .slice A4 x.f4.length c4] 25 (0, 0)) (.cells #[.int .i64 0, .string ⟨#[]⟩, .string ⟨#[]⟩, .slice none 0 0, .slice none 0 0] 25 (0, 0)) (.cells #[.int .i64 x.f0, .string x.f1, .string x.f2, .slice none 0 0, .slice none 0 0] 25 (0, 0))
  rw [hsS] at hA
  have hback : ∀ w1, Below ((((w.setCell ⟨bl, 0, none⟩ (.int .i64 ((lv : Int) - 1))).alloc (.cells #[.int .i64 x.f0, .string x.f1, .string x.f2, .slice A3 x.f3.length c3, .slice A4 x.f4.length c4] 25 (0, 0))).alloc (.cells #[.int .i64 0, .string ⟨#[]⟩, .string ⟨#[]⟩, .slice none 0 0, .slice none 0 0] 25 (0, 0))).alloc (.cells #[.int .i64 x.f0, .string x.f1, .string x.f2, .slice none 0 0, .slice none 0 0] 25 (0, 0))).heap.size ((((w.setCell ⟨bl, 0, none⟩ (.int .i64 ((lv : Int) - 1))).alloc (.cells #[.int .i64 x.f0, .string x.f1, .string x.f2, .slice A3 x.f3.length c3, .slice A4 x.f4.length c4] 25 (0, 0))).alloc (.cells #[.int .i64 0, .string ⟨#[]⟩, .string ⟨#[]⟩, .slice none 0 0, .slice none 0 0] 25 (0, 0))).alloc (.cells #[.int .i64 x.f0, .string x.f1, .string x.f2, .slice none 0 0, .slice none 0 0] 25 (0, 0))) w1 →
      w1.heap[w.heap.size]? = some (.cells #[.int .i64 x.f0, .string x.f1, .string x.f2, .slice A3 x.f3.length c3, .slice A4 x.f4.length c4] 25 (0, 0)) ∧ w1.heap[w.heap.size + 1]? = some (.cells #[.int .i64 0, .string ⟨#[]⟩, .string ⟨#[]⟩, .slice none 0 0, .slice none 0 0] 25 (0, 0)) ∧ w1.heap[w.heap.size + 1 + 1]? = some (.cells #[.int .i64 x.f0, .string x.f1, .string x.f2, .slice none 0 0, .slice none 0 0] 25 (0, 0)) ∧ w.grownBy w1 (some bl) ∧ w1.heap[bl]? = some (.cells #[.int .i64 ((lv : Int) - 1)] 3 (0, 0)) ∧ w.heap.size + 3 ≤ w1.heap.size := by
    intro w1 hb1
    obtain ⟨a1, a2, a3, a4, a5⟩ := hA
    refine ⟨(hb1.block _ (by omega)).trans a1, (hb1.block _ (by omega)).trans a2, (hb1.block _ (by omega)).trans a3, grown_below (grown_below hgS (by rw [hsS]; exact a5)) hb1, (hb1.block _ (by omega)).trans ((a5.block _ (by omega)).trans hbS), by have := hb1.size; omega⟩
  have HBK := Lib.hid hback
  have HR := Lib.hid hr
  have HB0 := Lib.hid hB
  have H3 := Lib.hid h3
  have H4 := Lib.hid h4
  have HI := Lib.hid ih
  clear hB h3 h4 hbl hr hA hgS hsS hbS hback ih
  go_enter Try.func72, Try.ntmps72
  go_wp2_with (go_at_call 124; refine (laws_inlineName.calls 100 _ r _ HR.out).mono ?_; rintro e w1 ⟨rfl, hb1⟩; obtain ⟨hn1, hr1, ho1, hg1, hbl1, hs1⟩ := HBK.out w1 hb1; obtain ⟨r0, f0⟩ := out_cell hr1 0; obtain ⟨r1, f1⟩ := out_cell hr1 1; obtain ⟨r2, f2⟩ := out_cell hr1 2; obtain ⟨r3, f3⟩ := out_cell hr1 3; obtain ⟨r4, f4⟩ := out_cell hr1 4; obtain ⟨o0, g0⟩ := out_cell ho1 0; obtain ⟨o1, g1⟩ := out_cell ho1 1; obtain ⟨o2, g2⟩ := out_cell ho1 2; obtain ⟨o3, g3⟩ := out_cell ho1 3; obtain ⟨o4, g4⟩ := out_cell ho1 4; obtain ⟨n4, -⟩ := out_cell hn1 4; simp only [List.getElem?_toArray, List.getElem?_cons_succ, List.getElem?_cons_zero] at r0 r1 r2 r3 r4 o0 o1 o2 o3 o4 n4; have HN1 := Lib.hid hn1; have HR1 := Lib.hid hr1; have HO1 := Lib.hid ho1; have HG1 := Lib.hid hg1; have HBL1 := Lib.hid hbl1; clear hb1 hr1 hg1 hbl1 ho1 hn1)
  ·
    obtain ⟨eo, hgo, hso⟩ := put5 (.int .i64 0) (.string r) (.string ⟨#[]⟩) (.slice none 0 0) (.slice none 0 0) HO1.out
    have hrv := (hgo.block (w.heap.size + 1) (by omega) (fun e => by have := Option.some.inj e; omega)).trans HR1.out
    obtain ⟨e4, hg, hsz⟩ := put5 (.int .i64 0) (.string r) (.string ⟨#[]⟩) (.slice none 0 0) (.slice none 0 0) hrv
    refine bodyPost_ret (results_cell_row rfl _ _ (w.heap.size + 1) 25 #[.int .i64 0, .string r, .string ⟨#[]⟩, .slice none 0 0, .slice none 0 0] (0, 0) _ rfl e4 Try.underlying25 rfl (by kernel_rfl)) rfl ?_
    refine ⟨⟨0, r, ⟨#[]⟩, [], []⟩, 0 + 1, lv - 1, none, 0, none, 0, rfl, ⟨.elem 0 r [] .nil, by omega, fun _ _ => rfl⟩, fun W hW => ?_, grown_new (grown_new HG1.out hgo (by omega)) hg (by omega), ?_⟩
    · exact k25_mk W ⟨0, r, ⟨#[]⟩, [], []⟩ (A3 := none) (c3 := 0) (Nat.le_refl _) ⟨rfl, Nat.zero_le _, fun h => absurd h (Nat.lt_irrefl _)⟩ (A4 := none) (c4 := 0) (Nat.le_refl _) ⟨rfl, Nat.zero_le _, fun h => absurd h (Nat.lt_irrefl _)⟩
    · rw [hg.block bl (by omega) (fun e => by have := Option.some.inj e; omega), hgo.block bl (by omega) (fun e => by have := Option.some.inj e; omega), HBL1.out, show ((lv - 1 : Nat) : Int) = (lv : Int) - 1 by omega]
  ·
    obtain ⟨eo, hgo, hso⟩ := put5 (.int .i64 0) (.string r) (.string ⟨#[]⟩) (.slice none 0 0) (.slice none 0 0) HO1.out
    have hrv := (hgo.block (w.heap.size + 1) (by omega) (fun e => by have := Option.some.inj e; omega)).trans HR1.out
    obtain ⟨e4, hg, hsz⟩ := put5 (.int .i64 0) (.string r) (.string ⟨#[]⟩) (.slice none 0 0) (.slice none 0 0) hrv
    refine bodyPost_ret (results_cell_row rfl _ _ (w.heap.size + 1) 25 #[.int .i64 0, .string r, .string ⟨#[]⟩, .slice none 0 0, .slice none 0 0] (0, 0) _ rfl e4 Try.underlying25 rfl (by kernel_rfl)) rfl ?_
    refine ⟨⟨0, r, ⟨#[]⟩, [], []⟩, 0 + 1, lv - 1, none, 0, none, 0, rfl, ⟨.elem 0 r [] .nil, by omega, fun _ _ => rfl⟩, fun W hW => ?_, grown_new (grown_new HG1.out hgo (by omega)) hg (by omega), ?_⟩
    · exact k25_mk W ⟨0, r, ⟨#[]⟩, [], []⟩ (A3 := none) (c3 := 0) (Nat.le_refl _) ⟨rfl, Nat.zero_le _, fun h => absurd h (Nat.lt_irrefl _)⟩ (A4 := none) (c4 := 0) (Nat.le_refl _) ⟨rfl, Nat.zero_le _, fun h => absurd h (Nat.lt_irrefl _)⟩
    · rw [hg.block bl (by omega) (fun e => by have := Option.some.inj e; omega), hgo.block bl (by omega) (fun e => by have := Option.some.inj e; omega), HBL1.out, show ((lv - 1 : Nat) : Int) = (lv : Int) - 1 by omega]
  · obtain ⟨eo, hgo, hso⟩ := put5 (.int .i64 0) (.string r) (.string ⟨#[]⟩) (.slice none 0 0) (.slice none 0 0) HO1.out
    obtain ⟨o, ho⟩ : ∃ o, o = w.heap.size + 1 + 1 := ⟨_, rfl⟩
    obtain ⟨rv, hrv⟩ : ∃ o, o = w.heap.size + 1 := ⟨_, rfl⟩
    rw [← ho] at eo hgo hso ⊢
    rw [← hrv] at ⊢
    have hrv2 := (hgo.block (w.heap.size + 1) (by omega) (fun e => by have := Option.some.inj e; omega)).trans HR1.out
    have hbl2 := (hgo.block bl (by omega) (fun e => by have := Option.some.inj e; omega)).trans HBL1.out
    have hg2 := grown_new HG1.out hgo (by omega)
    rw [← hrv] at hrv2
    have HRL := Lib.hid (And.intro ho hrv)
    clear ho hrv hgo r0 r1 r2 r3 r4 o0 o1 o2 o3 o4 n4 f0 f1 f2 f3 f4 g0 g1 g2 g3 g4 bc bf
    generalize (((((w1.setCell ⟨o, 0, none⟩ (.int .i64 0)).setCell ⟨o, 1, none⟩ (.string r)).setCell ⟨o, 2, none⟩ (.string ⟨#[]⟩)).setCell ⟨o, 3, none⟩ (.slice none 0 0)).setCell ⟨o, 4, none⟩ (.slice none 0 0)) = W2 at *
    have HEO := Lib.hid eo
    have HRV2 := Lib.hid hrv2
    have HBL2 := Lib.hid hbl2
    have HG2 := Lib.hid hg2
    clear eo hrv2 hbl2 hg2
    have hmax : x.f4.length ≤ 9223372036854775807 := H4.out.2.1
    have hboth : (r.toList == [98, 114]) = false ∧ (r.toList == [105, 109, 103]) = false := by assumption
    obtain ⟨hbr, himg⟩ := hboth
    simp only [hbr, himg]
    go_loopg [54] x.f4.length (fun gk k0 wr => ∃ (j : Nat) (ys : List S25) (m l' : Nat) (v : Value), k0 = .int .i64 j ∧ gk = x.f4.length - j ∧ j ≤ x.f4.length ∧ (SmL m ys ∧ m + 1 + l' ≤ lv) ∧ wr.heap[o]? = some (.cells #[.int .i64 0, .string r, .string ⟨#[]⟩, .slice none 0 0, v] 25 (0, 0)) ∧ wr.heap[rv]? = some (.cells #[.int .i64 0, .string ⟨#[]⟩, .string ⟨#[]⟩, .slice none 0 0, .slice none 0 0] 25 (0, 0)) ∧ wr.heap[bl]? = some (.cells #[.int .i64 l'] 3 (0, 0)) ∧ KidsAt (w.heap.size + 3) wr v ys ∧ w.heap.size + 3 ≤ wr.heap.size ∧ w.grownBy wr (some bl))
    case atStart => exact ⟨0, [], 0, lv - 1, _, rfl, rfl, Nat.zero_le _, ⟨.nil, by omega⟩, HEO.out, HRV2.out, by rw [HBL2.out, show ((lv - 1 : Nat) : Int) = (lv : Int) - 1 by omega], KidsAt.nil _ _, by omega, HG2.out⟩
    case round =>
      obtain ⟨j, ys, m, l', v, rfl, rfl, hj, hsm, ho1, hr1, hb1, hka, hsz, hg⟩ := hrel
      obtain ⟨Av, cv, rfl⟩ : ∃ A c, v = .slice A ys.length c := by
        obtain ⟨css, h, _⟩ := hka
        exact own_slice h
      have HSM := Lib.hid hsm
      have HKA := Lib.hid hka
      have HG := Lib.hid hg
      have hbw : Below W0.heap.size W0 wr := HB0.out.trans (below_row hg HB0.out.size hbl0)
      have HBW := Lib.hid hbw
      obtain ⟨o4, fo4⟩ := out_cell ho1 4
      obtain ⟨o0, -⟩ := out_cell ho1 0
      obtain ⟨o1, -⟩ := out_cell ho1 1
      obtain ⟨o2, -⟩ := out_cell ho1 2
      obtain ⟨o3, -⟩ := out_cell ho1 3
      obtain ⟨bc, -⟩ := out_cell hb1 0
      obtain ⟨r0, f0⟩ := out_cell hr1 0
      obtain ⟨r1, f1⟩ := out_cell hr1 1
      obtain ⟨r2, f2⟩ := out_cell hr1 2
      obtain ⟨r3, f3⟩ := out_cell hr1 3
      obtain ⟨r4, f4⟩ := out_cell hr1 4
      simp only [List.getElem?_toArray, List.getElem?_cons_succ, List.getElem?_cons_zero] at o0 o1 o2 o3 o4 bc r0 r1 r2 r3 r4
      have HO3 := Lib.hid ho1
      have HO4 := Lib.hid hr1
      have HO5 := Lib.hid hb1
      clear hsm hka hg hbw ho1 hr1 hb1
      by_cases hlt : j < x.f4.length
      · obtain ⟨ad, A3', c3', A4', c4', rfl, p0, p1, p2, p3, p4, l3', g3, l4', g4⟩ := at_T25 H4.out (j : Int) (by omega) (by omega)
        have hy := kids_mem x.f4 j hlt
        generalize rd_T25 x.f4 (j : Int) = y at *
        simp only [Int.toNat_natCast] at p0 p1 p2 p3 p4
        have q0 := (HBW.out.cell (World.block_lt_of_cell? W0 _ p0)).trans p0
        have q1 := (HBW.out.cell (World.block_lt_of_cell? W0 _ p1)).trans p1
        have q2 := (HBW.out.cell (World.block_lt_of_cell? W0 _ p2)).trans p2
        have q3 := (HBW.out.cell (World.block_lt_of_cell? W0 _ p3)).trans p3
        have q4 := (HBW.out.cell (World.block_lt_of_cell? W0 _ p4)).trans p4
        have HY := Lib.hid hy
        have HY3 := Lib.hid (And.intro l3' g3)
        have HY4 := Lib.hid (And.intro l4' g4)
        have hrl0 := HRL.out
        have hol : o < wr.heap.size := by omega
        have hrl1 : rv < wr.heap.size := by omega
        have hbll : bl < wr.heap.size := by omega
        have hobl : o ≠ bl := by omega
        clear p0 p1 p2 p3 p4 hy l3' g3 l4' g4 hrl0
        by_cases hc1 : (0 : Int) < (l' : Int)
        · by_cases hc2 : 0 < deep
          · have hwd : IntKind.i64.wrap (deep - 1) = deep - 1 := IntWalk.i64_in _ ⟨by omega, by omega⟩
            have HWD := Lib.hid hwd
            clear hwd
            have hBA : Below W0.heap.size W0 (wr.alloc (.cells #[.int .i64 y.f0, .string y.f1, .string y.f2, .slice A3' y.f3.length c3', .slice A4' y.f4.length c4'] 25 (0, 0))).drew := (HBW.out.alloc HBW.out.size _).drew
            have hbA : (wr.alloc (.cells #[.int .i64 y.f0, .string y.f1, .string y.f2, .slice A3' y.f3.length c3', .slice A4' y.f4.length c4'] 25 (0, 0))).drew.heap[bl]? = some (.cells #[.int .i64 l'] 3 (0, 0)) := (Below.heap_alloc _ _ _ (by omega)).trans HO5.out
            have hcall := HI.out y HY.out W0 (wr.alloc (.cells #[.int .i64 y.f0, .string y.f1, .string y.f2, .slice A3' y.f3.length c3', .slice A4' y.f4.length c4'] 25 (0, 0))).drew A3' A4' c3' c4' (deep - 1) l' bl hBA HY3.out.2 HY3.out.1 HY4.out.2 HY4.out.1 hbl0 hbA (by omega) (by have := HSM.out.2; omega) (by omega) (by omega)
            have HCALL := Lib.hid hcall
            have hAW : Below wr.heap.size wr (wr.alloc (.cells #[.int .i64 y.f0, .string y.f1, .string y.f2, .slice A3' y.f3.length c3', .slice A4' y.f4.length c4'] 25 (0, 0))).drew := (below_alloc (Below.refl _ _) _).drew
            have HAW := Lib.hid hAW
            clear hcall hBA hbA hAW
            go_wp2
            go_region_law (first
              | (go_simp
                 go_at_call 72
                 rw [HWD.out]
                 refine HCALL.out.mono ?_
                 rintro e w3 ⟨y2, n2, l2, A3y, c3y, A4y, c4y, rfl, hsm2, htl, hg3, hbl3⟩
                 have ho3 := (hg3.block o (by have := HAW.out.size; omega) (fun e => hobl (Option.some.inj e))).trans ((HAW.out.block o hol).trans HO3.out)
                 obtain ⟨k4, -⟩ := out_cell ho3 4
                 simp only [List.getElem?_toArray, List.getElem?_cons_succ, List.getElem?_cons_zero] at k4
                 have hol3 : o < w3.heap.size := by have := HAW.out.size; have := hg3.size; omega
                 have HSM2 := Lib.hid hsm2
                 have HTL := Lib.hid htl
                 have HG3 := Lib.hid hg3
                 have HBL3 := Lib.hid hbl3
                 have HOO := Lib.hid ho3
                 clear hsm2 htl hg3 hbl3 ho3)
              | (obtain ⟨css, hcs1, hcs2, hcs3⟩ := (HKA.out.below HAW.out).low HG3.out (by omega)
                 refine step_append_cells (w0 := w3) (w.heap.size + 3) rfl (.tmp 67) (.tmp 73) 23 25 _ 5 88 rfl Try.underlying23 infoTree rfl (by decide) (by decide) (.slice Av ys.length cv) ys.length css.flatten [.int .i64 y2.f0, .string y2.f1, .string y2.f2, .slice A3y y2.f3.length c3y, .slice A4y y2.f4.length c4y] (by simp [Act.eval, Act.put]) (by simp [Act.eval, Act.put]) rfl (by simp [Value.oneCell']) hcs1 (Below.refl _ _) (by have := HAW.out.size; have := HG3.out.size; omega) (by have := SmL.len HSM.out.1; have := HSM.out.2; omega) ?_
                 intro v1 w4 hown hb4 hg4 hv4
                 obtain ⟨A1, c1, rfl⟩ := own_slice hown
                 have hne : ∀ z, z < w.heap.size + 3 → some z ≠ (Value.slice Av ys.length cv).ownBlock := fun z hz e => by have := own_base hcs1 z e.symm; omega
                 have hoW := (hg4.block o hol3 (hne o (by have := HRL.out; omega))).trans HOO.out
                 obtain ⟨k4', fk4'⟩ := out_cell hoW 4
                 simp only [List.getElem?_toArray, List.getElem?_cons_succ, List.getElem?_cons_zero] at k4'
                 have HOWN := Lib.hid hown
                 have HG4 := Lib.hid hg4
                 have HV4 := Lib.hid hv4
                 have HOW := Lib.hid hoW
                 have HCS := Lib.hid (And.intro hcs1 (And.intro hcs2 hcs3))
                 have HNE := Lib.hid hne
                 clear hown hb4 hg4 hv4 hoW hcs1 hcs2 hcs3 hne))
            all_goals (
              go_wp2
              go_roundg (x.f4.length - (j + 1))
              case measure => omega
              case rel =>
                have hrl := HRL.out
                have hs1 := HAW.out.size
                have hs2 := HG3.out.size
                have hs3 := HG4.out.size
                have hsm2 := HSM2.out
                have hsm3 := hsm2.2.1
                have hsm := HSM.out
                obtain ⟨css0, hcs0, -, -⟩ := HKA.out
                refine ⟨j + 1, ys ++ [y2], m + n2, l2, .slice A1 (ys.length + 1) c1, by go_num, rfl, hlt, ⟨SmL.snoc hsm2.1 hsm.1, by omega⟩, Lib.heap_setCell_same HOW.out _, ?_, ?_, ?_, ?_, ?_⟩
                · exact (Below.heap_setCell _ _ _ _ (by show rv ≠ o; omega)).trans ((HG4.out.block rv (by omega) (HNE.out rv (by omega))).trans ((HG3.out.block rv (by omega) (fun e => by have := Option.some.inj e; omega)).trans ((HAW.out.block rv (by omega)).trans HO4.out)))
                · exact (Below.heap_setCell _ _ _ _ (by show bl ≠ o; omega)).trans ((HG4.out.block bl (by omega) (HNE.out bl (by omega))).trans HBL3.out)
                · exact (KidsAt.push HCS.out.2.1 HCS.out.2.2 rfl (by omega) (Nat.le_refl _) (fun g hg => by have := own_lt hcs0 g hg; omega) HTL.out HOWN.out HG4.out HV4.out).store ⟨o, 4, none⟩ (by show o < _; omega) _
                · rw [World.size_setCell]
                  omega
                · refine grown_new (g := o) ?_ (Lib.grownBy_setCell _ o 4 _) (by omega)
                  have h1 : w.grownBy w3 (some bl) := World.grownBy.trans (grown_below HG.out HAW.out) HG3.out
                  exact ⟨HG4.out.os.trans h1.os, HG4.out.tape.trans h1.tape, HG4.out.output.trans h1.output, Nat.le_trans h1.size HG4.out.size, fun z hz hn => (HG4.out.block z (by have := h1.size; omega) (HNE.out z (by omega))).trans (h1.block z hz hn)⟩)
          · have hc3 : ¬ deep > 0 := hc2
            go_wp2
            go_roundg (x.f4.length - (j + 1))
            case rel =>
              have hb2 : Below wr.heap.size wr (wr.alloc (.cells #[.int .i64 y.f0, .string y.f1, .string y.f2, .slice A3' y.f3.length c3', .slice A4' y.f4.length c4'] 25 (0, 0))) := below_alloc (Below.refl _ _) _
              have hrl := HRL.out
              exact ⟨j + 1, ys, m, l', _, by go_num, rfl, hlt, HSM.out, (hb2.block o (by omega)).trans HO3.out, (hb2.block rv (by omega)).trans HO4.out, (hb2.block bl (by omega)).trans HO5.out, HKA.out.below hb2, by have := hb2.size; omega, grown_below HG.out hb2⟩
            case measure => omega
        · have hl0 : l' = 0 := by omega
          subst hl0
          go_wp2
          go_roundg (x.f4.length - (j + 1))
          case rel =>
            have hb2 : Below wr.heap.size wr (wr.alloc (.cells #[.int .i64 y.f0, .string y.f1, .string y.f2, .slice A3' y.f3.length c3', .slice A4' y.f4.length c4'] 25 (0, 0))) := below_alloc (Below.refl _ _) _
            have hrl := HRL.out
            exact ⟨j + 1, ys, m, 0, _, by go_num, rfl, hlt, HSM.out, (hb2.block o (by omega)).trans HO3.out, (hb2.block rv (by omega)).trans HO4.out, (hb2.block bl (by omega)).trans HO5.out, HKA.out.below hb2, by have := hb2.size; omega, grown_below HG.out hb2⟩
          case measure => omega
      · obtain rfl : j = x.f4.length := by omega
        go_wp2
        obtain ⟨e4, hg, hszr⟩ := put5 (.int .i64 0) (.string r) (.string ⟨#[]⟩) (.slice none 0 0) (.slice Av ys.length cv) HO4.out
        refine bodyPost_ret (results_cell_row rfl _ _ rv 25 #[.int .i64 0, .string r, .string ⟨#[]⟩, .slice none 0 0, .slice Av ys.length cv] (0, 0) _ rfl e4 Try.underlying25 rfl (by kernel_rfl)) rfl ?_
        have hrl := HRL.out
        have hyl : ys.length ≤ 9223372036854775807 := by
          have := SmL.len HSM.out.1
          have := HSM.out.2
          omega
        obtain ⟨A, c, he, hle, hT⟩ := HKA.out.tells hyl
        injection he with he1 _ he3
        subst he1 he3
        refine ⟨⟨0, r, ⟨#[]⟩, [], ys⟩, m + 1, l', none, 0, Av, cv, rfl, ⟨.elem m r ys HSM.out.1, HSM.out.2, fun _ _ => rfl⟩, fun W hW => ?_, grown_new HG.out hg (by omega), ?_⟩
        · refine k25_mk W ⟨0, r, ⟨#[]⟩, [], ys⟩ (A3 := none) (c3 := 0) (Nat.le_refl _) ⟨rfl, Nat.zero_le _, fun h => absurd h (Nat.lt_irrefl _)⟩ hle (hT W fun k hk1 hk2 => ?_)
          rw [hW k (by omega) (by omega)]
          exact hg.block k hk2 (fun e => by have := Option.some.inj e; omega)
        · rw [hg.block bl (by omega) (fun e => by have := Option.some.inj e; omega)]
          exact HO5.out
theorem cut_size : ∀ (m : Nat) (x : S25), SizeOf.sizeOf x ≤ m → CutP x := by
  intro m
  induction m with
  | zero =>
    intro x h
    cases x
    simp at h
  | succ m ih =>
    intro x h
    by_cases h1 : x.f0 = 1
    · exact cut_text x h1
    · by_cases h2 : x.f0 = 2
      · exact cut_comment x h2
      · refine cut_elem x h1 h2 fun y hy => ih y ?_
        have h3 := List.sizeOf_lt_of_mem hy
        cases x with
        | mk a b c d e =>
          simp only [S25.mk.sizeOf_spec] at h
          have h3 : SizeOf.sizeOf y < SizeOf.sizeOf e := h3
          omega
theorem cut_any (x : S25) : CutP x := cut_size (SizeOf.sizeOf x) x (Nat.le_refl _)
end Go.Proofs.Ytlallihdiffheaa.Hand
namespace Go.Proofs.Ytlallihdiffheaa.Hand
open Go.RowKit Go.Proofs.YtlallihdiffheaaW.PrintWords Go.Proofs.YtlallihdiffheaaW.PrintLast Go.Proofs.Ytlallihdiffheaa.GT
set_option linter.unusedVariables false
set_option linter.unusedSimpArgs false

end Go.Proofs.Ytlallihdiffheaa.Hand
