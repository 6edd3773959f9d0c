/- laws.FnSwapTags by hand: the walk. -/
import Derived.Test.YtlallihdiffheaaDoorZSwapFacts
import Derived.Test.YtlallihdiffheaaDoorInlineCut
import Derived.Test.YtlallihdiffheaaDoorSame
import Derived.Test.YtlallihdiffheaaDoorZLives
namespace Go.Proofs.YtlallihdiffheaaDoor.Dom
open Go.RowKit Go.Proofs.YtlallihdiffheaaDoorW.PrintWords Go.Proofs.YtlallihdiffheaaDoorW.PrintLast Go.Proofs.YtlallihdiffheaaDoorW.PrintMore Go.Proofs.YtlallihdiffheaaDoor.GT Go.Proofs.YtlallihdiffheaaDoor.Hand
set_option linter.unusedVariables false
set_option linter.unusedSimpArgs false

def nsO : List ByteArray := [⟨#[98]⟩, ⟨#[115, 116, 114, 111, 110, 103]⟩, ⟨#[101, 109]⟩]
def nsI : List ByteArray := [⟨#[97]⟩]
/-- spec.TextOf of a tree that lies somewhere. -/
theorem text_call {x : S25} {r : ByteArray} (hr : spec_TextOf.f 700 x.f0 x.f1 x.f2 x.f3 x.f4 = some r) (w : World) (A3 A4 : Option Addr) (c3 c4 : Nat) (h : k25.K w x (treeCells x A3 c3 A4 c4)) :
    Calls Tryd.prog 23 #[.agg #[.int .i64 x.f0, .string x.f1, .string x.f2, .slice A3 x.f3.length c3, .slice A4 x.f4.length c4]] w fun e w' => e = .returned (.string r) ∧ Below w.heap.size w w' := by
  obtain ⟨X5, x5, X6, x6, he7, l7, g7, l8, g8⟩ := k25_open h
  simp only [treeCells, List.cons.injEq, Value.slice.injEq, and_true, true_and] at he7
  obtain ⟨⟨rfl, rfl⟩, rfl, rfl⟩ := he7
  exact spec_TextOf.calls 700 _ _ _ _ _ _ _ _ _ r w g7 l7 g8 l8 hr
theorem rowS_C {w : World} {g : Nat} {ns : List ByteArray} (h2 : RowS w g ns) (hl : ns.length ≤ 1000) : Kd.C Kd.string w (some ⟨g, 0, none⟩) ns.length ns := by
  refine ⟨rfl, by omega, fun _ => ⟨_, rfl, fun j s hj => ⟨[.string s], rfl, rfl, fun i u hu => ?_⟩⟩⟩
  cases i with
  | zero =>
    obtain rfl : Value.string s = u := by simpa using hu
    have hz : (Kd.string).sz = 1 := rfl
    rw [hz, Nat.mul_one, Nat.add_zero]
    have hjl := (List.getElem?_eq_some_iff.1 hj).1
    have ha : (⟨g, 0, none⟩ : Addr).add j = ⟨g, j, none⟩ := by by_cases h0 : j = 0 <;> simp [Addr.add, h0]
    rw [ha, (out_cell h2 j).1]
    simp [hj]
  | succ i => simp at hu
/-- laws.inlineHas of a tree that lies somewhere, and of a row of names. -/
theorem has_call {x : S25} {r : Bool} {ns : List ByteArray} (hr : laws_inlineHas.f 700 x.f0 x.f1 x.f2 x.f3 x.f4 ns = some r) (w : World) (A3 A4 : Option Addr) (c3 c4 : Nat) (h : k25.K w x (treeCells x A3 c3 A4 c4)) (g : Nat) (hg : RowS w g ns ∧ ns.length ≤ 1000) :
    Calls Tryd.prog 24 #[.agg #[.int .i64 x.f0, .string x.f1, .string x.f2, .slice A3 x.f3.length c3, .slice A4 x.f4.length c4], .slice (some ⟨g, 0, none⟩) ns.length ns.length] w fun e w' => e = .returned (.bool r) ∧ Below w.heap.size w w' := by
  obtain ⟨X5, x5, X6, x6, he7, l7, g7, l8, g8⟩ := k25_open h
  simp only [treeCells, List.cons.injEq, Value.slice.injEq, and_true, true_and] at he7
  obtain ⟨⟨rfl, rfl⟩, rfl, rfl⟩ := he7
  exact laws_inlineHas.calls 700 _ _ _ _ _ _ _ _ _ _ _ _ r w g7 l7 g8 l8 (rowS_C hg.1 hg.2) (Nat.le_refl _) hr
theorem same_call (z : S25) (w : World) (A5 A6 A7 A8 : Option Addr) (c5 c6 c7 c8 : Nat) (h1 : k25.K w z (treeCells z A5 c5 A6 c6)) (h2 : k25.K w z (treeCells z A7 c7 A8 c8)) (hs : spec_SameTree.f 600 z.f0 z.f1 z.f2 z.f3 z.f4 z.f0 z.f1 z.f2 z.f3 z.f4 = some true) :
    Calls Tryd.prog 25 #[.agg #[.int .i64 z.f0, .string z.f1, .string z.f2, .slice A5 z.f3.length c5, .slice A6 z.f4.length c6], .agg #[.int .i64 z.f0, .string z.f1, .string z.f2, .slice A7 z.f3.length c7, .slice A8 z.f4.length c8]] w fun e w' => e = .returned (.bool true) ∧ Below w.heap.size w w' := by
  obtain ⟨X5, x5, X6, x6, he7, l7, g7, l8, g8⟩ := k25_open h1
  obtain ⟨X7, x7, X8, x8, he9, l9, g9, l10, g10⟩ := k25_open h2
  simp only [treeCells, List.cons.injEq, Value.slice.injEq, and_true, true_and] at he7 he9
  obtain ⟨⟨rfl, rfl⟩, rfl, rfl⟩ := he7
  obtain ⟨⟨rfl, rfl⟩, rfl, rfl⟩ := he9
  exact spec_SameTree.calls 600 _ _ _ _ _ _ _ _ _ _ _ _ _ _ _ _ _ _ true _ g7 l7 g8 l8 g9 l9 g10 l10 hs
set_option maxRecDepth 100000 in
set_option maxHeartbeats 20000000 in
theorem law_swap (x : S25) (w : World) (A3 A4 : Option Addr) (c3 c4 : Nat) (h3 : k29.C w A3 x.f3.length x.f3) (l3 : x.f3.length ≤ c3) (h4 : k25.C w A4 x.f4.length x.f4) (l4 : x.f4.length ≤ c4) (hT : TabB w) :
    Calls Tryd.prog 6 #[.agg #[.int .i64 x.f0, .string x.f1, .string x.f2, .slice A3 x.f3.length c3, .slice A4 x.f4.length c4]] w fun e w' => e = .returned (.bool true) ∧ Below w.heap.size w w' := by
  obtain ⟨kz, rz, hz⟩ := fits2_any x
  have HT := Lib.hid hT
  have H3 := Lib.hid h3
  have H4 := Lib.hid h4
  have HZ := Lib.hid hz
  clear h3 h4 hz hT
  go_enter Tryd.func6, Tryd.ntmps6
  go_upto_region 4 with (first
    | (go_at_call 7; refine (laws_zzFits2.calls kz x.f0 x.f1 x.f2 A3 c3 x.f3 A4 c4 x.f4 rz _ (Kd.C_alloc H3.out _) l3 (Kd.C_alloc H4.out _) l4 HZ.out).mono ?_; rintro e w1 ⟨rfl, hb1⟩; have hn1 := (hb1.block w.heap.size (by rw [World.size_alloc]; omega)).trans (heap_alloc_new w _); have hB1 : Below w.heap.size w w1 := below_then (below_alloc (Below.refl _ _) _) (by rw [World.size_alloc]; omega) hb1; have hs1 : w.heap.size < w1.heap.size := (by have := hb1.size; rw [World.size_alloc] at this; omega); obtain ⟨n0, f0⟩ := out_cell hn1 0; obtain ⟨n1, f1⟩ := out_cell hn1 1; obtain ⟨n2, f2⟩ := out_cell hn1 2; obtain ⟨n3, f3⟩ := out_cell hn1 3; obtain ⟨n4, f4⟩ := out_cell hn1 4; simp only [List.getElem?_toArray, List.getElem?_cons_succ, List.getElem?_cons_zero] at n0 n1 n2 n3 n4; have HN1 := Lib.hid hn1; have HB1 := Lib.hid hB1; clear hb1 hn1 hB1)
    | (go_at_call 21; refine (cutTree_any x w1 A3 A4 c3 c4 (Kd.C_below H3.out HB1.out) l3 (Kd.C_below H4.out HB1.out) l4).mono ?_; rintro e w2 ⟨y, n, B3, d3, B4, d4, rfl, hsm, htl, hb2⟩; have hn2 := (hb2.block w.heap.size hs1).trans HN1.out; obtain ⟨m0, g0⟩ := out_cell hn2 0; obtain ⟨m1, g1⟩ := out_cell hn2 1; obtain ⟨m2, g2⟩ := out_cell hn2 2; obtain ⟨m3, g3⟩ := out_cell hn2 3; obtain ⟨m4, g4⟩ := out_cell hn2 4; simp only [List.getElem?_toArray, List.getElem?_cons_succ, List.getElem?_cons_zero] at m0 m1 m2 m3 m4; have HN2 := Lib.hid hn2; have HB2 := Lib.hid hb2; have HSM := Lib.hid hsm; have HTL := Lib.hid htl; clear hn2 hb2 hsm htl))
  · go_ret
    exact ⟨rfl, HB1.out⟩
  · obtain ⟨e4, hg, hsz⟩ := put5 (.int .i64 y.f0) (.string y.f1) (.string y.f2) (.slice B3 y.f3.length d3) (.slice B4 y.f4.length d4) HN2.out
    clear n0 n1 n2 n3 n4 f0 f1 f2 f3 f4 m0 m1 m2 m3 m4 g0 g1 g2 g3 g4
    generalize (((((w2.setCell ⟨w.heap.size, 0, none⟩ (.int .i64 y.f0)).setCell ⟨w.heap.size, 1, none⟩ (.string y.f1)).setCell ⟨w.heap.size, 2, none⟩ (.string y.f2)).setCell ⟨w.heap.size, 3, none⟩ (.slice B3 y.f3.length d3)).setCell ⟨w.heap.size, 4, none⟩ (.slice B4 y.f4.length d4)) = W3 at *
    have hL1 : ∀ w', Below W3.heap.size W3 w' → Below w.heap.size w w' := fun w' hb => by
      have h1 := HB2.out.size
      refine below_then (B := w.heap.size) ((HB1.out.trans (HB2.out.mono (by omega))).grown hg (by omega) (fun z hz => by have := Option.some.inj hz; omega)) (by omega) hb
    have hKY : ∀ W, Below W3.heap.size W3 W → k25.K W y (treeCells y B3 d3 B4 d4) := fun W hb => HTL.out W (fun z hz1 hz2 => (hb.block z (by omega)).trans (hg.block z hz2 (fun e => by have := Option.some.inj e; omega)))
    have HWL : w.heap.size < W3.heap.size := by have := HB2.out.size; omega
    obtain ⟨m0, -⟩ := out_cell e4 0
    obtain ⟨m1, -⟩ := out_cell e4 1
    obtain ⟨m2, -⟩ := out_cell e4 2
    obtain ⟨m3, -⟩ := out_cell e4 3
    obtain ⟨m4, -⟩ := out_cell e4 4
    simp only [List.getElem?_toArray, List.getElem?_cons_succ, List.getElem?_cons_zero] at m0 m1 m2 m3 m4
    have hcn : ∀ W, Below W3.heap.size W3 W → W.cell? ⟨w.heap.size, 0, none⟩ = some (.int .i64 y.f0) ∧ W.cell? ⟨w.heap.size, 1, none⟩ = some (.string y.f1) ∧ W.cell? ⟨w.heap.size, 2, none⟩ = some (.string y.f2) ∧ W.cell? ⟨w.heap.size, 3, none⟩ = some (.slice B3 y.f3.length d3) ∧ W.cell? ⟨w.heap.size, 4, none⟩ = some (.slice B4 y.f4.length d4) := fun W hb =>
      ⟨(hb.cell (p := ⟨w.heap.size, 0, none⟩) HWL).trans m0, (hb.cell (p := ⟨w.heap.size, 1, none⟩) HWL).trans m1, (hb.cell (p := ⟨w.heap.size, 2, none⟩) HWL).trans m2, (hb.cell (p := ⟨w.heap.size, 3, none⟩) HWL).trans m3, (hb.cell (p := ⟨w.heap.size, 4, none⟩) HWL).trans m4⟩
    obtain ⟨E3, e3, E4, e5, he, l3', g3, l4', g4⟩ := k25_open (hKY W3 (Below.refl _ _))
    obtain ⟨rfl, rfl, rfl, rfl⟩ : B3 = E3 ∧ d3 = e3 ∧ B4 = E4 ∧ d4 = e5 := by
      simp only [treeCells, List.cons.injEq, Value.slice.injEq, and_true, true_and] at he
      exact ⟨he.1.1, he.1.2, he.2.1, he.2.2⟩
    have HCN := Lib.hid hcn
    have HKY := Lib.hid hKY
    have HL1 := Lib.hid hL1
    have HG4 := Lib.hid (And.intro l3' (And.intro g3 (And.intro l4' g4)))
    clear hg he l3' g3 l4' g4 e4 hL1 hKY hcn
    go_cut [3, 4] from 5 to 39 (fun v3 v4 wx => ∃ g1 g2 : Nat, v3 = .slice (some ⟨g1, 0, none⟩) nsO.length nsO.length ∧ v4 = .slice (some ⟨g2, 0, none⟩) nsI.length nsI.length ∧ RowS wx g1 nsO ∧ RowS wx g2 nsI ∧ Below W3.heap.size W3 wx)
    case first =>
      go_wp2_with fail
      go_meet
      refine ⟨W3.heap.size, W3.heap.size + 1, ?_, ?_, ?_, ?_, ?_⟩
      · rw [hsz]; rfl
      · rw [hsz]; rfl
      · exact (Below.heap_alloc _ _ _ (by rw [World.size_alloc]; omega)).trans (heap_alloc_new _ _)
      · rw [← World.size_alloc W3]
        exact heap_alloc_new _ _
      · exact below_alloc (below_alloc (Below.refl _ _) _) _
    obtain ⟨g1, g2, rfl, rfl, hq1, hq2, hb34⟩ := hcut
    have hcall := swapTree_any n HSM.out.2 y HSM.out.1 wc B3 B4 d3 d4 (Kd.C_below HG4.out.2.1 hb34) HG4.out.1 (Kd.C_below HG4.out.2.2.2 hb34) HG4.out.2.2.1 g1 g2 nsO nsI hq1 hq2 (by decide) (by decide) (tabB_below HT.out (HL1.out _ hb34))
    have HCALL := Lib.hid hcall
    have HB34 := Lib.hid hb34
    have HQ10 := Lib.hid hq1
    have HQ20 := Lib.hid hq2
    obtain ⟨z0, z1, z2, z3, z4⟩ := HCN.out wc hb34
    clear hcall hb34 hq1 hq2 m0 m1 m2 m3 m4
    go_wp2_with (go_at_call 22; refine HCALL.out.mono ?_; rintro e w4 ⟨y1, hq, A5, c5, A6, c6, rfl, htl4, hb4⟩; have HQ := Lib.hid hq; have HTL4 := Lib.hid htl4; have HB4 := Lib.hid (below_then HB34.out HB34.out.size hb4); have HW4 := Lib.hid hb4; clear hq htl4 hb4)
    have h5 : (w4.alloc (.cells #[.int .i64 y1.f0, .string y1.f1, .string y1.f2, .slice A5 y1.f3.length c5, .slice A6 y1.f4.length c6] 25 (0, 0))).heap[w4.heap.size]? = some (.cells #[.int .i64 y1.f0, .string y1.f1, .string y1.f2, .slice A5 y1.f3.length c5, .slice A6 y1.f4.length c6] 25 (0, 0)) := heap_alloc_new _ _
    have hb5 : Below w4.heap.size w4 (w4.alloc (.cells #[.int .i64 y1.f0, .string y1.f1, .string y1.f2, .slice A5 y1.f3.length c5, .slice A6 y1.f4.length c6] 25 (0, 0))) := below_alloc (Below.refl _ _) _
    have hs5 : w4.heap.size < (w4.alloc (.cells #[.int .i64 y1.f0, .string y1.f1, .string y1.f2, .slice A5 y1.f3.length c5, .slice A6 y1.f4.length c6] 25 (0, 0))).heap.size := by rw [World.size_alloc]; omega
    generalize (w4.alloc (.cells #[.int .i64 y1.f0, .string y1.f1, .string y1.f2, .slice A5 y1.f3.length c5, .slice A6 y1.f4.length c6] 25 (0, 0))) = W5 at *
    have hB5 : Below W3.heap.size W3 W5 := below_then HB4.out HB4.out.size hb5
    have hW5 : Below wc.heap.size wc W5 := below_then HW4.out HW4.out.size hb5
    obtain ⟨o0, -⟩ := out_cell h5 0
    obtain ⟨o1, -⟩ := out_cell h5 1
    obtain ⟨o2, -⟩ := out_cell h5 2
    obtain ⟨o3, -⟩ := out_cell h5 3
    obtain ⟨o4, -⟩ := out_cell h5 4
    simp only [List.getElem?_toArray, List.getElem?_cons_succ, List.getElem?_cons_zero] at o0 o1 o2 o3 o4
    have hco : ∀ W, Below W5.heap.size W5 W → W.cell? ⟨w4.heap.size, 0, none⟩ = some (.int .i64 y1.f0) ∧ W.cell? ⟨w4.heap.size, 1, none⟩ = some (.string y1.f1) ∧ W.cell? ⟨w4.heap.size, 2, none⟩ = some (.string y1.f2) ∧ W.cell? ⟨w4.heap.size, 3, none⟩ = some (.slice A5 y1.f3.length c5) ∧ W.cell? ⟨w4.heap.size, 4, none⟩ = some (.slice A6 y1.f4.length c6) := fun W hb =>
      ⟨(hb.cell (p := ⟨w4.heap.size, 0, none⟩) hs5).trans o0, (hb.cell (p := ⟨w4.heap.size, 1, none⟩) hs5).trans o1, (hb.cell (p := ⟨w4.heap.size, 2, none⟩) hs5).trans o2, (hb.cell (p := ⟨w4.heap.size, 3, none⟩) hs5).trans o3, (hb.cell (p := ⟨w4.heap.size, 4, none⟩) hs5).trans o4⟩
    have hk5 : ∀ W, Below W5.heap.size W5 W → k25.K W y1 (treeCells y1 A5 c5 A6 c6) := fun W hb => HTL4.out W (fun z hz1 hz2 => (hb.block z (by omega)).trans (hb5.block z hz2))
    obtain ⟨ta, r1, r2, hta, htb, hr1, hr2, hsame⟩ := swap_facts (ns1 := nsO) (ns2 := nsI) HSM.out.2 (by decide) (by decide) HSM.out.1 HQ.out
    have hsk : ∀ W, Below W5.heap.size W5 W → (fun W' => W'.cell? ⟨w.heap.size, 0, none⟩ = some (.int .i64 y.f0) ∧ W'.cell? ⟨w.heap.size, 1, none⟩ = some (.string y.f1) ∧ W'.cell? ⟨w.heap.size, 2, none⟩ = some (.string y.f2) ∧ W'.cell? ⟨w.heap.size, 3, none⟩ = some (.slice B3 y.f3.length d3) ∧ W'.cell? ⟨w.heap.size, 4, none⟩ = some (.slice B4 y.f4.length d4) ∧ W'.cell? ⟨w4.heap.size, 0, none⟩ = some (.int .i64 y1.f0) ∧ W'.cell? ⟨w4.heap.size, 1, none⟩ = some (.string y1.f1) ∧ W'.cell? ⟨w4.heap.size, 2, none⟩ = some (.string y1.f2) ∧ W'.cell? ⟨w4.heap.size, 3, none⟩ = some (.slice A5 y1.f3.length c5) ∧ W'.cell? ⟨w4.heap.size, 4, none⟩ = some (.slice A6 y1.f4.length c6)) W := fun W hb => by
      obtain ⟨a0, a1, a2, a3, a4⟩ := HCN.out W (below_then hB5 hB5.size hb)
      obtain ⟨b0, b1, b2, b3, b4⟩ := hco W hb
      exact ⟨a0, a1, a2, a3, a4, b0, b1, b2, b3, b4⟩
    have hq1' : ∀ W, Below W5.heap.size W5 W → RowS W g1 nsO := fun W hb => (HQ10.out.below hW5).below hb
    have hq2' : ∀ W, Below W5.heap.size W5 W → RowS W g2 nsI := fun W hb => (HQ20.out.below hW5).below hb
    have HQ1 := Lib.hid hq1'
    have HQ2 := Lib.hid hq2'
    have SK := Lib.hid hsk
    have HTA := Lib.hid hta
    have HTB := Lib.hid htb
    have HR1 := Lib.hid hr1
    have HR2 := Lib.hid hr2
    have HB5 := Lib.hid hB5
    have HK5 := Lib.hid hk5
    have HSAME := Lib.hid hsame
    clear hq1' hq2' hta htb hr1 hr2 hsame h5 hb5 hs5 hB5 hW5 hco hk5 z0 z1 z2 z3 z4 o0 o1 o2 o3 o4 hsk
    go_wp2_with fail
    cases r2 with
    | true =>
      cases r1 with
      | true =>
        refine start_ (n := 24) (S := fun W' => W'.cell? ⟨w.heap.size, 0, none⟩ = some (.int .i64 y.f0) ∧ W'.cell? ⟨w.heap.size, 1, none⟩ = some (.string y.f1) ∧ W'.cell? ⟨w.heap.size, 2, none⟩ = some (.string y.f2) ∧ W'.cell? ⟨w.heap.size, 3, none⟩ = some (.slice B3 y.f3.length d3) ∧ W'.cell? ⟨w.heap.size, 4, none⟩ = some (.slice B4 y.f4.length d4) ∧ W'.cell? ⟨w4.heap.size, 0, none⟩ = some (.int .i64 y1.f0) ∧ W'.cell? ⟨w4.heap.size, 1, none⟩ = some (.string y1.f1) ∧ W'.cell? ⟨w4.heap.size, 2, none⟩ = some (.string y1.f2) ∧ W'.cell? ⟨w4.heap.size, 3, none⟩ = some (.slice A5 y1.f3.length c5) ∧ W'.cell? ⟨w4.heap.size, 4, none⟩ = some (.slice A6 y1.f4.length c6)) (ds := []) #[false, false, false, false, false, false, false, false, false, false, false, false, false, false, false, false, false, false, false, false, false, false, false, false] rfl rfl rfl (SK.out _ (Below.refl _ _).drew) (fun hHeld => ?_)
        refine take_ (i := 0) (N := some 17) (v := ?_) (a' := ?_) #[true, false, false, false, false, false, false, false, false, false, false, false, false, false, false, false, false, false, false, false, false, false, false, false] rfl rfl (by kernel_rfl) (fun _ _ _ h => h) (Or.inl ⟨by rfl, ?_⟩) hHeld ?_ ?_
        rotate_left
        · rintro w' ⟨s0_, s1_, s2_, s3_, s4_, s5_, s6_, s7_, s8_, s9_⟩
          go_simp
          with_reducible rfl
        rotate_left
        · simp only [Act.put, List.setIfInBounds_toArray, List.set_cons_zero, List.set_cons_succ]
          rfl
        refine take_ (i := 2) (N := some 19) (v := ?_) (a' := ?_) #[true, false, true, false, false, false, false, false, false, false, false, false, false, false, false, false, false, false, false, false, false, false, false, false] rfl rfl (by kernel_rfl) (fun _ _ _ h => h) (Or.inl ⟨by rfl, ?_⟩) hHeld ?_ ?_
        rotate_left
        · rintro w' ⟨s0_, s1_, s2_, s3_, s4_, s5_, s6_, s7_, s8_, s9_⟩
          go_simp
          with_reducible rfl
        rotate_left
        · simp only [Act.put, List.setIfInBounds_toArray, List.set_cons_zero, List.set_cons_succ]
          rfl
        refine one_ (i := 1) (N := some 18) #[true, true, true, false, false, false, false, false, false, false, false, false, false, false, false, false, false, false, false, false, false, false, false, false] rfl rfl (by kernel_rfl) (by decide) (fun K hK => ?_)
        go_simp
        refine (text_call HTA.out _ A5 A6 c5 c6 (HK5.out _ (Below.refl _ _).drew)).mono ?_
        rintro e w6 ⟨rfl, hb6⟩
        have HC6 := Lib.hid (below_then (Below.refl W5.heap.size W5).drew (Nat.le_refl _) hb6)
        clear hb6
        refine hK.out _ _ ?_ (fun hHeld => ?_)
        · exact SK.out _ HC6.out
        clear hK K
        try simp only [Act.put, List.setIfInBounds_toArray, List.set_cons_zero, List.set_cons_succ]
        refine one_ (i := 3) (N := some 20) #[true, true, true, true, false, false, false, false, false, false, false, false, false, false, false, false, false, false, false, false, false, false, false, false] rfl rfl (by kernel_rfl) (by decide) (fun K hK => ?_)
        go_simp
        refine (text_call HTB.out _ B3 B4 d3 d4 (HKY.out _ (below_then HB5.out HB5.out.size HC6.out))).mono ?_
        rintro e w7 ⟨rfl, hb_⟩
        have HC7 := Lib.hid (below_then HC6.out HC6.out.size hb_)
        clear hb_
        refine hK.out _ _ ?_ (fun hHeld => ?_)
        · exact SK.out _ HC7.out
        clear hK K
        try simp only [Act.put, List.setIfInBounds_toArray, List.set_cons_zero, List.set_cons_succ]
        refine pure_ (i := 4) (N := some 21) (v := ?_) (a' := ?_) #[true, true, true, true, true, false, false, false, false, false, false, false, false, false, false, false, false, false, false, false, false, false, false, false] rfl rfl (by kernel_rfl) (fun _ _ _ h => h) (Or.inl ⟨by rfl, ?_⟩) ?_ ?_
        rotate_left
        · intro w'
          go_simp
          with_reducible rfl
        rotate_left
        · simp only [Act.put, List.setIfInBounds_toArray, List.set_cons_zero, List.set_cons_succ]
          rfl
        refine pure_ (i := 5) (N := some 22) (v := ?_) (a' := ?_) #[true, true, true, true, true, true, false, false, false, false, false, false, false, false, false, false, false, false, false, false, false, false, false, false] rfl rfl (by kernel_rfl) (fun _ _ _ h => h) (Or.inl ⟨by rfl, ?_⟩) ?_ ?_
        rotate_left
        · intro w'
          go_simp
          with_reducible rfl
        rotate_left
        · simp only [Act.put, List.setIfInBounds_toArray, List.set_cons_zero, List.set_cons_succ]
          rfl
        refine take_ (i := 6) (N := some 23) (v := ?_) (a' := ?_) #[true, true, true, true, true, true, true, false, false, false, false, false, false, false, false, false, false, false, false, false, false, false, false, false] rfl rfl (by kernel_rfl) (fun _ _ _ h => h) (Or.inl ⟨by rfl, ?_⟩) hHeld ?_ ?_
        rotate_left
        · rintro w' ⟨s0_, s1_, s2_, s3_, s4_, s5_, s6_, s7_, s8_, s9_⟩
          go_simp
          with_reducible rfl
        rotate_left
        · simp only [Act.put, List.setIfInBounds_toArray, List.set_cons_zero, List.set_cons_succ]
          rfl
        refine pure_ (i := 7) (N := some 24) (v := ?_) (a' := ?_) #[true, true, true, true, true, true, true, true, false, false, false, false, false, false, false, false, false, false, false, false, false, false, false, false] rfl rfl (by kernel_rfl) (fun _ _ _ h => h) (Or.inl ⟨by rfl, ?_⟩) ?_ ?_
        rotate_left
        · intro w'
          go_simp
          with_reducible rfl
        rotate_left
        · simp only [Act.put, List.setIfInBounds_toArray, List.set_cons_zero, List.set_cons_succ]
          rfl
        refine one_ (i := 8) (N := some 25) #[true, true, true, true, true, true, true, true, true, false, false, false, false, false, false, false, false, false, false, false, false, false, false, false] rfl rfl (by kernel_rfl) (by decide) (fun K hK => ?_)
        go_simp
        refine (has_call HR2.out _ B3 B4 d3 d4 (HKY.out _ (below_then HB5.out HB5.out.size HC7.out)) g2 ⟨HQ2.out _ HC7.out, by decide⟩).mono ?_
        rintro e w8 ⟨rfl, hb_⟩
        have HC8 := Lib.hid (below_then HC7.out HC7.out.size hb_)
        clear hb_
        refine hK.out _ _ ?_ (fun hHeld => ?_)
        · exact SK.out _ HC8.out
        clear hK K
        try simp only [Act.put, List.setIfInBounds_toArray, List.set_cons_zero, List.set_cons_succ]
        refine pure_ (i := 9) (N := some 26) (v := ?_) (a' := ?_) #[true, true, true, true, true, true, true, true, true, true, false, false, false, false, false, false, false, false, false, false, false, false, false, false] rfl rfl (by kernel_rfl) (fun _ _ _ h => h) (Or.inl ⟨by rfl, ?_⟩) ?_ ?_
        rotate_left
        · intro w'
          go_simp
          with_reducible rfl
        rotate_left
        · simp only [Act.put, List.setIfInBounds_toArray, List.set_cons_zero, List.set_cons_succ]
          rfl
        refine take_ (i := 10) (N := some 27) (v := ?_) (a' := ?_) #[true, true, true, true, true, true, true, true, true, true, true, false, false, false, false, false, false, false, false, false, false, false, false, false] rfl rfl (by kernel_rfl) (fun _ _ _ h => h) (Or.inl ⟨by rfl, ?_⟩) hHeld ?_ ?_
        rotate_left
        · rintro w' ⟨s0_, s1_, s2_, s3_, s4_, s5_, s6_, s7_, s8_, s9_⟩
          go_simp
          with_reducible rfl
        rotate_left
        · simp only [Act.put, List.setIfInBounds_toArray, List.set_cons_zero, List.set_cons_succ]
          rfl
        refine pure_ (i := 11) (N := some 28) (v := ?_) (a' := ?_) #[true, true, true, true, true, true, true, true, true, true, true, true, false, false, false, false, false, false, false, false, false, false, false, false] rfl rfl (by kernel_rfl) (fun _ _ _ h => h) (Or.inl ⟨by rfl, ?_⟩) ?_ ?_
        rotate_left
        · intro w'
          go_simp
          with_reducible rfl
        rotate_left
        · simp only [Act.put, List.setIfInBounds_toArray, List.set_cons_zero, List.set_cons_succ]
          rfl
        refine one_ (i := 12) (N := some 29) #[true, true, true, true, true, true, true, true, true, true, true, true, true, false, false, false, false, false, false, false, false, false, false, false] rfl rfl (by kernel_rfl) (by decide) (fun K hK => ?_)
        go_simp
        refine (has_call HR1.out _ B3 B4 d3 d4 (HKY.out _ (below_then HB5.out HB5.out.size HC8.out)) g1 ⟨HQ1.out _ HC8.out, by decide⟩).mono ?_
        rintro e w9 ⟨rfl, hb_⟩
        have HC9 := Lib.hid (below_then HC8.out HC8.out.size hb_)
        clear hb_
        refine hK.out _ _ ?_ (fun hHeld => ?_)
        · exact SK.out _ HC9.out
        clear hK K
        try simp only [Act.put, List.setIfInBounds_toArray, List.set_cons_zero, List.set_cons_succ]
        refine pure_ (i := 13) (N := some 30) (v := ?_) (a' := ?_) #[true, true, true, true, true, true, true, true, true, true, true, true, true, true, false, false, false, false, false, false, false, false, false, false] rfl rfl (by kernel_rfl) (fun _ _ _ h => h) (Or.inl ⟨by rfl, ?_⟩) ?_ ?_
        rotate_left
        · intro w'
          go_simp
          with_reducible rfl
        rotate_left
        · simp only [Act.put, List.setIfInBounds_toArray, List.set_cons_zero, List.set_cons_succ]
          rfl
        refine pure_ (i := 14) (N := some 31) (v := ?_) (a' := ?_) #[true, true, true, true, true, true, true, true, true, true, true, true, true, true, true, false, false, false, false, false, false, false, false, false] rfl rfl (by kernel_rfl) (fun _ _ _ h => h) (Or.inl ⟨by rfl, ?_⟩) ?_ ?_
        rotate_left
        · intro w'
          go_simp
          with_reducible rfl
        rotate_left
        · simp only [Act.put, List.setIfInBounds_toArray, List.set_cons_zero, List.set_cons_succ]
          rfl
        refine pure_ (i := 15) (N := some 32) (v := undef) (a' := ?_) #[true, true, true, true, true, true, true, true, true, true, true, true, true, true, true, true, false, false, false, false, false, false, false, false] rfl rfl (by kernel_rfl) (fun _ _ _ h => h) (Or.inr ⟨by rfl, rfl⟩) ?_ ?_
        rotate_left
        · simp only [Act.put, List.setIfInBounds_toArray, List.set_cons_zero, List.set_cons_succ]
          rfl
        refine pure_ (i := 16) (N := some 33) (v := undef) (a' := ?_) #[true, true, true, true, true, true, true, true, true, true, true, true, true, true, true, true, true, false, false, false, false, false, false, false] rfl rfl (by kernel_rfl) (fun _ _ _ h => h) (Or.inr ⟨by rfl, rfl⟩) ?_ ?_
        rotate_left
        · simp only [Act.put, List.setIfInBounds_toArray, List.set_cons_zero, List.set_cons_succ]
          rfl
        refine pure_ (i := 17) (N := some 34) (v := undef) (a' := ?_) #[true, true, true, true, true, true, true, true, true, true, true, true, true, true, true, true, true, true, false, false, false, false, false, false] rfl rfl (by kernel_rfl) (fun _ _ _ h => h) (Or.inr ⟨by rfl, rfl⟩) ?_ ?_
        rotate_left
        · simp only [Act.put, List.setIfInBounds_toArray, List.set_cons_zero, List.set_cons_succ]
          rfl
        refine pure_ (i := 18) (N := some 35) (v := ?_) (a' := ?_) #[true, true, true, true, true, true, true, true, true, true, true, true, true, true, true, true, true, true, true, false, false, false, false, false] rfl rfl (by kernel_rfl) (fun _ _ _ h => h) (Or.inl ⟨by rfl, ?_⟩) ?_ ?_
        rotate_left
        · intro w'
          go_simp
          with_reducible rfl
        rotate_left
        · simp only [Act.put, List.setIfInBounds_toArray, List.set_cons_zero, List.set_cons_succ]
          rfl
        refine pure_ (i := 19) (N := some 36) (v := ?_) (a' := ?_) #[true, true, true, true, true, true, true, true, true, true, true, true, true, true, true, true, true, true, true, true, false, false, false, false] rfl rfl (by kernel_rfl) (fun _ _ _ h => h) (Or.inl ⟨by rfl, ?_⟩) ?_ ?_
        rotate_left
        · intro w'
          go_simp
          with_reducible rfl
        rotate_left
        · simp only [Act.put, List.setIfInBounds_toArray, List.set_cons_zero, List.set_cons_succ]
          rfl
        refine pure_ (i := 20) (N := some 37) (v := ?_) (a' := ?_) #[true, true, true, true, true, true, true, true, true, true, true, true, true, true, true, true, true, true, true, true, true, false, false, false] rfl rfl (by kernel_rfl) (fun _ _ _ h => h) (Or.inl ⟨by rfl, ?_⟩) ?_ ?_
        rotate_left
        · intro w'
          go_simp
          with_reducible rfl
        rotate_left
        · simp only [Act.put, List.setIfInBounds_toArray, List.set_cons_zero, List.set_cons_succ]
          rfl
        refine one_ (i := 21) (N := some 38) #[true, true, true, true, true, true, true, true, true, true, true, true, true, true, true, true, true, true, true, true, true, true, false, false] rfl rfl (by kernel_rfl) (by decide) (fun K hK => ?_)
        go_simp
        refine (lives_any _).mono ?_
        rintro e w11 ⟨rfl, hb_⟩
        have HC11 := Lib.hid (below_then HC9.out HC9.out.size hb_)
        clear hb_
        refine hK.out _ _ ?_ (fun hHeld => ?_)
        · exact SK.out _ HC11.out
        clear hK K
        try simp only [Act.put, List.setIfInBounds_toArray, List.set_cons_zero, List.set_cons_succ]
        refine pure_ (i := 22) (N := some 39) (v := ?_) (a' := ?_) #[true, true, true, true, true, true, true, true, true, true, true, true, true, true, true, true, true, true, true, true, true, true, true, false] rfl rfl (by kernel_rfl) (fun _ _ _ h => h) (Or.inl ⟨by rfl, ?_⟩) ?_ ?_
        rotate_left
        · intro w'
          go_simp
          with_reducible rfl
        rotate_left
        · simp only [Act.put, List.setIfInBounds_toArray, List.set_cons_zero, List.set_cons_succ]
          rfl
        refine pure_ (i := 23) (N := some 2) (v := ?_) (a' := ?_) #[true, true, true, true, true, true, true, true, true, true, true, true, true, true, true, true, true, true, true, true, true, true, true, true] rfl rfl (by kernel_rfl) (fun _ _ _ h => h) (Or.inl ⟨by rfl, ?_⟩) ?_ ?_
        rotate_left
        · intro w'
          go_simp
          with_reducible rfl
        rotate_left
        · simp only [Act.put, List.setIfInBounds_toArray, List.set_cons_zero, List.set_cons_succ]
          rfl
        refine done_ (by kernel_rfl) ?_
        go_wp2
        go_ret
        exact ⟨rfl, HL1.out _ (below_then HB5.out HB5.out.size HC11.out)⟩
      | false =>
        have hs2 := HSAME.out (Or.inr rfl)
        have HSM2 := Lib.hid (same_sm 60 n HSM.out.2 (by decide) y HSM.out.1 600 (by have := HSM.out.2; omega))
        clear HSAME
        subst hs2
        refine start_ (n := 24) (S := fun W' => W'.cell? ⟨w.heap.size, 0, none⟩ = some (.int .i64 y1.f0) ∧ W'.cell? ⟨w.heap.size, 1, none⟩ = some (.string y1.f1) ∧ W'.cell? ⟨w.heap.size, 2, none⟩ = some (.string y1.f2) ∧ W'.cell? ⟨w.heap.size, 3, none⟩ = some (.slice B3 y1.f3.length d3) ∧ W'.cell? ⟨w.heap.size, 4, none⟩ = some (.slice B4 y1.f4.length d4) ∧ W'.cell? ⟨w4.heap.size, 0, none⟩ = some (.int .i64 y1.f0) ∧ W'.cell? ⟨w4.heap.size, 1, none⟩ = some (.string y1.f1) ∧ W'.cell? ⟨w4.heap.size, 2, none⟩ = some (.string y1.f2) ∧ W'.cell? ⟨w4.heap.size, 3, none⟩ = some (.slice A5 y1.f3.length c5) ∧ W'.cell? ⟨w4.heap.size, 4, none⟩ = some (.slice A6 y1.f4.length c6)) (ds := []) #[false, false, false, false, false, false, false, false, false, false, false, false, false, false, false, false, false, false, false, false, false, false, false, false] rfl rfl rfl (SK.out _ (Below.refl _ _).drew) (fun hHeld => ?_)
        refine take_ (i := 0) (N := some 17) (v := ?_) (a' := ?_) #[true, false, false, false, false, false, false, false, false, false, false, false, false, false, false, false, false, false, false, false, false, false, false, false] rfl rfl (by kernel_rfl) (fun _ _ _ h => h) (Or.inl ⟨by rfl, ?_⟩) hHeld ?_ ?_
        rotate_left
        · rintro w' ⟨s0_, s1_, s2_, s3_, s4_, s5_, s6_, s7_, s8_, s9_⟩
          go_simp
          with_reducible rfl
        rotate_left
        · simp only [Act.put, List.setIfInBounds_toArray, List.set_cons_zero, List.set_cons_succ]
          rfl
        refine take_ (i := 2) (N := some 19) (v := ?_) (a' := ?_) #[true, false, true, false, false, false, false, false, false, false, false, false, false, false, false, false, false, false, false, false, false, false, false, false] rfl rfl (by kernel_rfl) (fun _ _ _ h => h) (Or.inl ⟨by rfl, ?_⟩) hHeld ?_ ?_
        rotate_left
        · rintro w' ⟨s0_, s1_, s2_, s3_, s4_, s5_, s6_, s7_, s8_, s9_⟩
          go_simp
          with_reducible rfl
        rotate_left
        · simp only [Act.put, List.setIfInBounds_toArray, List.set_cons_zero, List.set_cons_succ]
          rfl
        refine one_ (i := 1) (N := some 18) #[true, true, true, false, false, false, false, false, false, false, false, false, false, false, false, false, false, false, false, false, false, false, false, false] rfl rfl (by kernel_rfl) (by decide) (fun K hK => ?_)
        go_simp
        refine (text_call HTA.out _ A5 A6 c5 c6 (HK5.out _ (Below.refl _ _).drew)).mono ?_
        rintro e w6 ⟨rfl, hb6⟩
        have HC6 := Lib.hid (below_then (Below.refl W5.heap.size W5).drew (Nat.le_refl _) hb6)
        clear hb6
        refine hK.out _ _ ?_ (fun hHeld => ?_)
        · exact SK.out _ HC6.out
        clear hK K
        try simp only [Act.put, List.setIfInBounds_toArray, List.set_cons_zero, List.set_cons_succ]
        refine one_ (i := 3) (N := some 20) #[true, true, true, true, false, false, false, false, false, false, false, false, false, false, false, false, false, false, false, false, false, false, false, false] rfl rfl (by kernel_rfl) (by decide) (fun K hK => ?_)
        go_simp
        refine (text_call HTB.out _ B3 B4 d3 d4 (HKY.out _ (below_then HB5.out HB5.out.size HC6.out))).mono ?_
        rintro e w7 ⟨rfl, hb_⟩
        have HC7 := Lib.hid (below_then HC6.out HC6.out.size hb_)
        clear hb_
        refine hK.out _ _ ?_ (fun hHeld => ?_)
        · exact SK.out _ HC7.out
        clear hK K
        try simp only [Act.put, List.setIfInBounds_toArray, List.set_cons_zero, List.set_cons_succ]
        refine pure_ (i := 4) (N := some 21) (v := ?_) (a' := ?_) #[true, true, true, true, true, false, false, false, false, false, false, false, false, false, false, false, false, false, false, false, false, false, false, false] rfl rfl (by kernel_rfl) (fun _ _ _ h => h) (Or.inl ⟨by rfl, ?_⟩) ?_ ?_
        rotate_left
        · intro w'
          go_simp
          with_reducible rfl
        rotate_left
        · simp only [Act.put, List.setIfInBounds_toArray, List.set_cons_zero, List.set_cons_succ]
          rfl
        refine pure_ (i := 5) (N := some 22) (v := ?_) (a' := ?_) #[true, true, true, true, true, true, false, false, false, false, false, false, false, false, false, false, false, false, false, false, false, false, false, false] rfl rfl (by kernel_rfl) (fun _ _ _ h => h) (Or.inl ⟨by rfl, ?_⟩) ?_ ?_
        rotate_left
        · intro w'
          go_simp
          with_reducible rfl
        rotate_left
        · simp only [Act.put, List.setIfInBounds_toArray, List.set_cons_zero, List.set_cons_succ]
          rfl
        refine take_ (i := 6) (N := some 23) (v := ?_) (a' := ?_) #[true, true, true, true, true, true, true, false, false, false, false, false, false, false, false, false, false, false, false, false, false, false, false, false] rfl rfl (by kernel_rfl) (fun _ _ _ h => h) (Or.inl ⟨by rfl, ?_⟩) hHeld ?_ ?_
        rotate_left
        · rintro w' ⟨s0_, s1_, s2_, s3_, s4_, s5_, s6_, s7_, s8_, s9_⟩
          go_simp
          with_reducible rfl
        rotate_left
        · simp only [Act.put, List.setIfInBounds_toArray, List.set_cons_zero, List.set_cons_succ]
          rfl
        refine pure_ (i := 7) (N := some 24) (v := ?_) (a' := ?_) #[true, true, true, true, true, true, true, true, false, false, false, false, false, false, false, false, false, false, false, false, false, false, false, false] rfl rfl (by kernel_rfl) (fun _ _ _ h => h) (Or.inl ⟨by rfl, ?_⟩) ?_ ?_
        rotate_left
        · intro w'
          go_simp
          with_reducible rfl
        rotate_left
        · simp only [Act.put, List.setIfInBounds_toArray, List.set_cons_zero, List.set_cons_succ]
          rfl
        refine one_ (i := 8) (N := some 25) #[true, true, true, true, true, true, true, true, true, false, false, false, false, false, false, false, false, false, false, false, false, false, false, false] rfl rfl (by kernel_rfl) (by decide) (fun K hK => ?_)
        go_simp
        refine (has_call HR2.out _ B3 B4 d3 d4 (HKY.out _ (below_then HB5.out HB5.out.size HC7.out)) g2 ⟨HQ2.out _ HC7.out, by decide⟩).mono ?_
        rintro e w8 ⟨rfl, hb_⟩
        have HC8 := Lib.hid (below_then HC7.out HC7.out.size hb_)
        clear hb_
        refine hK.out _ _ ?_ (fun hHeld => ?_)
        · exact SK.out _ HC8.out
        clear hK K
        try simp only [Act.put, List.setIfInBounds_toArray, List.set_cons_zero, List.set_cons_succ]
        refine pure_ (i := 9) (N := some 26) (v := ?_) (a' := ?_) #[true, true, true, true, true, true, true, true, true, true, false, false, false, false, false, false, false, false, false, false, false, false, false, false] rfl rfl (by kernel_rfl) (fun _ _ _ h => h) (Or.inl ⟨by rfl, ?_⟩) ?_ ?_
        rotate_left
        · intro w'
          go_simp
          with_reducible rfl
        rotate_left
        · simp only [Act.put, List.setIfInBounds_toArray, List.set_cons_zero, List.set_cons_succ]
          rfl
        refine take_ (i := 10) (N := some 27) (v := ?_) (a' := ?_) #[true, true, true, true, true, true, true, true, true, true, true, false, false, false, false, false, false, false, false, false, false, false, false, false] rfl rfl (by kernel_rfl) (fun _ _ _ h => h) (Or.inl ⟨by rfl, ?_⟩) hHeld ?_ ?_
        rotate_left
        · rintro w' ⟨s0_, s1_, s2_, s3_, s4_, s5_, s6_, s7_, s8_, s9_⟩
          go_simp
          with_reducible rfl
        rotate_left
        · simp only [Act.put, List.setIfInBounds_toArray, List.set_cons_zero, List.set_cons_succ]
          rfl
        refine pure_ (i := 11) (N := some 28) (v := ?_) (a' := ?_) #[true, true, true, true, true, true, true, true, true, true, true, true, false, false, false, false, false, false, false, false, false, false, false, false] rfl rfl (by kernel_rfl) (fun _ _ _ h => h) (Or.inl ⟨by rfl, ?_⟩) ?_ ?_
        rotate_left
        · intro w'
          go_simp
          with_reducible rfl
        rotate_left
        · simp only [Act.put, List.setIfInBounds_toArray, List.set_cons_zero, List.set_cons_succ]
          rfl
        refine one_ (i := 12) (N := some 29) #[true, true, true, true, true, true, true, true, true, true, true, true, true, false, false, false, false, false, false, false, false, false, false, false] rfl rfl (by kernel_rfl) (by decide) (fun K hK => ?_)
        go_simp
        refine (has_call HR1.out _ B3 B4 d3 d4 (HKY.out _ (below_then HB5.out HB5.out.size HC8.out)) g1 ⟨HQ1.out _ HC8.out, by decide⟩).mono ?_
        rintro e w9 ⟨rfl, hb_⟩
        have HC9 := Lib.hid (below_then HC8.out HC8.out.size hb_)
        clear hb_
        refine hK.out _ _ ?_ (fun hHeld => ?_)
        · exact SK.out _ HC9.out
        clear hK K
        try simp only [Act.put, List.setIfInBounds_toArray, List.set_cons_zero, List.set_cons_succ]
        refine pure_ (i := 13) (N := some 30) (v := ?_) (a' := ?_) #[true, true, true, true, true, true, true, true, true, true, true, true, true, true, false, false, false, false, false, false, false, false, false, false] rfl rfl (by kernel_rfl) (fun _ _ _ h => h) (Or.inl ⟨by rfl, ?_⟩) ?_ ?_
        rotate_left
        · intro w'
          go_simp
          with_reducible rfl
        rotate_left
        · simp only [Act.put, List.setIfInBounds_toArray, List.set_cons_zero, List.set_cons_succ]
          rfl
        refine pure_ (i := 14) (N := some 31) (v := ?_) (a' := ?_) #[true, true, true, true, true, true, true, true, true, true, true, true, true, true, true, false, false, false, false, false, false, false, false, false] rfl rfl (by kernel_rfl) (fun _ _ _ h => h) (Or.inl ⟨by rfl, ?_⟩) ?_ ?_
        rotate_left
        · intro w'
          go_simp
          with_reducible rfl
        rotate_left
        · simp only [Act.put, List.setIfInBounds_toArray, List.set_cons_zero, List.set_cons_succ]
          rfl
        refine take_ (i := 15) (N := some 32) (v := ?_) (a' := ?_) #[true, true, true, true, true, true, true, true, true, true, true, true, true, true, true, true, false, false, false, false, false, false, false, false] rfl rfl (by kernel_rfl) (fun _ _ _ h => h) (Or.inl ⟨by rfl, ?_⟩) hHeld ?_ ?_
        rotate_left
        · rintro w' ⟨s0_, s1_, s2_, s3_, s4_, s5_, s6_, s7_, s8_, s9_⟩
          go_simp
          with_reducible rfl
        rotate_left
        · simp only [Act.put, List.setIfInBounds_toArray, List.set_cons_zero, List.set_cons_succ]
          rfl
        refine take_ (i := 16) (N := some 33) (v := ?_) (a' := ?_) #[true, true, true, true, true, true, true, true, true, true, true, true, true, true, true, true, true, false, false, false, false, false, false, false] rfl rfl (by kernel_rfl) (fun _ _ _ h => h) (Or.inl ⟨by rfl, ?_⟩) hHeld ?_ ?_
        rotate_left
        · rintro w' ⟨s0_, s1_, s2_, s3_, s4_, s5_, s6_, s7_, s8_, s9_⟩
          go_simp
          with_reducible rfl
        rotate_left
        · simp only [Act.put, List.setIfInBounds_toArray, List.set_cons_zero, List.set_cons_succ]
          rfl
        refine one_ (i := 17) (N := some 34) #[true, true, true, true, true, true, true, true, true, true, true, true, true, true, true, true, true, true, false, false, false, false, false, false] rfl rfl (by kernel_rfl) (by decide) (fun K hK => ?_)
        go_simp
        refine (same_call _ _ A5 A6 B3 B4 c5 c6 d3 d4 (HK5.out _ HC9.out) (HKY.out _ (below_then HB5.out HB5.out.size HC9.out)) HSM2.out).mono ?_
        rintro e w10 ⟨rfl, hb_⟩
        have HC10 := Lib.hid (below_then HC9.out HC9.out.size hb_)
        clear hb_
        refine hK.out _ _ ?_ (fun hHeld => ?_)
        · exact SK.out _ HC10.out
        clear hK K
        try simp only [Act.put, List.setIfInBounds_toArray, List.set_cons_zero, List.set_cons_succ]
        refine pure_ (i := 18) (N := some 35) (v := ?_) (a' := ?_) #[true, true, true, true, true, true, true, true, true, true, true, true, true, true, true, true, true, true, true, false, false, false, false, false] rfl rfl (by kernel_rfl) (fun _ _ _ h => h) (Or.inl ⟨by rfl, ?_⟩) ?_ ?_
        rotate_left
        · intro w'
          go_simp
          with_reducible rfl
        rotate_left
        · simp only [Act.put, List.setIfInBounds_toArray, List.set_cons_zero, List.set_cons_succ]
          rfl
        refine pure_ (i := 19) (N := some 36) (v := ?_) (a' := ?_) #[true, true, true, true, true, true, true, true, true, true, true, true, true, true, true, true, true, true, true, true, false, false, false, false] rfl rfl (by kernel_rfl) (fun _ _ _ h => h) (Or.inl ⟨by rfl, ?_⟩) ?_ ?_
        rotate_left
        · intro w'
          go_simp
          with_reducible rfl
        rotate_left
        · simp only [Act.put, List.setIfInBounds_toArray, List.set_cons_zero, List.set_cons_succ]
          rfl
        refine pure_ (i := 20) (N := some 37) (v := ?_) (a' := ?_) #[true, true, true, true, true, true, true, true, true, true, true, true, true, true, true, true, true, true, true, true, true, false, false, false] rfl rfl (by kernel_rfl) (fun _ _ _ h => h) (Or.inl ⟨by rfl, ?_⟩) ?_ ?_
        rotate_left
        · intro w'
          go_simp
          with_reducible rfl
        rotate_left
        · simp only [Act.put, List.setIfInBounds_toArray, List.set_cons_zero, List.set_cons_succ]
          rfl
        refine one_ (i := 21) (N := some 38) #[true, true, true, true, true, true, true, true, true, true, true, true, true, true, true, true, true, true, true, true, true, true, false, false] rfl rfl (by kernel_rfl) (by decide) (fun K hK => ?_)
        go_simp
        refine (lives_any _).mono ?_
        rintro e w11 ⟨rfl, hb_⟩
        have HC11 := Lib.hid (below_then HC10.out HC10.out.size hb_)
        clear hb_
        refine hK.out _ _ ?_ (fun hHeld => ?_)
        · exact SK.out _ HC11.out
        clear hK K
        try simp only [Act.put, List.setIfInBounds_toArray, List.set_cons_zero, List.set_cons_succ]
        refine pure_ (i := 22) (N := some 39) (v := ?_) (a' := ?_) #[true, true, true, true, true, true, true, true, true, true, true, true, true, true, true, true, true, true, true, true, true, true, true, false] rfl rfl (by kernel_rfl) (fun _ _ _ h => h) (Or.inl ⟨by rfl, ?_⟩) ?_ ?_
        rotate_left
        · intro w'
          go_simp
          with_reducible rfl
        rotate_left
        · simp only [Act.put, List.setIfInBounds_toArray, List.set_cons_zero, List.set_cons_succ]
          rfl
        refine pure_ (i := 23) (N := some 2) (v := ?_) (a' := ?_) #[true, true, true, true, true, true, true, true, true, true, true, true, true, true, true, true, true, true, true, true, true, true, true, true] rfl rfl (by kernel_rfl) (fun _ _ _ h => h) (Or.inl ⟨by rfl, ?_⟩) ?_ ?_
        rotate_left
        · intro w'
          go_simp
          with_reducible rfl
        rotate_left
        · simp only [Act.put, List.setIfInBounds_toArray, List.set_cons_zero, List.set_cons_succ]
          rfl
        refine done_ (by kernel_rfl) ?_
        go_wp2
        go_ret
        exact ⟨rfl, HL1.out _ (below_then HB5.out HB5.out.size HC11.out)⟩
    | false =>
      have hs2 := HSAME.out (Or.inl rfl)
      have HSM2 := Lib.hid (same_sm 60 n HSM.out.2 (by decide) y HSM.out.1 600 (by have := HSM.out.2; omega))
      clear HSAME
      subst hs2
      refine start_ (n := 24) (S := fun W' => W'.cell? ⟨w.heap.size, 0, none⟩ = some (.int .i64 y1.f0) ∧ W'.cell? ⟨w.heap.size, 1, none⟩ = some (.string y1.f1) ∧ W'.cell? ⟨w.heap.size, 2, none⟩ = some (.string y1.f2) ∧ W'.cell? ⟨w.heap.size, 3, none⟩ = some (.slice B3 y1.f3.length d3) ∧ W'.cell? ⟨w.heap.size, 4, none⟩ = some (.slice B4 y1.f4.length d4) ∧ W'.cell? ⟨w4.heap.size, 0, none⟩ = some (.int .i64 y1.f0) ∧ W'.cell? ⟨w4.heap.size, 1, none⟩ = some (.string y1.f1) ∧ W'.cell? ⟨w4.heap.size, 2, none⟩ = some (.string y1.f2) ∧ W'.cell? ⟨w4.heap.size, 3, none⟩ = some (.slice A5 y1.f3.length c5) ∧ W'.cell? ⟨w4.heap.size, 4, none⟩ = some (.slice A6 y1.f4.length c6)) (ds := []) #[false, false, false, false, false, false, false, false, false, false, false, false, false, false, false, false, false, false, false, false, false, false, false, false] rfl rfl rfl (SK.out _ (Below.refl _ _).drew) (fun hHeld => ?_)
      refine take_ (i := 0) (N := some 17) (v := ?_) (a' := ?_) #[true, false, false, false, false, false, false, false, false, false, false, false, false, false, false, false, false, false, false, false, false, false, false, false] rfl rfl (by kernel_rfl) (fun _ _ _ h => h) (Or.inl ⟨by rfl, ?_⟩) hHeld ?_ ?_
      rotate_left
      · rintro w' ⟨s0_, s1_, s2_, s3_, s4_, s5_, s6_, s7_, s8_, s9_⟩
        go_simp
        with_reducible rfl
      rotate_left
      · simp only [Act.put, List.setIfInBounds_toArray, List.set_cons_zero, List.set_cons_succ]
        rfl
      refine take_ (i := 2) (N := some 19) (v := ?_) (a' := ?_) #[true, false, true, false, false, false, false, false, false, false, false, false, false, false, false, false, false, false, false, false, false, false, false, false] rfl rfl (by kernel_rfl) (fun _ _ _ h => h) (Or.inl ⟨by rfl, ?_⟩) hHeld ?_ ?_
      rotate_left
      · rintro w' ⟨s0_, s1_, s2_, s3_, s4_, s5_, s6_, s7_, s8_, s9_⟩
        go_simp
        with_reducible rfl
      rotate_left
      · simp only [Act.put, List.setIfInBounds_toArray, List.set_cons_zero, List.set_cons_succ]
        rfl
      refine one_ (i := 1) (N := some 18) #[true, true, true, false, false, false, false, false, false, false, false, false, false, false, false, false, false, false, false, false, false, false, false, false] rfl rfl (by kernel_rfl) (by decide) (fun K hK => ?_)
      go_simp
      refine (text_call HTA.out _ A5 A6 c5 c6 (HK5.out _ (Below.refl _ _).drew)).mono ?_
      rintro e w6 ⟨rfl, hb6⟩
      have HC6 := Lib.hid (below_then (Below.refl W5.heap.size W5).drew (Nat.le_refl _) hb6)
      clear hb6
      refine hK.out _ _ ?_ (fun hHeld => ?_)
      · exact SK.out _ HC6.out
      clear hK K
      try simp only [Act.put, List.setIfInBounds_toArray, List.set_cons_zero, List.set_cons_succ]
      refine one_ (i := 3) (N := some 20) #[true, true, true, true, false, false, false, false, false, false, false, false, false, false, false, false, false, false, false, false, false, false, false, false] rfl rfl (by kernel_rfl) (by decide) (fun K hK => ?_)
      go_simp
      refine (text_call HTB.out _ B3 B4 d3 d4 (HKY.out _ (below_then HB5.out HB5.out.size HC6.out))).mono ?_
      rintro e w7 ⟨rfl, hb_⟩
      have HC7 := Lib.hid (below_then HC6.out HC6.out.size hb_)
      clear hb_
      refine hK.out _ _ ?_ (fun hHeld => ?_)
      · exact SK.out _ HC7.out
      clear hK K
      try simp only [Act.put, List.setIfInBounds_toArray, List.set_cons_zero, List.set_cons_succ]
      refine pure_ (i := 4) (N := some 21) (v := ?_) (a' := ?_) #[true, true, true, true, true, false, false, false, false, false, false, false, false, false, false, false, false, false, false, false, false, false, false, false] rfl rfl (by kernel_rfl) (fun _ _ _ h => h) (Or.inl ⟨by rfl, ?_⟩) ?_ ?_
      rotate_left
      · intro w'
        go_simp
        with_reducible rfl
      rotate_left
      · simp only [Act.put, List.setIfInBounds_toArray, List.set_cons_zero, List.set_cons_succ]
        rfl
      refine pure_ (i := 5) (N := some 22) (v := ?_) (a' := ?_) #[true, true, true, true, true, true, false, false, false, false, false, false, false, false, false, false, false, false, false, false, false, false, false, false] rfl rfl (by kernel_rfl) (fun _ _ _ h => h) (Or.inl ⟨by rfl, ?_⟩) ?_ ?_
      rotate_left
      · intro w'
        go_simp
        with_reducible rfl
      rotate_left
      · simp only [Act.put, List.setIfInBounds_toArray, List.set_cons_zero, List.set_cons_succ]
        rfl
      refine take_ (i := 6) (N := some 23) (v := ?_) (a' := ?_) #[true, true, true, true, true, true, true, false, false, false, false, false, false, false, false, false, false, false, false, false, false, false, false, false] rfl rfl (by kernel_rfl) (fun _ _ _ h => h) (Or.inl ⟨by rfl, ?_⟩) hHeld ?_ ?_
      rotate_left
      · rintro w' ⟨s0_, s1_, s2_, s3_, s4_, s5_, s6_, s7_, s8_, s9_⟩
        go_simp
        with_reducible rfl
      rotate_left
      · simp only [Act.put, List.setIfInBounds_toArray, List.set_cons_zero, List.set_cons_succ]
        rfl
      refine pure_ (i := 7) (N := some 24) (v := ?_) (a' := ?_) #[true, true, true, true, true, true, true, true, false, false, false, false, false, false, false, false, false, false, false, false, false, false, false, false] rfl rfl (by kernel_rfl) (fun _ _ _ h => h) (Or.inl ⟨by rfl, ?_⟩) ?_ ?_
      rotate_left
      · intro w'
        go_simp
        with_reducible rfl
      rotate_left
      · simp only [Act.put, List.setIfInBounds_toArray, List.set_cons_zero, List.set_cons_succ]
        rfl
      refine one_ (i := 8) (N := some 25) #[true, true, true, true, true, true, true, true, true, false, false, false, false, false, false, false, false, false, false, false, false, false, false, false] rfl rfl (by kernel_rfl) (by decide) (fun K hK => ?_)
      go_simp
      refine (has_call HR2.out _ B3 B4 d3 d4 (HKY.out _ (below_then HB5.out HB5.out.size HC7.out)) g2 ⟨HQ2.out _ HC7.out, by decide⟩).mono ?_
      rintro e w8 ⟨rfl, hb_⟩
      have HC8 := Lib.hid (below_then HC7.out HC7.out.size hb_)
      clear hb_
      refine hK.out _ _ ?_ (fun hHeld => ?_)
      · exact SK.out _ HC8.out
      clear hK K
      try simp only [Act.put, List.setIfInBounds_toArray, List.set_cons_zero, List.set_cons_succ]
      refine pure_ (i := 9) (N := some 26) (v := ?_) (a' := ?_) #[true, true, true, true, true, true, true, true, true, true, false, false, false, false, false, false, false, false, false, false, false, false, false, false] rfl rfl (by kernel_rfl) (fun _ _ _ h => h) (Or.inl ⟨by rfl, ?_⟩) ?_ ?_
      rotate_left
      · intro w'
        go_simp
        with_reducible rfl
      rotate_left
      · simp only [Act.put, List.setIfInBounds_toArray, List.set_cons_zero, List.set_cons_succ]
        rfl
      refine pure_ (i := 10) (N := some 27) (v := undef) (a' := ?_) #[true, true, true, true, true, true, true, true, true, true, true, false, false, false, false, false, false, false, false, false, false, false, false, false] rfl rfl (by kernel_rfl) (fun _ _ _ h => h) (Or.inr ⟨by rfl, rfl⟩) ?_ ?_
      rotate_left
      · simp only [Act.put, List.setIfInBounds_toArray, List.set_cons_zero, List.set_cons_succ]
        rfl
      refine pure_ (i := 11) (N := some 28) (v := undef) (a' := ?_) #[true, true, true, true, true, true, true, true, true, true, true, true, false, false, false, false, false, false, false, false, false, false, false, false] rfl rfl (by kernel_rfl) (fun _ _ _ h => h) (Or.inr ⟨by rfl, rfl⟩) ?_ ?_
      rotate_left
      · simp only [Act.put, List.setIfInBounds_toArray, List.set_cons_zero, List.set_cons_succ]
        rfl
      refine pure_ (i := 12) (N := some 29) (v := undef) (a' := ?_) #[true, true, true, true, true, true, true, true, true, true, true, true, true, false, false, false, false, false, false, false, false, false, false, false] rfl rfl (by kernel_rfl) (fun _ _ _ h => h) (Or.inr ⟨by rfl, rfl⟩) ?_ ?_
      rotate_left
      · simp only [Act.put, List.setIfInBounds_toArray, List.set_cons_zero, List.set_cons_succ]
        rfl
      refine pure_ (i := 13) (N := some 30) (v := ?_) (a' := ?_) #[true, true, true, true, true, true, true, true, true, true, true, true, true, true, false, false, false, false, false, false, false, false, false, false] rfl rfl (by kernel_rfl) (fun _ _ _ h => h) (Or.inl ⟨by rfl, ?_⟩) ?_ ?_
      rotate_left
      · intro w'
        go_simp
        with_reducible rfl
      rotate_left
      · simp only [Act.put, List.setIfInBounds_toArray, List.set_cons_zero, List.set_cons_succ]
        rfl
      refine pure_ (i := 14) (N := some 31) (v := ?_) (a' := ?_) #[true, true, true, true, true, true, true, true, true, true, true, true, true, true, true, false, false, false, false, false, false, false, false, false] rfl rfl (by kernel_rfl) (fun _ _ _ h => h) (Or.inl ⟨by rfl, ?_⟩) ?_ ?_
      rotate_left
      · intro w'
        go_simp
        with_reducible rfl
      rotate_left
      · simp only [Act.put, List.setIfInBounds_toArray, List.set_cons_zero, List.set_cons_succ]
        rfl
      refine take_ (i := 15) (N := some 32) (v := ?_) (a' := ?_) #[true, true, true, true, true, true, true, true, true, true, true, true, true, true, true, true, false, false, false, false, false, false, false, false] rfl rfl (by kernel_rfl) (fun _ _ _ h => h) (Or.inl ⟨by rfl, ?_⟩) hHeld ?_ ?_
      rotate_left
      · rintro w' ⟨s0_, s1_, s2_, s3_, s4_, s5_, s6_, s7_, s8_, s9_⟩
        go_simp
        with_reducible rfl
      rotate_left
      · simp only [Act.put, List.setIfInBounds_toArray, List.set_cons_zero, List.set_cons_succ]
        rfl
      refine take_ (i := 16) (N := some 33) (v := ?_) (a' := ?_) #[true, true, true, true, true, true, true, true, true, true, true, true, true, true, true, true, true, false, false, false, false, false, false, false] rfl rfl (by kernel_rfl) (fun _ _ _ h => h) (Or.inl ⟨by rfl, ?_⟩) hHeld ?_ ?_
      rotate_left
      · rintro w' ⟨s0_, s1_, s2_, s3_, s4_, s5_, s6_, s7_, s8_, s9_⟩
        go_simp
        with_reducible rfl
      rotate_left
      · simp only [Act.put, List.setIfInBounds_toArray, List.set_cons_zero, List.set_cons_succ]
        rfl
      refine one_ (i := 17) (N := some 34) #[true, true, true, true, true, true, true, true, true, true, true, true, true, true, true, true, true, true, false, false, false, false, false, false] rfl rfl (by kernel_rfl) (by decide) (fun K hK => ?_)
      go_simp
      refine (same_call _ _ A5 A6 B3 B4 c5 c6 d3 d4 (HK5.out _ HC8.out) (HKY.out _ (below_then HB5.out HB5.out.size HC8.out)) HSM2.out).mono ?_
      rintro e w10 ⟨rfl, hb_⟩
      have HC10 := Lib.hid (below_then HC8.out HC8.out.size hb_)
      clear hb_
      refine hK.out _ _ ?_ (fun hHeld => ?_)
      · exact SK.out _ HC10.out
      clear hK K
      try simp only [Act.put, List.setIfInBounds_toArray, List.set_cons_zero, List.set_cons_succ]
      refine pure_ (i := 18) (N := some 35) (v := ?_) (a' := ?_) #[true, true, true, true, true, true, true, true, true, true, true, true, true, true, true, true, true, true, true, false, false, false, false, false] rfl rfl (by kernel_rfl) (fun _ _ _ h => h) (Or.inl ⟨by rfl, ?_⟩) ?_ ?_
      rotate_left
      · intro w'
        go_simp
        with_reducible rfl
      rotate_left
      · simp only [Act.put, List.setIfInBounds_toArray, List.set_cons_zero, List.set_cons_succ]
        rfl
      refine pure_ (i := 19) (N := some 36) (v := ?_) (a' := ?_) #[true, true, true, true, true, true, true, true, true, true, true, true, true, true, true, true, true, true, true, true, false, false, false, false] rfl rfl (by kernel_rfl) (fun _ _ _ h => h) (Or.inl ⟨by rfl, ?_⟩) ?_ ?_
      rotate_left
      · intro w'
        go_simp
        with_reducible rfl
      rotate_left
      · simp only [Act.put, List.setIfInBounds_toArray, List.set_cons_zero, List.set_cons_succ]
        rfl
      refine pure_ (i := 20) (N := some 37) (v := ?_) (a' := ?_) #[true, true, true, true, true, true, true, true, true, true, true, true, true, true, true, true, true, true, true, true, true, false, false, false] rfl rfl (by kernel_rfl) (fun _ _ _ h => h) (Or.inl ⟨by rfl, ?_⟩) ?_ ?_
      rotate_left
      · intro w'
        go_simp
        with_reducible rfl
      rotate_left
      · simp only [Act.put, List.setIfInBounds_toArray, List.set_cons_zero, List.set_cons_succ]
        rfl
      refine one_ (i := 21) (N := some 38) #[true, true, true, true, true, true, true, true, true, true, true, true, true, true, true, true, true, true, true, true, true, true, false, false] rfl rfl (by kernel_rfl) (by decide) (fun K hK => ?_)
      go_simp
      refine (lives_any _).mono ?_
      rintro e w11 ⟨rfl, hb_⟩
      have HC11 := Lib.hid (below_then HC10.out HC10.out.size hb_)
      clear hb_
      refine hK.out _ _ ?_ (fun hHeld => ?_)
      · exact SK.out _ HC11.out
      clear hK K
      try simp only [Act.put, List.setIfInBounds_toArray, List.set_cons_zero, List.set_cons_succ]
      refine pure_ (i := 22) (N := some 39) (v := ?_) (a' := ?_) #[true, true, true, true, true, true, true, true, true, true, true, true, true, true, true, true, true, true, true, true, true, true, true, false] rfl rfl (by kernel_rfl) (fun _ _ _ h => h) (Or.inl ⟨by rfl, ?_⟩) ?_ ?_
      rotate_left
      · intro w'
        go_simp
        with_reducible rfl
      rotate_left
      · simp only [Act.put, List.setIfInBounds_toArray, List.set_cons_zero, List.set_cons_succ]
        rfl
      refine pure_ (i := 23) (N := some 2) (v := ?_) (a' := ?_) #[true, true, true, true, true, true, true, true, true, true, true, true, true, true, true, true, true, true, true, true, true, true, true, true] rfl rfl (by kernel_rfl) (fun _ _ _ h => h) (Or.inl ⟨by rfl, ?_⟩) ?_ ?_
      rotate_left
      · intro w'
        go_simp
        with_reducible rfl
      rotate_left
      · simp only [Act.put, List.setIfInBounds_toArray, List.set_cons_zero, List.set_cons_succ]
        rfl
      refine done_ (by kernel_rfl) ?_
      go_wp2
      go_ret
      exact ⟨rfl, HL1.out _ (below_then HB5.out HB5.out.size HC11.out)⟩
end Go.Proofs.YtlallihdiffheaaDoor.Dom
