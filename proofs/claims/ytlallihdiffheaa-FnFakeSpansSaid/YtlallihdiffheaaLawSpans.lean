/- laws.FnFakeSpans by hand: the walk. -/
import Derived.Test.YtlallihdiffheaaHas
import Derived.Test.YtlallihdiffheaaLawMerge
import Derived.Deep.RegionHeld3
namespace Go.Proofs.Ytlallihdiffheaa.Hand
open Go.RowKit Go.Proofs.YtlallihdiffheaaW.PrintWords Go.Proofs.YtlallihdiffheaaW.PrintLast Go.Proofs.Ytlallihdiffheaa.GT
set_option linter.unusedVariables false
set_option linter.unusedSimpArgs false

/-- A tree of a forest that is not large is the same as itself. -/
theorem same_forest {b : Nat} {p : Pay} {k : F Pay} (hN : Neat (.node b p k .nil)) (hP : Plain (.node b p k .nil)) (hl : (F.node b p k .nil).blocks.length ≤ 60) :
    spec_SameTree.f 600 (nodeOf p (erase k)).f0 (nodeOf p (erase k)).f1 (nodeOf p (erase k)).f2 (nodeOf p (erase k)).f3 (nodeOf p (erase k)).f4 (nodeOf p (erase k)).f0 (nodeOf p (erase k)).f1 (nodeOf p (erase k)).f2 (nodeOf p (erase k)).f3 (nodeOf p (erase k)).f4 = some true := by
  have hsz := sz_forest _ hN hP
  generalize (F.node b p k .nil).blocks.length = m at hsz hl
  obtain ⟨a, ha, hy⟩ := hsz.head
  exact same_sz 60 a (by omega) (by omega) _ hy 600 (by omega)
/-- laws.inlineBare of a tree that lies somewhere. -/
theorem bare_call {b : Nat} {p : Pay} {k : F Pay} (hN : Neat (.node b p k .nil)) (hP : Plain (.node b p k .nil)) (hl : (F.node b p k .nil).blocks.length ≤ 60) {x : S25} (ht : nodeOf p (erase k) = x) (w : World) (A3 A4 : Option Addr) (c3 c4 : Nat) (h : k25.K w x (treeCells x A3 c3 A4 c4)) :
    Calls Try.prog 41 #[.agg #[.int .i64 x.f0, .string x.f1, .string x.f2, .slice A3 x.f3.length c3, .slice A4 x.f4.length c4]] w (ToldPost (nodeOf (bareP p) (erase (bareF k))) w) := by
  obtain ⟨X5, x5, X6, x6, he7, l7, g7, l8, g8⟩ := k25_open h
  simp only [treeCells, List.cons.injEq, Value.slice.injEq, and_true, true_and] at he7
  obtain ⟨⟨rfl, rfl⟩, rfl, rfl⟩ := he7
  obtain ⟨q0, q1, q2, e1, e2⟩ := bare_form hN hP
  rw [ht] at e1
  subst e1
  rw [e2]
  simp only [F.blocks, List.length_cons, List.length_append, List.length_nil] at hl
  exact (bare_any k).1 q0 q1 q2 w A3 A4 c3 c4 g8 l8 hN.2.1 hP.2.1 (by omega)
/-- laws.inlineHas of a tree that lies somewhere. -/
theorem has_call {x : S25} {r : Bool} (hr : laws_inlineHas.f 700 x.f0 x.f1 x.f2 x.f3 x.f4 [spanB] = some r) (w : World) (A3 A4 : Option Addr) (c3 c4 : Nat) (h : k25.K w x (treeCells x A3 c3 A4 c4)) (g : Nat) (hg : w.cell? ⟨g, 0, none⟩ = some (.string ⟨#[115, 112, 97, 110]⟩)) :
    Calls Try.prog 42 #[.agg #[.int .i64 x.f0, .string x.f1, .string x.f2, .slice A3 x.f3.length c3, .slice A4 x.f4.length c4], .slice (some ⟨g, 0, none⟩) 1 1] w fun e w' => e = .returned (.bool r) ∧ Below w.heap.size w w' := by
  obtain ⟨X5, x5, X6, x6, he7, l7, g7, l8, g8⟩ := k25_open h
  simp only [treeCells, List.cons.injEq, Value.slice.injEq, and_true, true_and] at he7
  obtain ⟨⟨rfl, rfl⟩, rfl, rfl⟩ := he7
  have hc : Kd.C Kd.string w (some ⟨g, 0, none⟩) [spanB].length [spanB] := by
    refine ⟨rfl, by decide, fun _ => ⟨_, rfl, fun j p hj => ?_⟩⟩
    rcases j with _ | j
    · simp only [List.getElem?_cons_zero, Option.some.injEq] at hj
      subst hj
      refine ⟨[.string spanB], rfl, rfl, fun i u hu => ?_⟩
      rcases i with _ | i
      · simp only [List.getElem?_cons_zero, Option.some.injEq] at hu
        subst hu
        exact hg
      · simp at hu
    · simp at hj
  exact laws_inlineHas.calls 700 _ _ _ _ _ _ _ _ _ _ 1 [spanB] r w g7 l7 g8 l8 hc (by decide) hr
/-- Both trees, bare, are one. -/
theorem bare_both {n : Nat} (hn : n ≤ 60) {y y1 : S25} (hy : Sm n y) (hq : QR y y1) : ∃ Z : S25,
    (∀ (W : World) (A3 A4 : Option Addr) (c3 c4 : Nat), k25.K W y1 (treeCells y1 A3 c3 A4 c4) → Calls Try.prog 41 #[.agg #[.int .i64 y1.f0, .string y1.f1, .string y1.f2, .slice A3 y1.f3.length c3, .slice A4 y1.f4.length c4]] W (ToldPost Z W)) ∧
    (∀ (W : World) (A3 A4 : Option Addr) (c3 c4 : Nat), k25.K W y (treeCells y A3 c3 A4 c4) → Calls Try.prog 41 #[.agg #[.int .i64 y.f0, .string y.f1, .string y.f2, .slice A3 y.f3.length c3, .slice A4 y.f4.length c4]] W (ToldPost Z W)) ∧
    spec_SameTree.f 600 Z.f0 Z.f1 Z.f2 Z.f3 Z.f4 Z.f0 Z.f1 Z.f2 Z.f3 Z.f4 = some true := by
  obtain ⟨b, p, p', k, k', hN, ht, hren, he⟩ := hq
  obtain ⟨s1, _, s3⟩ := sm_node hy ht hN
  have hN' := hren.neat hN
  have hP' := hren.plain s3
  have hb := ren_bare hren
  simp only [bareF, F.node.injEq, true_and, and_true] at hb
  have hl' : (F.node b p' k' .nil).blocks.length ≤ 60 := by rw [hren.heads.2.2]; omega
  refine ⟨nodeOf (bareP p) (erase (bareF k)), fun W A3 A4 c3 c4 hK => ?_, fun W A3 A4 c3 c4 hK => ?_, ?_⟩
  · have h := bare_call hN' hP' hl' he.symm W A3 A4 c3 c4 hK
    rw [hb.1, hb.2] at h
    exact h
  · exact bare_call hN s3 (by omega) ht W A3 A4 c3 c4 hK
  · obtain ⟨a1, a2⟩ := bareF_np (.node b p k .nil) hN s3
    exact same_forest (b := b) a1 a2 (by
      have h := bareF_blocks (.node b p k .nil)
      rw [bareF, bareF] at h
      rw [h]
      omega)
/-- Where no span stands, it is the same tree. -/
theorem spans_none {n : Nat} (hn : n ≤ 60) {y y1 : S25} (hy : Sm n y) (hq : QR y y1) (hns : NS y) : y1 = y ∧ spec_SameTree.f 600 y.f0 y.f1 y.f2 y.f3 y.f4 y.f0 y.f1 y.f2 y.f3 y.f4 = some true := by
  obtain ⟨b, p, p', k, k', hN, ht, hren, he⟩ := hq
  obtain ⟨s1, _, s3⟩ := sm_node hy ht hN
  refine ⟨?_, same_sm 60 n hn (by omega) y hy 600 (by omega)⟩
  have h := ns_ren _ _ hN s3 (by
    intro z hz
    have hz : z ∈ [nodeOf p (erase k)] := hz
    rw [List.mem_singleton] at hz
    rw [hz, ht]
    exact hns) hren
  injection h with _ h1 h2
  rw [he, h1, h2, ht]
set_option maxRecDepth 100000 in
set_option maxHeartbeats 20000000 in
theorem law_spans (x : S25) (w : World) (A3 A4 : Option Addr) (c3 c4 : Nat) (h3 : k34.C w A3 x.f3.length x.f3) (l3 : x.f3.length ≤ c3) (h4 : k25.C w A4 x.f4.length x.f4) (l4 : x.f4.length ≤ c4) :
    Calls Try.prog 10 #[.agg #[.int .i64 x.f0, .string x.f1, .string x.f2, .slice A3 x.f3.length c3, .slice A4 x.f4.length c4]] w fun e w' => e = .returned (.bool true) ∧ Below w.heap.size w w' := by
  obtain ⟨kz, rz, hz⟩ := fits2_any x
  have H3 := Lib.hid h3
  have H4 := Lib.hid h4
  have HZ := Lib.hid hz
  clear h3 h4 hz
  go_enter Try.func10, Try.ntmps10
  go_wp2_with (first
    | (go_at_call 14; refine (laws_zzFits2.calls kz x.f0 x.f1 x.f2 A3 c3 x.f3 A4 c4 x.f4 rz _ (Kd.C_alloc H3.out _) l3 (Kd.C_alloc H4.out _) l4 HZ.out).mono ?_; rintro e w1 ⟨rfl, hb1⟩; have hn1 := (hb1.block w.heap.size (by rw [World.size_alloc]; omega)).trans (heap_alloc_new w _); have hB1 : Below w.heap.size w w1 := below_then (below_alloc (Below.refl _ _) _) (by rw [World.size_alloc]; omega) hb1; have hs1 : w.heap.size < w1.heap.size := (by have := hb1.size; rw [World.size_alloc] at this; omega); obtain ⟨n0, f0⟩ := out_cell hn1 0; obtain ⟨n1, f1⟩ := out_cell hn1 1; obtain ⟨n2, f2⟩ := out_cell hn1 2; obtain ⟨n3, f3⟩ := out_cell hn1 3; obtain ⟨n4, f4⟩ := out_cell hn1 4; simp only [List.getElem?_toArray, List.getElem?_cons_succ, List.getElem?_cons_zero] at n0 n1 n2 n3 n4; have HN1 := Lib.hid hn1; have HB1 := Lib.hid hB1; clear hb1 hn1 hB1)
    | (go_at_call 31; refine (cutTree_any x w1 A3 A4 c3 c4 (Kd.C_below H3.out HB1.out) l3 (Kd.C_below H4.out HB1.out) l4).mono ?_; rintro e w2 ⟨y, n, B3, d3, B4, d4, rfl, hsm, htl, hb2⟩; have hn2 := (hb2.block w.heap.size hs1).trans HN1.out; obtain ⟨m0, g0⟩ := out_cell hn2 0; obtain ⟨m1, g1⟩ := out_cell hn2 1; obtain ⟨m2, g2⟩ := out_cell hn2 2; obtain ⟨m3, g3⟩ := out_cell hn2 3; obtain ⟨m4, g4⟩ := out_cell hn2 4; simp only [List.getElem?_toArray, List.getElem?_cons_succ, List.getElem?_cons_zero] at m0 m1 m2 m3 m4; have HN2 := Lib.hid hn2; have HB2 := Lib.hid hb2; have HSM := Lib.hid hsm; have HTL := Lib.hid htl; clear hn2 hb2 hsm htl))
  · go_ret
    exact ⟨rfl, HB1.out⟩
  · obtain ⟨e4, hg, hsz⟩ := put5 (.int .i64 y.f0) (.string y.f1) (.string y.f2) (.slice B3 y.f3.length d3) (.slice B4 y.f4.length d4) HN2.out
    clear n0 n1 n2 n3 n4 f0 f1 f2 f3 f4 m0 m1 m2 m3 m4 g0 g1 g2 g3 g4
    generalize (((((w2.setCell ⟨w.heap.size, 0, none⟩ (.int .i64 y.f0)).setCell ⟨w.heap.size, 1, none⟩ (.string y.f1)).setCell ⟨w.heap.size, 2, none⟩ (.string y.f2)).setCell ⟨w.heap.size, 3, none⟩ (.slice B3 y.f3.length d3)).setCell ⟨w.heap.size, 4, none⟩ (.slice B4 y.f4.length d4)) = W3 at *
    have hL1 : ∀ w', Below W3.heap.size W3 w' → Below w.heap.size w w' := fun w' hb => by
      have h1 := HB2.out.size
      refine below_then (B := w.heap.size) ((HB1.out.trans (HB2.out.mono (by omega))).grown hg (by omega) (fun z hz => by have := Option.some.inj hz; omega)) (by omega) hb
    have hKY : ∀ W, Below W3.heap.size W3 W → k25.K W y (treeCells y B3 d3 B4 d4) := fun W hb => HTL.out W (fun z hz1 hz2 => (hb.block z (by omega)).trans (hg.block z hz2 (fun e => by have := Option.some.inj e; omega)))
    have HWL : w.heap.size < W3.heap.size := by have := HB2.out.size; omega
    obtain ⟨m0, -⟩ := out_cell e4 0
    obtain ⟨m1, -⟩ := out_cell e4 1
    obtain ⟨m2, -⟩ := out_cell e4 2
    obtain ⟨m3, -⟩ := out_cell e4 3
    obtain ⟨m4, -⟩ := out_cell e4 4
    simp only [List.getElem?_toArray, List.getElem?_cons_succ, List.getElem?_cons_zero] at m0 m1 m2 m3 m4
    have hcn : ∀ W, Below W3.heap.size W3 W → W.cell? ⟨w.heap.size, 0, none⟩ = some (.int .i64 y.f0) ∧ W.cell? ⟨w.heap.size, 1, none⟩ = some (.string y.f1) ∧ W.cell? ⟨w.heap.size, 2, none⟩ = some (.string y.f2) ∧ W.cell? ⟨w.heap.size, 3, none⟩ = some (.slice B3 y.f3.length d3) ∧ W.cell? ⟨w.heap.size, 4, none⟩ = some (.slice B4 y.f4.length d4) := fun W hb =>
      ⟨(hb.cell (p := ⟨w.heap.size, 0, none⟩) HWL).trans m0, (hb.cell (p := ⟨w.heap.size, 1, none⟩) HWL).trans m1, (hb.cell (p := ⟨w.heap.size, 2, none⟩) HWL).trans m2, (hb.cell (p := ⟨w.heap.size, 3, none⟩) HWL).trans m3, (hb.cell (p := ⟨w.heap.size, 4, none⟩) HWL).trans m4⟩
    obtain ⟨E3, e3, E4, e5, he, l3', g3, l4', g4⟩ := k25_open (hKY W3 (Below.refl _ _))
    obtain ⟨rfl, rfl, rfl, rfl⟩ : B3 = E3 ∧ d3 = e3 ∧ B4 = E4 ∧ d4 = e5 := by
      simp only [treeCells, List.cons.injEq, Value.slice.injEq, and_true, true_and] at he
      exact ⟨he.1.1, he.1.2, he.2.1, he.2.2⟩
    have HCN := Lib.hid hcn
    have HKY := Lib.hid hKY
    have HL1 := Lib.hid hL1
    have HG4 := Lib.hid (And.intro l3' (And.intro g3 (And.intro l4' g4)))
    clear hg he l3' g3 l4' g4 e4 hL1 hKY hcn
    obtain ⟨r, hr, hns⟩ := has_sm 60 n HSM.out.2 (by decide) y HSM.out.1 700 (by have := HSM.out.2; omega)
    have HHAS := Lib.hid (And.intro hr hns)
    clear hr hns
    go_wp2_with (go_at_call 40; refine (fakeSpans_any n HSM.out.2 y HSM.out.1 W3 B3 B4 d3 d4 HG4.out.2.1 HG4.out.1 HG4.out.2.2.2 HG4.out.2.2.1).mono ?_; rintro e w4 ⟨y1, hq, A5, c5, A6, c6, rfl, htl4, hb4⟩; have HQ := Lib.hid hq; have HTL4 := Lib.hid htl4; have HB4 := Lib.hid hb4; clear hq htl4 hb4)
    have h5 : (w4.alloc (.cells #[.int .i64 y1.f0, .string y1.f1, .string y1.f2, .slice A5 y1.f3.length c5, .slice A6 y1.f4.length c6] 25 (0, 0))).heap[w4.heap.size]? = some (.cells #[.int .i64 y1.f0, .string y1.f1, .string y1.f2, .slice A5 y1.f3.length c5, .slice A6 y1.f4.length c6] 25 (0, 0)) := heap_alloc_new _ _
    have hb5 : Below w4.heap.size w4 (w4.alloc (.cells #[.int .i64 y1.f0, .string y1.f1, .string y1.f2, .slice A5 y1.f3.length c5, .slice A6 y1.f4.length c6] 25 (0, 0))) := below_alloc (Below.refl _ _) _
    have hs5 : w4.heap.size < (w4.alloc (.cells #[.int .i64 y1.f0, .string y1.f1, .string y1.f2, .slice A5 y1.f3.length c5, .slice A6 y1.f4.length c6] 25 (0, 0))).heap.size := by rw [World.size_alloc]; omega
    generalize (w4.alloc (.cells #[.int .i64 y1.f0, .string y1.f1, .string y1.f2, .slice A5 y1.f3.length c5, .slice A6 y1.f4.length c6] 25 (0, 0))) = W5 at *
    have hB5 : Below W3.heap.size W3 W5 := below_then HB4.out HB4.out.size hb5
    obtain ⟨o0, -⟩ := out_cell h5 0
    obtain ⟨o1, -⟩ := out_cell h5 1
    obtain ⟨o2, -⟩ := out_cell h5 2
    obtain ⟨o3, -⟩ := out_cell h5 3
    obtain ⟨o4, -⟩ := out_cell h5 4
    simp only [List.getElem?_toArray, List.getElem?_cons_succ, List.getElem?_cons_zero] at o0 o1 o2 o3 o4
    have hco : ∀ W, Below W5.heap.size W5 W → W.cell? ⟨w4.heap.size, 0, none⟩ = some (.int .i64 y1.f0) ∧ W.cell? ⟨w4.heap.size, 1, none⟩ = some (.string y1.f1) ∧ W.cell? ⟨w4.heap.size, 2, none⟩ = some (.string y1.f2) ∧ W.cell? ⟨w4.heap.size, 3, none⟩ = some (.slice A5 y1.f3.length c5) ∧ W.cell? ⟨w4.heap.size, 4, none⟩ = some (.slice A6 y1.f4.length c6) := fun W hb =>
      ⟨(hb.cell (p := ⟨w4.heap.size, 0, none⟩) hs5).trans o0, (hb.cell (p := ⟨w4.heap.size, 1, none⟩) hs5).trans o1, (hb.cell (p := ⟨w4.heap.size, 2, none⟩) hs5).trans o2, (hb.cell (p := ⟨w4.heap.size, 3, none⟩) hs5).trans o3, (hb.cell (p := ⟨w4.heap.size, 4, none⟩) hs5).trans o4⟩
    have hk5 : ∀ W, Below W5.heap.size W5 W → k25.K W y1 (treeCells y1 A5 c5 A6 c6) := fun W hb => HTL4.out W (fun z hz1 hz2 => (hb.block z (by omega)).trans (hb5.block z hz2))
    obtain ⟨Z, hz1, hz2, hzs⟩ := bare_both HSM.out.2 HSM.out.1 HQ.out
    have hsk : ∀ W, Below W5.heap.size W5 W → (fun W' => W'.cell? ⟨w.heap.size, 0, none⟩ = some (.int .i64 y.f0) ∧ W'.cell? ⟨w.heap.size, 1, none⟩ = some (.string y.f1) ∧ W'.cell? ⟨w.heap.size, 2, none⟩ = some (.string y.f2) ∧ W'.cell? ⟨w.heap.size, 3, none⟩ = some (.slice B3 y.f3.length d3) ∧ W'.cell? ⟨w.heap.size, 4, none⟩ = some (.slice B4 y.f4.length d4) ∧ W'.cell? ⟨w4.heap.size, 0, none⟩ = some (.int .i64 y1.f0) ∧ W'.cell? ⟨w4.heap.size, 1, none⟩ = some (.string y1.f1) ∧ W'.cell? ⟨w4.heap.size, 2, none⟩ = some (.string y1.f2) ∧ W'.cell? ⟨w4.heap.size, 3, none⟩ = some (.slice A5 y1.f3.length c5) ∧ W'.cell? ⟨w4.heap.size, 4, none⟩ = some (.slice A6 y1.f4.length c6)) W := fun W hb => by
      obtain ⟨a0, a1, a2, a3, a4⟩ := HCN.out W (below_then hB5 hB5.size hb)
      obtain ⟨b0, b1, b2, b3, b4⟩ := hco W hb
      exact ⟨a0, a1, a2, a3, a4, b0, b1, b2, b3, b4⟩
    have SK := Lib.hid hsk
    have HZ1 := Lib.hid hz1
    have HZ2 := Lib.hid hz2
    have HZS := Lib.hid hzs
    have HB5 := Lib.hid hB5
    have HK5 := Lib.hid hk5
    clear hz1 hz2 hzs h5 hb5 hs5 hB5 hco hk5 m0 m1 m2 m3 m4 o0 o1 o2 o3 o4 hsk
    cases r with
    | true =>
      obtain ⟨v0, v1, v2, v3, v4, o0, o1, o2, o3, o4⟩ := SK.out W5 (Below.refl _ _)
      go_region_law (first
        | (go_simp
           go_at_call_of 41 (Value.slice A6 y1.f4.length c6)
           refine (HZ1.out _ A5 A6 c5 c6 (HK5.out _ (Below.refl _ _).drew)).mono ?_
           rintro e w6 ⟨A7, c7, A8, c8, rfl, htl6, hb6⟩
           have HC6 := Lib.hid (below_then (Below.refl W5.heap.size W5).drew (Nat.le_refl _) hb6)
           have HTL6 := Lib.hid htl6
           obtain ⟨p0, p1, p2, p3, p4, -⟩ := SK.out w6 HC6.out
           clear hb6 htl6)
        | (go_simp
           go_at_call_of 41 (Value.slice B4 y.f4.length d4)
           refine (HZ2.out w6 B3 B4 d3 d4 (HKY.out _ (below_then HB5.out HB5.out.size HC6.out))).mono ?_
           rintro e w7 ⟨A9, c9, A10, c10, rfl, htl7, hb7⟩
           have HB7 := Lib.hid hb7
           have HC7 := Lib.hid (below_then HC6.out HC6.out.size hb7)
           have HTL7 := Lib.hid htl7
           clear hb7 htl7)
        | (go_simp
           go_at_call_of 32 (Value.string Z.f1)
           refine (same_call Z w7 A7 A8 A9 A10 c7 c8 c9 c10 (HTL6.out w7 (fun z hz1 hz2 => HB7.out.block z hz2)) (HTL7.out w7 (fun z hz1 hz2 => rfl)) HZS.out).mono ?_
           rintro e w8 ⟨rfl, hb8⟩
           have HC8 := Lib.hid (below_then HC7.out HC7.out.size hb8)
           obtain ⟨q0, q1, q2, q3, q4, -⟩ := SK.out w8 HC8.out
           obtain ⟨s0, s1, s2, s3, s4, -⟩ := SK.out (w8.alloc (.cells #[.string ⟨#[115, 112, 97, 110]⟩] 9 (0, 0))) (below_alloc HC8.out _)
           clear hb8)
        | (go_simp
           go_at_call 42
           refine (has_call HHAS.out.1 (w8.alloc _) B3 B4 d3 d4 (HKY.out _ (below_alloc (below_then HB5.out HB5.out.size HC8.out) _)) w8.heap.size (cell_new _ _ _ _)).mono ?_
           rintro e w9 ⟨rfl, hb9⟩
           have HC9 := Lib.hid (below_then (below_alloc HC8.out _) (by rw [World.size_alloc]; have := HC8.out.size; omega) hb9)
           clear hb9)
        | (go_simp
           go_at_call 35
           refine (lives_any _).mono ?_
           rintro e w11 ⟨rfl, hb11⟩
           have HC11 := Lib.hid (below_then HC9.out HC9.out.size hb11)
           clear hb11))
      all_goals (
        go_wp2
        go_ret
        exact ⟨rfl, HL1.out _ (below_then HB5.out HB5.out.size HC11.out)⟩)
    | false =>
      obtain ⟨hy1, hs2⟩ := spans_none HSM.out.2 HSM.out.1 HQ.out (HHAS.out.2 rfl)
      have HSM2 := Lib.hid hs2
      clear hs2
      subst hy1
      go_region_held3 (fun W' => W'.cell? ⟨w.heap.size, 0, none⟩ = some (.int .i64 y1.f0) ∧ W'.cell? ⟨w.heap.size, 1, none⟩ = some (.string y1.f1) ∧ W'.cell? ⟨w.heap.size, 2, none⟩ = some (.string y1.f2) ∧ W'.cell? ⟨w.heap.size, 3, none⟩ = some (.slice B3 y1.f3.length d3) ∧ W'.cell? ⟨w.heap.size, 4, none⟩ = some (.slice B4 y1.f4.length d4) ∧ W'.cell? ⟨w4.heap.size, 0, none⟩ = some (.int .i64 y1.f0) ∧ W'.cell? ⟨w4.heap.size, 1, none⟩ = some (.string y1.f1) ∧ W'.cell? ⟨w4.heap.size, 2, none⟩ = some (.string y1.f2) ∧ W'.cell? ⟨w4.heap.size, 3, none⟩ = some (.slice A5 y1.f3.length c5) ∧ W'.cell? ⟨w4.heap.size, 4, none⟩ = some (.slice A6 y1.f4.length c6)) (first | exact SK.out _ (Below.refl _ _).drew | exact SK.out _ HC6.out | exact SK.out _ HC7.out | exact SK.out _ HC8.out | exact SK.out _ (below_alloc HC8.out _) | exact SK.out _ HC9.out | exact SK.out _ HC10.out | exact SK.out _ HC11.out)
        (first
        | (go_at_call_of 41 (Value.slice A6 y1.f4.length c6)
           refine (HZ1.out _ A5 A6 c5 c6 (HK5.out _ (Below.refl _ _).drew)).mono ?_
           rintro e w6 ⟨A7, c7, A8, c8, rfl, htl6, hb6⟩
           have HC6 := Lib.hid (below_then (Below.refl W5.heap.size W5).drew (Nat.le_refl _) hb6)
           have HTL6 := Lib.hid htl6
           clear hb6 htl6)
        | (go_at_call_of 41 (Value.slice B4 y1.f4.length d4)
           refine (HZ2.out w6 B3 B4 d3 d4 (HKY.out _ (below_then HB5.out HB5.out.size HC6.out))).mono ?_
           rintro e w7 ⟨A9, c9, A10, c10, rfl, htl7, hb7⟩
           have HB7 := Lib.hid hb7
           have HC7 := Lib.hid (below_then HC6.out HC6.out.size hb7)
           have HTL7 := Lib.hid htl7
           clear hb7 htl7)
        | (go_at_call_of 32 (Value.string Z.f1)
           refine (same_call Z w7 A7 A8 A9 A10 c7 c8 c9 c10 (HTL6.out w7 (fun z hz1 hz2 => HB7.out.block z hz2)) (HTL7.out w7 (fun z hz1 hz2 => rfl)) HZS.out).mono ?_
           rintro e w8 ⟨rfl, hb8⟩
           have HC8 := Lib.hid (below_then HC7.out HC7.out.size hb8)
           clear hb8)
        | (go_at_call 42
           refine (has_call HHAS.out.1 (w8.alloc _) B3 B4 d3 d4 (HKY.out _ (below_alloc (below_then HB5.out HB5.out.size HC8.out) _)) w8.heap.size (cell_new _ _ _ _)).mono ?_
           rintro e w9 ⟨rfl, hb9⟩
           have HC9 := Lib.hid (below_then (below_alloc HC8.out _) (by rw [World.size_alloc]; have := HC8.out.size; omega) hb9)
           clear hb9)
        | (go_at_call_of 32 (Value.slice A6 y1.f4.length c6)
           refine (same_call _ w9 A5 A6 B3 B4 c5 c6 d3 d4 (HK5.out w9 HC9.out) (HKY.out _ (below_then HB5.out HB5.out.size HC9.out)) HSM2.out).mono ?_
           rintro e w10 ⟨rfl, hb10⟩
           have HC10 := Lib.hid (below_then HC9.out HC9.out.size hb10)
           clear hb10)
        | (go_at_call 35
           refine (lives_any _).mono ?_
           rintro e w11 ⟨rfl, hb11⟩
           have HC11 := Lib.hid (below_then HC10.out HC10.out.size hb11)
           clear hb11))
      all_goals (
        go_wp2
        go_ret
        exact ⟨rfl, HL1.out _ (below_then HB5.out HB5.out.size HC11.out)⟩)
end Go.Proofs.Ytlallihdiffheaa.Hand
