/- laws.FnAddSpace by hand: the walk. -/
import Derived.Test.YtlallihdiffheaaZSpaceImpl
import Derived.Test.YtlallihdiffheaaZSpaceText
import Derived.Test.YtlallihdiffheaaZSpaceImpl
import Derived.Test.YtlallihdiffheaaZInlineCut
import Derived.Test.YtlallihdiffheaaZSame
import Derived.Test.YtlallihdiffheaaZLives
namespace Go.Proofs.Ytlallihdiffheaa.Dom
open Go.RowKit Go.Proofs.YtlallihdiffheaaW.PrintWords Go.Proofs.YtlallihdiffheaaW.PrintLast Go.Proofs.YtlallihdiffheaaW.PrintMore Go.Proofs.Ytlallihdiffheaa.GT Go.Proofs.Ytlallihdiffheaa.Hand
set_option linter.unusedVariables false
set_option linter.unusedSimpArgs false

def nsO : List ByteArray := [⟨#[98]⟩, ⟨#[115, 116, 114, 111, 110, 103]⟩, ⟨#[101, 109]⟩]
def nsI : List ByteArray := [⟨#[99, 111, 100, 101]⟩]
/-- spec.TextOf of a tree that lies somewhere. -/
theorem text_call {x : S25} {r : ByteArray} (hr : spec_TextOf.f 700 x.f0 x.f1 x.f2 x.f3 x.f4 = some r) (w : World) (A3 A4 : Option Addr) (c3 c4 : Nat) (h : k25.K w x (treeCells x A3 c3 A4 c4)) :
    Calls Try.prog 50 #[.agg #[.int .i64 x.f0, .string x.f1, .string x.f2, .slice A3 x.f3.length c3, .slice A4 x.f4.length c4]] w fun e w' => e = .returned (.string r) ∧ Below w.heap.size w w' := by
  obtain ⟨X5, x5, X6, x6, he7, l7, g7, l8, g8⟩ := k25_open h
  simp only [treeCells, List.cons.injEq, Value.slice.injEq, and_true, true_and] at he7
  obtain ⟨⟨rfl, rfl⟩, rfl, rfl⟩ := he7
  exact spec_TextOf.calls 700 _ _ _ _ _ _ _ _ _ r w g7 l7 g8 l8 hr
theorem texts_both {n : Nat} (hn : n ≤ 60) {y y1 : S25} (hy : Sm n y) (hq : QS y y1) : ∃ A B R, spec_TextOf.f 700 y1.f0 y1.f1 y1.f2 y1.f3 y1.f4 = some A ∧ spec_TextOf.f 700 y.f0 y.f1 y.f2 y.f3 y.f4 = some B ∧ spec_Solid.f 1000000 A = some R ∧ spec_Solid.f 1000000 B = some R ∧ B.size ≤ A.size := by
  obtain ⟨b, p, p', k, k', hN, ht, hblk, he⟩ := hq
  obtain ⟨s1, s2, s3⟩ := sm_node hy ht hN
  have hN' := hblk.neat hN
  have hP' := hblk.plain s3
  have hl : k.blocks.length ≤ 60 := by simp only [F.blocks, List.length_cons, List.length_append, List.length_nil] at s1; omega
  have hl' : k'.blocks.length ≤ 60 := by
    have e := hblk.heads.2.2
    simp only [F.blocks, List.append_nil, List.cons.injEq, true_and] at e
    rw [e]
    exact hl
  have hh' := hblk.heft
  have hmul : 200 * (F.node b p k .nil).blocks.length ≤ 200 * 60 := Nat.mul_le_mul_left _ (by omega)
  obtain ⟨A, a1, a2⟩ := text_node b p' k' hN' hP' (by omega) (by omega) 700 (by omega)
  obtain ⟨B, b1, b2⟩ := text_node b p k hN s3 (by omega) (by omega) 700 (by omega)
  obtain ⟨t1, t2⟩ := blk_text hblk
  have hA : A.size ≤ 1000000 - 1 := by
    have h := txt_heft _ hN'
    rw [← a2, Array.length_toList] at h
    show A.data.size ≤ _
    omega
  have hsz : B.size ≤ A.size := by
    rw [← a2, ← b2, Array.length_toList, Array.length_toList] at t2
    exact t2
  refine ⟨A, B, strOfNums ((bys A).filter nbI), by rw [he]; exact a1, by rw [← ht]; exact b1, solid_any A (by omega) _ (by omega), ?_, hsz⟩
  rw [solid_any B (by omega) _ (by omega), bys_solid, bys_solid, a2, b2, t1]
set_option maxRecDepth 100000 in
set_option maxHeartbeats 20000000 in
theorem law_space (x : S25) (w : World) (A3 A4 : Option Addr) (c3 c4 : Nat) (h3 : k34.C w A3 x.f3.length x.f3) (l3 : x.f3.length ≤ c3) (h4 : k25.C w A4 x.f4.length x.f4) (l4 : x.f4.length ≤ c4) :
    Calls Try.prog 13 #[.agg #[.int .i64 x.f0, .string x.f1, .string x.f2, .slice A3 x.f3.length c3, .slice A4 x.f4.length c4]] w fun e w' => e = .returned (.bool true) ∧ Below w.heap.size w w' := by
  obtain ⟨kz, rz, hz⟩ := fits2_any x
  have H3 := Lib.hid h3
  have H4 := Lib.hid h4
  have HZ := Lib.hid hz
  clear h3 h4 hz
  go_enter Try.func13, Try.ntmps13
  go_wp2_with (first
    | (go_at_call 14; refine (laws_zzFits2.calls kz x.f0 x.f1 x.f2 A3 c3 x.f3 A4 c4 x.f4 rz _ (Kd.C_alloc H3.out _) l3 (Kd.C_alloc H4.out _) l4 HZ.out).mono ?_; rintro e w1 ⟨rfl, hb1⟩; have hn1 := (hb1.block w.heap.size (by rw [World.size_alloc]; omega)).trans (heap_alloc_new w _); have hB1 : Below w.heap.size w w1 := below_then (below_alloc (Below.refl _ _) _) (by rw [World.size_alloc]; omega) hb1; have hs1 : w.heap.size < w1.heap.size := (by have := hb1.size; rw [World.size_alloc] at this; omega); obtain ⟨n0, f0⟩ := out_cell hn1 0; obtain ⟨n1, f1⟩ := out_cell hn1 1; obtain ⟨n2, f2⟩ := out_cell hn1 2; obtain ⟨n3, f3⟩ := out_cell hn1 3; obtain ⟨n4, f4⟩ := out_cell hn1 4; simp only [List.getElem?_toArray, List.getElem?_cons_succ, List.getElem?_cons_zero] at n0 n1 n2 n3 n4; have HN1 := Lib.hid hn1; have HB1 := Lib.hid hB1; clear hb1 hn1 hB1)
    | (go_at_call 31; refine (cutTree_any x w1 A3 A4 c3 c4 (Kd.C_below H3.out HB1.out) l3 (Kd.C_below H4.out HB1.out) l4).mono ?_; rintro e w2 ⟨y, n, B3, d3, B4, d4, rfl, hsm, htl, hb2⟩; have hn2 := (hb2.block w.heap.size hs1).trans HN1.out; obtain ⟨m0, g0⟩ := out_cell hn2 0; obtain ⟨m1, g1⟩ := out_cell hn2 1; obtain ⟨m2, g2⟩ := out_cell hn2 2; obtain ⟨m3, g3⟩ := out_cell hn2 3; obtain ⟨m4, g4⟩ := out_cell hn2 4; simp only [List.getElem?_toArray, List.getElem?_cons_succ, List.getElem?_cons_zero] at m0 m1 m2 m3 m4; have HN2 := Lib.hid hn2; have HB2 := Lib.hid hb2; have HSM := Lib.hid hsm; have HTL := Lib.hid htl; clear hn2 hb2 hsm htl))
  · go_ret
    exact ⟨rfl, HB1.out⟩
  · obtain ⟨e4, hg, hsz⟩ := put5 (.int .i64 y.f0) (.string y.f1) (.string y.f2) (.slice B3 y.f3.length d3) (.slice B4 y.f4.length d4) HN2.out
    clear n0 n1 n2 n3 n4 f0 f1 f2 f3 f4 m0 m1 m2 m3 m4 g0 g1 g2 g3 g4
    generalize (((((w2.setCell ⟨w.heap.size, 0, none⟩ (.int .i64 y.f0)).setCell ⟨w.heap.size, 1, none⟩ (.string y.f1)).setCell ⟨w.heap.size, 2, none⟩ (.string y.f2)).setCell ⟨w.heap.size, 3, none⟩ (.slice B3 y.f3.length d3)).setCell ⟨w.heap.size, 4, none⟩ (.slice B4 y.f4.length d4)) = W3 at *
    have hL1 : ∀ w', Below W3.heap.size W3 w' → Below w.heap.size w w' := fun w' hb => by
      have h1 := HB2.out.size
      refine below_then (B := w.heap.size) ((HB1.out.trans (HB2.out.mono (by omega))).grown hg (by omega) (fun z hz => by have := Option.some.inj hz; omega)) (by omega) hb
    have hKY : ∀ W, Below W3.heap.size W3 W → k25.K W y (treeCells y B3 d3 B4 d4) := fun W hb => HTL.out W (fun z hz1 hz2 => (hb.block z (by omega)).trans (hg.block z hz2 (fun e => by have := Option.some.inj e; omega)))
    have HWL : w.heap.size < W3.heap.size := by have := HB2.out.size; omega
    obtain ⟨m0, -⟩ := out_cell e4 0
    obtain ⟨m1, -⟩ := out_cell e4 1
    obtain ⟨m2, -⟩ := out_cell e4 2
    obtain ⟨m3, -⟩ := out_cell e4 3
    obtain ⟨m4, -⟩ := out_cell e4 4
    simp only [List.getElem?_toArray, List.getElem?_cons_succ, List.getElem?_cons_zero] at m0 m1 m2 m3 m4
    have hcn : ∀ W, Below W3.heap.size W3 W → W.cell? ⟨w.heap.size, 0, none⟩ = some (.int .i64 y.f0) ∧ W.cell? ⟨w.heap.size, 1, none⟩ = some (.string y.f1) ∧ W.cell? ⟨w.heap.size, 2, none⟩ = some (.string y.f2) ∧ W.cell? ⟨w.heap.size, 3, none⟩ = some (.slice B3 y.f3.length d3) ∧ W.cell? ⟨w.heap.size, 4, none⟩ = some (.slice B4 y.f4.length d4) := fun W hb =>
      ⟨(hb.cell (p := ⟨w.heap.size, 0, none⟩) HWL).trans m0, (hb.cell (p := ⟨w.heap.size, 1, none⟩) HWL).trans m1, (hb.cell (p := ⟨w.heap.size, 2, none⟩) HWL).trans m2, (hb.cell (p := ⟨w.heap.size, 3, none⟩) HWL).trans m3, (hb.cell (p := ⟨w.heap.size, 4, none⟩) HWL).trans m4⟩
    obtain ⟨E3, e3, E4, e5, he, l3', g3, l4', g4⟩ := k25_open (hKY W3 (Below.refl _ _))
    obtain ⟨rfl, rfl, rfl, rfl⟩ : B3 = E3 ∧ d3 = e3 ∧ B4 = E4 ∧ d4 = e5 := by
      simp only [treeCells, List.cons.injEq, Value.slice.injEq, and_true, true_and] at he
      exact ⟨he.1.1, he.1.2, he.2.1, he.2.2⟩
    have HCN := Lib.hid hcn
    have HKY := Lib.hid hKY
    have HL1 := Lib.hid hL1
    have HG4 := Lib.hid (And.intro l3' (And.intro g3 (And.intro l4' g4)))
    clear hg he l3' g3 l4' g4 e4 hL1 hKY hcn
    obtain ⟨W4, hW4⟩ : ∃ W, W = (W3.alloc (.cells #[.string ⟨#[98]⟩, .string ⟨#[115, 116, 114, 111, 110, 103]⟩, .string ⟨#[101, 109]⟩] 9 (0, 0))).alloc (.cells #[.string ⟨#[99, 111, 100, 101]⟩] 9 (0, 0)) := ⟨_, rfl⟩
    have hb34 : Below W3.heap.size W3 W4 := by rw [hW4]; exact below_alloc (below_alloc (Below.refl _ _) _) _
    have hs34 : W4.heap.size = W3.heap.size + 1 + 1 := by rw [hW4]; simp only [World.size_alloc]
    have hq1 : RowS W4 W3.heap.size nsO := by
      rw [hW4]
      exact (Below.heap_alloc _ _ _ (by rw [World.size_alloc]; omega)).trans (heap_alloc_new _ _)
    have hq2 : RowS W4 (W3.heap.size + 1) nsI := by
      rw [hW4, ← World.size_alloc W3]
      exact heap_alloc_new _ _
    have hcall := spaceTree_any n HSM.out.2 y HSM.out.1 W4 B3 B4 d3 d4 (Kd.C_below HG4.out.2.1 hb34) HG4.out.1 (Kd.C_below HG4.out.2.2.2 hb34) HG4.out.2.2.1 w2.heap.size (w2.heap.size + 1) nsO nsI (by rw [← hsz]; exact hq1) (by rw [← hsz]; exact hq2) (by decide) (by decide)
    have HCALL := Lib.hid hcall
    have HB34 := Lib.hid hb34
    have HW4 := Lib.hid hW4
    clear hcall hb34 hs34 hq1 hq2 hW4 hsz
    rw [HW4.out] at HCALL HB34
    go_wp2_with (go_at_call 51; refine HCALL.out.mono ?_; rintro e w4 ⟨y1, hq, A5, c5, A6, c6, rfl, htl4, hb4⟩; have HQ := Lib.hid hq; have HTL4 := Lib.hid htl4; have HB4 := Lib.hid (below_then HB34.out HB34.out.size hb4); have HS4 := Lib.hid hb4.size; clear hq htl4 hb4)
    rw [← HW4.out] at HTL4 HS4
    have hle4 : W3.heap.size ≤ W4.heap.size := by rw [HW4.out]; simp only [World.size_alloc]; omega
    have h5 : (w4.alloc (.cells #[.int .i64 y1.f0, .string y1.f1, .string y1.f2, .slice A5 y1.f3.length c5, .slice A6 y1.f4.length c6] 25 (0, 0))).heap[w4.heap.size]? = some (.cells #[.int .i64 y1.f0, .string y1.f1, .string y1.f2, .slice A5 y1.f3.length c5, .slice A6 y1.f4.length c6] 25 (0, 0)) := heap_alloc_new _ _
    have hb5 : Below w4.heap.size w4 (w4.alloc (.cells #[.int .i64 y1.f0, .string y1.f1, .string y1.f2, .slice A5 y1.f3.length c5, .slice A6 y1.f4.length c6] 25 (0, 0))) := below_alloc (Below.refl _ _) _
    have hs5 : w4.heap.size < (w4.alloc (.cells #[.int .i64 y1.f0, .string y1.f1, .string y1.f2, .slice A5 y1.f3.length c5, .slice A6 y1.f4.length c6] 25 (0, 0))).heap.size := by rw [World.size_alloc]; omega
    generalize (w4.alloc (.cells #[.int .i64 y1.f0, .string y1.f1, .string y1.f2, .slice A5 y1.f3.length c5, .slice A6 y1.f4.length c6] 25 (0, 0))) = W5 at *
    have hB5 : Below W3.heap.size W3 W5 := below_then HB4.out HB4.out.size hb5
    obtain ⟨o0, -⟩ := out_cell h5 0
    obtain ⟨o1, -⟩ := out_cell h5 1
    obtain ⟨o2, -⟩ := out_cell h5 2
    obtain ⟨o3, -⟩ := out_cell h5 3
    obtain ⟨o4, -⟩ := out_cell h5 4
    simp only [List.getElem?_toArray, List.getElem?_cons_succ, List.getElem?_cons_zero] at o0 o1 o2 o3 o4
    have hco : ∀ W, Below W5.heap.size W5 W → W.cell? ⟨w4.heap.size, 0, none⟩ = some (.int .i64 y1.f0) ∧ W.cell? ⟨w4.heap.size, 1, none⟩ = some (.string y1.f1) ∧ W.cell? ⟨w4.heap.size, 2, none⟩ = some (.string y1.f2) ∧ W.cell? ⟨w4.heap.size, 3, none⟩ = some (.slice A5 y1.f3.length c5) ∧ W.cell? ⟨w4.heap.size, 4, none⟩ = some (.slice A6 y1.f4.length c6) := fun W hb =>
      ⟨(hb.cell (p := ⟨w4.heap.size, 0, none⟩) hs5).trans o0, (hb.cell (p := ⟨w4.heap.size, 1, none⟩) hs5).trans o1, (hb.cell (p := ⟨w4.heap.size, 2, none⟩) hs5).trans o2, (hb.cell (p := ⟨w4.heap.size, 3, none⟩) hs5).trans o3, (hb.cell (p := ⟨w4.heap.size, 4, none⟩) hs5).trans o4⟩
    have hk5 : ∀ W, Below W5.heap.size W5 W → k25.K W y1 (treeCells y1 A5 c5 A6 c6) := fun W hb => HTL4.out W (fun z hz1 hz2 => (hb.block z (by omega)).trans (hb5.block z hz2))
    obtain ⟨ta, tb, tr, ha, hbt, hra, hrb, hsz5⟩ := texts_both HSM.out.2 HSM.out.1 HQ.out
    have hsk : ∀ W, Below W5.heap.size W5 W → (fun W' => W'.cell? ⟨w.heap.size, 0, none⟩ = some (.int .i64 y.f0) ∧ W'.cell? ⟨w.heap.size, 1, none⟩ = some (.string y.f1) ∧ W'.cell? ⟨w.heap.size, 2, none⟩ = some (.string y.f2) ∧ W'.cell? ⟨w.heap.size, 3, none⟩ = some (.slice B3 y.f3.length d3) ∧ W'.cell? ⟨w.heap.size, 4, none⟩ = some (.slice B4 y.f4.length d4) ∧ W'.cell? ⟨w4.heap.size, 0, none⟩ = some (.int .i64 y1.f0) ∧ W'.cell? ⟨w4.heap.size, 1, none⟩ = some (.string y1.f1) ∧ W'.cell? ⟨w4.heap.size, 2, none⟩ = some (.string y1.f2) ∧ W'.cell? ⟨w4.heap.size, 3, none⟩ = some (.slice A5 y1.f3.length c5) ∧ W'.cell? ⟨w4.heap.size, 4, none⟩ = some (.slice A6 y1.f4.length c6)) W := fun W hb => by
      obtain ⟨a0, a1, a2, a3, a4⟩ := HCN.out W (below_then hB5 hB5.size hb)
      obtain ⟨b0, b1, b2, b3, b4⟩ := hco W hb
      exact ⟨a0, a1, a2, a3, a4, b0, b1, b2, b3, b4⟩
    have SK := Lib.hid hsk
    have HTA := Lib.hid ha
    have HTB := Lib.hid hbt
    have HRA := Lib.hid hra
    have HRB := Lib.hid hrb
    have HB5 := Lib.hid hB5
    have HK5 := Lib.hid hk5
    have HSZ5 := Lib.hid hsz5
    clear ha hbt hra hrb hsz5 h5 hb5 hs5 hB5 hco hk5 m0 m1 m2 m3 m4 o0 o1 o2 o3 o4 hsk hle4
    go_wp2_with fail
    refine start_ (n := 6) (S := fun W' => W'.cell? ⟨w.heap.size, 0, none⟩ = some (.int .i64 y.f0) ∧ W'.cell? ⟨w.heap.size, 1, none⟩ = some (.string y.f1) ∧ W'.cell? ⟨w.heap.size, 2, none⟩ = some (.string y.f2) ∧ W'.cell? ⟨w.heap.size, 3, none⟩ = some (.slice B3 y.f3.length d3) ∧ W'.cell? ⟨w.heap.size, 4, none⟩ = some (.slice B4 y.f4.length d4) ∧ W'.cell? ⟨w4.heap.size, 0, none⟩ = some (.int .i64 y1.f0) ∧ W'.cell? ⟨w4.heap.size, 1, none⟩ = some (.string y1.f1) ∧ W'.cell? ⟨w4.heap.size, 2, none⟩ = some (.string y1.f2) ∧ W'.cell? ⟨w4.heap.size, 3, none⟩ = some (.slice A5 y1.f3.length c5) ∧ W'.cell? ⟨w4.heap.size, 4, none⟩ = some (.slice A6 y1.f4.length c6)) (ds := []) #[false, false, false, false, false, false] rfl rfl rfl (SK.out _ (Below.refl _ _).drew) (fun hHeld => ?_)
    refine take_ (i := 0) (N := some 15) (v := ?_) (a' := ?_) #[true, false, false, false, false, false] rfl rfl (by kernel_rfl) (fun _ _ _ h => h) (Or.inl ⟨by rfl, ?_⟩) hHeld ?_ ?_
    rotate_left
    · rintro w' ⟨s0_, s1_, s2_, s3_, s4_, s5_, s6_, s7_, s8_, s9_⟩
      go_simp
      with_reducible rfl
    rotate_left
    · simp only [Act.put, List.setIfInBounds_toArray, List.set_cons_zero, List.set_cons_succ]
      rfl
    refine take_ (i := 2) (N := some 17) (v := ?_) (a' := ?_) #[true, false, true, false, false, false] rfl rfl (by kernel_rfl) (fun _ _ _ h => h) (Or.inl ⟨by rfl, ?_⟩) hHeld ?_ ?_
    rotate_left
    · rintro w' ⟨s0_, s1_, s2_, s3_, s4_, s5_, s6_, s7_, s8_, s9_⟩
      go_simp
      with_reducible rfl
    rotate_left
    · simp only [Act.put, List.setIfInBounds_toArray, List.set_cons_zero, List.set_cons_succ]
      rfl
    refine one_ (i := 1) (N := some 16) #[true, true, true, false, false, false] rfl rfl (by kernel_rfl) (by decide) (fun K hK => ?_)
    go_simp
    refine (text_call HTA.out _ A5 A6 c5 c6 (HK5.out _ (Below.refl _ _).drew)).mono ?_
    rintro e w6 ⟨rfl, hb6⟩
    have HC6 := Lib.hid (below_then (Below.refl W5.heap.size W5).drew (Nat.le_refl _) hb6)
    clear hb6
    refine hK.out _ _ ?_ (fun hHeld => ?_)
    · exact SK.out _ HC6.out
    clear hK K
    try simp only [Act.put, List.setIfInBounds_toArray, List.set_cons_zero, List.set_cons_succ]
    refine one_ (i := 3) (N := some 18) #[true, true, true, true, false, false] rfl rfl (by kernel_rfl) (by decide) (fun K hK => ?_)
    go_simp
    refine (text_call HTB.out _ B3 B4 d3 d4 (HKY.out _ (below_then HB5.out HB5.out.size HC6.out))).mono ?_
    rintro e w7 ⟨rfl, hb7⟩
    have HC7 := Lib.hid (below_then HC6.out HC6.out.size hb7)
    clear hb7
    refine hK.out _ _ ?_ (fun hHeld => ?_)
    · exact SK.out _ HC7.out
    clear hK K
    try simp only [Act.put, List.setIfInBounds_toArray, List.set_cons_zero, List.set_cons_succ]
    refine pure_ (i := 4) (N := some 4) (v := ?_) (a' := ?_) #[true, true, true, true, true, false] rfl rfl (by kernel_rfl) (fun _ _ _ h => h) (Or.inl ⟨by rfl, ?_⟩) ?_ ?_
    rotate_left
    · intro w'
      go_simp
      with_reducible rfl
    rotate_left
    · simp only [Act.put, List.setIfInBounds_toArray, List.set_cons_zero, List.set_cons_succ]
      rfl
    refine pure_ (i := 5) (N := some 5) (v := ?_) (a' := ?_) #[true, true, true, true, true, true] rfl rfl (by kernel_rfl) (fun _ _ _ h => h) (Or.inl ⟨by rfl, ?_⟩) ?_ ?_
    rotate_left
    · intro w'
      go_simp
      with_reducible rfl
    rotate_left
    · simp only [Act.put, List.setIfInBounds_toArray, List.set_cons_zero, List.set_cons_succ]
      rfl
    refine done_ (by kernel_rfl) ?_
    go_wp2_with (first
      | (go_at_call_of 49 (Value.string ta); refine (spec_Solid.calls 1000000 ta tr w7 HRA.out).mono ?_; rintro e w8 ⟨rfl, hb8⟩; have HC8 := Lib.hid (below_then HC7.out HC7.out.size hb8); clear hb8)
      | (go_at_call_of 49 (Value.string tb); refine (spec_Solid.calls 1000000 tb tr w8 HRB.out).mono ?_; rintro e w9 ⟨rfl, hb9⟩; have HC9 := Lib.hid (below_then HC8.out HC8.out.size hb9); clear hb9)
      | (go_at_call 35; refine (lives_any _).mono ?_; rintro e w11 ⟨rfl, hb11⟩; have HC11 := Lib.hid (below_then HC9.out HC9.out.size hb11); clear hb11))
    all_goals (first
      | (exact absurd HSZ5.out (by assumption))
      | (go_ret
         exact ⟨rfl, HL1.out _ (below_then HB5.out HB5.out.size HC11.out)⟩))
end Go.Proofs.Ytlallihdiffheaa.Dom
