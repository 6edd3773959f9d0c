/- laws.FnMergeTexts by hand: the walk. -/
import Derived.Test.YtlallihdiffheaaMergeTexts
import Derived.Test.YtlallihdiffheaaInlineCut
import Derived.Test.YtlallihdiffheaaSame
import Derived.Test.YtlallihdiffheaaLives
namespace Go.Proofs.Ytlallihdiffheaa.Hand
open Go.RowKit Go.Proofs.YtlallihdiffheaaW.PrintWords Go.Proofs.YtlallihdiffheaaW.PrintLast Go.Proofs.Ytlallihdiffheaa.GT
set_option linter.unusedVariables false
set_option linter.unusedSimpArgs false

/-- What is merged is the same tree, by both. -/
theorem same_merged {n : Nat} (hn : n ≤ 60) {b : Nat} {p : Pay} {k : F Pay} {x : S25} (hx : Sm n x) (hN : Neat (.node b p k .nil)) (ht : nodeOf p (erase k) = x) :
    spec_SameTree.f 600 (nodeOf p (erase (mergeG k .nil))).f0 (nodeOf p (erase (mergeG k .nil))).f1 (nodeOf p (erase (mergeG k .nil))).f2 (nodeOf p (erase (mergeG k .nil))).f3 (nodeOf p (erase (mergeG k .nil))).f4 (nodeOf p (erase (mergeG k .nil))).f0 (nodeOf p (erase (mergeG k .nil))).f1 (nodeOf p (erase (mergeG k .nil))).f2 (nodeOf p (erase (mergeG k .nil))).f3 (nodeOf p (erase (mergeG k .nil))).f4 = some true := by
  obtain ⟨h1, h2, h3⟩ := sm_node hx ht hN
  have hnp := mergeG_np k .nil hN.2.1 h3.2.1 trivial trivial
  have hN2 : Neat (.node b p (mergeG k .nil) .nil) := by
    refine ⟨?_, hnp.1, trivial⟩
    rcases hN.1 with ⟨a, e⟩ | ⟨a, e⟩ | a | a
    · exact .inl ⟨a, by rw [e]; rfl⟩
    · exact .inr (.inl ⟨a, by rw [e]; rfl⟩)
    · exact .inr (.inr (.inl a))
    · exact .inr (.inr (.inr a))
  have hsz := sz_forest (.node b p (mergeG k .nil) .nil) hN2 ⟨h3.1, hnp.2, trivial⟩
  have hl := (mergeG_sub k .nil).length_le
  simp only [F.blocks, List.nil_append, List.length_cons, List.length_append, List.append_nil] at h1 hl hsz
  generalize hm : ((mergeG k .nil).blocks.length + 1) = m at hsz
  obtain ⟨a, ha, hy⟩ := hsz.head
  exact same_sz 60 a (by omega) (by omega) _ hy 600 (by omega)
/-- spec.Merged of a small tree. -/
theorem merged_sm {n : Nat} (hn : n ≤ 60) {b : Nat} {p : Pay} {k : F Pay} {x : S25} (hx : Sm n x) (hN : Neat (.node b p k .nil)) (ht : nodeOf p (erase k) = x) (w : World) (A3 A4 : Option Addr) (c3 c4 : Nat) (h4 : k25.C w A4 x.f4.length x.f4) (l4 : x.f4.length ≤ c4) :
    Calls Try.prog 34 #[.agg #[.int .i64 x.f0, .string x.f1, .string x.f2, .slice A3 x.f3.length c3, .slice A4 x.f4.length c4]] w (ToldPost (nodeOf p (erase (mergeG k .nil))) w) := by
  obtain ⟨h1, h2, h3⟩ := sm_node hx ht hN
  obtain ⟨q0, q1, q2, e1, e2, _, _⟩ := node_form hN h3
  rw [ht] at e1
  have e3 := (e2 _).2 rfl
  subst e1
  rw [e3]
  simp only [heft] at h2
  simp only [F.blocks, List.length_cons, List.length_append, List.length_nil] at h1
  exact merged_any k q0 q1 q2 w A3 A4 c3 c4 h4 l4 hN.2.1 h3.2.1 (by omega) (by omega)
/-- spec.SameTree of a tree with itself, wherever both lie. -/
theorem same_call (z : S25) (w : World) (A5 A6 A7 A8 : Option Addr) (c5 c6 c7 c8 : Nat) (h1 : k25.K w z (treeCells z A5 c5 A6 c6)) (h2 : k25.K w z (treeCells z A7 c7 A8 c8)) (hs : spec_SameTree.f 600 z.f0 z.f1 z.f2 z.f3 z.f4 z.f0 z.f1 z.f2 z.f3 z.f4 = some true) :
    Calls Try.prog 32 #[.agg #[.int .i64 z.f0, .string z.f1, .string z.f2, .slice A5 z.f3.length c5, .slice A6 z.f4.length c6], .agg #[.int .i64 z.f0, .string z.f1, .string z.f2, .slice A7 z.f3.length c7, .slice A8 z.f4.length c8]] w fun e w' => e = .returned (.bool true) ∧ Below w.heap.size w w' := by
  obtain ⟨X5, x5, X6, x6, he7, l7, g7, l8, g8⟩ := k25_open h1
  obtain ⟨X7, x7, X8, x8, he9, l9, g9, l10, g10⟩ := k25_open h2
  simp only [treeCells, List.cons.injEq, Value.slice.injEq, and_true, true_and] at he7 he9
  obtain ⟨⟨rfl, rfl⟩, rfl, rfl⟩ := he7
  obtain ⟨⟨rfl, rfl⟩, rfl, rfl⟩ := he9
  exact spec_SameTree.calls 600 _ _ _ _ _ _ _ _ _ _ _ _ _ _ _ _ _ _ true _ g7 l7 g8 l8 g9 l9 g10 l10 hs
set_option maxRecDepth 100000 in
set_option maxHeartbeats 1600000 in
theorem law_merge (x : S25) (w : World) (A3 A4 : Option Addr) (c3 c4 : Nat) (h3 : k34.C w A3 x.f3.length x.f3) (l3 : x.f3.length ≤ c3) (h4 : k25.C w A4 x.f4.length x.f4) (l4 : x.f4.length ≤ c4) :
    Calls Try.prog 8 #[.agg #[.int .i64 x.f0, .string x.f1, .string x.f2, .slice A3 x.f3.length c3, .slice A4 x.f4.length c4]] w fun e w' => e = .returned (.bool true) ∧ Below w.heap.size w w' := by
  obtain ⟨kz, rz, hz⟩ := fits2_any x
  have H3 := Lib.hid h3
  have H4 := Lib.hid h4
  have HZ := Lib.hid hz
  clear h3 h4 hz
  go_enter Try.func8, Try.ntmps8
  go_wp2_with (first
    | (go_at_call 14; refine (laws_zzFits2.calls kz x.f0 x.f1 x.f2 A3 c3 x.f3 A4 c4 x.f4 rz _ (Kd.C_alloc H3.out _) l3 (Kd.C_alloc H4.out _) l4 HZ.out).mono ?_; rintro e w1 ⟨rfl, hb1⟩; have hn1 := (hb1.block w.heap.size (by rw [World.size_alloc]; omega)).trans (heap_alloc_new w _); have hB1 : Below w.heap.size w w1 := below_then (below_alloc (Below.refl _ _) _) (by rw [World.size_alloc]; omega) hb1; have hs1 : w.heap.size < w1.heap.size := (by have := hb1.size; rw [World.size_alloc] at this; omega); obtain ⟨n0, f0⟩ := out_cell hn1 0; obtain ⟨n1, f1⟩ := out_cell hn1 1; obtain ⟨n2, f2⟩ := out_cell hn1 2; obtain ⟨n3, f3⟩ := out_cell hn1 3; obtain ⟨n4, f4⟩ := out_cell hn1 4; simp only [List.getElem?_toArray, List.getElem?_cons_succ, List.getElem?_cons_zero] at n0 n1 n2 n3 n4; have HN1 := Lib.hid hn1; have HB1 := Lib.hid hB1; clear hb1 hn1 hB1)
    | (go_at_call 31; refine (cutTree_any x w1 A3 A4 c3 c4 (Kd.C_below H3.out HB1.out) l3 (Kd.C_below H4.out HB1.out) l4).mono ?_; rintro e w2 ⟨y, n, B3, d3, B4, d4, rfl, hsm, htl, hb2⟩; have hn2 := (hb2.block w.heap.size hs1).trans HN1.out; obtain ⟨m0, g0⟩ := out_cell hn2 0; obtain ⟨m1, g1⟩ := out_cell hn2 1; obtain ⟨m2, g2⟩ := out_cell hn2 2; obtain ⟨m3, g3⟩ := out_cell hn2 3; obtain ⟨m4, g4⟩ := out_cell hn2 4; simp only [List.getElem?_toArray, List.getElem?_cons_succ, List.getElem?_cons_zero] at m0 m1 m2 m3 m4; have HN2 := Lib.hid hn2; have HB2 := Lib.hid hb2; have HSM := Lib.hid hsm; have HTL := Lib.hid htl; clear hn2 hb2 hsm htl))
  · go_ret
    exact ⟨rfl, HB1.out⟩
  · obtain ⟨e4, hg, hsz⟩ := put5 (.int .i64 y.f0) (.string y.f1) (.string y.f2) (.slice B3 y.f3.length d3) (.slice B4 y.f4.length d4) HN2.out
    clear n0 n1 n2 n3 n4 f0 f1 f2 f3 f4 m0 m1 m2 m3 m4 g0 g1 g2 g3 g4
    generalize (((((w2.setCell ⟨w.heap.size, 0, none⟩ (.int .i64 y.f0)).setCell ⟨w.heap.size, 1, none⟩ (.string y.f1)).setCell ⟨w.heap.size, 2, none⟩ (.string y.f2)).setCell ⟨w.heap.size, 3, none⟩ (.slice B3 y.f3.length d3)).setCell ⟨w.heap.size, 4, none⟩ (.slice B4 y.f4.length d4)) = W3 at *
    have hL1 : ∀ w', Below W3.heap.size W3 w' → Below w.heap.size w w' := fun w' hb => by
      have h1 := HB2.out.size
      refine below_then (B := w.heap.size) ((HB1.out.trans (HB2.out.mono (by omega))).grown hg (by omega) (fun z hz => by have := Option.some.inj hz; omega)) (by omega) hb
    have hK3 := HTL.out W3 (fun z hz1 hz2 => hg.block z hz2 (fun e => by have := Option.some.inj e; omega))
    obtain ⟨E3, e3, E4, e5, he, l3', g3, l4', g4⟩ := k25_open hK3
    obtain ⟨rfl, rfl, rfl, rfl⟩ : B3 = E3 ∧ d3 = e3 ∧ B4 = E4 ∧ d4 = e5 := by
      simp only [treeCells, List.cons.injEq, Value.slice.injEq, and_true, true_and] at he
      exact ⟨he.1.1, he.1.2, he.2.1, he.2.2⟩
    obtain ⟨m0, -⟩ := out_cell e4 0
    obtain ⟨m1, -⟩ := out_cell e4 1
    obtain ⟨m2, -⟩ := out_cell e4 2
    obtain ⟨m3, -⟩ := out_cell e4 3
    obtain ⟨m4, -⟩ := out_cell e4 4
    simp only [List.getElem?_toArray, List.getElem?_cons_succ, List.getElem?_cons_zero] at m0 m1 m2 m3 m4
    have HE4 := Lib.hid e4
    have HL1 := Lib.hid hL1
    have HG4 := Lib.hid (And.intro l3' (And.intro g3 (And.intro l4' g4)))
    have HWL : w.heap.size < W3.heap.size := by have := HB2.out.size; omega
    clear hg hK3 he l3' g3 l4' g4 e4 hL1
    go_region_law (first
      | (go_simp
         go_at_call 33
         refine (mergeTexts_any n HSM.out.2 y HSM.out.1 _ B3 B4 d3 d4 (Kd.C_below HG4.out.2.1 (Below.refl _ _).drew) HG4.out.1 (Kd.C_below HG4.out.2.2.2 (Below.refl _ _).drew) HG4.out.2.2.1).mono ?_
         rintro e w4 ⟨y1, hq, A5, c5, A6, c6, rfl, htl4, hb4⟩
         have hb4' : Below W3.heap.size W3 w4 := below_then (Below.refl _ _).drew (Nat.le_refl _) hb4
         have e4' := (hb4'.block w.heap.size HWL).trans HE4.out
         obtain ⟨p0, -⟩ := out_cell e4' 0
         obtain ⟨p1, -⟩ := out_cell e4' 1
         obtain ⟨p2, -⟩ := out_cell e4' 2
         obtain ⟨p3, -⟩ := out_cell e4' 3
         obtain ⟨p4, -⟩ := out_cell e4' 4
         simp only [List.getElem?_toArray, List.getElem?_cons_succ, List.getElem?_cons_zero] at p0 p1 p2 p3 p4
         have HB4 := Lib.hid hb4'
         have HQ := Lib.hid hq
         have HTL4 := Lib.hid htl4
         clear hb4 hb4' hq htl4 e4')
      | (go_simp
         go_at_call 34
         obtain ⟨bq, pq, kq, hN, ht, rfl⟩ := HQ.out
         refine (merged_sm HSM.out.2 HSM.out.1 hN ht _ B3 B4 d3 d4 (Kd.C_below HG4.out.2.2.2 HB4.out) HG4.out.2.2.1).mono ?_
         rintro e w5 ⟨A7, c7, A8, c8, rfl, htl5, hb5⟩
         have HB5 := Lib.hid hb5
         have HTL5 := Lib.hid htl5
         have HS := Lib.hid (same_merged HSM.out.2 HSM.out.1 hN ht)
         clear hb5 htl5)
      | (go_simp
         go_at_call 32
         refine (same_call _ w5 A5 A6 A7 A8 c5 c6 c7 c8 (HTL4.out w5 (fun z hz1 hz2 => HB5.out.block z hz2)) (HTL5.out w5 (fun z hz1 hz2 => rfl)) HS.out).mono ?_
         rintro e w6 ⟨rfl, hb6⟩
         have HB6 := Lib.hid hb6
         clear hb6)
      | (go_simp
         go_at_call 35
         refine (lives_any _).mono ?_
         rintro e w7 ⟨rfl, hb7⟩
         have HB7 := Lib.hid hb7
         clear hb7))
    all_goals (
      go_wp2
      go_ret
      exact ⟨rfl, HL1.out _ (below_then (below_then (below_then HB4.out HB4.out.size HB5.out) (by have := HB4.out.size; have := HB5.out.size; omega) HB6.out) (by have := HB4.out.size; have := HB5.out.size; have := HB6.out.size; omega) HB7.out)⟩)
end Go.Proofs.Ytlallihdiffheaa.Hand
