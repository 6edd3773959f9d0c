/- impl.MergeTexts by hand, over small trees. -/
import Derived.Test.YtlallihdiffheaaMerged
namespace Go.Proofs.Ytlallihdiffheaa.Hand
open Go.RowKit Go.Proofs.YtlallihdiffheaaW.PrintWords Go.Proofs.YtlallihdiffheaaW.PrintLast Go.Proofs.Ytlallihdiffheaa.GT
set_option linter.unusedVariables false
set_option linter.unusedSimpArgs false

/-- A tree, and what it is with texts that follow one another made one. -/
def QM (x y : S25) : Prop := ∃ (b : Nat) (p : Pay) (k : F Pay), Neat (.node b p k .nil) ∧ nodeOf p (erase k) = x ∧ y = nodeOf p (erase (mergeG k .nil))
theorem sm_node {n b : Nat} {p : Pay} {k : F Pay} {x : S25} (hx : Sm n x) (ht : nodeOf p (erase k) = x) (hn : Neat (.node b p k .nil)) : (F.node b p k .nil).blocks.length ≤ n ∧ heft (.node b p k .nil) ≤ 300 * n ∧ Plain (.node b p k .nil) := by
  refine sm_forest (.node b p k .nil) n hn ?_
  have h : erase (F.node b p k .nil) = [x] := by rw [← ht]; rfl
  rw [h]
  have := SmL.cons n 0 x [] hx .nil
  simpa using this
theorem merge_do (n : Nat) (hn60 : n ≤ 60) (x : S25) (hx : Sm n x) (W0 : World) : DoSpec 74 #[] W0 x (QM x) := by
  intro w L b p k hB hL hs ht hn hd hf
  obtain ⟨h1, h2, h3⟩ := sm_node hx ht hn
  have hh : heft k ≤ 1000000000 := by
    simp only [heft] at h2
    omega
  refine (merge_any k b p none none none L w hL hs hd hh).mono ?_
  rintro e w' ⟨rfl, H', a1, a2, a3, a4, a5⟩
  have hsub := mergeG_sub k .nil
  have hnp := mergeG_np k .nil hn.2.1 h3.2.1 trivial trivial
  refine ⟨rfl, _, p, mergeG k .nil, H', ⟨b, p, k, hn, ht, rfl⟩, a1, a2, rfl, ⟨h3.1, hnp.2, trivial⟩, ?_, a4⟩
  have h4 := hsub.length_le
  simp only [F.blocks, List.nil_append, List.length_cons, List.length_append, List.append_nil] at h1 h4 ⊢
  omega
set_option maxRecDepth 100000 in
set_option maxHeartbeats 800000 in
theorem mergeTexts_any (n : Nat) (hn60 : n ≤ 60) (x : S25) (hx : Sm n x) (w : World) (A3 A4 : Option Addr) (c3 c4 : Nat) (h3 : k34.C w A3 x.f3.length x.f3) (l3 : x.f3.length ≤ c3) (h4 : k25.C w A4 x.f4.length x.f4) (l4 : x.f4.length ≤ c4) :
    Calls Try.prog 33 #[.agg #[.int .i64 x.f0, .string x.f1, .string x.f2, .slice A3 x.f3.length c3, .slice A4 x.f4.length c4]] w fun e w' => ∃ y, QM x y ∧ ToldPost y w e w' := by
  have hW : Below w.heap.size w ((w.alloc (.cells #[.int .i64 x.f0, .string x.f1, .string x.f2, .slice A3 x.f3.length c3, .slice A4 x.f4.length c4] 25 (0, 0))).alloc (.cells #[.int .i64 0, .string ⟨#[]⟩, .string ⟨#[]⟩, .slice none 0 0, .slice none 0 0] 25 (0, 0))) := below_alloc (below_alloc (Below.refl _ _) _) _
  have hsz : ((w.alloc (.cells #[.int .i64 x.f0, .string x.f1, .string x.f2, .slice A3 x.f3.length c3, .slice A4 x.f4.length c4] 25 (0, 0))).alloc (.cells #[.int .i64 0, .string ⟨#[]⟩, .string ⟨#[]⟩, .slice none 0 0, .slice none 0 0] 25 (0, 0))).heap.size = w.heap.size + 2 := by simp only [World.size_alloc]
  have hrv : ((w.alloc (.cells #[.int .i64 x.f0, .string x.f1, .string x.f2, .slice A3 x.f3.length c3, .slice A4 x.f4.length c4] 25 (0, 0))).alloc (.cells #[.int .i64 0, .string ⟨#[]⟩, .string ⟨#[]⟩, .slice none 0 0, .slice none 0 0] 25 (0, 0))).heap[w.heap.size + 1]? = some (.cells #[.int .i64 0, .string ⟨#[]⟩, .string ⟨#[]⟩, .slice none 0 0, .slice none 0 0] 25 (0, 0)) := by
    rw [← World.size_alloc w (.cells #[.int .i64 x.f0, .string x.f1, .string x.f2, .slice A3 x.f3.length c3, .slice A4 x.f4.length c4] 25 (0, 0))]
    exact heap_alloc_new _ _
  have hcall := behind_any 74 #[] ((w.alloc (.cells #[.int .i64 x.f0, .string x.f1, .string x.f2, .slice A3 x.f3.length c3, .slice A4 x.f4.length c4] 25 (0, 0))).alloc (.cells #[.int .i64 0, .string ⟨#[]⟩, .string ⟨#[]⟩, .slice none 0 0, .slice none 0 0] 25 (0, 0))) x (QM x) hx.wf A3 A4 c3 c4 (fun v W => enters Try.func74 (by rfl) (by rfl) _ _) (merge_do n hn60 x hx _) (Kd.C_below h3 hW) l3 (Kd.C_below h4 hW) l4
  have hafter : ∀ w1 : World, Below ((w.alloc (.cells #[.int .i64 x.f0, .string x.f1, .string x.f2, .slice A3 x.f3.length c3, .slice A4 x.f4.length c4] 25 (0, 0))).alloc (.cells #[.int .i64 0, .string ⟨#[]⟩, .string ⟨#[]⟩, .slice none 0 0, .slice none 0 0] 25 (0, 0))).heap.size ((w.alloc (.cells #[.int .i64 x.f0, .string x.f1, .string x.f2, .slice A3 x.f3.length c3, .slice A4 x.f4.length c4] 25 (0, 0))).alloc (.cells #[.int .i64 0, .string ⟨#[]⟩, .string ⟨#[]⟩, .slice none 0 0, .slice none 0 0] 25 (0, 0))) w1 → w1.heap[w.heap.size + 1]? = some (.cells #[.int .i64 0, .string ⟨#[]⟩, .string ⟨#[]⟩, .slice none 0 0, .slice none 0 0] 25 (0, 0)) ∧ Below w.heap.size w w1 ∧ w.heap.size + 2 ≤ w1.heap.size := fun w1 hb => ⟨(hb.block _ (by omega)).trans hrv, below_then hW (by omega) hb, by have := hb.size; omega⟩
  have HCALL := Lib.hid hcall
  have HAFT := Lib.hid hafter
  have HSZ := Lib.hid hsz
  clear hW hsz hrv hcall hafter h3 h4
  go_enter Try.func33, Try.ntmps33
  go_wp2_with (go_at_call 73; refine HCALL.out.mono ?_; rintro e w1 ⟨y, hq, A5, c5, A6, c6, rfl, htl, hb⟩; obtain ⟨hr1, hB1, hs1⟩ := HAFT.out w1 hb; obtain ⟨r0, f0⟩ := out_cell hr1 0; obtain ⟨r1, f1⟩ := out_cell hr1 1; obtain ⟨r2, f2⟩ := out_cell hr1 2; obtain ⟨r3, f3⟩ := out_cell hr1 3; obtain ⟨r4, f4⟩ := out_cell hr1 4; simp only [List.getElem?_toArray, List.getElem?_cons_succ, List.getElem?_cons_zero] at r0 r1 r2 r3 r4; have HR1 := Lib.hid hr1; have HB1 := Lib.hid hB1; have HQ := Lib.hid hq; have HTL := Lib.hid htl; clear hr1 hB1 hq htl hb)
  obtain ⟨e4, hg, hsz2⟩ := put5 (.int .i64 y.f0) (.string y.f1) (.string y.f2) (.slice A5 y.f3.length c5) (.slice A6 y.f4.length c6) HR1.out
  refine bodyPost_ret (results_cell_row rfl _ _ (w.heap.size + 1) 25 #[.int .i64 y.f0, .string y.f1, .string y.f2, .slice A5 y.f3.length c5, .slice A6 y.f4.length c6] (0, 0) _ rfl e4 Try.underlying25 rfl (by kernel_rfl)) rfl ?_
  refine ⟨y, HQ.out, A5, c5, A6, c6, rfl, fun W hW => HTL.out W fun z hz1 hz2 => ?_, HB1.out.grown hg HB1.out.size (fun z hz => by have := Option.some.inj hz; omega)⟩
  have h7 := HSZ.out
  rw [hW z (by omega) (by omega)]
  exact hg.block z hz2 (fun e => by have := Option.some.inj e; omega)
end Go.Proofs.Ytlallihdiffheaa.Hand
