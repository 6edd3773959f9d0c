/- impl.ListItems by hand: lists put right. -/
import Derived.Test.YtlallihdiffheaaDoorZMvWalk
import Derived.Test.YtlallihdiffheaaDoorBehindA
import Derived.Test.YtlallihdiffheaaDoorZLtPure
namespace Go.Proofs.YtlallihdiffheaaDoor.Dom
open Go.RowKit Go.Proofs.YtlallihdiffheaaDoorW.PrintWords Go.Proofs.YtlallihdiffheaaDoorW.PrintLast Go.Proofs.YtlallihdiffheaaDoorW.PrintMore Go.Proofs.YtlallihdiffheaaDoor.GT Go.Proofs.YtlallihdiffheaaDoor.Hand
set_option linter.unusedVariables false
set_option linter.unusedSimpArgs false

theorem mv_all (W0 : World) (hT0 : TabL W0) (cv : Value) : ∀ m, MvP W0 cv m := by
  intro m
  induction m using Nat.strongRecOn with
  | _ m ih =>
    intro k n p par prev next H w hc hm hw hs hd hn hf hB hlow
    exact mv_sweep W0 hT0 cv k n p par prev next H w hw hs hd hn hf hB hlow (by
      have := len_cost k
      simp only [cost] at hc
      omega) m ih hc hm
set_option maxRecDepth 100000 in
theorem background_any (w : World) : Calls Tryd.prog 43 #[] w fun e w' => ∃ v, e = .returned v ∧ w' = w := by
  go_enter Tryd.func43, Tryd.ntmps43
  go_wp2
  go_ret
  exact ⟨_, rfl, rfl⟩
/-- The map of a tree's nodes alone. -/
def onlyN (bs : List Nat) (H : NMap) : NMap := fun i => if i ∈ bs then H i else none
theorem onlyN_in {bs : List Nat} {H : NMap} {i : Nat} (h : i ∈ bs) : onlyN bs H i = H i := if_pos h
theorem onlyN_some {bs : List Nat} {H : NMap} {i : Nat} {r : NRec} (h : onlyN bs H i = some r) : i ∈ bs ∧ H i = some r := by
  unfold onlyN at h
  split at h
  · exact ⟨‹_›, h⟩
  · cases h
theorem onlyN_none {bs : List Nat} {H : NMap} {i : Nat} (h : H i = none) : onlyN bs H i = none := by
  unfold onlyN
  split
  · exact h
  · rfl
set_option maxRecDepth 100000 in
set_option maxHeartbeats 1600000 in
theorem mv_do (x : S25) (hdx : noDoc x) (hwx : wN x ≤ 2100000) (W0 : World) (hT0 : TabL W0) : DoSpecA 41 #[] W0 x (QM x) := by
  intro w L b p k hB hL hs ht hn hd hlo
  have hwt := wF_tree hn
  rw [ht] at hwt
  have hfm : FitM (.node b p k .nil) := fitM_of _ hn (by rw [erase, erase, noDocs, ht]; exact ⟨hdx, by rw [noDocs]; trivial⟩) (by rw [erase, erase, ht, wNs, wNs]; omega)
  have hcf := cost_wF (.node b p k .nil)
  simp only [wF] at hcf
  have hL1 : Holds w (onlyN (b :: k.blocks) L) := ⟨fun i r h => hL.node i r (onlyN_some h).2, fun i r h => hL.attrs i r (onlyN_some h).2⟩
  have hs1 : Sits (onlyN (b :: k.blocks) L) none none none (.node b p k .nil) := hs.congr _ _ _ _ fun i hi => onlyN_in (by simpa [F.blocks] using hi)
  have hlow : ∀ i, i < W0.heap.size → onlyN (b :: k.blocks) L i = none := fun i hi => by
    unfold onlyN
    rw [if_neg (fun h => by have := hlo i h; omega)]
  have hcall := fun cv : Value => mv_all W0 hT0 cv (cost (.node b p k .nil)) k b p none none none (onlyN (b :: k.blocks) L) w (Nat.le_refl _) (by omega) hL1 hs1 hd hn hfm hB hlow
  have hpost : ∀ w', MvOut (onlyN (b :: k.blocks) L) w b p none none none k w' → ∃ (y : S25) (p' : Pay) (k' : F Pay) (L' : NMap), QM x y ∧ Holds w' L' ∧ Sits L' none none none (.node b p' k' .nil) ∧ nodeOf p' (erase k') = y ∧ (Neat (.node b p' k' .nil) ∧ FitF (.node b p' k' .nil)) ∧ (F.node b p' k' .nil).blocks.length ≤ 1000000 ∧ Stays L w w' := by
    rintro w' ⟨kk, K, a1, a2, a3, a4, a5⟩
    have hnk : Neat (.node b p kk .nil) := by
      refine ⟨?_, a1.neat, trivial⟩
      rcases hn.1 with ⟨e, e2⟩ | ⟨e, e2⟩ | e | e
      · exact .inl ⟨e, by rw [a4 (by rw [e2]; exact ⟨fun _ => trivial, trivial, trivial⟩), e2]⟩
      · exact .inr (.inl ⟨e, by rw [a4 (by rw [e2]; exact ⟨fun _ => trivial, trivial, trivial⟩), e2]⟩)
      · exact .inr (.inr (.inl e))
      · exact .inr (.inr (.inr e))
    have hfk : FitM (.node b p kk .nil) := ⟨hfm.1, a1.fit, trivial⟩
    have hb6 := blocks_wF kk
    have hpp := payW_pos p
    refine ⟨_, p, kk, K, ⟨b, p, k, kk, hn, ht, rfl, hnk, hfk, a3, a4, a5⟩, a1.holds, a2, rfl, ⟨hnk, hfk.fit⟩, ?_, a1.stays.mono (fun i _ hi => onlyN_none hi)⟩
    simp only [F.blocks, List.length_cons, List.length_append, List.length_nil]
    omega
  have HC := Lib.hid hcall
  have HP := Lib.hid hpost
  clear hcall hpost hL1 hs1 hlow hcf hfm hwt hB hL hs ht hn hd hlo hdx hwx hT0
  show Calls Tryd.prog 41 #[.pointer (some ⟨b, 0, none⟩)] w _
  go_enter Tryd.func41, Tryd.ntmps41
  go_wp2_with (first
    | (go_at_call 43; refine (background_any _).mono ?_; rintro e w1 ⟨cv, rfl, rfl⟩)
    | (go_at_call 42; refine (HC.out cv).mono ?_; rintro e w2 ⟨rfl, h⟩; have HR := Lib.hid (HP.out _ h); clear h))
  go_end0
  exact ⟨rfl, HR.out⟩
set_option maxRecDepth 100000 in
set_option maxHeartbeats 800000 in
theorem listItems_any (x : S25) {nx : Nat} (hx : Tn nx x) (hdx : noDoc x) (hwx : wN x ≤ 2100000) (w : World) (A3 A4 : Option Addr) (c3 c4 : Nat) (h3 : k29.C w A3 x.f3.length x.f3) (l3 : x.f3.length ≤ c3) (h4 : k25.C w A4 x.f4.length x.f4) (l4 : x.f4.length ≤ c4) (hT0 : TabL w) :
    Calls Tryd.prog 19 #[.agg #[.int .i64 x.f0, .string x.f1, .string x.f2, .slice A3 x.f3.length c3, .slice A4 x.f4.length c4]] w fun e w' => ∃ y, QM x y ∧ ToldPost y w e w' := by
  obtain ⟨W, hW0⟩ : ∃ W, W = (w.alloc (.cells #[.int .i64 x.f0, .string x.f1, .string x.f2, .slice A3 x.f3.length c3, .slice A4 x.f4.length c4] 25 (0, 0))).alloc (.cells #[.int .i64 0, .string ⟨#[]⟩, .string ⟨#[]⟩, .slice none 0 0, .slice none 0 0] 25 (0, 0)) := ⟨_, rfl⟩
  have hsz : W.heap.size = w.heap.size + 2 := by rw [hW0]; simp only [World.size_alloc]
  have hW : Below w.heap.size w W := by rw [hW0]; exact below_alloc (below_alloc (Below.refl _ _) _) _
  have hN : W.heap[w.heap.size]? = some (.cells #[.int .i64 x.f0, .string x.f1, .string x.f2, .slice A3 x.f3.length c3, .slice A4 x.f4.length c4] 25 (0, 0)) := by
    rw [hW0, Below.heap_alloc _ _ _ (by simp only [World.size_alloc]; omega)]
    exact heap_alloc_new _ _
  have hrv : W.heap[w.heap.size + 1]? = some (.cells #[.int .i64 0, .string ⟨#[]⟩, .string ⟨#[]⟩, .slice none 0 0, .slice none 0 0] 25 (0, 0)) := by
    rw [hW0, ← World.size_alloc w]
    exact heap_alloc_new _ _
  have hcall := behindA_any 41 #[] W x (QM x) hx A3 A4 c3 c4 (fun v W => enters Tryd.func41 (by rfl) (by rfl) _ _)
    (mv_do x hdx hwx W (tabL_below hT0 hW)) (Kd.C_below h3 hW) l3 (Kd.C_below h4 hW) l4
  have hafter : ∀ w1 : World, Below W.heap.size W w1 → w1.heap[w.heap.size + 1]? = some (.cells #[.int .i64 0, .string ⟨#[]⟩, .string ⟨#[]⟩, .slice none 0 0, .slice none 0 0] 25 (0, 0)) ∧ Below w.heap.size w w1 ∧ W.heap.size ≤ w1.heap.size := fun w1 hb =>
    ⟨(hb.block _ (by omega)).trans hrv, below_then hW hW.size hb, hb.size⟩
  have HCALL := Lib.hid hcall
  have HAFT := Lib.hid hafter
  have HSZ := Lib.hid hsz
  obtain ⟨m0, -⟩ := out_cell hN 0
  obtain ⟨m1, -⟩ := out_cell hN 1
  obtain ⟨m2, -⟩ := out_cell hN 2
  obtain ⟨m3, -⟩ := out_cell hN 3
  obtain ⟨m4, -⟩ := out_cell hN 4
  have HWE := Lib.hid hW0
  clear hW hsz hrv hcall hafter h3 h4 hT0 hN hW0 m0 m1 m2 m3 m4 hx hdx hwx
  rw [HWE.out] at HCALL HAFT HSZ
  go_enter Tryd.func19, Tryd.ntmps19
  go_wp2_with (go_at_call 40; refine HCALL.out.mono ?_; rintro e w1 ⟨y, hq, A5, c5, A6, c6, rfl, htl, hb⟩; obtain ⟨hr1, hB1, hs1⟩ := HAFT.out w1 hb; obtain ⟨r0, f0⟩ := out_cell hr1 0; obtain ⟨r1, f1⟩ := out_cell hr1 1; obtain ⟨r2, f2⟩ := out_cell hr1 2; obtain ⟨r3, f3⟩ := out_cell hr1 3; obtain ⟨r4, f4⟩ := out_cell hr1 4; simp only [List.getElem?_toArray, List.getElem?_cons_succ, List.getElem?_cons_zero] at r0 r1 r2 r3 r4; have HR1 := Lib.hid hr1; have HB1 := Lib.hid hB1; have HQ := Lib.hid hq; have HTL := Lib.hid htl; have HS1 := Lib.hid hs1; clear hr1 hB1 hq htl hb hs1)
  obtain ⟨e4, hg, hsz2⟩ := put5A (.int .i64 y.f0) (.string y.f1) (.string y.f2) (.slice A5 y.f3.length c5) (.slice A6 y.f4.length c6) HR1.out
  refine bodyPost_ret (results_cell_row rfl _ _ (w.heap.size + 1) 25 #[.int .i64 y.f0, .string y.f1, .string y.f2, .slice A5 y.f3.length c5, .slice A6 y.f4.length c6] (0, 0) _ rfl e4 Tryd.underlying25 rfl (by kernel_rfl)) rfl ?_
  refine ⟨y, HQ.out, A5, c5, A6, c6, rfl, fun W hW => HTL.out W fun z hz1 hz2 => ?_, HB1.out.grown hg HB1.out.size (fun z hz => by have := Option.some.inj hz; omega)⟩
  have h7 := HSZ.out
  have h8 := HS1.out
  rw [hW z (by omega) (by omega)]
  exact hg.block z hz2 (fun e => by have := Option.some.inj e; omega)
end Go.Proofs.YtlallihdiffheaaDoor.Dom
