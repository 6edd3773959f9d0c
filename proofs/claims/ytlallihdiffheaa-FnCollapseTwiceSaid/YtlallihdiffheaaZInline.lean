/- impl.behind by hand: a tree behind a function that does not panic. The last tree of a row of trees: its cells; its text turned. laws.inlineTree by hand: a cut tree is small. -/
import Derived.Test.YtlallihdiffheaaZTold
import Derived.Test.YtlallihdiffheaaZGuard
import Derived.Lib.BufferWrite
import Derived.Test.YtlallihdiffheaaZSmall
import Derived.Test.YtlallihdiffheaaZAscii
import Derived.Deep.RegionLaw
namespace Go.Proofs.Ytlallihdiffheaa.Hand
open Go.RowKit Go.Proofs.YtlallihdiffheaaW.PrintWords Go.Proofs.YtlallihdiffheaaW.PrintLast Go.Proofs.Ytlallihdiffheaa.GT
set_option linter.unusedVariables false
set_option linter.unusedSimpArgs false

/-- What a function does to a tree's nodes, in whatever world behind W0. -/
def DoSpec (K : Nat) (caps : Array Value) (W0 : World) (x : S25) (Q : S25 → Prop) : Prop :=
  ∀ (w : World) (L : NMap) (b : Nat) (p : Pay) (k : F Pay), Below W0.heap.size W0 w → Holds w L → Sits L none none none (.node b p k .nil) → nodeOf p (erase k) = x → Neat (.node b p k .nil) → (b :: k.blocks).Nodup → (∀ c ∈ b :: k.blocks, W0.heap.size ≤ c) →
    Calls Try.prog K (#[.pointer (some ⟨b, 0, none⟩)] ++ caps) w fun e w' => e = .returned (.tuple #[]) ∧ ∃ (y : S25) (p' : Pay) (k' : F Pay) (L' : NMap), Q y ∧ Holds w' L' ∧ Sits L' none none none (.node b p' k' .nil) ∧ nodeOf p' (erase k') = y ∧ Plain (.node b p' k' .nil) ∧ (F.node b p' k' .nil).blocks.length ≤ 1000000 ∧ Stays L w w'
/-- A tree lies in the variable of a block, and its parts in new blocks; no other block has turned. -/
def Stored (y : S25) (w : World) (bo : Nat) (W : World) : Prop := ∃ A3 c3 A4 c4, W.heap[bo]? = some (.cells #[.int .i64 y.f0, .string y.f1, .string y.f2, .slice A3 y.f3.length c3, .slice A4 y.f4.length c4] 25 (0, 0)) ∧ TellsIn w.heap.size W.heap.size W y (treeCells y A3 c3 A4 c4) ∧ w.grownBy W (some bo)
theorem put5 {w3 : World} {bo : Nat} {z0 z1 z2 z3 z4 : Value} (v0 v1 v2 v3 v4 : Value) (ho : w3.heap[bo]? = some (.cells #[z0, z1, z2, z3, z4] 25 (0, 0))) :
    (((((w3.setCell ⟨bo, 0, none⟩ v0).setCell ⟨bo, 1, none⟩ v1).setCell ⟨bo, 2, none⟩ v2).setCell ⟨bo, 3, none⟩ v3).setCell ⟨bo, 4, none⟩ v4).heap[bo]? = some (.cells #[v0, v1, v2, v3, v4] 25 (0, 0)) ∧ w3.grownBy (((((w3.setCell ⟨bo, 0, none⟩ v0).setCell ⟨bo, 1, none⟩ v1).setCell ⟨bo, 2, none⟩ v2).setCell ⟨bo, 3, none⟩ v3).setCell ⟨bo, 4, none⟩ v4) (some bo) ∧ (((((w3.setCell ⟨bo, 0, none⟩ v0).setCell ⟨bo, 1, none⟩ v1).setCell ⟨bo, 2, none⟩ v2).setCell ⟨bo, 3, none⟩ v3).setCell ⟨bo, 4, none⟩ v4).heap.size = w3.heap.size := by
  have e0 : (w3.setCell ⟨bo, 0, none⟩ v0).heap[bo]? = some (.cells #[v0, z1, z2, z3, z4] 25 (0, 0)) := Lib.heap_setCell_same ho v0
  have e1 : ((w3.setCell ⟨bo, 0, none⟩ v0).setCell ⟨bo, 1, none⟩ v1).heap[bo]? = some (.cells #[v0, v1, z2, z3, z4] 25 (0, 0)) := Lib.heap_setCell_same e0 v1
  have e2 : (((w3.setCell ⟨bo, 0, none⟩ v0).setCell ⟨bo, 1, none⟩ v1).setCell ⟨bo, 2, none⟩ v2).heap[bo]? = some (.cells #[v0, v1, v2, z3, z4] 25 (0, 0)) := Lib.heap_setCell_same e1 v2
  have e3 : ((((w3.setCell ⟨bo, 0, none⟩ v0).setCell ⟨bo, 1, none⟩ v1).setCell ⟨bo, 2, none⟩ v2).setCell ⟨bo, 3, none⟩ v3).heap[bo]? = some (.cells #[v0, v1, v2, v3, z4] 25 (0, 0)) := Lib.heap_setCell_same e2 v3
  have e4 : (((((w3.setCell ⟨bo, 0, none⟩ v0).setCell ⟨bo, 1, none⟩ v1).setCell ⟨bo, 2, none⟩ v2).setCell ⟨bo, 3, none⟩ v3).setCell ⟨bo, 4, none⟩ v4).heap[bo]? = some (.cells #[v0, v1, v2, v3, v4] 25 (0, 0)) := Lib.heap_setCell_same e3 v4
  exact ⟨e4, ((((Lib.grownBy_setCell w3 bo 0 v0).trans (Lib.grownBy_setCell _ bo 1 v1)).trans (Lib.grownBy_setCell _ bo 2 v2)).trans (Lib.grownBy_setCell _ bo 3 v3)).trans (Lib.grownBy_setCell _ bo 4 v4), by simp only [World.size_setCell]⟩
theorem stored_mk {y : S25} {w w3 : World} {bo : Nat} {A3 A4 : Option Addr} {c3 c4 : Nat} {z0 z1 z2 z3 z4 : Value} (hbo : bo < w.heap.size) (hB : Below w.heap.size w w3) (lo : Nat) (hlo : w.heap.size ≤ lo) (ht : TellsIn lo w3.heap.size w3 y (treeCells y A3 c3 A4 c4))
    (ho : w3.heap[bo]? = some (.cells #[z0, z1, z2, z3, z4] 25 (0, 0))) :
    Stored y w bo (((((w3.setCell ⟨bo, 0, none⟩ (.int .i64 y.f0)).setCell ⟨bo, 1, none⟩ (.string y.f1)).setCell ⟨bo, 2, none⟩ (.string y.f2)).setCell ⟨bo, 3, none⟩ (.slice A3 y.f3.length c3)).setCell ⟨bo, 4, none⟩ (.slice A4 y.f4.length c4)) := by
  obtain ⟨e4, hg, hsz⟩ := put5 (.int .i64 y.f0) (.string y.f1) (.string y.f2) (.slice A3 y.f3.length c3) (.slice A4 y.f4.length c4) ho
  generalize (((((w3.setCell ⟨bo, 0, none⟩ (.int .i64 y.f0)).setCell ⟨bo, 1, none⟩ (.string y.f1)).setCell ⟨bo, 2, none⟩ (.string y.f2)).setCell ⟨bo, 3, none⟩ (.slice A3 y.f3.length c3)).setCell ⟨bo, 4, none⟩ (.slice A4 y.f4.length c4)) = W at e4 hg hsz ⊢
  clear ho
  have hother : ∀ k, k < w3.heap.size → k ≠ bo → W.heap[k]? = w3.heap[k]? := fun k hk hne => hg.block k hk (fun e => hne (Option.some.inj e))
  refine ⟨A3, c3, A4, c4, e4, fun X hX => ht X fun k a b => ?_, ?_⟩
  · rw [hX k (by omega) (by omega)]
    exact hother k (by omega) (by omega)
  · exact ⟨hg.os.trans hB.os, hg.tape.trans hB.tape, hg.output.trans hB.output, Nat.le_trans hB.size hg.size, fun k hk hne => (hother k (Nat.lt_of_lt_of_le hk hB.size) (fun e => hne (by rw [e]))).trans (hB.block k hk)⟩
set_option maxRecDepth 100000 in
set_option maxHeartbeats 1600000 in
theorem behind_do (K : Nat) (caps : Array Value) (W0 w : World) (x : S25) (Q : S25 → Prop) (hx : WF0 x) (bn bd bo : Nat) (A3 A4 : Option Addr) (c3 c4 : Nat) (z : Value)
    (hent : ∀ (v : Value) W, (callFunc K (#[v] ++ caps)).run Try.prog W = .ok (.enter K (#[v] ++ caps)) W) (hdo : DoSpec K caps W0 x Q) (hB : Below W0.heap.size W0 w)
    (hn : w.heap[bn]? = some (.cells #[.int .i64 x.f0, .string x.f1, .string x.f2, .slice A3 x.f3.length c3, .slice A4 x.f4.length c4] 25 (0, 0)))
    (h3 : k34.C w A3 x.f3.length x.f3) (l3 : x.f3.length ≤ c3) (h4 : k25.C w A4 x.f4.length x.f4) (l4 : x.f4.length ≤ c4)
    (hd : w.cell? ⟨bd, 0, none⟩ = some (.func (.func K) #[] caps))
    (ho : w.heap[bo]? = some (.cells #[.int .i64 0, .string ⟨#[]⟩, .string ⟨#[]⟩, .slice none 0 0, .slice none 0 0] 25 (0, 0))) :
    Calls Try.prog 125 #[.pointer (some ⟨bn, 0, none⟩), .pointer (some ⟨bd, 0, none⟩), .pointer (some ⟨bo, 0, none⟩)] w fun e W => e = .returned (.tuple #[]) ∧ ∃ y, Q y ∧ Stored y w bo W := by
  obtain ⟨n0, -⟩ := out_cell hn 0
  obtain ⟨n1, -⟩ := out_cell hn 1
  obtain ⟨n2, -⟩ := out_cell hn 2
  obtain ⟨n3, -⟩ := out_cell hn 3
  obtain ⟨n4, -⟩ := out_cell hn 4
  simp only [List.getElem?_toArray, List.getElem?_cons_succ, List.getElem?_cons_zero] at n0 n1 n2 n3 n4
  have hbd := World.block_lt_of_cell? w _ hd
  have hbo : bo < w.heap.size := (Array.getElem?_eq_some_iff.1 ho).1
  have HM := Lib.hid (made_any0 x hx w (fun _ => none) A3 A4 c3 c4 (Holds.empty w) h3 l3 h4 l4)
  have HD := Lib.hid hdo
  have HB := Lib.hid hB
  have HO := Lib.hid ho
  have HHD := Lib.hid hd
  clear hn h3 l3 h4 l4 hx hdo hB ho hd
  go_enter Try.func125, Try.ntmps125
  go_wp2_with (first
    | (go_at_call 58; refine HM.out.mono ?_; rintro e w1 ⟨b, p, k, L, rfl, hm⟩; have hd1 : w1.cell? ⟨bd, 0, none⟩ = some (.func (.func K) #[] caps) := (hm.below.cell (p := ⟨bd, 0, none⟩) hbd).trans HHD.out; have HMM := Lib.hid hm; clear hm)
    | (go_at_call 101; refine (told_any0 b p' k' .nil L' _ _ _ _ HPl.out HBl.out HL.out HS.out).mono ?_; rw [HY.out]; rintro e w3 ⟨A5, c5, A6, c6, rfl, htl, hb3⟩; have HTL := Lib.hid htl; have hL0 : ∀ i, i < w.heap.size → L i = none := (fun i hi => HMM.out.others i (fun hc => by have := HMM.out.fresh i hc; omega)); have hB3 : Below w.heap.size w w3 := (HMM.out.below.trans (HST.out.below HMM.out.below.size hL0)).trans (hb3.mono (Nat.le_trans HMM.out.below.size HST.out.size)); have ho3 := (hB3.block bo hbo).trans HO.out; obtain ⟨o0, f0⟩ := out_cell ho3 0; obtain ⟨o1, f1⟩ := out_cell ho3 1; obtain ⟨o2, f2⟩ := out_cell ho3 2; obtain ⟨o3, f3⟩ := out_cell ho3 3; obtain ⟨o4, f4⟩ := out_cell ho3 4; simp only [List.getElem?_toArray, List.getElem?_cons_succ, List.getElem?_cons_zero] at o0 o1 o2 o3 o4; have HB3 := Lib.hid hB3; have HO3 := Lib.hid ho3; clear htl hb3 hB3 ho3 hL0)
    | (refine (HD.out w1 L b p k (HB.out.trans (HMM.out.below.mono HB.out.size)) HMM.out.holds HMM.out.sits HMM.out.tells HMM.out.neat HMM.out.apart (fun c hc => Nat.le_trans HB.out.size (HMM.out.fresh c hc))).mono ?_; rintro e w2 ⟨rfl, y, p', k', L', hQ, hL, hS, hY, hP, hBl, hst⟩; have HQ := Lib.hid hQ; have HL := Lib.hid hL; have HS := Lib.hid hS; have HY := Lib.hid hY; have HPl := Lib.hid hP; have HBl := Lib.hid hBl; have HST := Lib.hid hst; clear hQ hL hS hY hP hBl hst))
  go_end0
  exact ⟨rfl, y, HQ.out, stored_mk hbo HB3.out _ (Nat.le_trans HMM.out.below.size HST.out.size) HTL.out HO3.out⟩
set_option maxRecDepth 100000 in
set_option maxHeartbeats 1600000 in
theorem behind_any (K : Nat) (caps : Array Value) (w : World) (x : S25) (Q : S25 → Prop) (hx : WF0 x) (A3 A4 : Option Addr) (c3 c4 : Nat)
    (hent : ∀ (v : Value) W, (callFunc K (#[v] ++ caps)).run Try.prog W = .ok (.enter K (#[v] ++ caps)) W) (hdo : DoSpec K caps w x Q)
    (h3 : k34.C w A3 x.f3.length x.f3) (l3 : x.f3.length ≤ c3) (h4 : k25.C w A4 x.f4.length x.f4) (l4 : x.f4.length ≤ c4) :
    Calls Try.prog 73 #[.agg #[.int .i64 x.f0, .string x.f1, .string x.f2, .slice A3 x.f3.length c3, .slice A4 x.f4.length c4], .func (.func K) #[] caps] w fun e w' => ∃ y, Q y ∧ ToldPost y w e w' := by
  obtain ⟨rv, hrv⟩ : ∃ rv, rv = w.heap.size + 1 + 1 := ⟨_, rfl⟩
  obtain ⟨o, ho⟩ : ∃ o, o = w.heap.size + 1 + 1 + 1 := ⟨_, rfl⟩
  have hent2 : ∀ W, (callFunc 125 #[.pointer (some ⟨w.heap.size, 0, none⟩), .pointer (some ⟨w.heap.size + 1, 0, none⟩), .pointer (some ⟨o, 0, none⟩)]).run Try.prog W = .ok (.enter 125 #[.pointer (some ⟨w.heap.size, 0, none⟩), .pointer (some ⟨w.heap.size + 1, 0, none⟩), .pointer (some ⟨o, 0, none⟩)]) W :=
    fun W => enters Try.func125 (by rfl) (by rfl) _ _
  obtain ⟨W1, hW1⟩ : ∃ W1, W1 = (((w.alloc (.cells #[.int .i64 x.f0, .string x.f1, .string x.f2, .slice A3 x.f3.length c3, .slice A4 x.f4.length c4] 25 (0, 0))).alloc (.cells #[.func (.func K) #[] caps] 68 (0, 0))).alloc (.cells #[.int .i64 0, .string ⟨#[]⟩, .string ⟨#[]⟩, .slice none 0 0, .slice none 0 0] 25 (0, 0))).alloc (.cells #[.int .i64 0, .string ⟨#[]⟩, .string ⟨#[]⟩, .slice none 0 0, .slice none 0 0] 25 (0, 0)) := ⟨_, rfl⟩
  have hsz : W1.heap.size = w.heap.size + 1 + 1 + 1 + 1 := by rw [hW1]; simp only [World.size_alloc]
  have b0 : W1.heap[w.heap.size]? = some (.cells #[.int .i64 x.f0, .string x.f1, .string x.f2, .slice A3 x.f3.length c3, .slice A4 x.f4.length c4] 25 (0, 0)) := by
    rw [hW1, Below.heap_alloc _ _ _ (by simp only [World.size_alloc]; omega), Below.heap_alloc _ _ _ (by simp only [World.size_alloc]; omega), Below.heap_alloc _ _ _ (by simp only [World.size_alloc]; omega)]
    exact heap_alloc_new _ _
  have b1 : W1.heap[w.heap.size + 1]? = some (.cells #[.func (.func K) #[] caps] 68 (0, 0)) := by
    rw [hW1, Below.heap_alloc _ _ _ (by simp only [World.size_alloc]; omega), Below.heap_alloc _ _ _ (by simp only [World.size_alloc]; omega), ← World.size_alloc w]
    exact heap_alloc_new _ _
  have b2 : W1.heap[rv]? = some (.cells #[.int .i64 0, .string ⟨#[]⟩, .string ⟨#[]⟩, .slice none 0 0, .slice none 0 0] 25 (0, 0)) := by
    rw [hrv, hW1, Below.heap_alloc _ _ _ (by simp only [World.size_alloc]; omega), ← World.size_alloc w, ← World.size_alloc (w.alloc _)]
    exact heap_alloc_new _ _
  have b3 : W1.heap[o]? = some (.cells #[.int .i64 0, .string ⟨#[]⟩, .string ⟨#[]⟩, .slice none 0 0, .slice none 0 0] 25 (0, 0)) := by
    rw [ho, hW1, ← World.size_alloc w, ← World.size_alloc (w.alloc _), ← World.size_alloc ((w.alloc _).alloc _)]
    exact heap_alloc_new _ _
  have hB1 : Below w.heap.size w W1 := by
    rw [hW1]
    exact below_alloc (below_alloc (below_alloc (below_alloc (Below.refl _ _) _) _) _) _
  have HE := Lib.hid hent2
  have HDo := Lib.hid (behind_do K caps w (W1.alloc (.cells #[.bool false] 4)) x Q hx w.heap.size (w.heap.size + 1) o A3 A4 c3 c4 (.bool false) hent hdo (below_alloc hB1 _)
    ((Below.heap_alloc _ _ _ (by omega)).trans b0) (Kd.C_alloc (Kd.C_below h3 hB1) _) l3 (Kd.C_alloc (Kd.C_below h4 hB1) _) l4
    (by rw [World.cell?_alloc_lt _ _ _ (by show w.heap.size + 1 < _; omega)]; exact (out_cell b1 0).1) ((Below.heap_alloc _ _ _ (by omega)).trans b3))
  have HW1 := Lib.hid hW1
  have HS := Lib.hid (And.intro hsz (And.intro hrv (And.intro ho (And.intro b2 (And.intro b3 hB1)))))
  clear hent hent2 hdo h3 h4 hx hW1 b0 b1 b2 b3 hB1
  go_enter Try.func73, Try.ntmps73
  rw [hrv] at HS
  rw [ho] at HS HE HDo
  clear hrv ho
  have hbb : ∀ W y, Stored y (W1.alloc (.cells #[.bool false] 4)) (w.heap.size + 1 + 1 + 1) W → W.heap[W1.heap.size]? = some (.cells #[.bool false] 4 (0, 0)) := fun W y h => by
    obtain ⟨_, _, _, _, _, _, hg⟩ := h
    rw [hg.block W1.heap.size (by simp) (fun e => by have := Option.some.inj e; have := HS.out.1; omega)]
    exact heap_alloc_new _ _
  have HBB := Lib.hid hbb
  clear hbb
  go_wp2_with (go_at_call 99; rw [← HW1.out]; refine (guarded_any 125 _ W1 (fun W => ∃ y, Q y ∧ Stored y (W1.alloc (.cells #[.bool false] 4)) (w.heap.size + 1 + 1 + 1) W) HE.out (HDo.out.mono fun e W h => ⟨h.1, (by obtain ⟨_, y, _, hst⟩ := h; exact HBB.out W y hst), h.2⟩)).mono ?_; rintro e w' ⟨rfl, W, ⟨y, hQ, A5, c5, A6, c6, ho5, htl, hg⟩, hbl, hw'⟩; have HQ := Lib.hid hQ; clear hQ; have ho6 := (congrArg (fun V : World => V.heap[w.heap.size + 1 + 1 + 1]?) hw').trans ((Below.heap_setCell W ⟨W1.heap.size, 0, none⟩ (.bool false) (w.heap.size + 1 + 1 + 1) (by have := HS.out.1; show w.heap.size + 1 + 1 + 1 ≠ W1.heap.size; omega)).trans ho5); have hr6 := (congrArg (fun V : World => V.heap[w.heap.size + 1 + 1]?) hw').trans ((Below.heap_setCell W ⟨W1.heap.size, 0, none⟩ (.bool false) (w.heap.size + 1 + 1) (by have := HS.out.1; show w.heap.size + 1 + 1 ≠ W1.heap.size; omega)).trans ((hg.block (w.heap.size + 1 + 1) (by rw [World.size_alloc]; have := HS.out.1; omega) (fun e => by have := Option.some.inj e; omega)).trans ((Below.heap_alloc W1 _ (w.heap.size + 1 + 1) (by have := HS.out.1; omega)).trans HS.out.2.2.2.1))); have hsz6 : w'.heap.size = W.heap.size := (by rw [hw', World.size_setCell]); have hB6 : Below w.heap.size w w' := (by rw [hw']; exact (((HS.out.2.2.2.2.2.alloc HS.out.2.2.2.2.2.size _).grown hg (by rw [World.size_alloc]; have := HS.out.1; omega) (fun k hk => by have := Option.some.inj hk; omega)).setCell (p := ⟨W1.heap.size, 0, none⟩) HS.out.2.2.2.2.2.size _)); have ht6 : TellsIn (w.heap.size + 5) w'.heap.size w' y (treeCells y A5 c5 A6 c6) := (by rw [World.size_alloc, HS.out.1] at htl; rw [hsz6]; refine htl.move fun k h1 h2 => ?_; rw [hw']; exact Below.heap_setCell W ⟨W1.heap.size, 0, none⟩ (.bool false) k (by have := HS.out.1; show k ≠ W1.heap.size; omega)); obtain ⟨o0, -⟩ := out_cell ho6 0; obtain ⟨o1, -⟩ := out_cell ho6 1; obtain ⟨o2, -⟩ := out_cell ho6 2; obtain ⟨o3, -⟩ := out_cell ho6 3; obtain ⟨o4, -⟩ := out_cell ho6 4; obtain ⟨r0, f0⟩ := out_cell hr6 0; obtain ⟨r1, f1⟩ := out_cell hr6 1; obtain ⟨r2, f2⟩ := out_cell hr6 2; obtain ⟨r3, f3⟩ := out_cell hr6 3; obtain ⟨r4, f4⟩ := out_cell hr6 4; simp only [List.getElem?_toArray, List.getElem?_cons_succ, List.getElem?_cons_zero] at o0 o1 o2 o3 o4 r0 r1 r2 r3 r4; have HR6 := Lib.hid hr6; have HB6 := Lib.hid hB6; have HT6 := Lib.hid ht6; clear hr6 hB6 ht6 ho6 htl hg hbl hw' ho5)
  obtain ⟨e4, hg, hsz⟩ := put5 (.int .i64 y.f0) (.string y.f1) (.string y.f2) (.slice A5 y.f3.length c5) (.slice A6 y.f4.length c6) HR6.out
  refine bodyPost_ret (results_cell_row rfl _ _ (w.heap.size + 1 + 1) 25 #[.int .i64 y.f0, .string y.f1, .string y.f2, .slice A5 y.f3.length c5, .slice A6 y.f4.length c6] (0, 0) _ rfl e4 Try.underlying25 rfl (by kernel_rfl)) rfl ?_
  refine ⟨y, HQ.out, A5, c5, A6, c6, rfl, ?_, HB6.out.grown hg HB6.out.size (fun k hk => by have := Option.some.inj hk; omega)⟩
  refine fun X hX => HT6.out X fun k h1 h2 => ?_
  rw [hX k (by omega) (by omega)]
  exact hg.block k h2 (fun e => by have := Option.some.inj e; omega)
end Go.Proofs.Ytlallihdiffheaa.Hand
namespace Go.Proofs.Ytlallihdiffheaa.Hand
open Go.RowKit Go.Proofs.YtlallihdiffheaaW.PrintWords Go.Proofs.YtlallihdiffheaaW.PrintLast Go.Proofs.Ytlallihdiffheaa.GT
set_option linter.unusedVariables false

theorem own_set {w : World} {base : Nat} {e : TypeId} {size g n cap i : Nat} {vs : List Value} (h : w.ownsRow base e size (.slice (some ⟨g, 0, none⟩) n cap) n vs) (hn : 0 < n) (u : Value) :
    (w.setCell ⟨g, i, none⟩ u).ownsRow base e size (.slice (some ⟨g, 0, none⟩) n cap) n (vs.set i u) := by
  obtain ⟨h1, h2⟩ := h
  rcases h2 with ⟨hn, _⟩ | ⟨g', cap', cur, he, hg, hh, hc, hm', hs, ht⟩
  · cases hn
  · injection he with ha hb hc'
    injection ha with ha
    injection ha with ha
    subst ha hc'
    refine ⟨by rw [List.length_set]; exact h1, .inr ⟨g, cap, cur.setIfInBounds i u, rfl, hg, Lib.heap_setCell_same hh u, hc, hm', by rw [Array.size_setIfInBounds]; exact hs, ?_⟩⟩
    rw [Array.toList_setIfInBounds, ← ht, List.take_set]
theorem KidsAt.last {base : Nat} {w : World} {v : Value} {xs : List S25} {z : S25} (h : KidsAt base w v (xs ++ [z])) : ∃ g cap, v = .slice (some ⟨g, 0, none⟩) (xs.length + 1) cap ∧ base ≤ g ∧ g < w.heap.size ∧
    w.cell? ⟨g, xs.length * 5, none⟩ = some (.int .i64 z.f0) ∧ w.cell? ⟨g, xs.length * 5 + 2, none⟩ = some (.string z.f2) ∧ (∀ i, w.frozen? ⟨g, i, none⟩ = false) ∧ xs.length + 1 ≤ cap ∧
    ∀ s, z.f3 = [] → z.f4 = [] → KidsAt base (w.setCell ⟨g, xs.length * 5 + 2, none⟩ (.string s)) v (xs ++ [⟨z.f0, z.f1, s, [], []⟩]) := by
  obtain ⟨css, h1, h2, h3⟩ := h
  rw [List.length_append, List.length_singleton] at h2
  rcases h1.2 with ⟨_, e⟩ | ⟨g, cap, cur, rfl, hg, hgg, hnc, hcm, hcs, htk⟩
  · rw [List.length_append, List.length_singleton] at e
    omega
  · obtain ⟨cs, hc⟩ : ∃ cs, css[xs.length]? = some cs := ⟨_, List.getElem?_eq_getElem (by omega)⟩
    have hz : (xs ++ [z])[xs.length]? = some z := by simp
    obtain ⟨h4, lo, hi, h5, h6, h7, h8⟩ := h3 _ z cs hz hc
    obtain ⟨A3, c3, A4, c4, rfl, l3, g3, l4, g4⟩ := k25_open (h8 w fun _ _ _ => rfl)
    have hall : ∀ c ∈ css, c.length = 5 := fun c hc => by
      obtain ⟨m, hm⟩ := List.mem_iff_getElem?.1 hc
      have hml := (List.getElem?_eq_some_iff.1 hm).1
      exact (h3 m _ c (List.getElem?_eq_getElem (by rw [List.length_append, List.length_singleton]; omega)) hm).1
    have hcell : ∀ j u, [Value.int .i64 z.f0, .string z.f1, .string z.f2, .slice A3 z.f3.length c3, .slice A4 z.f4.length c4][j]? = some u → w.cell? ⟨g, xs.length * 5 + j, none⟩ = some u := fun j u hj => by
      have h9 := h1.cells (g := g) rfl (xs.length * 5 + j) u (flatten_get5 css _ _ hall hc j u hj)
      rwa [add_plain] at h9
    have hglt : g < w.heap.size := (Array.getElem?_eq_some_iff.1 hgg).1
    refine ⟨g, cap, by rw [List.length_append, List.length_singleton], hg, hglt, hcell 0 _ rfl, hcell 2 _ rfl, fun i => by simp [World.frozen?, hgg], by rw [List.length_append, List.length_singleton] at hnc; exact hnc, fun s e3 e4 => ?_⟩
    have hsplit : css = css.take xs.length ++ [[Value.int .i64 z.f0, .string z.f1, .string z.f2, .slice A3 z.f3.length c3, .slice A4 z.f4.length c4]] := by
      conv => lhs; rw [← List.take_append_drop xs.length css]
      rw [List.drop_eq_getElem_cons (by omega), List.drop_of_length_le (by omega)]
      congr 2
      exact Option.some.inj ((List.getElem?_eq_getElem (by omega)).symm.trans hc)
    have hfl : (css.take xs.length).flatten.length = xs.length * 5 := by
      have : ∀ (l : List (List Value)), (∀ c ∈ l, c.length = 5) → l.flatten.length = l.length * 5 := by
        intro l
        induction l with
        | nil => intro _; rfl
        | cons c t ih =>
          intro hl
          rw [List.flatten_cons, List.length_append, hl c List.mem_cons_self, ih (fun d hd => hl d (List.mem_cons_of_mem _ hd)), List.length_cons]
          omega
      rw [this _ (fun c hc => hall c (List.mem_of_mem_take hc)), List.length_take]
      congr 1
      omega
    have hset := own_set (i := xs.length * 5 + 2) h1 (by rw [List.length_append, List.length_singleton]; omega) (.string s)
    have hother : ∀ (y : S25) (ds : List Value), KidAt base w (.slice (some ⟨g, 0, none⟩) (xs ++ [z]).length cap) y ds → KidAt base (w.setCell ⟨g, xs.length * 5 + 2, none⟩ (.string s)) (.slice (some ⟨g, 0, none⟩) (xs ++ [z]).length cap) y ds := by
      rintro y ds ⟨a1, l, hh, a2, a3, a4, a5⟩
      exact ⟨a1, l, hh, a2, by simpa using a3, a4, a5.move fun k b1 b2 => Below.heap_setCell _ _ _ _ (fun e => a4 g rfl ⟨by rw [show k = g from e] at b1; exact b1, by rw [show k = g from e] at b2; exact b2⟩)⟩
    refine ⟨css.take xs.length ++ [[Value.int .i64 z.f0, .string z.f1, .string s, .slice A3 0 c3, .slice A4 0 c4]], ?_, ?_, fun i y ds hy hd => ?_⟩
    · have e5 : css.flatten.set (xs.length * 5 + 2) (.string s) = (css.take xs.length ++ [[Value.int .i64 z.f0, .string z.f1, .string s, .slice A3 0 c3, .slice A4 0 c4]]).flatten := by
        conv => lhs; rw [hsplit]
        rw [List.flatten_append, List.flatten_append, List.set_append_right _ _ (by rw [hfl]; omega), hfl]
        simp [e3, e4]
      rw [← e5]
      have hl2 : (xs ++ [z]).length = (xs ++ [(⟨z.f0, z.f1, s, [], []⟩ : S25)]).length := by simp
      rw [← hl2]
      exact hset
    · rw [List.length_append, List.length_take, List.length_append, List.length_singleton, List.length_singleton]
      omega
    · have hil := (List.getElem?_eq_some_iff.1 hy).1
      rw [List.length_append, List.length_singleton] at hil
      by_cases hi2 : i < xs.length
      · rw [List.getElem?_append_left hi2] at hy
        rw [List.getElem?_append_left (by rw [List.length_take]; omega), List.getElem?_take, if_pos hi2] at hd
        exact hother y ds (h3 i y ds (by rw [List.getElem?_append_left hi2]; exact hy) hd)
      · obtain rfl : i = xs.length := by omega
        rw [List.getElem?_append_right (Nat.le_refl _)] at hy
        rw [List.getElem?_append_right (by rw [List.length_take]; omega)] at hd
        simp only [Nat.sub_self, List.getElem?_cons_zero, Option.some.injEq] at hy
        rw [List.length_take, show xs.length - min xs.length css.length = 0 by omega] at hd
        simp only [List.getElem?_cons_zero, Option.some.injEq] at hd
        subst hy hd
        refine ⟨rfl, lo, hi, h5, by simpa using h6, h7, fun W hW => ?_⟩
        exact k25_mk W ⟨z.f0, z.f1, s, [], []⟩ (Nat.zero_le _) ⟨rfl, Nat.zero_le _, fun h => absurd h (Nat.lt_irrefl _)⟩ (Nat.zero_le _) ⟨rfl, Nat.zero_le _, fun h => absurd h (Nat.lt_irrefl _)⟩
end Go.Proofs.Ytlallihdiffheaa.Hand
namespace Go.Proofs.Ytlallihdiffheaa.Hand
open Go.RowKit Go.Proofs.YtlallihdiffheaaW.PrintWords Go.Proofs.YtlallihdiffheaaW.PrintLast Go.Proofs.Ytlallihdiffheaa.GT
set_option linter.unusedVariables false
set_option linter.unusedSimpArgs false

/-- What inlineTree leaves: a small tree in new blocks, and fewer nodes to come. -/
def CutPost (x : S25) (lv : Nat) (bl : Nat) (w : World) : Ending → World → Prop := fun e w' => ∃ (y : S25) (n lv' : Nat) (A3 : Option Addr) (c3 : Nat) (A4 : Option Addr) (c4 : Nat), e = .returned (.agg #[.int .i64 y.f0, .string y.f1, .string y.f2, .slice A3 y.f3.length c3, .slice A4 y.f4.length c4]) ∧
  (Sm n y ∧ n + lv' ≤ lv ∧ (x.f0 ≠ 1 → x.f0 ≠ 2 → y.f0 = 0)) ∧ TellsIn w.heap.size w'.heap.size w' y (treeCells y A3 c3 A4 c4) ∧ w.grownBy w' (some bl) ∧ w'.heap[bl]? = some (.cells #[.int .i64 lv'] 3 (0, 0))
def CutP (x : S25) : Prop := ∀ (W0 w : World) (A3 A4 : Option Addr) (c3 c4 : Nat) (deep : Int) (lv bl : Nat), Below W0.heap.size W0 w → k34.C W0 A3 x.f3.length x.f3 → x.f3.length ≤ c3 → k25.C W0 A4 x.f4.length x.f4 → x.f4.length ≤ c4 →
  W0.heap.size ≤ bl → w.heap[bl]? = some (.cells #[.int .i64 lv] 3 (0, 0)) → 1 ≤ lv → lv ≤ 60 → deep ≤ 8 → -1 ≤ deep →
  Calls Try.prog 72 #[.agg #[.int .i64 x.f0, .string x.f1, .string x.f2, .slice A3 x.f3.length c3, .slice A4 x.f4.length c4], .int .i64 deep, .pointer (some ⟨bl, 0, none⟩)] w (CutPost x lv bl w)
theorem alloc3 (w : World) (N Z O : Obj) : (((w.alloc N).alloc Z).alloc O).heap[w.heap.size]? = some N ∧ (((w.alloc N).alloc Z).alloc O).heap[w.heap.size + 1]? = some Z ∧ (((w.alloc N).alloc Z).alloc O).heap[w.heap.size + 1 + 1]? = some O ∧ (((w.alloc N).alloc Z).alloc O).heap.size = w.heap.size + 3 ∧ Below w.heap.size w (((w.alloc N).alloc Z).alloc O) := by
  refine ⟨?_, ?_, ?_, by simp only [World.size_alloc], below_alloc (below_alloc (below_alloc (Below.refl _ _) _) _) _⟩
  · rw [Below.heap_alloc _ _ _ (by simp only [World.size_alloc]; omega), Below.heap_alloc _ _ _ (by simp only [World.size_alloc]; omega)]
    exact heap_alloc_new _ _
  · rw [Below.heap_alloc _ _ _ (by simp only [World.size_alloc]; omega), ← World.size_alloc w]
    exact heap_alloc_new _ _
  · rw [← World.size_alloc w N, ← World.size_alloc (w.alloc N) Z]
    exact heap_alloc_new _ _
theorem grown_below {a b c : World} {row : Option Nat} (h : a.grownBy b row) (k : Below b.heap.size b c) : a.grownBy c row :=
  ⟨k.os.trans h.os, k.tape.trans h.tape, k.output.trans h.output, Nat.le_trans h.size k.size, fun i hi hn => (k.block i (Nat.lt_of_lt_of_le hi h.size)).trans (h.block i hi hn)⟩
theorem grown_new {a b c : World} {row : Option Nat} {g : Nat} (h : a.grownBy b row) (k : b.grownBy c (some g)) (hg : a.heap.size ≤ g) : a.grownBy c row :=
  ⟨k.os.trans h.os, k.tape.trans h.tape, k.output.trans h.output, Nat.le_trans h.size k.size, fun i hi hn => (k.block i (Nat.lt_of_lt_of_le hi h.size) (fun e => by have := Option.some.inj e; omega)).trans (h.block i hi hn)⟩
set_option maxRecDepth 100000 in
set_option maxHeartbeats 3200000 in
theorem cut_text (x : S25) (ht : x.f0 = 1) : CutP x := by
  intro W0 w A3 A4 c3 c4 deep lv bl hB h3 l3 h4 l4 hbl0 hbl hlv1 hlv2 hd1 hd2
  obtain ⟨r, hr, hrs⟩ := As.ascii_small x.f2
  obtain ⟨bc, bf⟩ := out_cell hbl 0
  have hblt : bl < w.heap.size := (Array.getElem?_eq_some_iff.1 hbl).1
  simp only [List.getElem?_toArray, List.getElem?_cons_succ, List.getElem?_cons_zero] at bc
  have hgS : w.grownBy (w.setCell ⟨bl, 0, none⟩ (.int .i64 ((lv : Int) - 1))) (some bl) := Lib.grownBy_setCell w bl 0 _
  have hsS : (w.setCell ⟨bl, 0, none⟩ (.int .i64 ((lv : Int) - 1))).heap.size = w.heap.size := by simp only [World.size_setCell]
  have hbS : (w.setCell ⟨bl, 0, none⟩ (.int .i64 ((lv : Int) - 1))).heap[bl]? = some (.cells #[.int .i64 ((lv : Int) - 1)] 3 (0, 0)) := Lib.heap_setCell_same hbl _
  have hA := alloc3 (w.setCell ⟨bl, 0, none⟩ (.int .i64 ((lv : Int) - 1))) (.cells #[.int .i64 1, .string x.f1, .string x.f2, .slice A3 x.f3.length c3, .slice A4 x.f4.length c4] 25 (0, 0)) (.cells #[.int .i64 0, .string ⟨#[]⟩, .string ⟨#[]⟩, .slice none 0 0, .slice none 0 0] 25 (0, 0)) (.cells #[.int .i64 1, .string x.f1, .string x.f2, .slice none 0 0, .slice none 0 0] 25 (0, 0))
  rw [hsS] at hA
  have hback : ∀ w1, Below ((((w.setCell ⟨bl, 0, none⟩ (.int .i64 ((lv : Int) - 1))).alloc (.cells #[.int .i64 1, .string x.f1, .string x.f2, .slice A3 x.f3.length c3, .slice A4 x.f4.length c4] 25 (0, 0))).alloc (.cells #[.int .i64 0, .string ⟨#[]⟩, .string ⟨#[]⟩, .slice none 0 0, .slice none 0 0] 25 (0, 0))).alloc (.cells #[.int .i64 1, .string x.f1, .string x.f2, .slice none 0 0, .slice none 0 0] 25 (0, 0))).heap.size ((((w.setCell ⟨bl, 0, none⟩ (.int .i64 ((lv : Int) - 1))).alloc (.cells #[.int .i64 1, .string x.f1, .string x.f2, .slice A3 x.f3.length c3, .slice A4 x.f4.length c4] 25 (0, 0))).alloc (.cells #[.int .i64 0, .string ⟨#[]⟩, .string ⟨#[]⟩, .slice none 0 0, .slice none 0 0] 25 (0, 0))).alloc (.cells #[.int .i64 1, .string x.f1, .string x.f2, .slice none 0 0, .slice none 0 0] 25 (0, 0))) w1 →
      w1.heap[w.heap.size + 1]? = some (.cells #[.int .i64 0, .string ⟨#[]⟩, .string ⟨#[]⟩, .slice none 0 0, .slice none 0 0] 25 (0, 0)) ∧ w.grownBy w1 (some bl) ∧ w1.heap[bl]? = some (.cells #[.int .i64 ((lv : Int) - 1)] 3 (0, 0)) ∧ w.heap.size + 3 ≤ w1.heap.size := by
    intro w1 hb1
    obtain ⟨a1, a2, a3, a4, a5⟩ := hA
    refine ⟨(hb1.block _ (by omega)).trans a2, grown_below (grown_below hgS (by rw [hsS]; exact a5)) hb1, (hb1.block _ (by omega)).trans ((a5.block _ (by omega)).trans hbS), by have := hb1.size; omega⟩
  have HBK := Lib.hid hback
  have HR := Lib.hid hr
  have HRS := Lib.hid hrs
  clear hB h3 l3 h4 l4 hbl hr hrs hA hgS hsS hbS hback
  rw [ht]
  go_enter Try.func72, Try.ntmps72
  go_wp2_with (go_at_call 123; refine (laws_inlineASCII.calls 400 _ r _ HR.out).mono ?_; rintro e w1 ⟨rfl, hb1⟩; obtain ⟨hr1, hg1, hbl1, hs1⟩ := HBK.out w1 hb1; obtain ⟨r0, f0⟩ := out_cell hr1 0; obtain ⟨r1, f1⟩ := out_cell hr1 1; obtain ⟨r2, f2⟩ := out_cell hr1 2; obtain ⟨r3, f3⟩ := out_cell hr1 3; obtain ⟨r4, f4⟩ := out_cell hr1 4; simp only [List.getElem?_toArray, List.getElem?_cons_succ, List.getElem?_cons_zero] at r0 r1 r2 r3 r4; have HR1 := Lib.hid hr1; have HG1 := Lib.hid hg1; have HBL1 := Lib.hid hbl1; clear hb1 hr1 hg1 hbl1)
  obtain ⟨e4, hg, hsz⟩ := put5 (.int .i64 1) (.string ⟨#[]⟩) (.string r) (.slice none 0 0) (.slice none 0 0) HR1.out
  refine bodyPost_ret (results_cell_row rfl _ _ (w.heap.size + 1) 25 #[.int .i64 1, .string ⟨#[]⟩, .string r, .slice none 0 0, .slice none 0 0] (0, 0) _ rfl e4 Try.underlying25 rfl (by kernel_rfl)) rfl ?_
  refine ⟨⟨1, ⟨#[]⟩, r, [], []⟩, 1, lv - 1, none, 0, none, 0, rfl, ⟨.text r HRS.out, by omega, fun h _ => absurd ht h⟩, fun W hW => ?_, grown_new HG1.out hg (by omega), ?_⟩
  · exact k25_mk W ⟨1, ⟨#[]⟩, r, [], []⟩ (A3 := none) (c3 := 0) (Nat.le_refl _) ⟨rfl, Nat.zero_le _, fun h => absurd h (Nat.lt_irrefl _)⟩ (A4 := none) (c4 := 0) (Nat.le_refl _) ⟨rfl, Nat.zero_le _, fun h => absurd h (Nat.lt_irrefl _)⟩
  · rw [hg.block bl (by omega) (fun e => by have := Option.some.inj e; omega), HBL1.out, show ((lv - 1 : Nat) : Int) = (lv : Int) - 1 by omega]
set_option maxRecDepth 100000 in
set_option maxHeartbeats 3200000 in
theorem cut_comment (x : S25) (ht : x.f0 = 2) : CutP x := by
  intro W0 w A3 A4 c3 c4 deep lv bl hB h3 l3 h4 l4 hbl0 hbl hlv1 hlv2 hd1 hd2
  obtain ⟨r, hr, hrs⟩ := As.ascii_small x.f2
  obtain ⟨bc, bf⟩ := out_cell hbl 0
  have hblt : bl < w.heap.size := (Array.getElem?_eq_some_iff.1 hbl).1
  simp only [List.getElem?_toArray, List.getElem?_cons_succ, List.getElem?_cons_zero] at bc
  have hgS : w.grownBy (w.setCell ⟨bl, 0, none⟩ (.int .i64 ((lv : Int) - 1))) (some bl) := Lib.grownBy_setCell w bl 0 _
  have hsS : (w.setCell ⟨bl, 0, none⟩ (.int .i64 ((lv : Int) - 1))).heap.size = w.heap.size := by simp only [World.size_setCell]
  have hbS : (w.setCell ⟨bl, 0, none⟩ (.int .i64 ((lv : Int) - 1))).heap[bl]? = some (.cells #[.int .i64 ((lv : Int) - 1)] 3 (0, 0)) := Lib.heap_setCell_same hbl _
  have hA := alloc3 (w.setCell ⟨bl, 0, none⟩ (.int .i64 ((lv : Int) - 1))) (.cells #[.int .i64 2, .string x.f1, .string x.f2, .slice A3 x.f3.length c3, .slice A4 x.f4.length c4] 25 (0, 0)) (.cells #[.int .i64 0, .string ⟨#[]⟩, .string ⟨#[]⟩, .slice none 0 0, .slice none 0 0] 25 (0, 0)) (.cells #[.int .i64 2, .string x.f1, .string x.f2, .slice none 0 0, .slice none 0 0] 25 (0, 0))
  rw [hsS] at hA
  have hback : ∀ w1, Below ((((w.setCell ⟨bl, 0, none⟩ (.int .i64 ((lv : Int) - 1))).alloc (.cells #[.int .i64 2, .string x.f1, .string x.f2, .slice A3 x.f3.length c3, .slice A4 x.f4.length c4] 25 (0, 0))).alloc (.cells #[.int .i64 0, .string ⟨#[]⟩, .string ⟨#[]⟩, .slice none 0 0, .slice none 0 0] 25 (0, 0))).alloc (.cells #[.int .i64 2, .string x.f1, .string x.f2, .slice none 0 0, .slice none 0 0] 25 (0, 0))).heap.size ((((w.setCell ⟨bl, 0, none⟩ (.int .i64 ((lv : Int) - 1))).alloc (.cells #[.int .i64 2, .string x.f1, .string x.f2, .slice A3 x.f3.length c3, .slice A4 x.f4.length c4] 25 (0, 0))).alloc (.cells #[.int .i64 0, .string ⟨#[]⟩, .string ⟨#[]⟩, .slice none 0 0, .slice none 0 0] 25 (0, 0))).alloc (.cells #[.int .i64 2, .string x.f1, .string x.f2, .slice none 0 0, .slice none 0 0] 25 (0, 0))) w1 →
      w1.heap[w.heap.size + 1]? = some (.cells #[.int .i64 0, .string ⟨#[]⟩, .string ⟨#[]⟩, .slice none 0 0, .slice none 0 0] 25 (0, 0)) ∧ w.grownBy w1 (some bl) ∧ w1.heap[bl]? = some (.cells #[.int .i64 ((lv : Int) - 1)] 3 (0, 0)) ∧ w.heap.size + 3 ≤ w1.heap.size := by
    intro w1 hb1
    obtain ⟨a1, a2, a3, a4, a5⟩ := hA
    refine ⟨(hb1.block _ (by omega)).trans a2, grown_below (grown_below hgS (by rw [hsS]; exact a5)) hb1, (hb1.block _ (by omega)).trans ((a5.block _ (by omega)).trans hbS), by have := hb1.size; omega⟩
  have HBK := Lib.hid hback
  have HR := Lib.hid hr
  have HRS := Lib.hid hrs
  clear hB h3 l3 h4 l4 hbl hr hrs hA hgS hsS hbS hback
  rw [ht]
  go_enter Try.func72, Try.ntmps72
  go_wp2_with (go_at_call 123; refine (laws_inlineASCII.calls 400 _ r _ HR.out).mono ?_; rintro e w1 ⟨rfl, hb1⟩; obtain ⟨hr1, hg1, hbl1, hs1⟩ := HBK.out w1 hb1; obtain ⟨r0, f0⟩ := out_cell hr1 0; obtain ⟨r1, f1⟩ := out_cell hr1 1; obtain ⟨r2, f2⟩ := out_cell hr1 2; obtain ⟨r3, f3⟩ := out_cell hr1 3; obtain ⟨r4, f4⟩ := out_cell hr1 4; simp only [List.getElem?_toArray, List.getElem?_cons_succ, List.getElem?_cons_zero] at r0 r1 r2 r3 r4; have HR1 := Lib.hid hr1; have HG1 := Lib.hid hg1; have HBL1 := Lib.hid hbl1; clear hb1 hr1 hg1 hbl1)
  obtain ⟨e4, hg, hsz⟩ := put5 (.int .i64 2) (.string ⟨#[]⟩) (.string r) (.slice none 0 0) (.slice none 0 0) HR1.out
  refine bodyPost_ret (results_cell_row rfl _ _ (w.heap.size + 1) 25 #[.int .i64 2, .string ⟨#[]⟩, .string r, .slice none 0 0, .slice none 0 0] (0, 0) _ rfl e4 Try.underlying25 rfl (by kernel_rfl)) rfl ?_
  refine ⟨⟨2, ⟨#[]⟩, r, [], []⟩, 1, lv - 1, none, 0, none, 0, rfl, ⟨.comment r HRS.out, by omega, fun _ h => absurd ht h⟩, fun W hW => ?_, grown_new HG1.out hg (by omega), ?_⟩
  · exact k25_mk W ⟨2, ⟨#[]⟩, r, [], []⟩ (A3 := none) (c3 := 0) (Nat.le_refl _) ⟨rfl, Nat.zero_le _, fun h => absurd h (Nat.lt_irrefl _)⟩ (A4 := none) (c4 := 0) (Nat.le_refl _) ⟨rfl, Nat.zero_le _, fun h => absurd h (Nat.lt_irrefl _)⟩
  · rw [hg.block bl (by omega) (fun e => by have := Option.some.inj e; omega), HBL1.out, show ((lv - 1 : Nat) : Int) = (lv : Int) - 1 by omega]
end Go.Proofs.Ytlallihdiffheaa.Hand
