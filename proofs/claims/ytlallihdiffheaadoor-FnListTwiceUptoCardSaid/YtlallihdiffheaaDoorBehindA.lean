/- impl.behind by hand, at trees with attributes: a tree behind a function that does not panic. -/
import Derived.Test.YtlallihdiffheaaDoorToldA
import Derived.Test.YtlallihdiffheaaDoorMadeA
import Derived.Test.YtlallihdiffheaaDoorGuard
import Derived.Lib.BufferWrite
import Derived.Deep.RegionLaw
namespace Go.Proofs.YtlallihdiffheaaDoor.Hand
open Go.RowKit Go.Proofs.YtlallihdiffheaaDoorW.PrintWords Go.Proofs.YtlallihdiffheaaDoorW.PrintLast Go.Proofs.YtlallihdiffheaaDoor.GT
set_option linter.unusedVariables false
set_option linter.unusedSimpArgs false

/-- What a function does to a tree's nodes, in whatever world behind W0. -/
def DoSpecA (K : Nat) (caps : Array Value) (W0 : World) (x : S25) (Q : S25 → Prop) : Prop :=
  ∀ (w : World) (L : NMap) (b : Nat) (p : Pay) (k : F Pay), Below W0.heap.size W0 w → Holds w L → Sits L none none none (.node b p k .nil) → nodeOf p (erase k) = x → Neat (.node b p k .nil) → (b :: k.blocks).Nodup → (∀ c ∈ b :: k.blocks, W0.heap.size ≤ c) →
    Calls Tryd.prog K (#[.pointer (some ⟨b, 0, none⟩)] ++ caps) w fun e w' => e = .returned (.tuple #[]) ∧ ∃ (y : S25) (p' : Pay) (k' : F Pay) (L' : NMap), Q y ∧ Holds w' L' ∧ Sits L' none none none (.node b p' k' .nil) ∧ nodeOf p' (erase k') = y ∧ (Neat (.node b p' k' .nil) ∧ FitF (.node b p' k' .nil)) ∧ (F.node b p' k' .nil).blocks.length ≤ 1000000 ∧ Stays L w w'
/-- A tree lies in the variable of a block, and its parts in new blocks; no other block has turned. -/
def StoredA (y : S25) (w : World) (bo : Nat) (W : World) : Prop := ∃ A3 c3 A4 c4, W.heap[bo]? = some (.cells #[.int .i64 y.f0, .string y.f1, .string y.f2, .slice A3 y.f3.length c3, .slice A4 y.f4.length c4] 25 (0, 0)) ∧ TellsIn w.heap.size W.heap.size W y (treeCells y A3 c3 A4 c4) ∧ w.grownBy W (some bo)
theorem put5A {w3 : World} {bo : Nat} {z0 z1 z2 z3 z4 : Value} (v0 v1 v2 v3 v4 : Value) (ho : w3.heap[bo]? = some (.cells #[z0, z1, z2, z3, z4] 25 (0, 0))) :
    (((((w3.setCell ⟨bo, 0, none⟩ v0).setCell ⟨bo, 1, none⟩ v1).setCell ⟨bo, 2, none⟩ v2).setCell ⟨bo, 3, none⟩ v3).setCell ⟨bo, 4, none⟩ v4).heap[bo]? = some (.cells #[v0, v1, v2, v3, v4] 25 (0, 0)) ∧ w3.grownBy (((((w3.setCell ⟨bo, 0, none⟩ v0).setCell ⟨bo, 1, none⟩ v1).setCell ⟨bo, 2, none⟩ v2).setCell ⟨bo, 3, none⟩ v3).setCell ⟨bo, 4, none⟩ v4) (some bo) ∧ (((((w3.setCell ⟨bo, 0, none⟩ v0).setCell ⟨bo, 1, none⟩ v1).setCell ⟨bo, 2, none⟩ v2).setCell ⟨bo, 3, none⟩ v3).setCell ⟨bo, 4, none⟩ v4).heap.size = w3.heap.size := by
  have e0 : (w3.setCell ⟨bo, 0, none⟩ v0).heap[bo]? = some (.cells #[v0, z1, z2, z3, z4] 25 (0, 0)) := Lib.heap_setCell_same ho v0
  have e1 : ((w3.setCell ⟨bo, 0, none⟩ v0).setCell ⟨bo, 1, none⟩ v1).heap[bo]? = some (.cells #[v0, v1, z2, z3, z4] 25 (0, 0)) := Lib.heap_setCell_same e0 v1
  have e2 : (((w3.setCell ⟨bo, 0, none⟩ v0).setCell ⟨bo, 1, none⟩ v1).setCell ⟨bo, 2, none⟩ v2).heap[bo]? = some (.cells #[v0, v1, v2, z3, z4] 25 (0, 0)) := Lib.heap_setCell_same e1 v2
  have e3 : ((((w3.setCell ⟨bo, 0, none⟩ v0).setCell ⟨bo, 1, none⟩ v1).setCell ⟨bo, 2, none⟩ v2).setCell ⟨bo, 3, none⟩ v3).heap[bo]? = some (.cells #[v0, v1, v2, v3, z4] 25 (0, 0)) := Lib.heap_setCell_same e2 v3
  have e4 : (((((w3.setCell ⟨bo, 0, none⟩ v0).setCell ⟨bo, 1, none⟩ v1).setCell ⟨bo, 2, none⟩ v2).setCell ⟨bo, 3, none⟩ v3).setCell ⟨bo, 4, none⟩ v4).heap[bo]? = some (.cells #[v0, v1, v2, v3, v4] 25 (0, 0)) := Lib.heap_setCell_same e3 v4
  exact ⟨e4, ((((Lib.grownBy_setCell w3 bo 0 v0).trans (Lib.grownBy_setCell _ bo 1 v1)).trans (Lib.grownBy_setCell _ bo 2 v2)).trans (Lib.grownBy_setCell _ bo 3 v3)).trans (Lib.grownBy_setCell _ bo 4 v4), by simp only [World.size_setCell]⟩
theorem storedA_mk {y : S25} {w w3 : World} {bo : Nat} {A3 A4 : Option Addr} {c3 c4 : Nat} {z0 z1 z2 z3 z4 : Value} (hbo : bo < w.heap.size) (hB : Below w.heap.size w w3) (lo : Nat) (hlo : w.heap.size ≤ lo) (ht : TellsIn lo w3.heap.size w3 y (treeCells y A3 c3 A4 c4))
    (ho : w3.heap[bo]? = some (.cells #[z0, z1, z2, z3, z4] 25 (0, 0))) :
    StoredA y w bo (((((w3.setCell ⟨bo, 0, none⟩ (.int .i64 y.f0)).setCell ⟨bo, 1, none⟩ (.string y.f1)).setCell ⟨bo, 2, none⟩ (.string y.f2)).setCell ⟨bo, 3, none⟩ (.slice A3 y.f3.length c3)).setCell ⟨bo, 4, none⟩ (.slice A4 y.f4.length c4)) := by
  obtain ⟨e4, hg, hsz⟩ := put5A (.int .i64 y.f0) (.string y.f1) (.string y.f2) (.slice A3 y.f3.length c3) (.slice A4 y.f4.length c4) ho
  generalize (((((w3.setCell ⟨bo, 0, none⟩ (.int .i64 y.f0)).setCell ⟨bo, 1, none⟩ (.string y.f1)).setCell ⟨bo, 2, none⟩ (.string y.f2)).setCell ⟨bo, 3, none⟩ (.slice A3 y.f3.length c3)).setCell ⟨bo, 4, none⟩ (.slice A4 y.f4.length c4)) = W at e4 hg hsz ⊢
  clear ho
  have hother : ∀ k, k < w3.heap.size → k ≠ bo → W.heap[k]? = w3.heap[k]? := fun k hk hne => hg.block k hk (fun e => hne (Option.some.inj e))
  refine ⟨A3, c3, A4, c4, e4, fun X hX => ht X fun k a b => ?_, ?_⟩
  · rw [hX k (by omega) (by omega)]
    exact hother k (by omega) (by omega)
  · exact ⟨hg.os.trans hB.os, hg.tape.trans hB.tape, hg.output.trans hB.output, Nat.le_trans hB.size hg.size, fun k hk hne => (hother k (Nat.lt_of_lt_of_le hk hB.size) (fun e => hne (by rw [e]))).trans (hB.block k hk)⟩
set_option maxRecDepth 100000 in
set_option maxHeartbeats 1600000 in
theorem behindA_do (K : Nat) (caps : Array Value) (W0 w : World) (x : S25) (Q : S25 → Prop) {nx : Nat} (hx : Tn nx x) (bn bd bo : Nat) (A3 A4 : Option Addr) (c3 c4 : Nat) (z : Value)
    (hent : ∀ (v : Value) W, (callFunc K (#[v] ++ caps)).run Tryd.prog W = .ok (.enter K (#[v] ++ caps)) W) (hdo : DoSpecA K caps W0 x Q) (hB : Below W0.heap.size W0 w)
    (hn : w.heap[bn]? = some (.cells #[.int .i64 x.f0, .string x.f1, .string x.f2, .slice A3 x.f3.length c3, .slice A4 x.f4.length c4] 25 (0, 0)))
    (h3 : k29.C w A3 x.f3.length x.f3) (l3 : x.f3.length ≤ c3) (h4 : k25.C w A4 x.f4.length x.f4) (l4 : x.f4.length ≤ c4)
    (hd : w.cell? ⟨bd, 0, none⟩ = some (.func (.func K) #[] caps))
    (ho : w.heap[bo]? = some (.cells #[.int .i64 0, .string ⟨#[]⟩, .string ⟨#[]⟩, .slice none 0 0, .slice none 0 0] 25 (0, 0))) :
    Calls Tryd.prog 65 #[.pointer (some ⟨bn, 0, none⟩), .pointer (some ⟨bd, 0, none⟩), .pointer (some ⟨bo, 0, none⟩)] w fun e W => e = .returned (.tuple #[]) ∧ ∃ y, Q y ∧ StoredA y w bo W := by
  obtain ⟨n0, -⟩ := out_cell hn 0
  obtain ⟨n1, -⟩ := out_cell hn 1
  obtain ⟨n2, -⟩ := out_cell hn 2
  obtain ⟨n3, -⟩ := out_cell hn 3
  obtain ⟨n4, -⟩ := out_cell hn 4
  simp only [List.getElem?_toArray, List.getElem?_cons_succ, List.getElem?_cons_zero] at n0 n1 n2 n3 n4
  have hbd := World.block_lt_of_cell? w _ hd
  have hbo : bo < w.heap.size := (Array.getElem?_eq_some_iff.1 ho).1
  have HM := Lib.hid (made_tree hx w (fun _ => none) A3 A4 c3 c4 (Holds.empty w) h3 l3 h4 l4)
  have HD := Lib.hid hdo
  have HB := Lib.hid hB
  have HO := Lib.hid ho
  have HHD := Lib.hid hd
  clear hn h3 l3 h4 l4 hx hdo hB ho hd
  go_enter Tryd.func65, Tryd.ntmps65
  go_wp2_with (first
    | (go_at_call 31; refine HM.out.mono ?_; rintro e w1 ⟨b, p, k, L, rfl, hm⟩; have hd1 : w1.cell? ⟨bd, 0, none⟩ = some (.func (.func K) #[] caps) := (hm.below.cell (p := ⟨bd, 0, none⟩) hbd).trans HHD.out; have HMM := Lib.hid hm; clear hm)
    | (go_at_call 66; refine (told_anyA b p' k' .nil L' _ _ _ _ HPl.out.1 HPl.out.2 HBl.out HL.out HS.out).mono ?_; rw [HY.out]; rintro e w3 ⟨A5, c5, A6, c6, rfl, htl, hb3⟩; have HTL := Lib.hid htl; have hL0 : ∀ i, i < w.heap.size → L i = none := (fun i hi => HMM.out.others i (fun hc => by have := HMM.out.fresh i hc; omega)); have hB3 : Below w.heap.size w w3 := (HMM.out.below.trans (HST.out.below HMM.out.below.size hL0)).trans (hb3.mono (Nat.le_trans HMM.out.below.size HST.out.size)); have ho3 := (hB3.block bo hbo).trans HO.out; obtain ⟨o0, f0⟩ := out_cell ho3 0; obtain ⟨o1, f1⟩ := out_cell ho3 1; obtain ⟨o2, f2⟩ := out_cell ho3 2; obtain ⟨o3, f3⟩ := out_cell ho3 3; obtain ⟨o4, f4⟩ := out_cell ho3 4; simp only [List.getElem?_toArray, List.getElem?_cons_succ, List.getElem?_cons_zero] at o0 o1 o2 o3 o4; have HB3 := Lib.hid hB3; have HO3 := Lib.hid ho3; clear htl hb3 hB3 ho3 hL0)
    | (refine (HD.out w1 L b p k (HB.out.trans (HMM.out.below.mono HB.out.size)) HMM.out.holds HMM.out.sits HMM.out.tells HMM.out.neat HMM.out.apart (fun c hc => Nat.le_trans HB.out.size (HMM.out.fresh c hc))).mono ?_; rintro e w2 ⟨rfl, y, p', k', L', hQ, hL, hS, hY, hP, hBl, hst⟩; have HQ := Lib.hid hQ; have HL := Lib.hid hL; have HS := Lib.hid hS; have HY := Lib.hid hY; have HPl := Lib.hid hP; have HBl := Lib.hid hBl; have HST := Lib.hid hst; clear hQ hL hS hY hP hBl hst))
  go_end0
  exact ⟨rfl, y, HQ.out, storedA_mk hbo HB3.out _ (Nat.le_trans HMM.out.below.size HST.out.size) HTL.out HO3.out⟩
set_option maxRecDepth 100000 in
set_option maxHeartbeats 1600000 in
theorem behindA_any (K : Nat) (caps : Array Value) (w : World) (x : S25) (Q : S25 → Prop) {nx : Nat} (hx : Tn nx x) (A3 A4 : Option Addr) (c3 c4 : Nat)
    (hent : ∀ (v : Value) W, (callFunc K (#[v] ++ caps)).run Tryd.prog W = .ok (.enter K (#[v] ++ caps)) W) (hdo : DoSpecA K caps w x Q)
    (h3 : k29.C w A3 x.f3.length x.f3) (l3 : x.f3.length ≤ c3) (h4 : k25.C w A4 x.f4.length x.f4) (l4 : x.f4.length ≤ c4) :
    Calls Tryd.prog 40 #[.agg #[.int .i64 x.f0, .string x.f1, .string x.f2, .slice A3 x.f3.length c3, .slice A4 x.f4.length c4], .func (.func K) #[] caps] w fun e w' => ∃ y, Q y ∧ ToldPost y w e w' := by
  obtain ⟨rv, hrv⟩ : ∃ rv, rv = w.heap.size + 1 + 1 := ⟨_, rfl⟩
  obtain ⟨o, ho⟩ : ∃ o, o = w.heap.size + 1 + 1 + 1 := ⟨_, rfl⟩
  have hent2 : ∀ W, (callFunc 65 #[.pointer (some ⟨w.heap.size, 0, none⟩), .pointer (some ⟨w.heap.size + 1, 0, none⟩), .pointer (some ⟨o, 0, none⟩)]).run Tryd.prog W = .ok (.enter 65 #[.pointer (some ⟨w.heap.size, 0, none⟩), .pointer (some ⟨w.heap.size + 1, 0, none⟩), .pointer (some ⟨o, 0, none⟩)]) W :=
    fun W => enters Tryd.func65 (by rfl) (by rfl) _ _
  obtain ⟨W1, hW1⟩ : ∃ W1, W1 = (((w.alloc (.cells #[.int .i64 x.f0, .string x.f1, .string x.f2, .slice A3 x.f3.length c3, .slice A4 x.f4.length c4] 25 (0, 0))).alloc (.cells #[.func (.func K) #[] caps] 64 (0, 0))).alloc (.cells #[.int .i64 0, .string ⟨#[]⟩, .string ⟨#[]⟩, .slice none 0 0, .slice none 0 0] 25 (0, 0))).alloc (.cells #[.int .i64 0, .string ⟨#[]⟩, .string ⟨#[]⟩, .slice none 0 0, .slice none 0 0] 25 (0, 0)) := ⟨_, rfl⟩
  have hsz : W1.heap.size = w.heap.size + 1 + 1 + 1 + 1 := by rw [hW1]; simp only [World.size_alloc]
  have b0 : W1.heap[w.heap.size]? = some (.cells #[.int .i64 x.f0, .string x.f1, .string x.f2, .slice A3 x.f3.length c3, .slice A4 x.f4.length c4] 25 (0, 0)) := by
    rw [hW1, Below.heap_alloc _ _ _ (by simp only [World.size_alloc]; omega), Below.heap_alloc _ _ _ (by simp only [World.size_alloc]; omega), Below.heap_alloc _ _ _ (by simp only [World.size_alloc]; omega)]
    exact heap_alloc_new _ _
  have b1 : W1.heap[w.heap.size + 1]? = some (.cells #[.func (.func K) #[] caps] 64 (0, 0)) := by
    rw [hW1, Below.heap_alloc _ _ _ (by simp only [World.size_alloc]; omega), Below.heap_alloc _ _ _ (by simp only [World.size_alloc]; omega), ← World.size_alloc w]
    exact heap_alloc_new _ _
  have b2 : W1.heap[rv]? = some (.cells #[.int .i64 0, .string ⟨#[]⟩, .string ⟨#[]⟩, .slice none 0 0, .slice none 0 0] 25 (0, 0)) := by
    rw [hrv, hW1, Below.heap_alloc _ _ _ (by simp only [World.size_alloc]; omega), ← World.size_alloc w, ← World.size_alloc (w.alloc _)]
    exact heap_alloc_new _ _
  have b3 : W1.heap[o]? = some (.cells #[.int .i64 0, .string ⟨#[]⟩, .string ⟨#[]⟩, .slice none 0 0, .slice none 0 0] 25 (0, 0)) := by
    rw [ho, hW1, ← World.size_alloc w, ← World.size_alloc (w.alloc _), ← World.size_alloc ((w.alloc _).alloc _)]
    exact heap_alloc_new _ _
  have hB1 : Below w.heap.size w W1 := by
    rw [hW1]
    exact below_alloc (below_alloc (below_alloc (below_alloc (Below.refl _ _) _) _) _) _
  have HE := Lib.hid hent2
  have HDo := Lib.hid (behindA_do K caps w (W1.alloc (.cells #[.bool false] 4)) x Q hx w.heap.size (w.heap.size + 1) o A3 A4 c3 c4 (.bool false) hent hdo (below_alloc hB1 _)
    ((Below.heap_alloc _ _ _ (by omega)).trans b0) (Kd.C_alloc (Kd.C_below h3 hB1) _) l3 (Kd.C_alloc (Kd.C_below h4 hB1) _) l4
    (by rw [World.cell?_alloc_lt _ _ _ (by show w.heap.size + 1 < _; omega)]; exact (out_cell b1 0).1) ((Below.heap_alloc _ _ _ (by omega)).trans b3))
  have HW1 := Lib.hid hW1
  have HS := Lib.hid (And.intro hsz (And.intro hrv (And.intro ho (And.intro b2 (And.intro b3 hB1)))))
  clear hent hent2 hdo h3 h4 hx hW1 b0 b1 b2 b3 hB1
  go_enter Tryd.func40, Tryd.ntmps40
  rw [hrv] at HS
  rw [ho] at HS HE HDo
  clear hrv ho
  have hbb : ∀ W y, StoredA y (W1.alloc (.cells #[.bool false] 4)) (w.heap.size + 1 + 1 + 1) W → W.heap[W1.heap.size]? = some (.cells #[.bool false] 4 (0, 0)) := fun W y h => by
    obtain ⟨_, _, _, _, _, _, hg⟩ := h
    rw [hg.block W1.heap.size (by simp) (fun e => by have := Option.some.inj e; have := HS.out.1; omega)]
    exact heap_alloc_new _ _
  have HBB := Lib.hid hbb
  clear hbb
  go_wp2_with (go_at_call 64; rw [← HW1.out]; refine (guarded_any 65 _ W1 (fun W => ∃ y, Q y ∧ StoredA y (W1.alloc (.cells #[.bool false] 4)) (w.heap.size + 1 + 1 + 1) W) HE.out (HDo.out.mono fun e W h => ⟨h.1, (by obtain ⟨_, y, _, hst⟩ := h; exact HBB.out W y hst), h.2⟩)).mono ?_; rintro e w' ⟨rfl, W, ⟨y, hQ, A5, c5, A6, c6, ho5, htl, hg⟩, hbl, hw'⟩; have HQ := Lib.hid hQ; clear hQ; have ho6 := (congrArg (fun V : World => V.heap[w.heap.size + 1 + 1 + 1]?) hw').trans ((Below.heap_setCell W ⟨W1.heap.size, 0, none⟩ (.bool false) (w.heap.size + 1 + 1 + 1) (by have := HS.out.1; show w.heap.size + 1 + 1 + 1 ≠ W1.heap.size; omega)).trans ho5); have hr6 := (congrArg (fun V : World => V.heap[w.heap.size + 1 + 1]?) hw').trans ((Below.heap_setCell W ⟨W1.heap.size, 0, none⟩ (.bool false) (w.heap.size + 1 + 1) (by have := HS.out.1; show w.heap.size + 1 + 1 ≠ W1.heap.size; omega)).trans ((hg.block (w.heap.size + 1 + 1) (by rw [World.size_alloc]; have := HS.out.1; omega) (fun e => by have := Option.some.inj e; omega)).trans ((Below.heap_alloc W1 _ (w.heap.size + 1 + 1) (by have := HS.out.1; omega)).trans HS.out.2.2.2.1))); have hsz6 : w'.heap.size = W.heap.size := (by rw [hw', World.size_setCell]); have hB6 : Below w.heap.size w w' := (by rw [hw']; exact (((HS.out.2.2.2.2.2.alloc HS.out.2.2.2.2.2.size _).grown hg (by rw [World.size_alloc]; have := HS.out.1; omega) (fun k hk => by have := Option.some.inj hk; omega)).setCell (p := ⟨W1.heap.size, 0, none⟩) HS.out.2.2.2.2.2.size _)); have ht6 : TellsIn (w.heap.size + 5) w'.heap.size w' y (treeCells y A5 c5 A6 c6) := (by rw [World.size_alloc, HS.out.1] at htl; rw [hsz6]; refine htl.move fun k h1 h2 => ?_; rw [hw']; exact Below.heap_setCell W ⟨W1.heap.size, 0, none⟩ (.bool false) k (by have := HS.out.1; show k ≠ W1.heap.size; omega)); obtain ⟨o0, -⟩ := out_cell ho6 0; obtain ⟨o1, -⟩ := out_cell ho6 1; obtain ⟨o2, -⟩ := out_cell ho6 2; obtain ⟨o3, -⟩ := out_cell ho6 3; obtain ⟨o4, -⟩ := out_cell ho6 4; obtain ⟨r0, f0⟩ := out_cell hr6 0; obtain ⟨r1, f1⟩ := out_cell hr6 1; obtain ⟨r2, f2⟩ := out_cell hr6 2; obtain ⟨r3, f3⟩ := out_cell hr6 3; obtain ⟨r4, f4⟩ := out_cell hr6 4; simp only [List.getElem?_toArray, List.getElem?_cons_succ, List.getElem?_cons_zero] at o0 o1 o2 o3 o4 r0 r1 r2 r3 r4; have HR6 := Lib.hid hr6; have HB6 := Lib.hid hB6; have HT6 := Lib.hid ht6; clear hr6 hB6 ht6 ho6 htl hg hbl hw' ho5)
  obtain ⟨e4, hg, hsz⟩ := put5A (.int .i64 y.f0) (.string y.f1) (.string y.f2) (.slice A5 y.f3.length c5) (.slice A6 y.f4.length c6) HR6.out
  refine bodyPost_ret (results_cell_row rfl _ _ (w.heap.size + 1 + 1) 25 #[.int .i64 y.f0, .string y.f1, .string y.f2, .slice A5 y.f3.length c5, .slice A6 y.f4.length c6] (0, 0) _ rfl e4 Tryd.underlying25 rfl (by kernel_rfl)) rfl ?_
  refine ⟨y, HQ.out, A5, c5, A6, c6, rfl, ?_, HB6.out.grown hg HB6.out.size (fun k hk => by have := Option.some.inj hk; omega)⟩
  refine fun X hX => HT6.out X fun k h1 h2 => ?_
  rw [hX k (by omega) (by omega)]
  exact hg.block k h2 (fun e => by have := Option.some.inj e; omega)
end Go.Proofs.YtlallihdiffheaaDoor.Hand
