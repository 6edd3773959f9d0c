/- dom.NodeName and dom.AllNodes by hand. (The same as in the texts on fake spans and on redundant elements, apart from these.) -/
import Derived.Test.YtlallihdiffheaaDoorTold
import Derived.Test.YtlallihdiffheaaDoorGuard
import Derived.Laws.EntriesVeiled
import Derived.Deep.LoopGhost
namespace Go.Proofs.YtlallihdiffheaaDoor.Dom
open Go.RowKit Go.Proofs.YtlallihdiffheaaDoorW.PrintWords Go.Proofs.YtlallihdiffheaaDoorW.PrintLast Go.Proofs.YtlallihdiffheaaDoorW.PrintMore Go.Proofs.YtlallihdiffheaaDoor.GT Go.Proofs.YtlallihdiffheaaDoor.Hand
set_option linter.unusedVariables false
set_option linter.unusedSimpArgs false

def nameOf (p : Pay) : ByteArray := if p.type = 3 then p.data else if p.type = 1 then ⟨#[35, 116, 101, 120, 116]⟩ else if p.type = 4 then ⟨#[35, 99, 111, 109, 109, 101, 110, 116]⟩ else ⟨#[35, 100, 111, 99, 117, 109, 101, 110, 116]⟩
theorem neat_type {n : Nat} {p : Pay} {k r : F Pay} (h : Neat (.node n p k r)) : p.type = 1 ∨ p.type = 4 ∨ p.type = 3 ∨ p.type = 2 := by
  rcases h.1 with ⟨h, _⟩ | ⟨h, _⟩ | h | h
  · exact .inl h
  · exact .inr (.inl h)
  · exact .inr (.inr (.inl h))
  · exact .inr (.inr (.inr h))
set_option maxRecDepth 100000 in
theorem nodeName_any {w : World} {H : NMap} (hw : Holds w H) {b : Nat} {par f l v x : Option Nat} {q : Pay} (hb : H b = some ⟨par, f, l, v, x, q⟩) (ht : q.type = 1 ∨ q.type = 4 ∨ q.type = 3 ∨ q.type = 2) :
    Calls Tryd.prog 58 #[.pointer (some ⟨b, 0, none⟩)] w fun e w' => e = .returned (.string (nameOf q)) ∧ Below w.heap.size w w' := by
  obtain ⟨n0, n1, n2, n3, n4, n5, n6, n7, n9⟩ := hw.opened hb
  clear n0 n1 n2 n3 n4 n6 n9
  have hq : ∃ s, s = nameOf q := ⟨_, rfl⟩
  obtain ⟨s, hs⟩ := hq
  rcases ht with ht | ht | ht | ht
  · have e : nameOf q = ⟨#[35, 116, 101, 120, 116]⟩ := by simp [nameOf, ht]
    rw [e]
    rw [ht] at n5
    clear e ht hb hs
    go_enter Tryd.func58, Tryd.ntmps58
    go_wp2
    go_ret
    exact ⟨rfl, Below.refl _ _⟩
  · have e : nameOf q = ⟨#[35, 99, 111, 109, 109, 101, 110, 116]⟩ := by simp [nameOf, ht]
    rw [e]
    rw [ht] at n5
    clear e ht hb hs
    go_enter Tryd.func58, Tryd.ntmps58
    go_wp2
    go_ret
    exact ⟨rfl, Below.refl _ _⟩
  · have e : nameOf q = q.data := by simp [nameOf, ht]
    rw [e]
    rw [ht] at n5
    clear e ht hb hs
    go_enter Tryd.func58, Tryd.ntmps58
    go_wp2
    go_ret
    exact ⟨rfl, Below.refl _ _⟩
  · have e : nameOf q = ⟨#[35, 100, 111, 99, 117, 109, 101, 110, 116]⟩ := by simp [nameOf, ht]
    rw [e]
    rw [ht] at n5
    clear e ht hb hs
    go_enter Tryd.func58, Tryd.ntmps58
    go_wp2
    go_ret
    exact ⟨rfl, Below.refl _ _⟩
theorem cell_new (w : World) (v : Value) (t : TypeId) (fr : Nat × Nat) : (w.alloc (.cells #[v] t fr)).cell? ⟨w.heap.size, 0, none⟩ = some v := by
  have h : (w.alloc (.cells #[v] t fr)).heap[w.heap.size]? = some (.cells #[v] t fr) := heap_alloc_new _ _
  simp only [World.cell?, h]
  rfl
def AllK (P : F Pay → Prop) : F Pay → Prop
  | .nil => True
  | .node b p k r => P k ∧ AllK P r
theorem allK_app (P : F Pay → Prop) : ∀ (a g : F Pay), AllK P (a.app g) → AllK P g
  | .nil, g, h => h
  | .node b p k r, g, h => allK_app P r g h.2
theorem ptrV_form (o : Option Nat) : ∃ u, ptrV o = .pointer u := by cases o <;> exact ⟨_, rfl⟩
theorem infoNodePtr : (Tryd.prog.info? 49).map (fun i => (i.zero, i.size, i.bytes)) = some (some (.pointer none), 1, 8) := by kernel_rfl
def ptrs (l : List Nat) : List Value := l.map fun b => .pointer (some ⟨b, 0, none⟩)
def finObj (B : Nat) : Obj := .cells #[.func (.func 81) #[] #[.pointer (some ⟨B, 0, none⟩), .pointer (some ⟨B + 1, 0, none⟩)]] 64 (0, 0)
/-- The row of nodes so far. -/
def An (W0 w : World) (l : List Nat) : Prop := ∃ v, w.heap[W0.heap.size]? = some (.cells #[v] 85 (0, 0)) ∧ w.ownsRow (W0.heap.size + 2) 49 1 v l.length (ptrs l) ∧ w.heap[W0.heap.size + 1]? = some (finObj W0.heap.size) ∧ Below W0.heap.size W0 w ∧ W0.heap.size + 2 ≤ w.heap.size
def AllP (W0 : World) (H : NMap) (k : F Pay) : Prop := ∀ (n : Nat) (p : Pay) (par prev next : Option Nat) (w : World) (l : List Nat), Sits H par prev next (.node n p k .nil) → An W0 w l → l.length + k.blocks.length + 1 ≤ 1000000 →
  Calls Tryd.prog 81 #[.pointer (some ⟨n, 0, none⟩), .pointer (some ⟨W0.heap.size, 0, none⟩), .pointer (some ⟨W0.heap.size + 1, 0, none⟩)] w fun e w' => e = .returned (.tuple #[]) ∧ An W0 w' (l ++ n :: k.blocks)
/-- One more node in the row. -/
theorem an_push {W0 w w2 : World} {l : List Nat} {n : Nat} {v v2 : Value} (hbel : Below W0.heap.size W0 w) (hsz : W0.heap.size + 2 ≤ w.heap.size) (hown : w.ownsRow (W0.heap.size + 2) 49 1 v l.length (ptrs l)) (hfi : w.heap[W0.heap.size + 1]? = some (finObj W0.heap.size)) (hv : w.heap[W0.heap.size]? = some (.cells #[v] 85 (0, 0)))
    (h2 : w2.ownsRow (W0.heap.size + 2) 49 1 v2 (l.length + 1) (ptrs l ++ [.pointer (some ⟨n, 0, none⟩)])) (hg : (w.alloc (.cells #[.pointer (some ⟨n, 0, none⟩)] 49 (0, 0))).grownBy w2 v.ownBlock) :
    w2.heap[W0.heap.size]? = some (.cells #[v] 85 (0, 0)) ∧ An W0 (w2.setCell ⟨W0.heap.size, 0, none⟩ v2) (l ++ [n]) := by
  have hne : ∀ z, z < W0.heap.size + 2 → some z ≠ v.ownBlock := fun z hz e => by have := own_base hown z e.symm; omega
  have ha : Below w.heap.size w (w.alloc (.cells #[.pointer (some ⟨n, 0, none⟩)] 49 (0, 0))) := below_alloc (Below.refl _ _) _
  have hsa : (w.alloc (.cells #[.pointer (some ⟨n, 0, none⟩)] 49 (0, 0))).heap.size = w.heap.size + 1 := World.size_alloc _ _
  have e1 : w2.heap[W0.heap.size]? = some (.cells #[v] 85 (0, 0)) := (hg.block _ (by omega) (hne _ (by omega))).trans ((ha.block _ (by omega)).trans hv)
  have e2 : w2.heap[W0.heap.size + 1]? = some (finObj W0.heap.size) := (hg.block _ (by omega) (hne _ (by omega))).trans ((ha.block _ (by omega)).trans hfi)
  have e3 : (w2.setCell ⟨W0.heap.size, 0, none⟩ v2).heap[W0.heap.size]? = some (.cells #[v2] 85 (0, 0)) := Lib.heap_setCell_same e1 v2
  have hg2 := hg.size
  refine ⟨e1, v2, e3, ?_, (Below.heap_setCell _ _ _ _ (by show W0.heap.size + 1 ≠ W0.heap.size; omega)).trans e2, ?_, by rw [World.size_setCell]; omega⟩
  · have h3 := ownsRow_setCell_below h2 (a := ⟨W0.heap.size, 0, none⟩) (by show W0.heap.size < _; omega) v2
    have e4 : ptrs (l ++ [n]) = ptrs l ++ [.pointer (some ⟨n, 0, none⟩)] := by simp [ptrs]
    rw [e4, List.length_append]
    exact h3
  · exact ((below_then hbel (by omega) ha).grown hg (by omega) (fun z hz => by have := own_base hown z hz; omega)).setCell (by show _ ≤ W0.heap.size; omega) _
set_option maxRecDepth 100000 in
set_option maxHeartbeats 1600000 in
theorem all_step (W0 : World) (H : NMap) (hw : Holds W0 H) (k : F Pay) (hall : AllK (AllP W0 H) k) : AllP W0 H k := by
  intro n p par prev next w l hs han hl
  have hent : ∀ (a : Nat) (W : World), (callFunc 81 #[.pointer (some ⟨a, 0, none⟩), .pointer (some ⟨W0.heap.size, 0, none⟩), .pointer (some ⟨W0.heap.size + 1, 0, none⟩)]).run Tryd.prog W = .ok (.enter 81 #[.pointer (some ⟨a, 0, none⟩), .pointer (some ⟨W0.heap.size, 0, none⟩), .pointer (some ⟨W0.heap.size + 1, 0, none⟩)]) W :=
    fun a W => enters Tryd.func81 (by rfl) (by rfl) _ _
  obtain ⟨i0, hi, hzz⟩ := Option.map_eq_some_iff.1 infoNodePtr
  simp only [Prod.mk.injEq] at hzz
  obtain ⟨hz0, hz1, hz2⟩ := hzz
  obtain ⟨u, hu⟩ := ptrV_form (k.headOr none)
  have hnl := hw.lt hs.1
  have hcell : ∀ w1 l1, An W0 w1 l1 → w1.cell? ⟨n, 1, none⟩ = some (.pointer u) := fun w1 l1 h => by
    obtain ⟨_, _, _, _, hb, _⟩ := h
    have h1 := (hw.opened hs.1).2.1
    rw [hu] at h1
    exact (hb.cell (p := ⟨n, 1, none⟩) hnl).trans h1
  obtain ⟨v, hv, hown, hfi, hbel, hsz⟩ := han
  obtain ⟨c0, cf0⟩ := out_cell hv 0
  simp only [List.getElem?_toArray, List.getElem?_cons_succ, List.getElem?_cons_zero] at c0
  obtain ⟨B, hB⟩ : ∃ B, B = W0.heap.size := ⟨_, rfl⟩
  have HCELL := Lib.hid hcell
  have HU := Lib.hid hu
  have HW := Lib.hid hw
  have HS := Lib.hid hs
  have HL := Lib.hid hl
  have HV := Lib.hid hv
  have HOWN := Lib.hid hown
  have HFI := Lib.hid hfi
  have HBEL := Lib.hid hbel
  have HSZ := Lib.hid hsz
  have HA := Lib.hid hall
  have HI := Lib.hid (And.intro hi (And.intro hz0 (And.intro hz1 hz2)))
  clear hcell hu hw hs hl hv hown hfi hbel hsz hall hi hz0 hz1 hz2
  go_enter Tryd.func81, Tryd.ntmps81
  go_wp2_with (at_builtin; refine wpList_append_own_at _ rfl (.tmp 5) (.tmp 7) 85 rfl (W0.heap.size + 2) 49 i0 (.pointer none) 1 8 Tryd.underlying85 HI.out.1 HI.out.2.1 HI.out.2.2.1 HI.out.2.2.2 rfl (by omega) v l.length (ptrs l) rfl (pw_own_below HOWN.out (below_alloc (Below.refl _ _) _)) ⟨w.heap.size, 0, none⟩ 1 1 [.pointer (some ⟨n, 0, none⟩)] rfl rfl ?news (by simp [Value.oneCell']) (by simp only [maxLen]; have := HL.out; omega) (by have := HL.out; omega) (by rw [World.size_alloc]; have := HSZ.out; omega) ?_; (case news => intro j u2 hj; rcases j with _ | j; (simp only [List.getElem?_cons_zero, Option.some.injEq] at hj; subst hj; exact cell_new w _ _ _); (simp at hj)); intro v2 w2 hown2 hgr2 _ _; obtain ⟨A2, c2, rfl⟩ := own_slice hown2; obtain ⟨hv2, hAN⟩ := an_push HBEL.out HSZ.out HOWN.out HFI.out HV.out hown2 hgr2; obtain ⟨d0, df0⟩ := out_cell hv2 0; simp only [List.getElem?_toArray, List.getElem?_cons_succ, List.getElem?_cons_zero] at d0; have n1 := HCELL.out _ _ hAN; have HAN := Lib.hid hAN; clear hown2 hgr2 hv2 hAN)
  have hAN := HAN.out
  generalize (w2.setCell ⟨W0.heap.size, 0, none⟩ (.slice A2 (l.length + 1) c2)) = W2 at *
  go_loopg [4] k.len (fun gk c0 wr => ∃ (k0 rest : F Pay), c0 = ptrV (rest.headOr none) ∧ gk = rest.len ∧ k = k0.app rest ∧ An W0 wr (l ++ n :: k0.blocks))
  case atStart => exact ⟨.nil, k, HU.out.symm, rfl, rfl, hAN⟩
  case round =>
    obtain ⟨k0, rest, rfl, rfl, hk, han⟩ := hrel
    have hfi1 : wr.heap[W0.heap.size + 1]? = some (finObj W0.heap.size) := by obtain ⟨_, _, _, h, _⟩ := han; exact h
    obtain ⟨f0, -⟩ := out_cell hfi1 0
    simp only [List.getElem?_toArray, List.getElem?_cons_succ, List.getElem?_cons_zero] at f0
    rcases headOr_cases rest with hg | ⟨c, q, ck, r, hg⟩
    · subst hg
      simp only [show ptrV ((F.nil : F Pay).headOr none) = .pointer none from rfl]
      have HAN2 := Lib.hid han
      have HK := Lib.hid hk
      clear hk han hfi1 hAN
      go_wp2
      go_end0
      refine ⟨rfl, ?_⟩
      have h := HAN2.out
      have e := HK.out
      rw [F.app_nil] at e
      rw [e]
      exact h
    · subst hg
      simp only [show ptrV ((F.node c q ck r).headOr none) = .pointer (some ⟨c, 0, none⟩) from rfl]
      have hss := HS.out.2.1
      rw [hk] at hss
      obtain ⟨hsd, hc, hck, hsr⟩ := (sits_app H k0 _ _ _ _).1 hss
      have hac := allK_app (AllP W0 H) k0 _ (hk ▸ HA.out)
      obtain ⟨u4, hu4⟩ := ptrV_form (r.headOr none)
      have hcl := HW.out.lt hc
      have hnext := (HW.out.opened hc).2.2.2.2.1
      rw [hu4] at hnext
      have hrec := hac.1 c q (some n) (k0.lastOr none) (r.headOr none) wr (l ++ n :: k0.blocks) ⟨hc, hck, trivial⟩ han (by
        have h := HL.out
        rw [hk, F.blocks_app] at h
        simp only [F.blocks, List.length_append, List.length_cons] at h ⊢
        omega)
      have HREC := Lib.hid hrec
      have HU4 := Lib.hid hu4
      have HK := Lib.hid hk
      have HNX := Lib.hid hnext
      clear hss hsd hc hck hsr hac hu4 hrec hk hnext han hfi1 hAN
      go_wp2_with (refine HREC.out.mono ?_; rintro e w3 ⟨rfl, hk3⟩; have c4 := (hk3.elim (fun v h => h.2.2.2.1.cell (p := ⟨c, 4, none⟩) hcl)).trans HNX.out; have HK3 := Lib.hid hk3; clear hk3)
      go_roundg r.len
      case measure => simp [F.len]
      case rel =>
        refine ⟨k0.app (.node c q ck .nil), r, HU4.out.symm, rfl, ?_, ?_⟩
        · rw [F.app_assoc]
          exact HK.out
        · have h := HK3.out
          rw [F.blocks_app]
          simp only [F.blocks, List.append_nil]
          rw [List.append_assoc, List.cons_append] at h
          exact h
theorem all_any (W0 : World) (H : NMap) (hw : Holds W0 H) : ∀ k : F Pay, AllP W0 H k ∧ AllK (AllP W0 H) k
  | .nil => ⟨all_step W0 H hw .nil trivial, trivial⟩
  | .node b p k r => by
    have h : AllK (AllP W0 H) (.node b p k r) := ⟨(all_any W0 H hw k).1, (all_any W0 H hw r).2⟩
    exact ⟨all_step W0 H hw _ h, h⟩

theorem results_slice {P : Program} {fn : Func} {p : Tmp} {ty e : TypeId} (h : fn.results = #[.cell p ty]) (tmps : Array Value) (w : World) (g : Nat) (A : Option Addr) (n c : Nat)
    (hp : tmps.getD p undef = .pointer (some ⟨g, 0, none⟩)) (hc : w.cell? ⟨g, 0, none⟩ = some (.slice A n c)) (hu : P.underlying ty = some (.slice e)) :
    (results fn tmps).run P w = .ok (.slice A n c) w := by
  have hp' : tmps[p]?.getD undef = .pointer (some ⟨g, 0, none⟩) := by simpa using hp
  have hagg : (isAgg ty).run P w = .ok false w := by
    unfold isAgg
    rw [Sem.run_bind, run_underlying hu w]
    rfl
  simp [results, h, hp', asAddr, loadVar, Sem.run_bind, hagg, hc]
set_option maxRecDepth 100000 in
set_option maxHeartbeats 1600000 in
theorem allNodes_any (k : F Pay) (n : Nat) (p : Pay) (H : NMap) (w : World) (hw : Holds w H) (hs : Sits H none none none (.node n p k .nil)) (hl : k.blocks.length ≤ 900000) :
    Calls Tryd.prog 59 #[.pointer (some ⟨n, 0, none⟩)] w fun e w' => ∃ A c, e = .returned (.slice A (n :: k.blocks).length c) ∧ w'.ownsRow (w.heap.size + 2) 49 1 (.slice A (n :: k.blocks).length c) (n :: k.blocks).length (ptrs (n :: k.blocks)) ∧ Below w.heap.size w w' := by
  have hent : ∀ (a : Nat) (W : World), (callFunc 81 #[.pointer (some ⟨a, 0, none⟩), .pointer (some ⟨w.heap.size, 0, none⟩), .pointer (some ⟨w.heap.size + 1, 0, none⟩)]).run Tryd.prog W = .ok (.enter 81 #[.pointer (some ⟨a, 0, none⟩), .pointer (some ⟨w.heap.size, 0, none⟩), .pointer (some ⟨w.heap.size + 1, 0, none⟩)]) W :=
    fun a W => enters Tryd.func81 (by rfl) (by rfl) _ _
  have han : An w ((w.alloc (.cells #[.slice none 0 0] 85 (0, 0))).alloc (finObj w.heap.size)) [] := by
    refine ⟨.slice none 0 0, ?_, own_nil _ _ _ _, ?_, below_alloc (below_alloc (Below.refl _ _) _) _, by rw [World.size_alloc, World.size_alloc]; omega⟩
    · rw [Below.heap_alloc _ _ _ (by rw [World.size_alloc]; omega)]
      exact heap_alloc_new _ _
    · rw [← World.size_alloc w (.cells #[.slice none 0 0] 85 (0, 0))]
      exact heap_alloc_new _ _
  have hcall := (all_any w H hw k).1 n p none none none _ [] hs han (by simp only [List.length_nil]; omega)
  have HCALL := Lib.hid hcall
  clear hcall han hw hs
  go_enter Tryd.func59, Tryd.ntmps59
  go_wp2_with (refine HCALL.out.mono ?_; rintro e w3 ⟨rfl, v3, hv3, hown3, hfi3, hb3, hs3⟩; obtain ⟨A3, c3, rfl⟩ := own_slice hown3; obtain ⟨d0, df0⟩ := out_cell hv3 0; simp only [List.getElem?_toArray, List.getElem?_cons_succ, List.getElem?_cons_zero] at d0; have HV3 := Lib.hid hv3; have HOWN3 := Lib.hid hown3; have HB3 := Lib.hid hb3; clear hv3 hown3 hfi3 hb3)
  refine bodyPost_ret (results_slice rfl _ _ w.heap.size A3 (k.blocks.length + 1) c3 rfl (out_cell (Lib.heap_setCell_same HV3.out _) 0).1 Tryd.underlying85) rfl ?_
  refine ⟨A3, c3, rfl, ?_, ?_⟩
  · exact ownsRow_setCell_below HOWN3.out (a := ⟨w.heap.size, 0, none⟩) (by show w.heap.size < _; omega) _
  · exact HB3.out.setCell (Nat.le_refl _) _
end Go.Proofs.YtlallihdiffheaaDoor.Dom
