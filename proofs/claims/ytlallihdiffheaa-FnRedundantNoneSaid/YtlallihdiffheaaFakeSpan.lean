/- domutils.isFakeSpan by hand: it tells spans alone, and turns no node. -/
import Derived.Test.YtlallihdiffheaaSmall
import Derived.Test.YtlallihdiffheaaGBkx1
import Derived.Test.YtlallihdiffheaaGuard
import Derived.Lib.BufferWrite
import Derived.Laws.EntriesVeiled
namespace Go.Proofs.Ytlallihdiffheaa.Hand
open Go.RowKit Go.Proofs.YtlallihdiffheaaW.PrintWords Go.Proofs.YtlallihdiffheaaW.PrintLast Go.Proofs.YtlallihdiffheaaW.PrintMore Go.Proofs.Ytlallihdiffheaa.GT Go.Proofs.Ytlallihdiffheaa.GBk
set_option linter.unusedVariables false
set_option linter.unusedSimpArgs false

def spanB : ByteArray := ⟨#[115, 112, 97, 110]⟩
def divB : ByteArray := ⟨#[100, 105, 118]⟩
theorem span_div : divB ≠ spanB := by decide
def nameOf (p : Pay) : ByteArray := if p.type = 3 then p.data else if p.type = 1 then ⟨#[35, 116, 101, 120, 116]⟩ else if p.type = 4 then ⟨#[35, 99, 111, 109, 109, 101, 110, 116]⟩ else ⟨#[35, 100, 111, 99, 117, 109, 101, 110, 116]⟩
theorem span_of {s : ByteArray} (h : (!s.toList == [115, 112, 97, 110]) = false) : s = spanB := by
  have h1 : s.toList = [115, 112, 97, 110] := by simpa using h
  have h2 : spanB.toList = [115, 112, 97, 110] := by decide +kernel
  have h3 := h1.trans h2.symm
  rw [ByteArray.toList_eq, ByteArray.toList_eq] at h3
  exact ByteArray.ext (Array.toList_inj.1 h3)
theorem nameOf_span {p : Pay} (h : nameOf p = spanB) : p.type = 3 ∧ p.data = spanB := by
  unfold nameOf at h
  split at h
  · exact ⟨by assumption, h⟩
  · split at h
    · exact absurd h (by decide)
    · split at h
      · exact absurd h (by decide)
      · exact absurd h (by decide)
theorem neat_type {n : Nat} {p : Pay} {k r : F Pay} (h : Neat (.node n p k r)) : p.type = 1 ∨ p.type = 4 ∨ p.type = 3 ∨ p.type = 2 := by
  rcases h.1 with ⟨h, _⟩ | ⟨h, _⟩ | h | h
  · exact .inl h
  · exact .inr (.inl h)
  · exact .inr (.inr (.inl h))
  · exact .inr (.inr (.inr h))
set_option maxRecDepth 100000 in
theorem nodeName_any {w : World} {H : NMap} (hw : Holds w H) {b : Nat} {par f l v x : Option Nat} {q : Pay} (hb : H b = some ⟨par, f, l, v, x, q⟩) (ht : q.type = 1 ∨ q.type = 4 ∨ q.type = 3 ∨ q.type = 2) :
    Calls Try.prog 105 #[.pointer (some ⟨b, 0, none⟩)] w fun e w' => e = .returned (.string (nameOf q)) ∧ Below w.heap.size w w' := by
  obtain ⟨n0, n1, n2, n3, n4, n5, n6, n7, n9⟩ := hw.opened hb
  clear n0 n1 n2 n3 n4 n6 n9
  have hq : ∃ s, s = nameOf q := ⟨_, rfl⟩
  obtain ⟨s, hs⟩ := hq
  rcases ht with ht | ht | ht | ht
  · have e : nameOf q = ⟨#[35, 116, 101, 120, 116]⟩ := by simp [nameOf, ht]
    rw [e]
    rw [ht] at n5
    clear e ht hb hs
    go_enter Try.func105, Try.ntmps105
    go_wp2
    go_ret
    exact ⟨rfl, Below.refl _ _⟩
  · have e : nameOf q = ⟨#[35, 99, 111, 109, 109, 101, 110, 116]⟩ := by simp [nameOf, ht]
    rw [e]
    rw [ht] at n5
    clear e ht hb hs
    go_enter Try.func105, Try.ntmps105
    go_wp2
    go_ret
    exact ⟨rfl, Below.refl _ _⟩
  · have e : nameOf q = q.data := by simp [nameOf, ht]
    rw [e]
    rw [ht] at n5
    clear e ht hb hs
    go_enter Try.func105, Try.ntmps105
    go_wp2
    go_ret
    exact ⟨rfl, Below.refl _ _⟩
  · have e : nameOf q = ⟨#[35, 100, 111, 99, 117, 109, 101, 110, 116]⟩ := by simp [nameOf, ht]
    rw [e]
    rw [ht] at n5
    clear e ht hb hs
    go_enter Try.func105, Try.ntmps105
    go_wp2
    go_ret
    exact ⟨rfl, Below.refl _ _⟩
theorem ite_some {c : Prop} [Decidable c] {a b : Option Bool} (ha : ∃ r, a = some r) (hb : ∃ r, b = some r) : ∃ r, (if c then a else b) = some r := by
  by_cases h : c
  · rw [if_pos h]; exact ha
  · rw [if_neg h]; exact hb
theorem block_total (s : ByteArray) : ∃ r, dom_NameIsBlockNode.f s = some r := by
  unfold dom_NameIsBlockNode.f
  repeat (first | exact ⟨_, rfl⟩ | refine ite_some ⟨_, rfl⟩ ?_)
/-- The nodes stay where a block of another kind turns. -/
theorem Holds.grown {w w' : World} {H : NMap} (h : Holds w H) {fl : Nat} {c : Array Value} {t : TypeId} {z : Nat × Nat} (hf : w.heap[fl]? = some (.cells c t z)) (h1 : t ≠ 115) (h2 : t ≠ 117) (hg : w.grownBy w' (some fl)) : Holds w' H := by
  have key : ∀ (k : Nat) (c' : Array Value) (t' : TypeId) (z' : Nat × Nat), w.heap[k]? = some (.cells c' t' z') → t ≠ t' → w'.heap[k]? = w.heap[k]? := by
    intro k c' t' z' hk ht
    refine hg.block k (Array.getElem?_eq_some_iff.1 hk).1 (fun e => ?_)
    have e := Option.some.inj e
    rw [e, hf] at hk
    injection hk with hk
    injection hk with _ hk
    exact ht hk
  exact ⟨fun b r hr => (key _ _ _ _ (h.node b r hr) h1).trans (h.node b r hr), fun b r hr => (h.attrs b r hr).keep fun g hg2 => by
    obtain ⟨c', hc'⟩ := (h.attrs b r hr).block hg2
    exact key _ _ _ _ hc' h2⟩
theorem grownRow {w w1 w2 : World} {fl : Nat} (h : Below w.heap.size w w1) (g : w1.grownBy w2 (some fl)) : w.grownBy w2 (some fl) :=
  ⟨g.os.trans h.os, g.tape.trans h.tape, g.output.trans h.output, Nat.le_trans h.size g.size, fun k hk hne => (g.block k (Nat.lt_of_lt_of_le hk h.size) hne).trans (h.block k hk)⟩
def FindP (k : F Pay) : Prop := ∀ (n : Nat) (p : Pay) (par prev next : Option Nat) (H : NMap) (w : World) (fl fi : Nat) (v : Bool), Holds w H → Sits H par prev next (.node n p k .nil) → Neat (.node n p k .nil) →
  w.heap[fl]? = some (.cells #[.bool v] 4 (0, 0)) → w.heap[fi]? = some (.cells #[.func (.func 162) #[] #[.pointer (some ⟨fl, 0, none⟩), .pointer (some ⟨fi, 0, none⟩)]] 68 (0, 0)) →
  Calls Try.prog 162 #[.pointer (some ⟨n, 0, none⟩), .pointer (some ⟨fl, 0, none⟩), .pointer (some ⟨fi, 0, none⟩)] w fun e w' => e = .returned (.tuple #[]) ∧ ∃ v', w'.heap[fl]? = some (.cells #[.bool v'] 4 (0, 0)) ∧ w.grownBy w' (some fl)
set_option maxRecDepth 100000 in
set_option maxHeartbeats 1600000 in
theorem find_step (k : F Pay) (hall : AllK FindP k) : FindP k := by
  intro n p par prev next H w fl fi v hw hs hn hfl hfi
  have hNAME := nodeName_any hw hs.1 (neat_type hn)
  obtain ⟨r, hr⟩ := block_total (nameOf p)
  obtain ⟨n0, n1, n2, n3, n4, n5, n6, n7, n9⟩ := hw.opened hs.1
  obtain ⟨u, hu⟩ := ptrV_form (k.headOr none)
  rw [hu] at n1
  have hne : fi ≠ fl := by
    intro e
    rw [e, hfl] at hfi
    injection hfi with hfi
    injection hfi with _ hfi
    exact absurd hfi (by decide)
  have hent : ∀ (a : Nat) (W : World), (callFunc 162 #[.pointer (some ⟨a, 0, none⟩), .pointer (some ⟨fl, 0, none⟩), .pointer (some ⟨fi, 0, none⟩)]).run Try.prog W = .ok (.enter 162 #[.pointer (some ⟨a, 0, none⟩), .pointer (some ⟨fl, 0, none⟩), .pointer (some ⟨fi, 0, none⟩)]) W :=
    fun a W => enters Try.func162 (by rfl) (by rfl) _ _
  have hnl := hw.lt hs.1
  have hfll : fl < w.heap.size := (Array.getElem?_eq_some_iff.1 hfl).1
  have hfil : fi < w.heap.size := (Array.getElem?_eq_some_iff.1 hfi).1
  have HNAME := Lib.hid hNAME
  have HU := Lib.hid hu
  have HW := Lib.hid hw
  have HS := Lib.hid hs
  have HN := Lib.hid hn
  have HR := Lib.hid hr
  have HFL := Lib.hid hfl
  have HFI := Lib.hid hfi
  have HA := Lib.hid hall
  clear hNAME hu hw hs hn hr hfl hfi hall n0 n2 n3 n4 n5 n6 n7 n9
  cases r with
  | true =>
    go_enter Try.func162, Try.ntmps162
    go_wp2_with (first
      | (go_at_call 105; refine HNAME.out.mono ?_; rintro e w1 ⟨rfl, hb1⟩; have hfl1 := (hb1.block fl hfll).trans HFL.out; obtain ⟨l0, lf0⟩ := out_cell hfl1 0; simp only [List.getElem?_toArray, List.getElem?_cons_succ, List.getElem?_cons_zero] at l0; have HB1 := Lib.hid hb1; have HFL1 := Lib.hid hfl1; clear hb1 hfl1)
      | (go_at_call 163; refine (dom_NameIsBlockNode.calls _ true _ HR.out).mono ?_; rintro e w2 ⟨rfl, ⟨nd, rfl⟩⟩))
    refine bodyPost_ret (results_none rfl _ _ _) rfl ?_
    refine ⟨rfl, true, Lib.heap_setCell_same (by exact HFL1.out) _, grownRow (pw_below_drewN HB1.out nd) (Lib.grownBy_setCell _ _ _ _)⟩
  | false =>
    go_enter Try.func162, Try.ntmps162
    go_wp2_with (first
      | (go_at_call 105; refine HNAME.out.mono ?_; rintro e w1 ⟨rfl, hb1⟩; have n1' := (hb1.cell (p := ⟨n, 1, none⟩) hnl).trans n1; have HB1 := Lib.hid hb1; clear hb1)
      | (go_at_call 163; refine (dom_NameIsBlockNode.calls _ false _ HR.out).mono ?_; rintro e w2 ⟨rfl, ⟨nd, rfl⟩⟩))
    have hBW := pw_below_drewN HB1.out nd
    have HBW := Lib.hid hBW
    clear hBW
    go_loopg [5] k.len (fun gk c0 wr => ∃ (k0 rest : F Pay) (v1 : Bool), c0 = ptrV (rest.headOr none) ∧ gk = rest.len ∧ k = k0.app rest ∧ wr.heap[fl]? = some (.cells #[.bool v1] 4 (0, 0)) ∧ w.grownBy wr (some fl))
    case atStart => exact ⟨.nil, k, v, HU.out.symm, rfl, rfl, (HBW.out.block fl hfll).trans HFL.out, grownRow HBW.out ⟨rfl, rfl, rfl, Nat.le_refl _, fun _ _ _ => rfl⟩⟩
    case round =>
      obtain ⟨k0, rest, v1, rfl, rfl, hk, hfl1, hg1⟩ := hrel
      have hwr := HW.out.grown HFL.out (by decide) (by decide) hg1
      have hfi1 := (hg1.block fi hfil (fun e => hne (Option.some.inj e))).trans HFI.out
      obtain ⟨i0, -⟩ := out_cell hfi1 0
      simp only [List.getElem?_toArray, List.getElem?_cons_succ, List.getElem?_cons_zero] at i0
      rcases headOr_cases rest with hg | ⟨c, q, ck, r, hg⟩
      · subst hg
        simp only [show ptrV ((F.nil : F Pay).headOr none) = .pointer none from rfl]
        have HFL1 := Lib.hid hfl1
        have HG1 := Lib.hid hg1
        clear hk hfl1 hg1 hwr hfi1
        go_wp2
        go_end0
        exact ⟨rfl, v1, HFL1.out, HG1.out⟩
      · subst hg
        simp only [show ptrV ((F.node c q ck r).headOr none) = .pointer (some ⟨c, 0, none⟩) from rfl]
        have hss := HS.out.2.1
        have hnn := HN.out.2.1
        rw [hk] at hss hnn
        obtain ⟨hsd, hc, hck, hsr⟩ := (sits_app H k0 _ _ _ _).1 hss
        have hnc := ((neat_app _ _).1 hnn).2
        have hac := allK_app FindP k0 _ (hk ▸ HA.out)
        obtain ⟨u4, hu4⟩ := ptrV_form (r.headOr none)
        have hrec := hac.1 c q (some n) (k0.lastOr none) (r.headOr none) H wr fl fi v1 hwr ⟨hc, hck, trivial⟩ ⟨hnc.1, hnc.2.1, trivial⟩ hfl1 hfi1
        have HREC := Lib.hid hrec
        have HC := Lib.hid hc
        have HU4 := Lib.hid hu4
        have HK := Lib.hid hk
        have HFL1 := Lib.hid hfl1
        have HG1 := Lib.hid hg1
        have HWR := Lib.hid hwr
        clear hss hnn hsd hc hck hsr hnc hac hu4 hrec hk hfl1 hg1 hwr hfi1
        go_wp2_with (refine HREC.out.mono ?_; rintro e w3 ⟨rfl, v3, hfl3, hg3⟩; have hw3 := HWR.out.grown HFL1.out (by decide) (by decide) hg3; have c4 := (hw3.opened HC.out).2.2.2.2.1; rw [HU4.out] at c4; have HFL3 := Lib.hid hfl3; have HG3 := Lib.hid hg3; clear hfl3 hg3 hw3)
        go_roundg r.len
        case measure => simp [F.len]
        case rel =>
          refine ⟨k0.app (.node c q ck .nil), r, v3, HU4.out.symm, rfl, ?_, HFL3.out, HG1.out.trans HG3.out⟩
          rw [F.app_assoc]
          exact HK.out
theorem find_any : ∀ k : F Pay, FindP k ∧ AllK FindP k
  | .nil => ⟨find_step .nil trivial, trivial⟩
  | .node b p k r => by
    have h : AllK FindP (.node b p k r) := ⟨(find_any k).1, (find_any r).2⟩
    exact ⟨find_step _ h, h⟩
set_option maxRecDepth 100000 in
set_option maxHeartbeats 1600000 in
theorem fakeSpan_any (k : F Pay) (n : Nat) (p : Pay) (par prev next : Option Nat) (H : NMap) (w : World) (hw : Holds w H) (hs : Sits H par prev next (.node n p k .nil)) (hn : Neat (.node n p k .nil)) :
    Calls Try.prog 136 #[.pointer (some ⟨n, 0, none⟩)] w fun e w' => ∃ r : Bool, e = .returned (.bool r) ∧ (r = true → p.type = 3 ∧ p.data = spanB) ∧ Below w.heap.size w w' := by
  have hNAME := nodeName_any hw hs.1 (neat_type hn)
  have hsp := @nameOf_span p
  generalize nameOf p = s at hNAME hsp
  have hent : ∀ (fl fi a : Nat) (W : World), (callFunc 162 #[.pointer (some ⟨a, 0, none⟩), .pointer (some ⟨fl, 0, none⟩), .pointer (some ⟨fi, 0, none⟩)]).run Try.prog W = .ok (.enter 162 #[.pointer (some ⟨a, 0, none⟩), .pointer (some ⟨fl, 0, none⟩), .pointer (some ⟨fi, 0, none⟩)]) W :=
    fun fl fi a W => enters Try.func162 (by rfl) (by rfl) _ _
  have HNAME := Lib.hid hNAME
  have HSP := Lib.hid hsp
  have HW := Lib.hid hw
  have HS := Lib.hid hs
  have HN := Lib.hid hn
  clear hNAME hsp hw hs hn
  go_enter Try.func136, Try.ntmps136
  go_wp2_with (first
    | (go_at_call 105; refine HNAME.out.mono ?_; rintro e w1 ⟨rfl, hb1⟩; have HB1 := Lib.hid hb1; clear hb1)
    | (refine ((find_any k).1 n p par prev next H _ w1.heap.size (w1.heap.size + 1) false ((HW.out.below HB1.out).below (below_alloc (below_alloc (Below.refl _ _) _) _)) HS.out HN.out (by rw [Below.heap_alloc _ _ _ (by rw [World.size_alloc]; omega)]; exact heap_alloc_new _ _) (by rw [← World.size_alloc w1 (.cells #[.bool false] 4 (0, 0))]; exact heap_alloc_new _ _)).mono ?_; rintro e w3 ⟨rfl, v3, hfl3, hg3⟩; obtain ⟨l0, -⟩ := out_cell hfl3 0; simp only [List.getElem?_toArray, List.getElem?_cons_succ, List.getElem?_cons_zero] at l0; have HG3 := Lib.hid hg3; clear hg3 hfl3))
  · go_ret
    exact ⟨false, rfl, (fun h => absurd h (by decide)), HB1.out⟩
  · have hs : (!s.toList == [115, 112, 97, 110]) = false := by assumption
    go_ret
    refine ⟨v3, rfl, fun _ => HSP.out (span_of hs), ?_⟩
    exact (below_alloc (below_alloc HB1.out _) _).grown HG3.out (by rw [World.size_alloc, World.size_alloc]; have := HB1.out.size; omega) (fun z hz => by have := Option.some.inj hz; have := HB1.out.size; omega)
end Go.Proofs.Ytlallihdiffheaa.Hand
