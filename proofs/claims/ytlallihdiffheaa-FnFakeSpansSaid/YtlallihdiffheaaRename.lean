/- domutils.RenameFakeSpans and impl.FakeSpans by hand: some spans become divs, and nothing else changes. -/
import Derived.Test.YtlallihdiffheaaFakeSpan
import Derived.Test.YtlallihdiffheaaMergeTexts
namespace Go.Proofs.Ytlallihdiffheaa.Hand
open Go.RowKit Go.Proofs.YtlallihdiffheaaW.PrintWords Go.Proofs.YtlallihdiffheaaW.PrintLast Go.Proofs.Ytlallihdiffheaa.GT
set_option linter.unusedVariables false
set_option linter.unusedSimpArgs false

/-- Some spans of a map have become divs. -/
def RenH (H K : NMap) : Prop := ∀ c, K c = H c ∨ ∃ r, H c = some r ∧ r.pay.type = 3 ∧ r.pay.data = spanB ∧ K c = some { r with pay := { r.pay with data := divB } }
theorem RenH.refl (H : NMap) : RenH H H := fun c => .inl rfl
theorem RenH.trans {H K L : NMap} (h : RenH H K) (k : RenH K L) : RenH H L := by
  intro c
  rcases h c with a | ⟨r, a1, a2, a3, a4⟩
  · rcases k c with b | ⟨r, b1, b2, b3, b4⟩
    · exact .inl (b.trans a)
    · exact .inr ⟨r, a ▸ b1, b2, b3, b4⟩
  · rcases k c with b | ⟨r', b1, b2, b3, b4⟩
    · exact .inr ⟨r, a1, a2, a3, b.trans a4⟩
    · rw [a4] at b1
      obtain rfl := Option.some.inj b1
      exact absurd b3 span_div
theorem RenH.none {H K : NMap} (h : RenH H K) (c : Nat) (hc : H c = none) : K c = none := by
  rcases h c with a | ⟨r, a1, _⟩
  · exact a.trans hc
  · rw [hc] at a1
    cases a1
/-- Some spans of a forest have become divs. -/
def Ren : F Pay → F Pay → Prop
  | .nil, .nil => True
  | .node b p k r, .node b' p' k' r' => b = b' ∧ (p' = p ∨ (p.type = 3 ∧ p.data = spanB ∧ p' = { p with data := divB })) ∧ Ren k k' ∧ Ren r r'
  | _, _ => False
theorem Ren.heads : ∀ {f f' : F Pay}, Ren f f' → (∀ d, f'.headOr d = f.headOr d) ∧ f'.len = f.len ∧ f'.blocks = f.blocks
  | .nil, .nil, _ => ⟨fun _ => rfl, rfl, rfl⟩
  | .node b p k r, .node b' p' k' r', h => by
    obtain ⟨rfl, _, h1, h2⟩ := h
    exact ⟨fun _ => rfl, by simp only [F.len, h2.heads.2.1], by simp only [F.blocks, h1.heads.2.2, h2.heads.2.2]⟩
theorem ren_node {c : Nat} {q : Pay} {ck rr f' : F Pay} (h : Ren (.node c q ck rr) f') : ∃ q' ck' rr', f' = .node c q' ck' rr' := by
  cases f' with
  | nil => exact h.elim
  | node b' p' k' r' =>
    obtain ⟨rfl, _⟩ := h
    exact ⟨p', k', r', rfl⟩
theorem Ren.last : ∀ {f f' : F Pay}, Ren f f' → ∀ d, f'.lastOr d = f.lastOr d
  | .nil, .nil, _, d => rfl
  | .node b p k r, .node b' p' k' r', h, d => by
    obtain ⟨rfl, _, h1, h2⟩ := h
    simp only [F.lastOr]
    exact h2.last _
theorem Ren.neat : ∀ {f f' : F Pay}, Ren f f' → Neat f → Neat f'
  | .nil, .nil, _, _ => trivial
  | .node b p k r, .node b' p' k' r', h, hn => by
    obtain ⟨rfl, hp, h1, h2⟩ := h
    have ht : p'.type = p.type := by
      rcases hp with rfl | ⟨_, _, rfl⟩ <;> rfl
    have hk : k = .nil → k' = .nil := by
      intro e
      subst e
      cases k' with
      | nil => rfl
      | node _ _ _ _ => exact h1.elim
    refine ⟨?_, h1.neat hn.2.1, h2.neat hn.2.2⟩
    rw [ht]
    rcases hn.1 with ⟨a, e⟩ | ⟨a, e⟩ | a | a
    · exact .inl ⟨a, hk e⟩
    · exact .inr (.inl ⟨a, hk e⟩)
    · exact .inr (.inr (.inl a))
    · exact .inr (.inr (.inr a))
theorem Ren.plain : ∀ {f f' : F Pay}, Ren f f' → Plain f → Plain f'
  | .nil, .nil, _, _ => trivial
  | .node b p k r, .node b' p' k' r', h, hn => by
    obtain ⟨rfl, hp, h1, h2⟩ := h
    refine ⟨?_, h1.plain hn.2.1, h2.plain hn.2.2⟩
    rcases hp with rfl | ⟨_, _, rfl⟩
    · exact hn.1
    · exact hn.1
theorem ren_sits {H K : NMap} (hr : RenH H K) : ∀ (f : F Pay) (par prev next : Option Nat), Sits H par prev next f → ∃ f', Ren f f' ∧ Sits K par prev next f'
  | .nil, par, prev, next, _ => ⟨.nil, trivial, trivial⟩
  | .node b p k r, par, prev, next, h => by
    obtain ⟨h1, h2, h3⟩ := h
    obtain ⟨k', a1, a2⟩ := ren_sits hr k _ _ _ h2
    obtain ⟨r', b1, b2⟩ := ren_sits hr r _ _ _ h3
    rcases hr b with e | ⟨q, e1, e2, e3, e4⟩
    · refine ⟨.node b p k' r', ⟨rfl, .inl rfl, a1, b1⟩, ?_, a2, b2⟩
      rw [e, h1, a1.heads.1, a1.last, b1.heads.1]
    · rw [h1] at e1
      obtain rfl := Option.some.inj e1
      refine ⟨.node b { p with data := divB } k' r', ⟨rfl, .inr ⟨e2, e3, rfl⟩, a1, b1⟩, ?_, a2, b2⟩
      rw [e4, a1.heads.1, a1.last, b1.heads.1]
def renCell (fi : Nat) : Obj := .cells #[.func (.func 135) #[] #[.pointer (some ⟨fi, 0, none⟩)]] 68 (0, 0)
def RenP (m : Nat) : Prop := ∀ (k : F Pay) (n : Nat) (p : Pay) (par prev next : Option Nat) (H : NMap) (w : World) (fi : Nat), k.blocks.length < m → Holds w H → Sits H par prev next (.node n p k .nil) → Neat (.node n p k .nil) → w.heap[fi]? = some (renCell fi) →
  Calls Try.prog 135 #[.pointer (some ⟨n, 0, none⟩), .pointer (some ⟨fi, 0, none⟩)] w fun e w' => e = .returned (.tuple #[]) ∧ ∃ K, RenH H K ∧ Holds w' K ∧ Stays H w w'
theorem renH_set {H : NMap} {n : Nat} {r : NRec} (hr : H n = some r) (h1 : r.pay.type = 3) (h2 : r.pay.data = spanB) : RenH H (upd H n { r with pay := { r.pay with data := divB } }) := by
  intro c
  by_cases e : c = n
  · subst e
    exact .inr ⟨r, hr, h1, h2, upd_same _ _ _⟩
  · exact .inl (upd_other _ _ e)
set_option maxRecDepth 100000 in
set_option maxHeartbeats 3200000 in
/-- The children's loop. -/
theorem ren_step (m : Nat) (ih : RenP m) : RenP (m + 1) := by
  intro k n p par prev next H w fi hm hw hs hn hfi
  have hFAKE := fakeSpan_any k n p par prev next H w hw hs hn
  have hent : ∀ (a : Nat) (W : World), (callFunc 135 #[.pointer (some ⟨a, 0, none⟩), .pointer (some ⟨fi, 0, none⟩)]).run Try.prog W = .ok (.enter 135 #[.pointer (some ⟨a, 0, none⟩), .pointer (some ⟨fi, 0, none⟩)]) W :=
    fun a W => enters Try.func135 (by rfl) (by rfl) _ _
  have hfin : H fi = none := hw.none_of_type hfi (by decide)
  have hnl := hw.lt hs.1
  have hne : n ≠ fi := by
    intro e
    rw [e] at hs
    rw [hs.1] at hfin
    cases hfin
  have hfil : fi < w.heap.size := (Array.getElem?_eq_some_iff.1 hfi).1
  obtain ⟨u, hu⟩ := ptrV_form (k.headOr none)
  have HFAKE := Lib.hid hFAKE
  have HU := Lib.hid hu
  have HW := Lib.hid hw
  have HS := Lib.hid hs
  have HN := Lib.hid hn
  have HFI := Lib.hid hfi
  have HFN := Lib.hid hfin
  have HM := Lib.hid hm
  have HIH := Lib.hid ih
  clear hFAKE hu hw hs hn hfi hfin hm ih
  have hstart : ∀ (W : World) (H1 : NMap), RenH H H1 → Holds W H1 → Stays H w W → ∃ (rest : F Pay) (prv : Option Nat) (H1 : NMap), Value.pointer u = ptrV (rest.headOr none) ∧ k.len = rest.len ∧ RenH H H1 ∧ Holds W H1 ∧ Stays H w W ∧ Sits H1 (some n) prv none rest ∧ Neat rest ∧ rest.blocks.length ≤ m := fun W H1 a1 a2 a3 => by
    obtain ⟨k', b1, b2⟩ := ren_sits a1 k _ _ _ HS.out.2.1
    refine ⟨k', none, H1, by rw [b1.heads.1, HU.out], b1.heads.2.1.symm, a1, a2, a3, b2, b1.neat HN.out.2.1, ?_⟩
    rw [b1.heads.2.2]
    have := HM.out
    omega
  have HST := Lib.hid hstart
  clear hstart
  go_enter Try.func135, Try.ntmps135
  go_wp2_with (go_at_call 136; refine HFAKE.out.mono ?_; rintro e w1 ⟨r, rfl, hr, hb1⟩; have hw1 := HW.out.below hb1; obtain ⟨n0, n1, n2, n3, n4, n5, n6, n7, n9⟩ := hw1.opened HS.out.1; rw [HU.out] at n1; have nf := hw1.frozen HS.out.1 7; have HR := Lib.hid hr; have HB1 := Lib.hid hb1; have HW1 := Lib.hid hw1; clear hr hb1 hw1 n0 n2 n3 n4 n5 n6 n9)
  · have hr : r = true := by assumption
    subst hr
    have hset := HW1.out.set (s := { (⟨par, k.headOr none, k.lastOr none, prev, next, p⟩ : NRec) with pay := { p with data := divB } }) HS.out.1 7 (.string divB) rfl rfl rfl
    have hst0 : Stays H w (w1.setCell ⟨n, 7, none⟩ (.string divB)) := (Stays.of_below HB1.out).trans hset.2
    have hren : RenH H (upd H n { (⟨par, k.headOr none, k.lastOr none, prev, next, p⟩ : NRec) with pay := { p with data := divB } }) := renH_set HS.out.1 (HR.out rfl).1 (HR.out rfl).2
    have HSET := Lib.hid (HST.out _ _ hren hset.1 hst0)
    clear hset hst0 hren
    go_loopg [3] k.len (fun gk c0 wr => ∃ (rest : F Pay) (prv : Option Nat) (H1 : NMap), c0 = ptrV (rest.headOr none) ∧ gk = rest.len ∧ RenH H H1 ∧ Holds wr H1 ∧ Stays H w wr ∧ Sits H1 (some n) prv none rest ∧ Neat rest ∧ rest.blocks.length ≤ m)
    case atStart => exact HSET.out
    case round =>
      obtain ⟨rest, prv, H1, rfl, rfl, hrn, hwr, hst, hsr, hnr, hbr⟩ := hrel
      have hfi1 : wr.heap[fi]? = some (renCell fi) := (hst.block fi hfil HFN.out).trans HFI.out
      obtain ⟨i0, -⟩ := out_cell hfi1 0
      simp only [List.getElem?_toArray, List.getElem?_cons_succ, List.getElem?_cons_zero] at i0
      rcases headOr_cases rest with hg | ⟨c, q, ck, rr, hg⟩
      · subst hg
        simp only [show ptrV ((F.nil : F Pay).headOr none) = .pointer none from rfl]
        have HD := Lib.hid (And.intro hrn (And.intro hwr hst))
        clear hrn hwr hst hsr hnr hbr hfi1
        go_wp2
        go_end0
        exact ⟨rfl, H1, HD.out.1, HD.out.2.1, HD.out.2.2⟩
      · subst hg
        simp only [show ptrV ((F.node c q ck rr).headOr none) = .pointer (some ⟨c, 0, none⟩) from rfl]
        obtain ⟨u4, hu4⟩ := ptrV_form (rr.headOr none)
        have hrec := HIH.out ck c q (some n) prv (rr.headOr none) H1 wr fi (by simp only [F.blocks, List.length_cons, List.length_append] at hbr; omega) hwr ⟨hsr.1, hsr.2.1, trivial⟩ ⟨hnr.1, hnr.2.1, trivial⟩ hfi1
        have HREC := Lib.hid hrec
        have HU4 := Lib.hid hu4
        have HD := Lib.hid (And.intro hrn (And.intro hwr hst))
        have HSR := Lib.hid hsr
        have HNR := Lib.hid (And.intro hnr hbr)
        clear hrn hwr hst hsr hnr hbr hfi1 hrec hu4
        go_wp2_with (refine HREC.out.mono ?_; rintro e w3 ⟨rfl, K, hrk, hwk, hsk⟩; obtain ⟨f', hf', hsf⟩ := ren_sits hrk _ _ _ _ HSR.out; obtain ⟨q', ck', rr', rfl⟩ := ren_node hf'; have c4 := (hwk.opened hsf.1).2.2.2.2.1; rw [hf'.2.2.2.heads.1, HU4.out] at c4; have HK := Lib.hid (And.intro hrk (And.intro hwk (And.intro hsk (And.intro hf' hsf)))); clear hrk hwk hsk hf' hsf)
        go_roundg rr.len
        case measure => simp [F.len]
        case rel =>
          obtain ⟨hrk, hwk, hsk, hf', hsf⟩ := HK.out
          obtain ⟨hrn, hwr, hst⟩ := HD.out
          obtain ⟨hnr, hbr⟩ := HNR.out
          have hh := hf'.2.2.2.heads
          refine ⟨rr', some c, K, ?_, hh.2.1.symm, hrn.trans hrk, hwk, hst.trans' hsk (fun i _ hi => hrn.none i hi), hsf.2.2, hf'.2.2.2.neat hnr.2.2, ?_⟩
          · rw [hh.1, HU4.out]
          · rw [hh.2.2]
            simp only [F.blocks, List.length_cons, List.length_append] at hbr
            omega
  · have hr : r = false := by assumption
    subst hr
    have HSET := Lib.hid (HST.out _ _ (RenH.refl H) HW1.out (Stays.of_below HB1.out))
    go_loopg [3] k.len (fun gk c0 wr => ∃ (rest : F Pay) (prv : Option Nat) (H1 : NMap), c0 = ptrV (rest.headOr none) ∧ gk = rest.len ∧ RenH H H1 ∧ Holds wr H1 ∧ Stays H w wr ∧ Sits H1 (some n) prv none rest ∧ Neat rest ∧ rest.blocks.length ≤ m)
    case atStart => exact HSET.out
    case round =>
      obtain ⟨rest, prv, H1, rfl, rfl, hrn, hwr, hst, hsr, hnr, hbr⟩ := hrel
      have hfi1 : wr.heap[fi]? = some (renCell fi) := (hst.block fi hfil HFN.out).trans HFI.out
      obtain ⟨i0, -⟩ := out_cell hfi1 0
      simp only [List.getElem?_toArray, List.getElem?_cons_succ, List.getElem?_cons_zero] at i0
      rcases headOr_cases rest with hg | ⟨c, q, ck, rr, hg⟩
      · subst hg
        simp only [show ptrV ((F.nil : F Pay).headOr none) = .pointer none from rfl]
        have HD := Lib.hid (And.intro hrn (And.intro hwr hst))
        clear hrn hwr hst hsr hnr hbr hfi1
        go_wp2
        go_end0
        exact ⟨rfl, H1, HD.out.1, HD.out.2.1, HD.out.2.2⟩
      · subst hg
        simp only [show ptrV ((F.node c q ck rr).headOr none) = .pointer (some ⟨c, 0, none⟩) from rfl]
        obtain ⟨u4, hu4⟩ := ptrV_form (rr.headOr none)
        have hrec := HIH.out ck c q (some n) prv (rr.headOr none) H1 wr fi (by simp only [F.blocks, List.length_cons, List.length_append] at hbr; omega) hwr ⟨hsr.1, hsr.2.1, trivial⟩ ⟨hnr.1, hnr.2.1, trivial⟩ hfi1
        have HREC := Lib.hid hrec
        have HU4 := Lib.hid hu4
        have HD := Lib.hid (And.intro hrn (And.intro hwr hst))
        have HSR := Lib.hid hsr
        have HNR := Lib.hid (And.intro hnr hbr)
        clear hrn hwr hst hsr hnr hbr hfi1 hrec hu4
        go_wp2_with (refine HREC.out.mono ?_; rintro e w3 ⟨rfl, K, hrk, hwk, hsk⟩; obtain ⟨f', hf', hsf⟩ := ren_sits hrk _ _ _ _ HSR.out; obtain ⟨q', ck', rr', rfl⟩ := ren_node hf'; have c4 := (hwk.opened hsf.1).2.2.2.2.1; rw [hf'.2.2.2.heads.1, HU4.out] at c4; have HK := Lib.hid (And.intro hrk (And.intro hwk (And.intro hsk (And.intro hf' hsf)))); clear hrk hwk hsk hf' hsf)
        go_roundg rr.len
        case measure => simp [F.len]
        case rel =>
          obtain ⟨hrk, hwk, hsk, hf', hsf⟩ := HK.out
          obtain ⟨hrn, hwr, hst⟩ := HD.out
          obtain ⟨hnr, hbr⟩ := HNR.out
          have hh := hf'.2.2.2.heads
          refine ⟨rr', some c, K, ?_, hh.2.1.symm, hrn.trans hrk, hwk, hst.trans' hsk (fun i _ hi => hrn.none i hi), hsf.2.2, hf'.2.2.2.neat hnr.2.2, ?_⟩
          · rw [hh.1, HU4.out]
          · rw [hh.2.2]
            simp only [F.blocks, List.length_cons, List.length_append] at hbr
            omega
theorem ren_any : ∀ m, RenP m
  | 0 => fun k n p par prev next H w fi hm => absurd hm (Nat.not_lt_zero _)
  | m + 1 => ren_step m (ren_any m)
set_option maxRecDepth 100000 in
set_option maxHeartbeats 800000 in
theorem rename_any (k : F Pay) (n : Nat) (p : Pay) (cv : Value) (H : NMap) (w : World) (hw : Holds w H) (hs : Sits H none none none (.node n p k .nil)) (hn : Neat (.node n p k .nil)) :
    Calls Try.prog 86 #[cv, .pointer (some ⟨n, 0, none⟩)] w fun e w' => e = .returned (.tuple #[]) ∧ ∃ K, RenH H K ∧ Holds w' K ∧ Stays H w w' := by
  have hent : ∀ (fi a : Nat) (W : World), (callFunc 135 #[.pointer (some ⟨a, 0, none⟩), .pointer (some ⟨fi, 0, none⟩)]).run Try.prog W = .ok (.enter 135 #[.pointer (some ⟨a, 0, none⟩), .pointer (some ⟨fi, 0, none⟩)]) W :=
    fun fi a W => enters Try.func135 (by rfl) (by rfl) _ _
  have HW := Lib.hid hw
  have HS := Lib.hid hs
  have HN := Lib.hid hn
  clear hw hs hn
  go_enter Try.func86, Try.ntmps86
  go_wp2_with (refine (ren_any (k.blocks.length + 1) k n p none none none H _ w.heap.size (Nat.lt_succ_self _) (HW.out.below (below_alloc (Below.refl _ _) _)) HS.out HN.out (heap_alloc_new _ _)).mono ?_; rintro e w3 ⟨rfl, hk⟩; have HK := Lib.hid hk; clear hk)
  go_end0
  obtain ⟨K, h1, h2, h3⟩ := HK.out
  exact ⟨rfl, K, h1, h2, (Stays.of_below (below_alloc (Below.refl _ _) _)).trans h3⟩
/-- A tree, and what it is with some spans made divs. -/
def QR (x y : S25) : Prop := ∃ (b : Nat) (p p' : Pay) (k k' : F Pay), Neat (.node b p k .nil) ∧ nodeOf p (erase k) = x ∧ Ren (.node b p k .nil) (.node b p' k' .nil) ∧ y = nodeOf p' (erase k')
set_option maxRecDepth 100000 in
set_option maxHeartbeats 800000 in
theorem fake_do (n : Nat) (hn60 : n ≤ 60) (x : S25) (hx : Sm n x) (W0 : World) : DoSpec 85 #[] W0 x (QR x) := by
  intro w L b p k hB hL hs ht hn hd hf
  obtain ⟨h1, h2, h3⟩ := sm_node hx ht hn
  have hcall := fun cv => rename_any k b p cv L w hL hs hn
  have HCALL := Lib.hid hcall
  have HH := Lib.hid (And.intro hs (And.intro ht (And.intro hn (And.intro h1 h3))))
  clear hcall hB hL hs ht hn hd hf h1 h2 h3
  show Calls Try.prog 85 #[.pointer (some ⟨b, 0, none⟩)] w _
  go_enter Try.func85, Try.ntmps85
  go_wp2_with (first | (go_at_call 83; go_in) | (go_at_call 86; refine (HCALL.out _).mono ?_; rintro e w3 ⟨rfl, hk⟩; have HK := Lib.hid hk; clear hk))
  go_end0
  obtain ⟨K, a1, a2, a3⟩ := HK.out
  obtain ⟨hs, ht, hn, h1, h3⟩ := HH.out
  obtain ⟨f', hf', hsf⟩ := ren_sits a1 _ _ _ _ hs
  obtain ⟨p', k', rr', rfl⟩ := ren_node hf'
  obtain rfl : rr' = .nil := by
    cases rr' with
    | nil => rfl
    | node _ _ _ _ => exact hf'.2.2.2.elim
  refine ⟨rfl, _, p', k', K, ⟨b, p, p', k, k', hn, ht, hf', rfl⟩, a2, hsf, rfl, hf'.plain h3, ?_, a3⟩
  rw [hf'.heads.2.2]
  omega
set_option maxRecDepth 100000 in
set_option maxHeartbeats 800000 in
theorem fakeSpans_any (n : Nat) (hn60 : n ≤ 60) (x : S25) (hx : Sm n x) (w : World) (A3 A4 : Option Addr) (c3 c4 : Nat) (h3 : k34.C w A3 x.f3.length x.f3) (l3 : x.f3.length ≤ c3) (h4 : k25.C w A4 x.f4.length x.f4) (l4 : x.f4.length ≤ c4) :
    Calls Try.prog 40 #[.agg #[.int .i64 x.f0, .string x.f1, .string x.f2, .slice A3 x.f3.length c3, .slice A4 x.f4.length c4]] w fun e w' => ∃ y, QR x y ∧ ToldPost y w e w' := by
  have hW : Below w.heap.size w ((w.alloc (.cells #[.int .i64 x.f0, .string x.f1, .string x.f2, .slice A3 x.f3.length c3, .slice A4 x.f4.length c4] 25 (0, 0))).alloc (.cells #[.int .i64 0, .string ⟨#[]⟩, .string ⟨#[]⟩, .slice none 0 0, .slice none 0 0] 25 (0, 0))) := below_alloc (below_alloc (Below.refl _ _) _) _
  have hsz : ((w.alloc (.cells #[.int .i64 x.f0, .string x.f1, .string x.f2, .slice A3 x.f3.length c3, .slice A4 x.f4.length c4] 25 (0, 0))).alloc (.cells #[.int .i64 0, .string ⟨#[]⟩, .string ⟨#[]⟩, .slice none 0 0, .slice none 0 0] 25 (0, 0))).heap.size = w.heap.size + 2 := by simp only [World.size_alloc]
  have hrv : ((w.alloc (.cells #[.int .i64 x.f0, .string x.f1, .string x.f2, .slice A3 x.f3.length c3, .slice A4 x.f4.length c4] 25 (0, 0))).alloc (.cells #[.int .i64 0, .string ⟨#[]⟩, .string ⟨#[]⟩, .slice none 0 0, .slice none 0 0] 25 (0, 0))).heap[w.heap.size + 1]? = some (.cells #[.int .i64 0, .string ⟨#[]⟩, .string ⟨#[]⟩, .slice none 0 0, .slice none 0 0] 25 (0, 0)) := by
    rw [← World.size_alloc w (.cells #[.int .i64 x.f0, .string x.f1, .string x.f2, .slice A3 x.f3.length c3, .slice A4 x.f4.length c4] 25 (0, 0))]
    exact heap_alloc_new _ _
  have hcall := behind_any 85 #[] ((w.alloc (.cells #[.int .i64 x.f0, .string x.f1, .string x.f2, .slice A3 x.f3.length c3, .slice A4 x.f4.length c4] 25 (0, 0))).alloc (.cells #[.int .i64 0, .string ⟨#[]⟩, .string ⟨#[]⟩, .slice none 0 0, .slice none 0 0] 25 (0, 0))) x (QR x) hx.wf A3 A4 c3 c4 (fun v W => enters Try.func85 (by rfl) (by rfl) _ _) (fake_do n hn60 x hx _) (Kd.C_below h3 hW) l3 (Kd.C_below h4 hW) l4
  have hafter : ∀ w1 : World, Below ((w.alloc (.cells #[.int .i64 x.f0, .string x.f1, .string x.f2, .slice A3 x.f3.length c3, .slice A4 x.f4.length c4] 25 (0, 0))).alloc (.cells #[.int .i64 0, .string ⟨#[]⟩, .string ⟨#[]⟩, .slice none 0 0, .slice none 0 0] 25 (0, 0))).heap.size ((w.alloc (.cells #[.int .i64 x.f0, .string x.f1, .string x.f2, .slice A3 x.f3.length c3, .slice A4 x.f4.length c4] 25 (0, 0))).alloc (.cells #[.int .i64 0, .string ⟨#[]⟩, .string ⟨#[]⟩, .slice none 0 0, .slice none 0 0] 25 (0, 0))) w1 → w1.heap[w.heap.size + 1]? = some (.cells #[.int .i64 0, .string ⟨#[]⟩, .string ⟨#[]⟩, .slice none 0 0, .slice none 0 0] 25 (0, 0)) ∧ Below w.heap.size w w1 ∧ w.heap.size + 2 ≤ w1.heap.size := fun w1 hb => ⟨(hb.block _ (by omega)).trans hrv, below_then hW (by omega) hb, by have := hb.size; omega⟩
  have HCALL := Lib.hid hcall
  have HAFT := Lib.hid hafter
  have HSZ := Lib.hid hsz
  clear hW hsz hrv hcall hafter h3 h4
  go_enter Try.func40, Try.ntmps40
  go_wp2_with (go_at_call 73; refine HCALL.out.mono ?_; rintro e w1 ⟨y, hq, A5, c5, A6, c6, rfl, htl, hb⟩; obtain ⟨hr1, hB1, hs1⟩ := HAFT.out w1 hb; obtain ⟨r0, f0⟩ := out_cell hr1 0; obtain ⟨r1, f1⟩ := out_cell hr1 1; obtain ⟨r2, f2⟩ := out_cell hr1 2; obtain ⟨r3, f3⟩ := out_cell hr1 3; obtain ⟨r4, f4⟩ := out_cell hr1 4; simp only [List.getElem?_toArray, List.getElem?_cons_succ, List.getElem?_cons_zero] at r0 r1 r2 r3 r4; have HR1 := Lib.hid hr1; have HB1 := Lib.hid hB1; have HQ := Lib.hid hq; have HTL := Lib.hid htl; clear hr1 hB1 hq htl hb)
  obtain ⟨e4, hg, hsz2⟩ := put5 (.int .i64 y.f0) (.string y.f1) (.string y.f2) (.slice A5 y.f3.length c5) (.slice A6 y.f4.length c6) HR1.out
  refine bodyPost_ret (results_cell_row rfl _ _ (w.heap.size + 1) 25 #[.int .i64 y.f0, .string y.f1, .string y.f2, .slice A5 y.f3.length c5, .slice A6 y.f4.length c6] (0, 0) _ rfl e4 Try.underlying25 rfl (by kernel_rfl)) rfl ?_
  refine ⟨y, HQ.out, A5, c5, A6, c6, rfl, fun W hW => HTL.out W fun z hz1 hz2 => ?_, HB1.out.grown hg HB1.out.size (fun z hz => by have := Option.some.inj hz; omega)⟩
  have h7 := HSZ.out
  rw [hW z (by omega) (by omega)]
  exact hg.block z hz2 (fun e => by have := Option.some.inj e; omega)
end Go.Proofs.Ytlallihdiffheaa.Hand
