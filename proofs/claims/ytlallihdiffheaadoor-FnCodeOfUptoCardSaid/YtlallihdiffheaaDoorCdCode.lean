/- commonmark.getCodeWithoutTags by hand: a code element that has texts alone: these, one behind the other, and its language. -/
import Derived.Test.YtlallihdiffheaaDoorCdLang
import Derived.Test.YtlallihdiffheaaDoorCdShelf
import Derived.Test.YtlallihdiffheaaDoorGuard
import Derived.OneCell
import Derived.Lib.OthersKept
import Derived.Deep.LoopGhost
import Derived.Laws.EntriesVeiled
namespace Go.Proofs.YtlallihdiffheaaDoor.Hand
open Go.RowKit Go.Proofs.YtlallihdiffheaaDoorW.PrintWords Go.Proofs.YtlallihdiffheaaDoorW.PrintLast Go.Proofs.YtlallihdiffheaaDoorW.PrintMore Go.Proofs.YtlallihdiffheaaDoor.GCo
set_option linter.unusedVariables false
set_option linter.unusedSimpArgs false

def cloC (bb : Nat) : Value := .func (.func 83) #[] #[.pointer (some ⟨bb + 1, 0, none⟩), .pointer (some ⟨bb, 0, none⟩), .pointer (some ⟨bb + 1 + 1, 0, none⟩)]
/-- What the finder keeps: the buffer, the language, itself. -/
structure Cs (H : NMap) (bb : Nat) (l : List UInt8) (info : ByteArray) (w0 w : World) : Prop where
  buf : Lib.IsBuffer 105 5 bb bb (Lib.byteCells l) w
  holds : Holds w H
  info : w.heap[bb + 1]? = some (.cells #[.string info] 9 (0, 0))
  fin : w.heap[bb + 1 + 1]? = some (.cells #[cloC bb] 64 (0, 0))
  below : Below bb w0 w
theorem holds_others {w w' : World} {H : NMap} {bb : Nat} (h : Holds w H) (hb : ∃ cs, w.heap[bb]? = some (.cells cs 105 (0, 0))) (ho : Lib.OthersKept 5 (some bb) w w') : Holds w' H := by
  obtain ⟨cb, hcb⟩ := hb
  refine ⟨fun b r hr => ?_, fun b r hr => ?_⟩
  · refine ho b _ (h.node b r hr) (fun e => ?_) (fun c fz e => ?_)
    · have e2 := Option.some.inj e
      have h1 := h.node b r hr
      rw [e2, hcb] at h1
      simp at h1
    · simp at e
  · refine (h.attrs b r hr).keep fun g hg => ?_
    obtain ⟨c, hc⟩ := (h.attrs b r hr).block hg
    refine (ho g _ hc (fun e => ?_) (fun c fz e => ?_)).trans hc.symm
    · have e2 := Option.some.inj e
      rw [e2, hcb] at hc
      simp at hc
    · simp at e
theorem Cs.below2 {H : NMap} {bb : Nat} {l : List UInt8} {info : ByteArray} {w0 w w' : World} (h : Cs H bb l info w0 w) (hbb : bb ≤ w0.heap.size) (hb : Below w.heap.size w w') : Cs H bb l info w0 w' := by
  obtain ⟨⟨hB, v, lr, hk, ho, hn⟩, hh, hi, hf, hbel⟩ := h
  refine ⟨⟨hB, v, lr, (hb.block bb (Lib.lt_of_heap hk)).trans hk, pw_own_below ho hb, hn⟩, hh.below hb, (hb.block _ (Lib.lt_of_heap hi)).trans hi, (hb.block _ (Lib.lt_of_heap hf)).trans hf, hbel.trans (hb.mono (Nat.le_trans hbb hbel.size))⟩
/-- One more text in the buffer. -/
theorem ws_any {H : NMap} {bb : Nat} {l : List UInt8} {info : ByteArray} {w0 w : World} (s : ByteArray) (h : Cs H bb l info w0 w) (hbb : bb ≤ w0.heap.size) (hl : l.length + s.size ≤ 100000000) :
    Calls Tryd.prog 85 #[.pointer (some ⟨bb, 0, none⟩), .string s] w fun e w' => e = .returned (.tuple #[.int .i64 s.size, .nilIface]) ∧ Cs H bb (l ++ s.data.toList) info w0 w' := by
  have hsz := h.below.size
  refine (Buffer_WriteString_kept bb bb (Lib.byteCells l) s w h.buf (by omega) (Lib.byteCells_one l) (by simp [Lib.byteCells]; omega)).mono ?_
  rintro e w' ⟨h1, h2, h3, h4⟩
  have e1 : Lib.byteCells l ++ Lib.byteCells s.data.toList = Lib.byteCells (l ++ s.data.toList) := by simp [Lib.byteCells]
  have hb : ∃ cs, w.heap[bb]? = some (.cells cs 105 (0, 0)) := by
    obtain ⟨_, v, lr, hk, _⟩ := h.buf
    exact ⟨_, hk⟩
  refine ⟨h1, by rw [← e1]; exact h2, holds_others h.holds hb h4, ?_, ?_, h.below.trans h3⟩
  · exact h4 _ _ h.info (fun e => by have := Option.some.inj e; omega) (fun c fz e => by simp at e)
  · exact h4 _ _ h.fin (fun e => by have := Option.some.inj e; omega) (fun c fz e => by simp at e)
theorem ptr_form (o : Option Nat) : ∃ u, ptrV o = .pointer u := by cases o <;> exact ⟨_, rfl⟩
def codeB : ByteArray := ⟨#[99, 111, 100, 101]⟩
set_option maxRecDepth 100000 in
set_option maxHeartbeats 3200000 in
theorem code_text {H : NMap} {bb : Nat} {l : List UInt8} {info : ByteArray} {w0 w : World} (h : Cs H bb l info w0 w) (hbb : bb ≤ w0.heap.size) {c : Nat} {par f lst v x : Option Nat} {q : Pay} (hc : H c = some ⟨par, f, lst, v, x, q⟩) (ht : q.type = 1) (hl : l.length + q.data.size ≤ 100000000) :
    Calls Tryd.prog 83 #[.pointer (some ⟨c, 0, none⟩), .pointer (some ⟨bb + 1, 0, none⟩), .pointer (some ⟨bb, 0, none⟩), .pointer (some ⟨bb + 1 + 1, 0, none⟩)] w fun e w' => e = .returned (.tuple #[]) ∧ Cs H bb (l ++ q.data.data.toList) info w0 w' := by
  obtain ⟨b0, b1, b2, b3, b4, b5, b6, b7, b9⟩ := h.holds.opened hc
  have hcl := h.holds.lt hc
  have HWS := Lib.hid (ws_any q.data h hbb hl)
  rw [ht] at b5
  clear h hc ht hl
  go_enter Tryd.func83, Tryd.ntmps83
  go_wp2_with (go_at_call 85; refine HWS.out.mono ?_; rintro e w1 ⟨rfl, hcs⟩; have HCS := Lib.hid hcs; clear hcs)
  exact bodyPost_ret (results_none rfl _ _ _) rfl ⟨rfl, HCS.out⟩
/-- Texts alone; what they say together. -/
def TextsF : F Pay → Prop
  | .nil => True
  | .node _ p k r => p.type = 1 ∧ k = .nil ∧ TextsF r
def catF : F Pay → List UInt8
  | .nil => []
  | .node _ p _ r => p.data.data.toList ++ catF r
theorem catF_app : ∀ (a g : F Pay), catF (a.app g) = catF a ++ catF g
  | .nil, g => rfl
  | .node b p k r, g => by
    simp only [F.app, catF, catF_app r g, List.append_assoc]
set_option maxRecDepth 100000 in
set_option maxHeartbeats 6400000 in
theorem code_elem {H : NMap} {bb : Nat} {w0 w : World} (h : Cs H bb [] ⟨#[]⟩ w0 w) (hbb : bb ≤ w0.heap.size) {c : Nat} {par v x : Option Nat} {q : Pay} {k : F Pay} (hs : Sits H par v x (.node c q k .nil)) (ht : q.type = 3) (hd : q.data = codeB)
    (lang : ByteArray) (hl : lang.size ≤ 1048576) (h45 : (45 : UInt8) ∉ lang.data.toList) (h32 : (32 : UInt8) ∉ lang.data.toList) (hq : seek classK q.attrs = some (lgP ++ lang)) (hk : TextsF k) (hlen : (catF k).length ≤ 100000000) :
    Calls Tryd.prog 83 #[.pointer (some ⟨c, 0, none⟩), .pointer (some ⟨bb + 1, 0, none⟩), .pointer (some ⟨bb, 0, none⟩), .pointer (some ⟨bb + 1 + 1, 0, none⟩)] w fun e w' => e = .returned (.tuple #[]) ∧ Cs H bb (catF k) lang w0 w' := by
  have hent : ∀ (a : Nat) (W : World), (callFunc 83 #[.pointer (some ⟨a, 0, none⟩), .pointer (some ⟨bb + 1, 0, none⟩), .pointer (some ⟨bb, 0, none⟩), .pointer (some ⟨bb + 1 + 1, 0, none⟩)]).run Tryd.prog W = .ok (.enter 83 #[.pointer (some ⟨a, 0, none⟩), .pointer (some ⟨bb + 1, 0, none⟩), .pointer (some ⟨bb, 0, none⟩), .pointer (some ⟨bb + 1 + 1, 0, none⟩)]) W :=
    fun a W => enters Tryd.func83 (by rfl) (by rfl) _ _
  obtain ⟨b0, b1, b2, b3, b4, b5, b6, b7, b9⟩ := h.holds.opened hs.1
  have hcl := h.holds.lt hs.1
  have hbl := Lib.lt_of_heap h.info
  obtain ⟨i0, f0⟩ := out_cell h.info 0
  simp only [List.getElem?_toArray, List.getElem?_cons_zero] at i0
  have HI0 := Lib.hid h.info
  have HLA := Lib.hid (language_any h.holds hs.1 lang hl h45 h32 hq)
  rw [ht] at b5
  rw [hd, show codeB = (⟨#[99, 111, 100, 101]⟩ : ByteArray) from rfl] at b7
  obtain ⟨u, hu⟩ := ptr_form (k.headOr none)
  -- behind the language: the cells of the node, the state
  have hne : c ≠ bb + 1 := fun e => by
    have h1 := h.holds.node _ _ hs.1
    rw [e, h.info] at h1
    simp at h1
  have hne2 : bb + 1 ≠ c := fun e => hne e.symm
  have hafter : ∀ w1, Below w.heap.size w w1 → Cs H bb [] lang w0 (w1.setCell ⟨bb + 1, 0, none⟩ (.string lang)) := fun w1 hb => by
    have h1 := h.below2 hbb hb
    obtain ⟨⟨hB, v, lr, hkk, ho, hn⟩, hh, hi, hf, hbel⟩ := h1
    have hset : ∀ z, z ≠ bb + 1 → (w1.setCell ⟨bb + 1, 0, none⟩ (.string lang)).heap[z]? = w1.heap[z]? := fun z hz => Below.heap_setCell w1 ⟨bb + 1, 0, none⟩ (.string lang) z hz
    refine ⟨⟨hB, v, lr, by rw [hset bb (by omega)]; exact hkk, ?_, hn⟩, ?_, ?_, by rw [hset _ (by omega)]; exact hf, ?_⟩
    · refine own_move ho fun g hg => hset g fun e => ?_
      obtain ⟨c2, hc2⟩ := own_typed ho g hg
      rw [e, hi] at hc2
      simp at hc2
    · refine ⟨fun b r hr => ?_, fun b r hr => ?_⟩
      · rw [hset b (fun e => by have h3 := hh.node b r hr; rw [e, hi] at h3; simp at h3)]
        exact hh.node b r hr
      · refine (hh.attrs b r hr).keep fun g hg => hset g fun e => ?_
        obtain ⟨c2, hc2⟩ := (hh.attrs b r hr).block hg
        rw [e, hi] at hc2
        simp at hc2
    · exact one_setCell hi
    · exact hbel.setCell (Nat.le_succ _) _
  have HAF := Lib.hid hafter
  have HH := Lib.hid h
  have HS := Lib.hid hs
  have HK := Lib.hid (And.intro hk hlen)
  have HU := Lib.hid hu
  rw [hu] at b1
  clear hafter h hs hk hlen hu hl h45 h32 hq ht hd
  go_enter Tryd.func83, Tryd.ntmps83
  go_wp2_with (go_at_call 84; refine HLA.out.mono ?_; rintro e w1 ⟨rfl, hb⟩; obtain ⟨j0, k0⟩ := out_cell ((hb.block (bb + 1) hbl).trans HI0.out) 0; simp only [List.getElem?_toArray, List.getElem?_cons_zero] at j0; have d1 := (hb.cell (p := ⟨c, 1, none⟩) hcl).trans b1; have d5 := (hb.cell (p := ⟨c, 5, none⟩) hcl).trans b5; have d7 := (hb.cell (p := ⟨c, 7, none⟩) hcl).trans b7; have HB := Lib.hid hb; clear hb)
  have hc1 := HAF.out w1 HB.out
  have HCS := Lib.hid hc1
  clear hc1 i0 j0 d1 d5 d7
  go_loopg [5] k.len (fun gk c0 wr => ∃ (k0 rest : F Pay), c0 = ptrV (rest.headOr none) ∧ gk = rest.len ∧ k = k0.app rest ∧ TextsF rest ∧ catF k = catF k0 ++ catF rest ∧ Cs H bb (catF k0) lang w0 wr)
  case atStart => exact ⟨.nil, k, by rw [HU.out], rfl, rfl, HK.out.1, rfl, HCS.out⟩
  case round =>
    obtain ⟨k0, rest, rfl, rfl, hkk, htr, hcat, hcs⟩ := hrel
    obtain ⟨i1, -⟩ := out_cell hcs.fin 0
    simp only [List.getElem?_toArray, List.getElem?_cons_zero, cloC] at i1
    rcases headOr_cases rest with hg | ⟨d, dq, dk, r, hg⟩
    · subst hg
      simp only [show ptrV ((F.nil : F Pay).headOr none) = .pointer none from rfl]
      have HX := Lib.hid (And.intro hcs hcat)
      clear hcs hcat hkk htr
      go_wp2
      go_end0
      refine ⟨rfl, ?_⟩
      have h2 := HX.out.2
      simp only [catF, List.append_nil] at h2
      rw [h2]
      exact HX.out.1
    · subst hg
      simp only [show ptrV ((F.node d dq dk r).headOr none) = .pointer (some ⟨d, 0, none⟩) from rfl]
      have hss := HS.out.2.1
      rw [hkk] at hss
      obtain ⟨-, hd, -, -⟩ := (sits_app H k0 _ _ _ _).1 hss
      obtain ⟨u4, hu4⟩ := ptr_form (r.headOr none)
      have hlen2 : (catF k0).length + dq.data.size ≤ 100000000 := by
        have h1 := HK.out.2
        rw [hcat] at h1
        simp only [catF, List.length_append, Array.length_toList] at h1
        show (catF k0).length + dq.data.data.size ≤ _
        omega
      have HT := Lib.hid (code_text hcs hbb hd htr.1 hlen2)
      have HX := Lib.hid (And.intro hkk (And.intro htr hcat))
      have HD := Lib.hid hd
      have HU4 := Lib.hid hu4
      clear hcs hcat hkk htr hss hd hu4 hlen2
      go_wp2_with (refine HT.out.mono ?_; rintro e w3 ⟨rfl, hcs3⟩; have c4 := (hcs3.holds.opened HD.out).2.2.2.2.1; rw [HU4.out] at c4; have HC3 := Lib.hid hcs3; clear hcs3)
      go_roundg r.len
      case measure => simp [F.len]
      case rel =>
        obtain ⟨hkk, htr, hcat⟩ := HX.out
        refine ⟨k0.app (.node d dq dk .nil), r, by rw [HU4.out], rfl, by rw [F.app_assoc]; exact hkk, htr.2.2, ?_, ?_⟩
        · rw [hcat, catF_app]
          simp [catF]
        · rw [catF_app]
          simp only [catF, List.append_nil]
          exact HC3.out
set_option maxRecDepth 100000 in
set_option maxHeartbeats 6400000 in
/-- A text's bytes out of a row of a buffer's own. -/
theorem codeWithout_any {H : NMap} {w : World} (hw : Holds w H) {c : Nat} {par v x : Option Nat} {q : Pay} {k : F Pay} (hs : Sits H par v x (.node c q k .nil)) (ht : q.type = 3) (hd : q.data = codeB)
    (lang : ByteArray) (hl : lang.size ≤ 1048576) (h45 : (45 : UInt8) ∉ lang.data.toList) (h32 : (32 : UInt8) ∉ lang.data.toList) (hq : seek classK q.attrs = some (lgP ++ lang)) (hk : TextsF k) (hlen : (catF k).length ≤ 100000000) :
    Calls Tryd.prog 62 #[.pointer (some ⟨c, 0, none⟩)] w fun e w' => ∃ v, e = .returned (.tuple #[v, .string lang]) ∧ w'.ownsRow w.heap.size 5 1 v (catF k).length (Lib.byteCells (catF k)) ∧ Below w.heap.size w w' := by
  have hent : ∀ (bb a : Nat) (W : World), (callFunc 83 #[.pointer (some ⟨a, 0, none⟩), .pointer (some ⟨bb + 1, 0, none⟩), .pointer (some ⟨bb, 0, none⟩), .pointer (some ⟨bb + 1 + 1, 0, none⟩)]).run Tryd.prog W = .ok (.enter 83 #[.pointer (some ⟨a, 0, none⟩), .pointer (some ⟨bb + 1, 0, none⟩), .pointer (some ⟨bb, 0, none⟩), .pointer (some ⟨bb + 1 + 1, 0, none⟩)]) W :=
    fun bb a W => enters Tryd.func83 (by rfl) (by rfl) _ _
  have hmf : ∀ (fn : Fn) (first cap : Array Value) (w : World), (Instr.makeFunc fn first cap).run Tryd.prog w = .ok (.func fn first cap) w := fun _ _ _ _ => rfl
  obtain ⟨W, hW⟩ : ∃ W, W = (((w.alloc (.cells #[.slice none 0 0, .int .i64 0, .int .i8 0] 105 (0, 0))).alloc (.cells #[.string ⟨#[]⟩] 9 (0, 0))).alloc (.cells #[.func (.func 83) #[] #[.pointer (some ⟨w.heap.size + 1, 0, none⟩), .pointer (some ⟨w.heap.size, 0, none⟩), .pointer (some ⟨w.heap.size + 1 + 1, 0, none⟩)]] 64 (0, 0))) := ⟨_, rfl⟩
  have hbel : Below w.heap.size w W := by rw [hW]; exact below_alloc (below_alloc (below_alloc (Below.refl _ _) _) _) _
  have g0 : W.heap[w.heap.size]? = some (.cells #[.slice none 0 0, .int .i64 0, .int .i8 0] 105 (0, 0)) := by
    rw [hW, Below.heap_alloc _ _ _ (by simp only [World.size_alloc]; omega), Below.heap_alloc _ _ _ (by simp only [World.size_alloc]; omega)]
    exact heap_alloc_new _ _
  have g1 : W.heap[w.heap.size + 1]? = some (.cells #[.string ⟨#[]⟩] 9 (0, 0)) := by
    rw [hW, Below.heap_alloc _ _ _ (by simp only [World.size_alloc]; omega), ← World.size_alloc w]
    exact heap_alloc_new _ _
  have g2 : W.heap[w.heap.size + 1 + 1]? = some (.cells #[cloC w.heap.size] 64 (0, 0)) := by
    have h := heap_alloc_new ((w.alloc (.cells #[.slice none 0 0, .int .i64 0, .int .i8 0] 105 (0, 0))).alloc (.cells #[.string ⟨#[]⟩] 9 (0, 0))) (.cells #[cloC w.heap.size] 64 (0, 0))
    rw [World.size_alloc, World.size_alloc] at h
    rw [hW]
    exact h
  have hcs0 : Cs H w.heap.size [] ⟨#[]⟩ w W := ⟨⟨Nat.le_refl _, .slice none 0 0, 0, g0, World.ownsRow_nil _ _ _ _, by simp [Value.ownBlock]⟩, hw.below hbel, g1, g2, hbel⟩
  have HX := Lib.hid (code_elem hcs0 (Nat.le_refl _) hs ht hd lang hl h45 h32 hq hk hlen)
  have HW := Lib.hid hW
  clear hw hs ht hd hl h45 h32 hq hk hlen hcs0 g0 g1 g2 hbel hW
  rw [HW.out] at HX
  clear HW
  go_enter Tryd.func62, Tryd.ntmps62
  go_wp2_with (refine HX.out.mono ?_; rintro e w1 ⟨rfl, hcs⟩; have hi := (out_cell hcs.info 0).1; simp only [List.getElem?_toArray, List.getElem?_cons_zero] at hi; have HI := Lib.hid (fun m => show (w1.drewN m).cell? ⟨w.heap.size + 1, 0, none⟩ = some (.string lang) from hi); have hcd := hcs.below2 (Nat.le_refl _) (Below.refl _ _).drew; have hby := Buffer_Bytes w.heap.size w.heap.size (Lib.byteCells (catF k)) w1.drew hcd.buf; have HBY := Lib.hid hby; have HCS := Lib.hid hcd; clear hby hi hcs hcd)
  refine start_ (n := 4) (S := fun W' => W'.cell? ⟨w.heap.size + 1, 0, none⟩ = some (.string lang)) (ds := []) #[false, false, false, false] rfl rfl rfl (HI.out 1) (fun hHeld => ?_)
  refine take_ (i := 1) (N := some 12) (v := ?_) (a' := ?_) #[false, true, false, false] rfl rfl (by kernel_rfl) (fun _ _ _ h => h) (Or.inl ⟨by rfl, ?_⟩) hHeld ?_ ?_
  rotate_left
  · rintro w' s0_
    go_simp
    with_reducible rfl
  rotate_left
  · simp only [Act.put, List.setIfInBounds_toArray, List.set_cons_zero, List.set_cons_succ]
    rfl
  refine one_ (i := 0) (N := some 11) #[true, true, false, false] rfl rfl (by kernel_rfl) (by decide) (fun K hK => ?_)
  go_simp
  refine HBY.out.mono ?_
  rintro e w3 ⟨v, rfl, hown, n, rfl⟩
  have HO := Lib.hid hown
  clear hown
  refine hK.out _ _ ?_ (fun hHeld => ?_)
  · exact HI.out (n + 1)
  clear hK K
  try simp only [Act.put, List.setIfInBounds_toArray, List.set_cons_zero, List.set_cons_succ]
  refine pure_ (i := 2) (N := some 2) (v := ?_) (a' := ?_) #[true, true, true, false] rfl rfl (by kernel_rfl) (fun _ _ _ h => h) (Or.inl ⟨by rfl, ?_⟩) ?_ ?_
  rotate_left
  · intro w'
    go_simp
    with_reducible rfl
  rotate_left
  · simp only [Act.put, List.setIfInBounds_toArray, List.set_cons_zero, List.set_cons_succ]
    rfl
  refine pure_ (i := 3) (N := some 3) (v := ?_) (a' := ?_) #[true, true, true, true] rfl rfl (by kernel_rfl) (fun _ _ _ h => h) (Or.inl ⟨by rfl, ?_⟩) ?_ ?_
  rotate_left
  · intro w'
    go_simp
    with_reducible rfl
  rotate_left
  · simp only [Act.put, List.setIfInBounds_toArray, List.set_cons_zero, List.set_cons_succ]
    rfl
  refine done_ (by kernel_rfl) ?_
  go_wp2
  go_ret2
  refine ⟨v, rfl, ?_, ?_⟩
  · have h := HO.out
    rwa [show (Lib.byteCells (catF k)).length = (catF k).length by simp [Lib.byteCells]] at h
  · exact pw_below_drewN HCS.out.below n
end Go.Proofs.YtlallihdiffheaaDoor.Hand
