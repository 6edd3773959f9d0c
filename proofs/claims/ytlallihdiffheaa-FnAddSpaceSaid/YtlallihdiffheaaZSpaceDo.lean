import Derived.Test.YtlallihdiffheaaZFind
import Derived.Deep.CutRange
section
/- Texts with blanks put ahead and behind: on the map, on the forest; the forest's shape is the same. Plain, no program in sight. -/
namespace Go.Proofs.Ytlallihdiffheaa.Dom
open Go.RowKit Go.Proofs.YtlallihdiffheaaW.PrintWords Go.Proofs.YtlallihdiffheaaW.PrintLast Go.Proofs.YtlallihdiffheaaW.PrintMore Go.Proofs.Ytlallihdiffheaa.GT Go.Proofs.Ytlallihdiffheaa.Hand
set_option linter.unusedVariables false
set_option linter.unusedSimpArgs false

def Spaced (t : Nat) (d d' : ByteArray) : Prop := ∃ a b : Nat, a + b ≤ t ∧ d'.data.toList = List.replicate a 32 ++ d.data.toList ++ List.replicate b 32
theorem Spaced.refl (t : Nat) (d : ByteArray) : Spaced t d d := ⟨0, 0, Nat.zero_le _, by simp⟩
theorem Spaced.mono {t u : Nat} {d d' : ByteArray} (h : Spaced t d d') (hu : t ≤ u) : Spaced u d d' := by
  obtain ⟨a, b, h1, h2⟩ := h
  exact ⟨a, b, by omega, h2⟩
theorem data_append (a b : ByteArray) : (a ++ b).data.toList = a.data.toList ++ b.data.toList := by simp
theorem Spaced.behind {t : Nat} {d d' : ByteArray} (h : Spaced t d d') : Spaced (t + 1) d (d' ++ ⟨#[32]⟩) := by
  obtain ⟨a, b, h1, h2⟩ := h
  refine ⟨a, b + 1, by omega, ?_⟩
  rw [data_append, h2, List.replicate_succ', List.append_assoc (_ ++ _)]
theorem Spaced.ahead {t : Nat} {d d' : ByteArray} (h : Spaced t d d') : Spaced (t + 1) d (⟨#[32]⟩ ++ d') := by
  obtain ⟨a, b, h1, h2⟩ := h
  refine ⟨a + 1, b, by omega, ?_⟩
  rw [data_append, h2, List.replicate_succ]
  rfl
theorem Spaced.size {t : Nat} {d d' : ByteArray} (h : Spaced t d d') : d.size ≤ d'.size ∧ d'.size ≤ d.size + t := by
  obtain ⟨a, b, h1, h2⟩ := h
  have h3 := congrArg List.length h2
  simp only [List.length_append, List.length_replicate, Array.length_toList] at h3
  show d.data.size ≤ d'.data.size ∧ d'.data.size ≤ d.data.size + t
  omega
/-- Some texts of a map have got blanks. -/
def BlkH (t : Nat) (H K : NMap) : Prop := ∀ c, K c = H c ∨ ∃ r d', H c = some r ∧ r.pay.type = 1 ∧ Spaced t r.pay.data d' ∧ K c = some { r with pay := { r.pay with data := d' } }
theorem BlkH.refl (t : Nat) (H : NMap) : BlkH t H H := fun c => .inl rfl
theorem BlkH.none {t : Nat} {H K : NMap} (h : BlkH t H K) (c : Nat) (hc : H c = none) : K c = none := by
  rcases h c with a | ⟨r, d', a1, _⟩
  · exact a.trans hc
  · rw [hc] at a1
    cases a1
theorem BlkH.mono {t u : Nat} {H K : NMap} (h : BlkH t H K) (hu : t ≤ u) : BlkH u H K := fun c => by
  rcases h c with a | ⟨r, d', a1, a2, a3, a4⟩
  · exact .inl a
  · exact .inr ⟨r, d', a1, a2, a3.mono hu, a4⟩
theorem BlkH.set {t : Nat} {H K : NMap} (h : BlkH t H K) {c : Nat} {r : NRec} (hc : K c = some r) (ht : r.pay.type = 1) (d2 : ByteArray) (hd : ∀ d : ByteArray, Spaced t d r.pay.data → Spaced (t + 1) d d2) : BlkH (t + 1) H (upd K c { r with pay := { r.pay with data := d2 } }) := by
  intro x
  by_cases e : x = c
  · subst e
    rw [upd_same]
    rcases h x with a | ⟨r', d', a1, a2, a3, a4⟩
    · rw [hc] at a
      exact .inr ⟨r, d2, a.symm, ht, hd _ (Spaced.refl _ _), rfl⟩
    · rw [hc] at a4
      obtain rfl := Option.some.inj a4
      exact .inr ⟨r', d2, a1, a2, hd _ a3, rfl⟩
  · rw [upd_other _ _ e]
    exact h.mono (Nat.le_succ _) x
/-- Some texts of a forest have got blanks. -/
def Blk (t : Nat) : F Pay → F Pay → Prop
  | .nil, .nil => True
  | .node b p k r, .node b' p' k' r' => b = b' ∧ (p' = p ∨ (p.type = 1 ∧ ∃ d', Spaced t p.data d' ∧ p' = { p with data := d' })) ∧ Blk t k k' ∧ Blk t r r'
  | _, _ => False
theorem Blk.heads {t : Nat} : ∀ {f f' : F Pay}, Blk t f f' → (∀ d, f'.headOr d = f.headOr d) ∧ f'.len = f.len ∧ f'.blocks = f.blocks
  | .nil, .nil, _ => ⟨fun _ => rfl, rfl, rfl⟩
  | .node b p k r, .node b' p' k' r', h => by
    obtain ⟨rfl, _, h1, h2⟩ := h
    exact ⟨fun _ => rfl, by simp only [F.len, h2.heads.2.1], by simp only [F.blocks, h1.heads.2.2, h2.heads.2.2]⟩
theorem blk_root {t c : Nat} {q : Pay} {ck f' : F Pay} (h : Blk t (.node c q ck .nil) f') : ∃ q' ck', f' = .node c q' ck' .nil := by
  cases f' with
  | nil => exact h.elim
  | node b' p' k' r' =>
    obtain ⟨rfl, _, _, h2⟩ := h
    cases r' with
    | nil => exact ⟨p', k', rfl⟩
    | node _ _ _ _ => exact h2.elim
theorem Blk.last {t : Nat} : ∀ {f f' : F Pay}, Blk t f f' → ∀ d, f'.lastOr d = f.lastOr d
  | .nil, .nil, _, d => rfl
  | .node b p k r, .node b' p' k' r', h, d => by
    obtain ⟨rfl, _, h1, h2⟩ := h
    simp only [F.lastOr]
    exact h2.last _
theorem Blk.type {t : Nat} {p p' : Pay} (h : p' = p ∨ (p.type = 1 ∧ ∃ d', Spaced t p.data d' ∧ p' = { p with data := d' })) : p'.type = p.type := by
  rcases h with rfl | ⟨_, _, _, rfl⟩ <;> rfl
theorem Blk.neat {t : Nat} : ∀ {f f' : F Pay}, Blk t f f' → Neat f → Neat f'
  | .nil, .nil, _, _ => trivial
  | .node b p k r, .node b' p' k' r', h, hn => by
    obtain ⟨rfl, hp, h1, h2⟩ := h
    have ht := Blk.type hp
    have hk : k = .nil → k' = .nil := by
      intro e
      subst e
      cases k' with
      | nil => rfl
      | node _ _ _ _ => exact h1.elim
    refine ⟨?_, h1.neat hn.2.1, h2.neat hn.2.2⟩
    rw [ht]
    rcases hn.1 with ⟨a, e⟩ | ⟨a, e⟩ | a | a
    · exact .inl ⟨a, hk e⟩
    · exact .inr (.inl ⟨a, hk e⟩)
    · exact .inr (.inr (.inl a))
    · exact .inr (.inr (.inr a))
theorem Blk.plain {t : Nat} : ∀ {f f' : F Pay}, Blk t f f' → Plain f → Plain f'
  | .nil, .nil, _, _ => trivial
  | .node b p k r, .node b' p' k' r', h, hn => by
    obtain ⟨rfl, hp, h1, h2⟩ := h
    refine ⟨?_, h1.plain hn.2.1, h2.plain hn.2.2⟩
    rcases hp with rfl | ⟨_, _, _, rfl⟩
    · exact hn.1
    · exact hn.1
theorem blk_sits {t : Nat} {H K : NMap} (hr : BlkH t H K) : ∀ (f : F Pay) (par prev next : Option Nat), Sits H par prev next f → ∃ f', Blk t f f' ∧ Sits K par prev next f'
  | .nil, par, prev, next, _ => ⟨.nil, trivial, trivial⟩
  | .node b p k r, par, prev, next, h => by
    obtain ⟨h1, h2, h3⟩ := h
    obtain ⟨k', a1, a2⟩ := blk_sits hr k _ _ _ h2
    obtain ⟨r', b1, b2⟩ := blk_sits hr r _ _ _ h3
    rcases hr b with e | ⟨q, d', e1, e2, e3, e4⟩
    · refine ⟨.node b p k' r', ⟨rfl, .inl rfl, a1, b1⟩, ?_, a2, b2⟩
      rw [e, h1, a1.heads.1, a1.last, b1.heads.1]
    · rw [h1] at e1
      obtain rfl := Option.some.inj e1
      refine ⟨.node b { p with data := d' } k' r', ⟨rfl, .inr ⟨e2, d', e3, rfl⟩, a1, b1⟩, ?_, a2, b2⟩
      rw [e4, a1.heads.1, a1.last, b1.heads.1]
/-- The shape alone. -/
def stp (p : Pay) : Pay := ⟨p.type, 0, ⟨#[]⟩, .slice none 0 0, []⟩
def strip : F Pay → F Pay
  | .nil => .nil
  | .node b p k r => .node b (stp p) (strip k) (strip r)
theorem Blk.strip {t : Nat} : ∀ {f f' : F Pay}, Blk t f f' → strip f' = strip f
  | .nil, .nil, _ => rfl
  | .node b p k r, .node b' p' k' r', h => by
    obtain ⟨rfl, hp, h1, h2⟩ := h
    simp only [Dom.strip, h1.strip, h2.strip, stp, Blk.type hp]
theorem strip_blocks : ∀ f : F Pay, (strip f).blocks = f.blocks
  | .nil => rfl
  | .node b p k r => by simp only [strip, F.blocks, strip_blocks k, strip_blocks r]
theorem strip_drop : ∀ (f : F Pay) (i : Nat), (strip f).dropF i = strip (f.dropF i)
  | .nil, i => by rw [strip, F.dropF_nil]; rfl
  | .node b p k r, 0 => rfl
  | .node b p k r, i + 1 => strip_drop r i
theorem strip_take : ∀ (f : F Pay) (i : Nat), (strip f).takeF i = strip (f.takeF i)
  | .nil, i => by cases i <;> rfl
  | .node b p k r, 0 => rfl
  | .node b p k r, i + 1 => by
    simp only [strip, F.takeF, strip_take r i]
theorem strip_row (e : Bool) : ∀ (f : F Pay) (i : Nat), rowK e (strip f) i = rowK e f i
  | .nil, i => rfl
  | .node b p k r, i => by
    simp only [strip, rowK, stp, strip_row e r]
theorem strip_sub : ∀ (js : List Int) (b : Nat) (p : Pay) (k : F Pay), subF b (stp p) (strip k) js = (subF b p k js).map (fun t => (t.1, stp t.2.1, strip t.2.2))
  | [], b, p, k => rfl
  | i :: js, b, p, k => by
    rw [subF, subF]
    split
    · rfl
    · rw [strip_drop]
      cases k.dropF i.toNat with
      | nil => rfl
      | node c q ck r => exact strip_sub js c q ck
theorem strip_sib (fwd e : Bool) (b : Nat) (p : Pay) (k : F Pay) (js : List Int) : sibK fwd e b (stp p) (strip k) js = sibK fwd e b p k js := by
  unfold sibK
  cases js.getLast? with
  | none => rfl
  | some i =>
    rw [strip_sub]
    cases subF b p k js.dropLast with
    | none => rfl
    | some t =>
      obtain ⟨n, nq, nk⟩ := t
      simp only [Option.map_some, strip_drop, strip_take, strip_row]
theorem strip_up (fwd e : Bool) (b : Nat) (p : Pay) (k : F Pay) (js : List Int) : ∀ m, upK fwd e b (stp p) (strip k) js m = upK fwd e b p k js m
  | 0 => rfl
  | m + 1 => by rw [upK, upK, strip_sib, strip_up fwd e b p k js m]
theorem strip_near (ch : Option Bool) (fwd e : Bool) (b : Nat) (p : Pay) (k : F Pay) (js : List Int) (ck : F Pay) : nearK ch fwd e b (stp p) (strip k) js (strip ck) = nearK ch fwd e b p k js ck := by
  unfold nearK
  rw [strip_sib, strip_up]
  cases ch with
  | none => rfl
  | some e' => simp only [firstK, strip_row]
end Go.Proofs.Ytlallihdiffheaa.Dom
end
section
/- domutils.AddSpace by hand: some texts get blanks, and nothing else changes. -/
namespace Go.Proofs.Ytlallihdiffheaa.Dom
open Go.RowKit Go.Proofs.YtlallihdiffheaaW.PrintWords Go.Proofs.YtlallihdiffheaaW.PrintLast Go.Proofs.YtlallihdiffheaaW.PrintMore Go.Proofs.Ytlallihdiffheaa.GT Go.Proofs.Ytlallihdiffheaa.Hand
set_option linter.unusedVariables false
set_option linter.unusedSimpArgs false
set_option linter.unusedSectionVars false

theorem heft_sub : ∀ (js : List Int) (b : Nat) (p : Pay) (k r : F Pay) (c : Nat) (q : Pay) (ck : F Pay), subF b p k js = some (c, q, ck) → q.type = 1 → q.data.size ≤ heft (.node b p k r)
  | [], b, p, k, r, c, q, ck, h, hq => by
    simp only [subF, Option.some.injEq, Prod.mk.injEq] at h
    obtain ⟨_, rfl, _⟩ := h
    simp only [heft, hq, beq_self_eq_true, if_true]
    omega
  | i :: js, b, p, k, r, c, q, ck, h, hq => by
    simp only [subF] at h
    split at h
    · cases h
    · cases hd : k.dropF i.toNat with
      | nil => rw [hd] at h; cases h
      | node d dq dk dr =>
        rw [hd] at h
        obtain ⟨a, ha, _⟩ := F.dropF_split _ _ _ _ _ _ hd
        have h1 := heft_sub js d dq dk dr c q ck h hq
        have h2 := heft_app a (.node d dq dk dr)
        rw [← ha] at h2
        simp only [heft] at h1 h2 ⊢
        omega
theorem Blk.heft {t : Nat} : ∀ {f f' : F Pay}, Blk t f f' → Hand.heft f' ≤ Hand.heft f + t * f.blocks.length
  | .nil, .nil, _ => Nat.zero_le _
  | .node b p k r, .node b' p' k' r', h => by
    obtain ⟨rfl, hp, h1, h2⟩ := h
    have e1 := h1.heft
    have e2 := h2.heft
    have e3 : (if p'.type == 1 then p'.data.size else 0) ≤ (if p.type == 1 then p.data.size else 0) + t := by
      rcases hp with rfl | ⟨h1, d', hd, rfl⟩
      · omega
      · simp only [h1, beq_self_eq_true, if_true]
        exact hd.size.2
    have e4 : t * (F.node b p k r).blocks.length = t + t * k.blocks.length + t * r.blocks.length := by
      simp only [F.blocks, List.length_cons, List.length_append]
      rw [Nat.mul_add, Nat.mul_add, Nat.mul_one]
      omega
    rw [e4]
    simp only [Hand.heft]
    omega
/-- Names in a box, in a row of its own kind. -/
def BoxS (w : World) (bx : Nat) (ns : List ByteArray) : Prop := ∃ g c, w.heap[bx]? = some (boxNs (some ⟨g, 0, none⟩) ns.length c) ∧ w.heap[g]? = some (.cells (ns.map Value.string).toArray 9 (0, 0)) ∧ ns.length ≤ c ∧ ns.length ≤ 1000
theorem BoxS.keep {w w' : World} {bx : Nat} {ns : List ByteArray} (h : BoxS w bx ns) (hb : ∀ (k : Nat) (c : Array Value) (t : TypeId) (f : Nat × Nat), w.heap[k]? = some (.cells c t f) → t ≠ 115 → w'.heap[k]? = w.heap[k]?) : BoxS w' bx ns := by
  obtain ⟨g, c, h1, h2, h3, h4⟩ := h
  exact ⟨g, c, (hb _ _ _ _ h1 (by decide)).trans h1, (hb _ _ _ _ h2 (by decide)).trans h2, h3, h4⟩
theorem BoxS.below {w w' : World} {bx : Nat} {ns : List ByteArray} (h : BoxS w bx ns) (hb : Below w.heap.size w w') : BoxS w' bx ns := h.keep fun k c t f hk _ => hb.block k (lt_of_block hk)
theorem BoxS.stays {w w' : World} {H : NMap} {bx : Nat} {ns : List ByteArray} (h : BoxS w bx ns) (hw : Holds w H) (hs : Stays H w w') : BoxS w' bx ns := h.keep fun k c t f hk ht => hs.block k (lt_of_block hk) (hw.none_of_type hk ht)
theorem BoxS.matches {w : World} {bx : Nat} {ns : List ByteArray} (h : BoxS w bx ns) {K : NMap} {b : Nat} {p : Pay} {k : F Pay} (hw : Holds w K) (hs : Sits K none none none (.node b p k .nil)) (hn : Neat (.node b p k .nil)) : MatchC bx w b p k := by
  intro w1 hb js c q ck hsub
  obtain ⟨g, cc, h1, h2, h3, h4⟩ := h.below hb
  obtain ⟨par, prev, next, hL, hcn, -, -⟩ := lies hs hn _ js c q ck rfl hsub
  have hC : Kd.C Kd.string w1 (some ⟨g, 0, none⟩) ns.length ns := by
    refine ⟨rfl, by omega, fun _ => ⟨_, rfl, fun j s hj => ⟨[.string s], rfl, rfl, fun i u hu => ?_⟩⟩⟩
    cases i with
    | zero =>
      obtain rfl : Value.string s = u := by simpa using hu
      have hz : (Kd.string).sz = 1 := rfl
      rw [hz, Nat.mul_one, Nat.add_zero]
      have hjl := (List.getElem?_eq_some_iff.1 hj).1
      have ha : (⟨g, 0, none⟩ : Addr).add j = ⟨g, j, none⟩ := by by_cases h0 : j = 0 <;> simp [Addr.add, h0]
      rw [ha, (out_cell h2 j).1]
      simp [hj]
    | succ i => simp at hu
  refine (named_any ns h4 (hw.below hb) hL.here (neat_type hcn) (out_cell h1 0).1 hC h3).mono ?_
  rintro e w2 ⟨rfl, hb2⟩
  exact ⟨_, rfl, hb2⟩
/-- Where the work stands: some texts have got up to t blanks. -/
structure St (H : NMap) (w : World) (t : Nat) (K : NMap) (wr : World) : Prop where
  blk : BlkH t H K
  holds : Holds wr K
  stays : Stays H w wr
theorem St.below {H K : NMap} {w wr w2 : World} {t : Nat} (h : St H w t K wr) (hb : Below wr.heap.size wr w2) : St H w t K w2 := ⟨h.blk, h.holds.below hb, h.stays.trans (Stays.of_below hb)⟩
theorem St.open {H K : NMap} {w wr : World} {t : Nat} (h : St H w t K wr) {b : Nat} {p : Pay} {k : F Pay} (hs : Sits H none none none (.node b p k .nil)) (hn : Neat (.node b p k .nil)) :
    ∃ p' k', Sits K none none none (.node b p' k' .nil) ∧ Neat (.node b p' k' .nil) ∧ Blk t (.node b p k .nil) (.node b p' k' .nil) ∧ stp p' = stp p ∧ strip k' = strip k := by
  obtain ⟨f', h1, h2⟩ := blk_sits h.blk _ _ _ _ hs
  obtain ⟨p', k', rfl⟩ := blk_root h1
  have h3 := h1.strip
  simp only [strip, F.node.injEq, true_and, and_true] at h3
  exact ⟨p', k', h2, h1.neat hn, h1, h3.1, h3.2⟩
theorem sub_of_strip {b : Nat} {p : Pay} {k : F Pay} {ds : List Int} {d : Nat} {dq : Pay} {dk : F Pay} (h : subF b (stp p) (strip k) ds = some (d, dq, dk)) : ∃ q ck, subF b p k ds = some (d, q, ck) := by
  rw [strip_sub, Option.map_eq_some_iff] at h
  obtain ⟨⟨c, q, ck⟩, h1, h2⟩ := h
  simp only [Prod.mk.injEq] at h2
  obtain ⟨rfl, _, _⟩ := h2
  exact ⟨q, ck, h1⟩
/-- A text gets a blank. -/
theorem St.set {H K : NMap} {w wr : World} {t : Nat} (h : St H w t K wr) {c : Nat} {r : NRec} (hc : K c = some r) (ht : r.pay.type = 1) (d2 : ByteArray) (hd : ∀ d : ByteArray, Spaced t d r.pay.data → Spaced (t + 1) d d2) :
    St H w (t + 1) (upd K c { r with pay := { r.pay with data := d2 } }) (wr.setCell ⟨c, 7, none⟩ (.string d2)) := by
  obtain ⟨h1, h2⟩ := h.holds.set (s := { r with pay := { r.pay with data := d2 } }) hc 7 (.string d2) rfl rfl rfl
  exact ⟨h.blk.set hc ht d2 hd, h1, h.stays.trans' h2 (fun i _ hi => h.blk.none i hi)⟩
section
variable {H K : NMap} {w wr : World} {t : Nat} {b : Nat} {p : Pay} {k : F Pay} (h : St H w t K wr) (hw : Holds w H) (hs : Sits H none none none (.node b p k .nil)) (hn : Neat (.node b p k .nil))
  {ds : List Int} {d : Nat} {dq0 : Pay} {dk0 : F Pay} (hds : subF b (stp p) (strip k) ds = some (d, dq0, dk0))
include h hw hs hn hds
theorem St.sub : ∃ p' k' dq dk, Sits K none none none (.node b p' k' .nil) ∧ Neat (.node b p' k' .nil) ∧ Blk t (.node b p k .nil) (.node b p' k' .nil) ∧ stp p' = stp p ∧ strip k' = strip k ∧ subF b p' k' ds = some (d, dq, dk) := by
  obtain ⟨p', k', h1, h2, h3, h4, h5⟩ := h.open hs hn
  have hds1 := hds
  rw [← h4, ← h5] at hds1
  obtain ⟨dq, dk, h6⟩ := sub_of_strip hds1
  exact ⟨p', k', dq, dk, h1, h2, h3, h4, h5, h6⟩
theorem St.ask {bx : Nat} {ns : List ByteArray} (hb : BoxS w bx ns) : Calls Try.prog 137 #[.pointer (some ⟨d, 0, none⟩), .pointer (some ⟨bx, 0, none⟩)] wr fun e w' => ∃ r, e = .returned (.bool r) ∧ St H w t K w' := by
  obtain ⟨p', k', dq, dk, h1, h2, h3, h4, h5, h6⟩ := h.sub hw hs hn hds
  refine ((hb.stays hw h.stays).matches h.holds h1 h2 wr (Below.refl _ _) ds d dq dk h6).mono ?_
  rintro e w' ⟨r, rfl, hb2⟩
  exact ⟨r, rfl, h.below hb2⟩
theorem St.firstC {bx : Nat} {ns : List ByteArray} (hb : BoxS w bx ns) : Calls Try.prog 145 #[.pointer (some ⟨d, 0, none⟩), .func (.func 137) #[] #[.pointer (some ⟨bx, 0, none⟩)]] wr fun e w' => ∃ o, e = .returned (ptrV o) ∧ St H w t K w' := by
  obtain ⟨p', k', dq, dk, h1, h2, h3, h4, h5, h6⟩ := h.sub hw hs hn hds
  refine (firstChild_any h.holds h1 h2 h6 ((hb.stays hw h.stays).matches h.holds h1 h2)).mono ?_
  rintro e w' ⟨o, rfl, hb2⟩
  exact ⟨o, rfl, h.below hb2⟩
theorem St.lastC {bx : Nat} {ns : List ByteArray} (hb : BoxS w bx ns) : Calls Try.prog 147 #[.pointer (some ⟨d, 0, none⟩), .func (.func 137) #[] #[.pointer (some ⟨bx, 0, none⟩)]] wr fun e w' => ∃ o, e = .returned (ptrV o) ∧ St H w t K w' := by
  obtain ⟨p', k', dq, dk, h1, h2, h3, h4, h5, h6⟩ := h.sub hw hs hn hds
  refine (lastChild_any h.holds h1 h2 h6 ((hb.stays hw h.stays).matches h.holds h1 h2)).mono ?_
  rintro e w' ⟨o, rfl, hb2⟩
  exact ⟨o, rfl, h.below hb2⟩
theorem St.told (hl : (F.node b p k .nil).blocks.length ≤ 60) (hh : Hand.heft (.node b p k .nil) ≤ 18000) (ht : t ≤ 200) {p' : Pay} {k' : F Pay} (h1 : Sits K none none none (.node b p' k' .nil)) (h2 : Neat (.node b p' k' .nil)) (h3 : Blk t (.node b p k .nil) (.node b p' k' .nil)) {o : Option Nat}
    (ho : ∀ d, o = some d → ∃ ds dq dk, subF b p' k' ds = some (d, dq, dk) ∧ dq.type = 1) : ∀ d, o = some d → ∃ r, K d = some r ∧ r.pay.type = 1 ∧ r.pay.data.size ≤ 1000000 := by
  intro x hx
  obtain ⟨xs, xq, xk, hsub, ht1⟩ := ho x hx
  obtain ⟨par, prev, next, hL, -, -, -⟩ := lies h1 h2 _ xs x xq xk rfl hsub
  refine ⟨_, hL.here, ht1, ?_⟩
  have e1 := heft_sub xs b p' k' .nil x xq xk hsub ht1
  have e2 := h3.heft
  have e3 : t * (F.node b p k .nil).blocks.length ≤ 200 * 60 := Nat.mul_le_mul ht hl
  show xq.data.size ≤ _
  omega
theorem St.prevT (hl : (F.node b p k .nil).blocks.length ≤ 60) (hh : Hand.heft (.node b p k .nil) ≤ 18000) (ht : t ≤ 200) : Calls Try.prog 146 #[.pointer (some ⟨d, 0, none⟩)] wr fun e w' => ∃ o, e = .returned (ptrV o) ∧ (∀ d, o = some d → ∃ r, K d = some r ∧ r.pay.type = 1 ∧ r.pay.data.size ≤ 1000000) ∧ St H w t K w' := by
  obtain ⟨p', k', dq, dk, h1, h2, h3, h4, h5, h6⟩ := h.sub hw hs hn hds
  refine (prevText_any h.holds h1 h2 h6).mono ?_
  rintro e w' ⟨o, rfl, ho, hb2⟩
  exact ⟨o, rfl, h.told hw hs hn hds hl hh ht h1 h2 h3 ho, h.below hb2⟩
theorem St.nextT (hl : (F.node b p k .nil).blocks.length ≤ 60) (hh : Hand.heft (.node b p k .nil) ≤ 18000) (ht : t ≤ 200) : Calls Try.prog 148 #[.pointer (some ⟨d, 0, none⟩)] wr fun e w' => ∃ o, e = .returned (ptrV o) ∧ (∀ d, o = some d → ∃ r, K d = some r ∧ r.pay.type = 1 ∧ r.pay.data.size ≤ 1000000) ∧ St H w t K w' := by
  obtain ⟨p', k', dq, dk, h1, h2, h3, h4, h5, h6⟩ := h.sub hw hs hn hds
  refine (nextText_any h.holds h1 h2 h6).mono ?_
  rintro e w' ⟨o, rfl, ho, hb2⟩
  exact ⟨o, rfl, h.told hw hs hn hds hl hh ht h1 h2 h3 ho, h.below hb2⟩
theorem St.near {n : Nat} (hE : Ends true true b (stp p) (strip k) ds n) : Calls Try.prog 110 #[.pointer (some ⟨d, 0, none⟩)] wr fun e w' => ∃ (o : Option (Nat × List Int)) (g : Nat), e = .returned (ptrV (o.map Prod.fst)) ∧ PtrAt b (stp p) (strip k) o ∧ g < n + 1 ∧ WayO true true b (stp p) (strip k) o g ∧ St H w t K w' := by
  obtain ⟨p', k', dq, dk, h1, h2, h3, h4, h5, h6⟩ := h.sub hw hs hn hds
  obtain ⟨g, hg, hway⟩ := way_step hE hds
  have hdk : strip dk = dk0 := by
    have e := strip_sub ds b p' k'
    rw [h6, h4, h5, hds, Option.map_some] at e
    simp only [Option.some.injEq, Prod.mk.injEq] at e
    exact e.2.2.symm
  have hnk : nearK (some true) true true b (stp p) (strip k) ds dk0 = nearK (some true) true true b p' k' ds dk := by
    rw [← hdk, ← h4, ← h5]
    exact strip_near _ _ _ _ _ _ _ _
  have hP : PtrAt b (stp p) (strip k) (nearK (some true) true true b p' k' ds dk) := by
    intro x hx
    obtain ⟨xq, xk, hx2⟩ := ptr_near h1 h2 (some true) true true h6 x hx
    refine ⟨stp xq, strip xk, ?_⟩
    rw [← h4, ← h5, strip_sub, hx2]
    rfl
  rw [hnk] at hway
  refine (GetNextNeighborElement_any h.holds h1 h2 h6).mono ?_
  rintro e w' ⟨rfl, hb2⟩
  exact ⟨_, g, rfl, hP, hg, hway, h.below hb2⟩
end
end Go.Proofs.Ytlallihdiffheaa.Dom
end
section
/- domutils.AddSpace by hand: the walk. -/
namespace Go.Proofs.Ytlallihdiffheaa.Dom
open Go.RowKit Go.Proofs.YtlallihdiffheaaW.PrintWords Go.Proofs.YtlallihdiffheaaW.PrintLast Go.Proofs.YtlallihdiffheaaW.PrintMore Go.Proofs.Ytlallihdiffheaa.GT Go.Proofs.Ytlallihdiffheaa.Hand
set_option linter.unusedVariables false
set_option linter.unusedSimpArgs false

set_option maxRecDepth 100000 in
set_option maxHeartbeats 6400000 in
theorem addSpace_any (b : Nat) (p : Pay) (k : F Pay) (cv : Value) (H : NMap) (w : World) (hw : Holds w H) (hs : Sits H none none none (.node b p k .nil)) (hn : Neat (.node b p k .nil)) (hl : (F.node b p k .nil).blocks.length ≤ 60) (hh : heft (.node b p k .nil) ≤ 18000) (bo bi : Nat) (ns1 ns2 : List ByteArray) (ho : BoxS w bo ns1) (hi : BoxS w bi ns2) :
    Calls Try.prog 96 #[cv, .pointer (some ⟨b, 0, none⟩), .func (.func 137) #[] #[.pointer (some ⟨bo, 0, none⟩)], .func (.func 137) #[] #[.pointer (some ⟨bi, 0, none⟩)]] w fun e w' => e = .returned (.tuple #[]) ∧ ∃ K, St H w 200 K w' := by
  have hent : ∀ (bx a : Nat) (W : World), (callFunc 137 #[.pointer (some ⟨a, 0, none⟩), .pointer (some ⟨bx, 0, none⟩)]).run Try.prog W = .ok (.enter 137 #[.pointer (some ⟨a, 0, none⟩), .pointer (some ⟨bx, 0, none⟩)]) W :=
    fun bx a W => enters Try.func137 (by rfl) (by rfl) _ _
  have hroot := ends_root true b (stp p) (strip k)
  rw [strip_blocks] at hroot
  have hkl : k.blocks.length + 1 ≤ 60 := by simp only [F.blocks, List.length_cons, List.length_append, List.length_nil] at hl; omega
  have HROOT := Lib.hid hroot
  have HW := Lib.hid hw
  have HS := Lib.hid hs
  have HN := Lib.hid hn
  have HO := Lib.hid ho
  have HI := Lib.hid hi
  have HH := Lib.hid hh
  have HL := Lib.hid hl
  have HKL := Lib.hid hkl
  clear hroot hw hs hn ho hi hh hl hkl
  go_enter Try.func96, Try.ntmps96
  go_wp2
  go_loopg [8] (k.blocks.length + 2) (fun gk c0 wr => ∃ (o : Option (Nat × List Int)) (K : NMap) (t : Nat), c0 = ptrV (o.map Prod.fst) ∧ PtrAt b (stp p) (strip k) o ∧ WayO true true b (stp p) (strip k) o gk ∧ St H w t K wr ∧ t + 2 * gk ≤ 130)
  case atStart =>
    refine ⟨some (b, []), H, 0, rfl, fun t ht => ?_, fun t ht => ?_, ⟨BlkH.refl _ _, HW.out, Stays.refl _ _⟩, by have := HKL.out; omega⟩
    · obtain rfl := Option.some.inj ht
      exact ⟨_, _, rfl⟩
    · obtain rfl := Option.some.inj ht
      exact ⟨_, rfl, HROOT.out⟩
  case round =>
    obtain ⟨o, K, t, rfl, hP, hWy, hst, htk⟩ := hrel
    have HST := Lib.hid hst
    have HTK := Lib.hid htk
    cases o with
    | none =>
      simp only [Option.map_none, show ptrV none = .pointer none from rfl]
      clear hP hWy hst htk
      go_wp2
      go_end0
      exact ⟨rfl, K, HST.out.blk.mono (by have := HTK.out; omega), HST.out.holds, HST.out.stays⟩
    | some td =>
      obtain ⟨d, ds⟩ := td
      obtain ⟨dq0, dk0, hds0⟩ := hP _ rfl
      obtain ⟨n, rfl, hE⟩ := hWy _ rfl
      have HDS := Lib.hid hds0
      have HE := Lib.hid hE
      simp only [Option.map_some, show ptrV (some d) = .pointer (some ⟨d, 0, none⟩) from rfl]
      clear hP hWy hst htk hds0 hE
      have HASK := Lib.hid (HST.out.ask HW.out HS.out HN.out HDS.out HO.out)
      have HNEAR := Lib.hid (fun (K2 : NMap) (t2 : Nat) (wx : World) (h : St H w t2 K2 wx) => h.near HW.out HS.out HN.out HDS.out HE.out)
      have HFIRST := Lib.hid (fun (K2 : NMap) (t2 : Nat) (wx : World) (h : St H w t2 K2 wx) => h.firstC HW.out HS.out HN.out HDS.out HI.out)
      have HLAST := Lib.hid (fun (K2 : NMap) (t2 : Nat) (wx : World) (h : St H w t2 K2 wx) => h.lastC HW.out HS.out HN.out HDS.out HI.out)
      have HPREV := Lib.hid (fun (K2 : NMap) (t2 : Nat) (wx : World) (h : St H w t2 K2 wx) (ht : t2 ≤ 200) => h.prevT HW.out HS.out HN.out HDS.out HL.out HH.out ht)
      have HNEXT := Lib.hid (fun (K2 : NMap) (t2 : Nat) (wx : World) (h : St H w t2 K2 wx) (ht : t2 ≤ 200) => h.nextT HW.out HS.out HN.out HDS.out HL.out HH.out ht)
      have HTL := Lib.hid (show t + 2 ≤ 200 by have := HTK.out; omega)
      go_upto_if 18 with (go_at_call 137; refine HASK.out.mono ?_; rintro e w2 ⟨r, rfl, hst2⟩; have HST2 := Lib.hid hst2; clear hst2)
      go_cut [] from 14 to 54 (fun wx => ∃ (K2 : NMap) (t2 : Nat), St H w t2 K2 wx ∧ t2 ≤ t + 2)
      case first =>
        cases r with
        | false =>
          go_wp2
          go_meet
          exact ⟨K, t, HST2.out, by omega⟩
        | true =>
          go_upto_if 23 with (go_at_call 145; refine (HFIRST.out K t _ HST2.out).mono ?_; rintro e w3 ⟨o1, rfl, hst3⟩; obtain ⟨u1, hu1⟩ := ptrV_form o1; rw [hu1]; have HST3 := Lib.hid hst3; clear hst3 hu1)
          go_cut [] from 14 to 54 (fun wx => ∃ (K2 : NMap) (t2 : Nat), St H w t2 K2 wx ∧ t2 ≤ t + 1)
          case first =>
            cases u1 with
            | none =>
              go_wp2
              go_meet
              exact ⟨K, t, HST3.out, by omega⟩
            | some a1 =>
              go_upto_if 27 with (go_at_call 146; refine (HPREV.out K t _ HST3.out (by have := HTL.out; omega)).mono ?_; rintro e w5 ⟨o2, rfl, ho2, hst5⟩; have HST5 := Lib.hid hst5; have HO2 := Lib.hid ho2; obtain ⟨u2, hu2⟩ := ptrV_form o2; rw [hu2]; have HU2 := Lib.hid hu2; clear hst5 ho2 hu2)
              cases o2 with
              | none =>
                obtain rfl : none = u2 := by have h := HU2.out; injection h with h
                go_wp2
                go_meet
                exact ⟨K, t, HST5.out, by omega⟩
              | some x2 =>
                obtain rfl : some ⟨x2, 0, none⟩ = u2 := by have h := HU2.out; injection h with h
                obtain ⟨r, hr, hr1, hrs⟩ := HO2.out x2 rfl
                have n7 := HST5.out.holds.cell hr 7
                have f7 := HST5.out.holds.frozen hr 7
                simp only [NR.cells, List.getElem?_toArray, List.getElem?_cons_succ, List.getElem?_cons_zero] at n7
                have HSET := Lib.hid (HST5.out.set hr hr1 (r.pay.data ++ ⟨#[32]⟩) (fun d h => h.behind))
                have hz1 : r.pay.data.size + 1 ≤ 9223372036854775807 := by omega
                have hz2 : 1 + r.pay.data.size ≤ 9223372036854775807 := by omega
                have hz3 : (⟨#[32]⟩ : ByteArray).size = 1 := rfl
                clear hr hr1 hrs
                go_wp2
                go_meet
                exact ⟨_, t + 1, HSET.out, by omega⟩
          case rest =>
            obtain ⟨K2, t2, hst4, ht2⟩ := hcut
            have HST4 := Lib.hid hst4
            clear hst4
            go_upto_if 40 with (go_at_call 147; refine (HLAST.out K2 t2 _ HST4.out).mono ?_; rintro e w3 ⟨o1, rfl, hst3⟩; obtain ⟨u1, hu1⟩ := ptrV_form o1; rw [hu1]; have HST6 := Lib.hid hst3; clear hst3 hu1)
            cases u1 with
            | none =>
              go_wp2
              go_meet
              exact ⟨K2, t2, HST6.out, by omega⟩
            | some a1 =>
              go_upto_if 44 with (go_at_call 148; refine (HNEXT.out K2 t2 _ HST6.out (by have := HTL.out; omega)).mono ?_; rintro e w5 ⟨o2, rfl, ho2, hst5⟩; have HST5 := Lib.hid hst5; have HO2 := Lib.hid ho2; obtain ⟨u2, hu2⟩ := ptrV_form o2; rw [hu2]; have HU2 := Lib.hid hu2; clear hst5 ho2 hu2)
              cases o2 with
              | none =>
                obtain rfl : none = u2 := by have h := HU2.out; injection h with h
                go_wp2
                go_meet
                exact ⟨K2, t2, HST5.out, by omega⟩
              | some x2 =>
                obtain rfl : some ⟨x2, 0, none⟩ = u2 := by have h := HU2.out; injection h with h
                obtain ⟨r, hr, hr1, hrs⟩ := HO2.out x2 rfl
                have n7 := HST5.out.holds.cell hr 7
                have f7 := HST5.out.holds.frozen hr 7
                simp only [NR.cells, List.getElem?_toArray, List.getElem?_cons_succ, List.getElem?_cons_zero] at n7
                have HSET := Lib.hid (HST5.out.set hr hr1 (⟨#[32]⟩ ++ r.pay.data) (fun d h => h.ahead))
                have hz1 : r.pay.data.size + 1 ≤ 9223372036854775807 := by omega
                have hz2 : 1 + r.pay.data.size ≤ 9223372036854775807 := by omega
                have hz3 : (⟨#[32]⟩ : ByteArray).size = 1 := rfl
                clear hr hr1 hrs
                go_wp2
                go_meet
                exact ⟨_, t2 + 1, HSET.out, by omega⟩
      case rest =>
        obtain ⟨K2, t2, hst3, ht2⟩ := hcut
        have HST3 := Lib.hid hst3
        clear hst3
        go_wp2_with (go_at_call 110; refine (HNEAR.out K2 t2 _ HST3.out).mono ?_; rintro e w3 ⟨o', g, rfl, hP, hg, hway, hst4⟩; obtain ⟨u, hu⟩ := ptrV_form (o'.map Prod.fst); have HU := Lib.hid hu; rw [hu]; have HP := Lib.hid hP; have HWAY := Lib.hid hway; have HST4 := Lib.hid hst4; have HG := Lib.hid hg; clear hP hway hst4 hg hu)
        go_roundg g
        case measure => exact HG.out
        case rel => exact ⟨o', K2, t2, HU.out.symm, HP.out, HWAY.out, HST4.out, by have := HG.out; have := HTK.out; omega⟩
end Go.Proofs.Ytlallihdiffheaa.Dom
end
