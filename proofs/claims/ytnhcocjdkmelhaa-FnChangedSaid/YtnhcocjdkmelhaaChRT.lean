/- Rows of rows of cells in blocks of one's own: what stays when one of them is turned, or one is put behind. -/
import Derived.Test.YtnhcocjdkmelhaaChCells
import Derived.Laws.IdiomCopy
namespace Go.Proofs.Ytnhcocjdkmelhaa.Hand
open Go.RowKit Go.Proofs.YtnhcocjdkmelhaaW.PrintWords Go.Proofs.YtnhcocjdkmelhaaW.PrintLast Go.Proofs.YtnhcocjdkmelhaaW.PrintMore
set_option linter.unusedVariables false

theorem grown_then {w w1 w2 : World} {r r2 : Option Nat} (h : w.grownBy w1 r) (h2 : w1.grownBy w2 r2) (hr : ∀ k, r2 = some k → r = some k ∨ w.heap.size ≤ k) : w.grownBy w2 r := by
  refine ⟨h2.os.trans h.os, h2.tape.trans h.tape, h2.output.trans h.output, Nat.le_trans h.size h2.size, fun k hk hne => ?_⟩
  refine (h2.block k (Nat.lt_of_lt_of_le hk h.size) (fun e => ?_)).trans (h.block k hk hne)
  rcases hr k e.symm with h3 | h3
  · exact hne h3.symm
  · omega
theorem grown_below {w w1 : World} (h : Below w.heap.size w w1) (r : Option Nat) : w.grownBy w1 r := ⟨h.os, h.tape, h.output, h.size, fun k hk _ => h.block k hk⟩
/-- Blocks of all types but two are as they were. -/
def Kp (e1 e2 : TypeId) (w w1 : World) : Prop := ∀ (k : Nat) (cells : Array Value) (t : TypeId) (fr : Nat × Nat), w.heap[k]? = some (.cells cells t fr) → t ≠ e1 → t ≠ e2 → w1.heap[k]? = some (.cells cells t fr)
theorem Kp.refl (e1 e2 : TypeId) (w : World) : Kp e1 e2 w w := fun _ _ _ _ h _ _ => h
theorem Kp.trans {e1 e2 : TypeId} {a b c : World} (h : Kp e1 e2 a b) (h2 : Kp e1 e2 b c) : Kp e1 e2 a c := fun k cs t fr hk h1 h3 => h2 k cs t fr (h k cs t fr hk h1 h3) h1 h3
theorem Kp.below {e1 e2 : TypeId} {w w1 : World} (h : Below w.heap.size w w1) : Kp e1 e2 w w1 := fun k cs t fr hk _ _ => (h.block k (lt_of_block hk)).trans hk
theorem Kp.grown1 {e1 e2 : TypeId} {w w1 : World} {base n : Nat} {u : Value} {xs : List Value} (h : w.grownBy w1 u.ownBlock) (ho : w.ownsRow base e1 1 u n xs) : Kp e1 e2 w w1 := fun k cs t fr hk h1 _ => by
  refine (h.block k (lt_of_block hk) (fun e => ?_)).trans hk
  obtain ⟨c, hc⟩ := own_typed ho k e.symm
  rw [hk] at hc
  injection hc with hc
  injection hc with _ hc
  exact h1 hc
theorem Kp.grown2 {e1 e2 : TypeId} {w w1 : World} {base n : Nat} {u : Value} {xs : List Value} (h : w.grownBy w1 u.ownBlock) (ho : w.ownsRow base e2 1 u n xs) : Kp e1 e2 w w1 := fun k cs t fr hk _ h1 => by
  refine (h.block k (lt_of_block hk) (fun e => ?_)).trans hk
  obtain ⟨c, hc⟩ := own_typed ho k e.symm
  rw [hk] at hc
  injection hc with hc
  injection hc with _ hc
  exact h1 hc
theorem Kp.cell {e1 e2 : TypeId} {w w1 : World} (h : Kp e1 e2 w w1) {a : Addr} {v : Value} {cells : Array Value} {t : TypeId} {fr : Nat × Nat} (hk : w.heap[a.block]? = some (.cells cells t fr)) (h1 : t ≠ e1) (h2 : t ≠ e2) : w1.cell? a = w.cell? a :=
  World.cell?_of_block ((h _ _ _ _ hk h1 h2).trans hk.symm)

theorem put_row {w : World} {base : Nat} {e : TypeId} {g n cap i : Nat} {vs : List Value} (h : w.ownsRow base e 1 (.slice (some ⟨g, 0, none⟩) n cap) n vs) (hi : i < n) (u : Value) :
    (w.setCell ⟨g, i, none⟩ u).ownsRow base e 1 (.slice (some ⟨g, 0, none⟩) n cap) n (vs.set i u) ∧ w.grownBy (w.setCell ⟨g, i, none⟩ u) (some g) := by
  have hgb : w.grownBy (w.setCell ⟨g, i, none⟩ u) (some g) := ⟨rfl, rfl, rfl, by simp [World.setCell], fun k hk hne => Below.heap_setCell _ _ _ _ (fun e => hne (by rw [e]))⟩
  refine ⟨?_, hgb⟩
  obtain ⟨h1, h2⟩ := h
  rcases h2 with ⟨hn, _⟩ | ⟨g', cap', cur, he, hg, hh, hc, hm', hs, ht⟩
  · cases hn
  · injection he with ha hb hc'
    injection ha with ha
    injection ha with ha
    subst ha hc'
    refine ⟨by rw [List.length_set]; exact h1, .inr ⟨g, cap, cur.setIfInBounds i u, rfl, hg, ?_, hc, hm', by rw [Array.size_setIfInBounds]; exact hs, ?_⟩⟩
    · have hgl := lt_of_block hh
      simp only [World.setCell, Array.getElem?_modify, if_true, hh, Option.map_some]
      rfl
    · rw [Array.toList_setIfInBounds, ← ht, List.take_set]

section
variable (D : World → Value → ByteArray → Prop)
/-- Values that are cells of these texts, one by one. -/
def Cells (w : World) (ws : List Value) (ss : List ByteArray) : Prop := ∀ (j : Nat) (x : Value) (s : ByteArray), ws[j]? = some x → ss[j]? = some s → D w x s
/-- Rows of rows of cells in blocks of their own, from base on, no two in one block. -/
structure RT (e1 e2 : TypeId) (base : Nat) (w : World) (v : Value) (vs : List Value) (sss : List (List ByteArray)) : Prop where
  own : w.ownsRow base e2 1 v sss.length vs
  rows : ∀ (i : Nat) (u : Value) (ss : List ByteArray), vs[i]? = some u → sss[i]? = some ss → ∃ ws, w.ownsRow base e1 1 u ss.length ws ∧ Cells D w ws ss
  apart : ApartV vs
/-- One row of cells has become another one. -/
structure Turned (e1 : TypeId) (base : Nat) (w w1 : World) (u v : Value) (ss : List ByteArray) : Prop where
  own : ∃ ws, w1.ownsRow base e1 1 v ss.length ws ∧ Cells D w1 ws ss
  grown : w.grownBy w1 u.ownBlock
  place : v.ownBlock = u.ownBlock ∨ ∃ b, v.ownBlock = some b ∧ w.heap.size ≤ b
end
variable {D : World → Value → ByteArray → Prop} {e1 e2 : TypeId} {base : Nat}
theorem Cells.mono {w w1 : World} {ws : List Value} {ss : List ByteArray} (h : Cells D w ws ss) (hm : ∀ x s, D w x s → D w1 x s) : Cells D w1 ws ss := fun j x s hx hs => hm x s (h j x s hx hs)
theorem Cells.snoc {w : World} {ws : List Value} {ss : List ByteArray} {x : Value} {s : ByteArray} (h : Cells D w ws ss) (hl : ws.length = ss.length) (hx : D w x s) : Cells D w (ws ++ [x]) (ss ++ [s]) := by
  intro j y t hy ht
  by_cases hj : j < ws.length
  · rw [List.getElem?_append_left hj] at hy
    rw [List.getElem?_append_left (by omega)] at ht
    exact h j y t hy ht
  · rw [List.getElem?_append_right (by omega)] at hy
    rw [List.getElem?_append_right (by omega)] at ht
    obtain h0 : j - ws.length = 0 := by
      have := (List.getElem?_eq_some_iff.1 hy).1
      simp at this
      omega
    rw [h0] at hy
    rw [← hl, h0] at ht
    simp at hy ht
    subst hy ht
    exact hx
theorem RT.nil (w : World) : RT D e1 e2 base w (.slice none 0 0) [] [] := ⟨own_nil _ _ _ _, fun i u ss hu => by simp at hu, fun i j u v b _ hu => by simp at hu⟩
theorem RT.below {w w1 : World} {v : Value} {vs : List Value} {sss : List (List ByteArray)} (hD : ∀ w w1 x s, Kp e1 e2 w w1 → D w x s → D w1 x s) (h : RT D e1 e2 base w v vs sss) (hb : Below w.heap.size w w1) : RT D e1 e2 base w1 v vs sss :=
  ⟨pw_own_below h.own hb, fun i u ss hu hs => by
    obtain ⟨ws, h1, h2⟩ := h.rows i u ss hu hs
    exact ⟨ws, pw_own_below h1 hb, h2.mono fun x s hx => hD w w1 x s (Kp.below hb) hx⟩, h.apart⟩
theorem RT.lt {w : World} {v : Value} {vs : List Value} {sss : List (List ByteArray)} (h : RT D e1 e2 base w v vs sss) {i : Nat} {u : Value} (hu : vs[i]? = some u) (k : Nat) (hk : u.ownBlock = some k) : k < w.heap.size := by
  have h1 := (List.getElem?_eq_some_iff.1 hu).1
  have h2 := h.own.1
  obtain ⟨ws, h3, _⟩ := h.rows i u _ hu (List.getElem?_eq_getElem (by omega))
  exact own_lt h3 k hk
/-- The outer row has grown by a row. -/
theorem RT.snoc {w w1 : World} {v v1 x : Value} {vs ws : List Value} {sss : List (List ByteArray)} {ss : List ByteArray} (hne : e1 ≠ e2) (hD : ∀ w w1 x s, Kp e1 e2 w w1 → D w x s → D w1 x s) (h : RT D e1 e2 base w v vs sss) (hx : w.ownsRow base e1 1 x ss.length ws) (hc : Cells D w ws ss)
    (hap : ∀ k, x.ownBlock = some k → ∀ u ∈ vs, u.ownBlock ≠ some k) (ho : w1.ownsRow base e2 1 v1 (vs.length + 1) (vs ++ [x])) (hg : w.grownBy w1 v.ownBlock) : RT D e1 e2 base w1 v1 (vs ++ [x]) (sss ++ [ss]) := by
  have hl : vs.length = sss.length := by have := h.own.1; omega
  refine ⟨by rw [List.length_append, List.length_singleton, ← hl]; exact ho, fun i u t hu ht => ?_, ?_⟩
  · have hkp : Kp e1 e2 w w1 := Kp.grown2 hg h.own
    by_cases hi : i < vs.length
    · rw [List.getElem?_append_left hi] at hu
      rw [List.getElem?_append_left (by omega)] at ht
      obtain ⟨ys, h1, h2⟩ := h.rows i u t hu ht
      exact ⟨ys, own_other h1 hg (own_type_ne h1 h.own hne), h2.mono fun x s hx => hD w w1 x s hkp hx⟩
    · rw [List.getElem?_append_right (by omega)] at hu
      rw [List.getElem?_append_right (by omega)] at ht
      obtain h0 : i - vs.length = 0 := by
        have := (List.getElem?_eq_some_iff.1 hu).1
        simp at this
        omega
      rw [h0] at hu
      rw [← hl, h0] at ht
      simp at hu ht
      subst hu ht
      exact ⟨ws, own_other hx hg (own_type_ne hx h.own hne), hc.mono fun x s hx => hD w w1 x s hkp hx⟩
  · intro i j u y b hij hu hy hub hyb
    have hjl := (List.getElem?_eq_some_iff.1 hy).1
    rw [List.length_append, List.length_singleton] at hjl
    have hil : i < vs.length := by omega
    rw [List.getElem?_append_left hil] at hu
    by_cases hj : j < vs.length
    · rw [List.getElem?_append_left hj] at hy
      exact h.apart i j u y b hij hu hy hub hyb
    · obtain rfl : j = vs.length := by omega
      rw [List.getElem?_append_right (Nat.le_refl _)] at hy
      simp at hy
      subst hy
      exact hap b hyb u (List.mem_of_getElem? hu) hub
/-- One row has been turned, and stands in its place again. -/
theorem RT.put {w w1 : World} {g n cap i : Nat} {u v1 : Value} {vs : List Value} {sss : List (List ByteArray)} {ss : List ByteArray} (hne : e1 ≠ e2) (hD : ∀ w w1 x s, Kp e1 e2 w w1 → D w x s → D w1 x s)
    (h : RT D e1 e2 base w (.slice (some ⟨g, 0, none⟩) n cap) vs sss) (hn : n = sss.length) (hu : vs[i]? = some u) (ht : Turned D e1 base w w1 u v1 ss) :
    RT D e1 e2 base (w1.setCell ⟨g, i, none⟩ v1) (.slice (some ⟨g, 0, none⟩) n cap) (vs.set i v1) (sss.set i ss) := by
  subst hn
  have hi : i < sss.length := by
    have h1 := (List.getElem?_eq_some_iff.1 hu).1
    have h2 := h.own.1
    omega
  have hil := (List.getElem?_eq_some_iff.1 hu).1
  obtain ⟨ws, hO, hC⟩ := h.rows i u _ hu (List.getElem?_eq_getElem hi)
  obtain ⟨ws1, hO1, hC1⟩ := ht.own
  have hgR := own_other h.own ht.grown (own_type_ne h.own hO (fun e => hne e.symm))
  obtain ⟨hp, hpg⟩ := put_row hgR hi v1
  have hkp1 : Kp e1 e2 w w1 := Kp.grown1 ht.grown hO
  have hkp2 : Kp e1 e2 w1 (w1.setCell ⟨g, i, none⟩ v1) := Kp.grown2 (u := .slice (some ⟨g, 0, none⟩) sss.length cap) hpg hgR
  have hlt : ∀ (m : Nat) (y : Value) (bl : Nat), m ≠ i → vs[m]? = some y → y.ownBlock = some bl → v1.ownBlock = some bl → False := by
    intro m y bl hm hy hyb hvb
    rcases ht.place with hv | ⟨b', hv, hge⟩
    · rw [hv] at hvb
      rcases Nat.lt_or_gt_of_ne hm with hlt | hlt
      · exact h.apart m i y u bl hlt hy hu hyb hvb
      · exact h.apart i m u y bl hlt hu hy hvb hyb
    · rw [hv] at hvb
      obtain rfl := Option.some.inj hvb
      have := h.lt hy b' hyb
      omega
  refine ⟨by rw [List.length_set]; exact hp, fun j a b ha hb => ?_, fun j k a b blk hjk ha hb hab hbb => ?_⟩
  · rw [List.getElem?_set] at ha hb
    by_cases hij : i = j
    · subst hij
      rw [if_pos rfl, if_pos hil] at ha
      rw [if_pos rfl, if_pos hi] at hb
      obtain rfl := Option.some.inj ha
      obtain rfl := Option.some.inj hb
      exact ⟨ws1, own_other hO1 hpg (own_type_ne hO1 hgR hne), hC1.mono fun x s hx => hD _ _ x s hkp2 hx⟩
    · rw [if_neg hij] at ha hb
      obtain ⟨ys, h1, h2⟩ := h.rows j a b ha hb
      have h3 : w1.ownsRow base e1 1 a b.length ys := own_other h1 ht.grown (by
        cases hv : a.ownBlock with
        | none => exact .inl rfl
        | some k =>
          refine .inr fun e => ?_
          rcases Nat.lt_or_gt_of_ne hij with hlt | hlt
          · exact h.apart i j u a k hlt hu ha e.symm hv
          · exact h.apart j i a u k hlt ha hu hv e.symm)
      exact ⟨ys, own_other h3 hpg (own_type_ne h3 hgR hne), h2.mono fun x s hx => hD _ _ x s (hkp1.trans hkp2) hx⟩
  · rw [List.getElem?_set] at ha hb
    by_cases hij : i = j
    · subst hij
      rw [if_pos rfl, if_pos hil] at ha
      obtain rfl := Option.some.inj ha
      rw [if_neg (by omega)] at hb
      exact hlt k b blk (by omega) hb hbb hab
    · rw [if_neg hij] at ha
      by_cases hik : i = k
      · subst hik
        rw [if_pos rfl, if_pos hil] at hb
        obtain rfl := Option.some.inj hb
        exact hlt j a blk (by omega) ha hab hbb
      · rw [if_neg hik] at hb
        exact h.apart j k a b blk hjk ha hb hab hbb
theorem Turned.refl {w : World} {u : Value} {ws : List Value} {ss : List ByteArray} (h : w.ownsRow base e1 1 u ss.length ws) (hc : Cells D w ws ss) : Turned D e1 base w w u u ss := ⟨⟨ws, h, hc⟩, ⟨rfl, rfl, rfl, Nat.le_refl _, fun _ _ _ => rfl⟩, .inl rfl⟩
theorem Turned.step {w w1 w2 : World} {u v x : Value} {ss st : List ByteArray} (h : Turned D e1 base w w1 u v ss) (h2 : Turned D e1 base w1 w2 v x st) : Turned D e1 base w w2 u x st := by
  refine ⟨h2.own, grown_then h.grown h2.grown fun k hk => ?_, ?_⟩
  · rcases h.place with e | ⟨b, e, hb⟩
    · exact .inl (e.symm.trans hk)
    · rw [e] at hk
      obtain rfl := Option.some.inj hk
      exact .inr hb
  · rcases h2.place with e | ⟨b, e, hb⟩
    · rcases h.place with e2 | ⟨b, e2, hb⟩
      · exact .inl (e.trans e2)
      · exact .inr ⟨b, e.trans e2, hb⟩
    · exact .inr ⟨b, e, Nat.le_trans h.grown.size hb⟩
end Go.Proofs.Ytnhcocjdkmelhaa.Hand
