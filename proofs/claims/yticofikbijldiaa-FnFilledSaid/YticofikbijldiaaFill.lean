/- table.fillUpRows by hand, the state of its loops: rows of rows of bytes; one of them grows by an empty cell. -/
import Derived.Test.YticofikbijldiaaFirst
import Derived.Lib.BufferWrite
namespace Go.Proofs.Yticofikbijldiaa.Hand
open Go.RowKit Go.Proofs.YticofikbijldiaaW.PrintWords Go.Proofs.YticofikbijldiaaW.PrintLast Go.Proofs.YticofikbijldiaaW.PrintMore
set_option linter.unusedVariables false

theorem own_put {w : World} {base : Nat} {e : TypeId} {g n cap i : Nat} {vs : List Value} (h : w.ownsRow base e 1 (.slice (some ⟨g, 0, none⟩) n cap) n vs) (hi : i < n) (u : Value) :
    (w.setCell ⟨g, i, none⟩ u).ownsRow base e 1 (.slice (some ⟨g, 0, none⟩) n cap) n (vs.set i u) ∧ w.grownBy (w.setCell ⟨g, i, none⟩ u) (some g) := by
  refine ⟨?_, Lib.grownBy_setCell w g i u⟩
  obtain ⟨h1, h2⟩ := h
  rcases h2 with ⟨hn, _⟩ | ⟨g', cap', cur, he, hg, hh, hc, hm', hs, ht⟩
  · cases hn
  · injection he with ha hb hc'
    injection ha with ha
    injection ha with ha
    subst ha hc'
    refine ⟨by rw [List.length_set]; exact h1, .inr ⟨g, cap, cur.setIfInBounds i u, rfl, hg, Lib.heap_setCell_same hh u, hc, hm', by rw [Array.size_setIfInBounds]; exact hs, ?_⟩⟩
    rw [Array.toList_setIfInBounds, ← ht, List.take_set]
/-- Rows of rows of bytes in blocks of their own, from base on, no two in one block. -/
structure RS (base : Nat) (w : World) (g n cap : Nat) (vs : List Value) (sss : List (List ByteArray)) : Prop where
  own : w.ownsRow base 48 1 (.slice (some ⟨g, 0, none⟩) n cap) n vs
  rows : CellRows w vs sss
  apart : ApartV vs
  new : NewV base vs
theorem CellRow.rebase {w : World} {v : Value} {ss : List ByteArray} {base : Nat} (h : CellRow w v ss) (hb : ∀ k, v.ownBlock = some k → base ≤ k) : ∃ vs, w.ownsRow base 45 1 v ss.length vs ∧ BRows w vs ss := by
  obtain ⟨b, vs, ⟨h1, h2⟩, h3⟩ := h
  refine ⟨vs, ⟨h1, h2.imp id ?_⟩, h3⟩
  rintro ⟨g, cap, cur, rfl, _, r⟩
  exact ⟨g, cap, cur, rfl, hb g rfl, r⟩
theorem CellRow.other {w w1 : World} {v u : Value} {ss : List ByteArray} {base n : Nat} {xs : List Value} (h : CellRow w v ss) (ho : w.ownsRow base 45 1 u n xs) (hne : ∀ b, v.ownBlock = some b → u.ownBlock = some b → False) (hg : w.grownBy w1 u.ownBlock) : CellRow w1 v ss := by
  obtain ⟨b, vs, h1, h2⟩ := h
  refine ⟨b, vs, own_other h1 hg ?_, h2.mono fun _ _ h => h.other hg fun g hg' cells t fr hh => ?_⟩
  · cases hv : v.ownBlock with
    | none => exact .inl rfl
    | some k => exact .inr fun e => hne k hv e.symm
  · obtain ⟨c2, e2⟩ := own_typed ho g hg'
    rw [hh] at e2
    injection e2 with e2
    injection e2 with _ e2
    rw [e2]
    decide
/-- One row has grown by a cell, and stands in its place again. -/
theorem RS.step {base : Nat} {W w1 : World} {g n cap i : Nat} {vs ws : List Value} {sss : List (List ByteArray)} {u v1 x : Value} {ss : List ByteArray} (h : RS base W g n cap vs sss) (hu : vs[i]? = some u) (hs : sss[i]? = some ss)
    (hO : W.ownsRow base 45 1 u ss.length ws) (hB : BRows W ws ss) (hx : BRow W x ByteArray.empty)
    (hO1 : w1.ownsRow base 45 1 v1 (ss.length + 1) (ws ++ [x])) (hg : W.grownBy w1 u.ownBlock) (hv : v1.ownBlock = u.ownBlock ∨ ∃ b, v1.ownBlock = some b ∧ W.heap.size ≤ b) :
    RS base (w1.setCell ⟨g, i, none⟩ v1) g n cap (vs.set i v1) (sss.set i (ss ++ [ByteArray.empty])) := by
  have hi : i < n := by
    have h1 := (List.getElem?_eq_some_iff.1 hu).1
    have h2 := h.own.1
    omega
  have hgR : w1.ownsRow base 48 1 (.slice (some ⟨g, 0, none⟩) n cap) n vs := own_other h.own hg (.inr fun e => by
    obtain ⟨c1, e1⟩ := own_typed h.own g rfl
    obtain ⟨c2, e2⟩ := own_typed hO g (e.symm.trans rfl)
    rw [e1] at e2
    injection e2 with e2
    injection e2 with _ e2
    exact absurd e2 (by decide))
  obtain ⟨hp, hpg⟩ := own_put hgR hi v1
  have hB1 : BRows w1 (ws ++ [x]) (ss ++ [ByteArray.empty]) := (hB.snoc hx).mono fun _ _ hh => hh.other hg fun k hk cells t fr hbk => by
    obtain ⟨c2, e2⟩ := own_typed hO k hk
    rw [hbk] at e2
    injection e2 with e2
    injection e2 with _ e2
    rw [e2]
    decide
  have hC1 : CellRow (w1.setCell ⟨g, i, none⟩ v1) v1 (ss ++ [ByteArray.empty]) := CellRow.grown (u := .slice (some ⟨g, 0, none⟩) n cap) ⟨base, ws ++ [x], by rw [List.length_append]; exact hO1, hB1⟩ hgR hpg
  refine ⟨hp, ⟨by rw [List.length_set, List.length_set]; exact h.rows.1, fun j a b ha hb => ?_⟩, fun j k a b blk hjk ha hb hab hbb => ?_, fun a ha k hk => ?_⟩
  · rw [List.getElem?_set] at ha hb
    by_cases hij : i = j
    · subst hij
      have hil := (List.getElem?_eq_some_iff.1 hu).1
      have hsl := (List.getElem?_eq_some_iff.1 hs).1
      rw [if_pos rfl, if_pos hil] at ha
      rw [if_pos rfl, if_pos hsl] at hb
      obtain rfl := Option.some.inj ha
      obtain rfl := Option.some.inj hb
      exact hC1
    · rw [if_neg hij] at ha hb
      refine CellRow.grown (u := .slice (some ⟨g, 0, none⟩) n cap) ((h.rows.2 j a b ha hb).other hO (fun blk h1 h2 => ?_) hg) hgR hpg
      rcases Nat.lt_or_gt_of_ne hij with hlt | hlt
      · exact h.apart i j u a blk hlt hu ha h2 h1
      · exact h.apart j i a u blk hlt ha hu h1 h2
  · have hil := (List.getElem?_eq_some_iff.1 hu).1
    have hlt : ∀ (m : Nat) (y : Value) (bl : Nat), m ≠ i → vs[m]? = some y → y.ownBlock = some bl → v1.ownBlock = some bl → False := by
      intro m y bl hm hy hyb hvb
      rcases hv with hv | ⟨b', hv, hge⟩
      · rw [hv] at hvb
        rcases Nat.lt_or_gt_of_ne hm with hlt | hlt
        · exact h.apart m i y u bl hlt hy hu hyb hvb
        · exact h.apart i m u y bl hlt hu hy hvb hyb
      · rw [hv] at hvb
        obtain rfl := Option.some.inj hvb
        obtain ⟨s', _, hcr⟩ := h.rows.get hy
        have := hcr.lt b' hyb
        omega
    rw [List.getElem?_set] at ha hb
    by_cases hij : i = j
    · subst hij
      rw [if_pos rfl, if_pos hil] at ha
      obtain rfl := Option.some.inj ha
      rw [if_neg (by omega)] at hb
      exact hlt k b blk (by omega) hb hbb hab
    · rw [if_neg hij] at ha
      by_cases hik : i = k
      · subst hik
        rw [if_pos rfl, if_pos hil] at hb
        obtain rfl := Option.some.inj hb
        exact hlt j a blk (by omega) ha hab hbb
      · rw [if_neg hik] at hb
        exact h.apart j k a b blk hjk ha hb hab hbb
  · obtain ⟨m, hm⟩ := List.mem_iff_getElem?.1 ha
    rw [List.getElem?_set] at hm
    by_cases him : i = m
    · subst him
      have hil := (List.getElem?_eq_some_iff.1 hu).1
      rw [if_pos rfl, if_pos hil] at hm
      obtain rfl := Option.some.inj hm
      exact own_base hO1 k hk
    · rw [if_neg him] at hm
      exact h.new a (List.mem_of_getElem? hm) k hk
end Go.Proofs.Yticofikbijldiaa.Hand
