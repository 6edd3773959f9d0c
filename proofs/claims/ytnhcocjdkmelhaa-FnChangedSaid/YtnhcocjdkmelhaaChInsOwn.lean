/- slices.Insert at [][]byte of one value, at a row of one's own: its four roads in one. -/
import Derived.Test.YtnhcocjdkmelhaaChInsert
import Derived.Test.YtnhcocjdkmelhaaChRT
namespace Go.Proofs.Ytnhcocjdkmelhaa.Hand
open Go.RowKit Go.Proofs.YtnhcocjdkmelhaaW.PrintWords Go.Proofs.YtnhcocjdkmelhaaW.PrintLast Go.Proofs.YtnhcocjdkmelhaaW.PrintMore
set_option linter.unusedVariables false

theorem setCells_heap (b : Nat) : ∀ (vs : List Value) (o : Nat) (w : World) (cur : Array Value) (e : TypeId) (fr : Nat × Nat), w.heap[b]? = some (.cells cur e fr) → ∃ cur', (w.setCells b o vs).heap[b]? = some (.cells cur' e fr) ∧ cur'.size = cur.size
  | [], _, _, cur, _, _, h => ⟨cur, h, rfl⟩
  | v :: r, o, w, cur, e, fr, h => by
    have h1 : (w.setCell ⟨b, o, none⟩ v).heap[b]? = some (.cells (cur.setIfInBounds o v) e fr) := by
      simp only [World.setCell, Array.getElem?_modify, if_true, h, Option.map_some]
      rfl
    obtain ⟨cur', h2, h3⟩ := setCells_heap b r (o + 1) _ _ e fr h1
    exact ⟨cur', h2, by rw [h3, Array.size_setIfInBounds]⟩
theorem setCells_grown (b : Nat) : ∀ (vs : List Value) (o : Nat) (w : World), w.grownBy (w.setCells b o vs) (some b)
  | [], _, w => ⟨rfl, rfl, rfl, Nat.le_refl _, fun _ _ _ => rfl⟩
  | v :: r, o, w => by
    have hg : w.grownBy (w.setCell ⟨b, o, none⟩ v) (some b) := ⟨rfl, rfl, rfl, by simp [World.setCell], fun k hk hne => Below.heap_setCell _ _ _ _ (fun e => hne (by rw [e]))⟩
    exact hg.trans (setCells_grown b r (o + 1) _)
theorem own_of_cells {w : World} {base : Nat} {e : TypeId} {g cap : Nat} {cur : Array Value} {xs : List Value} (hh : w.heap[g]? = some (.cells cur e (0, 0))) (hb : base ≤ g) (hs : cur.size = cap) (hm : cap ≤ maxLen) (hl : xs.length ≤ cap)
    (hc : ∀ j x, xs[j]? = some x → w.cell? ⟨g, j, none⟩ = some x) : w.ownsRow base e 1 (.slice (some ⟨g, 0, none⟩) xs.length cap) xs.length xs := by
  refine ⟨by rw [Nat.mul_one], .inr ⟨g, cap, cur, rfl, hb, hh, hl, hm, by rw [hs, Nat.mul_one], ?_⟩⟩
  apply List.ext_getElem?
  intro j
  rw [Nat.mul_one, List.getElem?_take]
  split
  · rename_i hj
    obtain ⟨x, hx⟩ : ∃ x, xs[j]? = some x := ⟨_, List.getElem?_eq_getElem hj⟩
    rw [hx, Array.getElem?_toList]
    have h := hc j x hx
    simp only [World.cell?, hh] at h
    exact h
  · rw [List.getElem?_eq_none (by omega)]
theorem drop_cell {α : Type} {ws : List α} {i j : Nat} {x d : α} (hi : i ≤ ws.length) (h : (ws.take i ++ [d] ++ ws.drop i)[j]? = some x) : (j < i ∧ ws[j]? = some x) ∨ (j = i ∧ x = d) ∨ (i < j ∧ (ws.drop i)[j - (i + 1)]? = some x) := by
  have hl : (ws.take i).length = i := by rw [List.length_take]; omega
  rw [List.append_assoc] at h
  by_cases hj : j < i
  · rw [List.getElem?_append_left (by omega), List.getElem?_take, if_pos hj] at h
    exact .inl ⟨hj, h⟩
  · rw [List.getElem?_append_right (by omega), hl] at h
    by_cases he : j = i
    · subst he
      rw [Nat.sub_self] at h
      simp at h
      exact .inr (.inl ⟨rfl, h.symm⟩)
    · refine .inr (.inr ⟨by omega, ?_⟩)
      rw [List.singleton_append, show j - i = (j - (i + 1)) + 1 by omega, List.getElem?_cons_succ] at h
      exact h
theorem insert_own (base : Nat) (u : Value) (ws : List Value) (i vb : Nat) (d : Value) (W : World) (hO : W.ownsRow base 46 1 u ws.length ws) (hi : i ≤ ws.length) (hl : ws.length ≤ 1099511627776) (hbase : base ≤ W.heap.size)
    (hvb : W.heap[vb]? = some (.cells #[d] 46 (0, 0))) (hvu : u.ownBlock ≠ some vb) (h1d : d.oneCell' = true) (h1 : ∀ x ∈ ws, x.oneCell' = true) :
    Calls Try.prog 34 #[u, .int .i64 i, .slice (some ⟨vb, 0, none⟩) 1 1] W fun e w' => ∃ v, e = .returned v ∧ w'.ownsRow base 46 1 v (ws.take i ++ [d] ++ ws.drop i).length (ws.take i ++ [d] ++ ws.drop i) ∧ W.grownBy w' u.ownBlock ∧ (v.ownBlock = u.ownBlock ∨ ∃ b, v.ownBlock = some b ∧ W.heap.size ≤ b) := by
  have hln : (ws.take i ++ [d] ++ ws.drop i).length = ws.length + 1 := by simp; omega
  have hvcell : ∀ j v, [d][j]? = some v → W.cell? ⟨vb, 0 + j, none⟩ = some v := fun j v hj => by
    simp only [World.cell?, hvb]
    rw [Nat.zero_add]
    cases j with
    | zero => simpa using hj
    | succ j => simp at hj
  have h1v : ∀ v ∈ [d], v.oneCell' = true := fun v hv => by rw [List.mem_singleton.1 hv]; exact h1d
  by_cases hend : i = ws.length
  · subst hend
    have hxs : ws.take ws.length ++ [d] ++ ws.drop ws.length = ws ++ [d] := by simp
    rw [hxs] at hln ⊢
    rcases hO.2 with ⟨rfl, h0⟩ | ⟨g, cap, cur, rfl, hg, hh, hc, hcm, hs, ht⟩
    · obtain rfl := List.eq_nil_of_length_eq_zero h0
      refine (insert_end_grow none 0 0 vb 0 1 1 [] [d] W (by omega) (by omega) (by omega) (by omega) rfl rfl (fun _ => rfl) (fun a ha => by cases ha) hvcell h1v).mono ?_
      rintro e w' ⟨rfl, rfl⟩
      have hge := grownCap_ge W (0 + 1) 0 46
      refine ⟨_, rfl, ?_, ⟨rfl, rfl, rfl, by simp, fun k hk _ => Below.heap_alloc _ _ _ hk⟩, .inr ⟨_, rfl, Nat.le_refl _⟩⟩
      refine own_of_cells (cur := ([] ++ [d]).toArray ++ Builtin.zeroCells (Value.slice none 0 0).cells (grownCap W (0 + 1) 0 46 - (0 + 1))) (heap_alloc_new W.drew _) hbase ?_ (grownCap_le_maxLen W _ _ _ (by unfold maxLen; omega)) hge (fun j x hx => ?_)
      · simp only [Builtin.zeroCells, Value.cells]
        simp at hge ⊢
        omega
      · rw [World.cell?_alloc_at (w := W.drew) _ _ W.heap.size j rfl, Array.getElem?_append_left (by have := (List.getElem?_eq_some_iff.1 hx).1; simpa using this)]
        simpa using hx
    · have hcell : ∀ j x, ws[j]? = some x → W.cell? ⟨g, j, none⟩ = some x := fun j x hx => by
        have := hO.cells (g := g) rfl j x hx
        rwa [add_plain] at this
      by_cases hroom : ws.length + 1 ≤ cap
      · refine (insert_end_room g 0 ws.length cap vb 0 1 1 [d] W (by omega) hroom hcm rfl (fun j hj => ?_) (fun j hj => ?_) hvcell h1v).mono ?_
        · simp only [World.cell?, hh]
          rw [if_neg (by simp), Array.getElem?_eq_getElem (by omega)]
          rfl
        · simp [World.frozen?, hh]
        · rintro e w' ⟨rfl, rfl⟩
          obtain ⟨cur', h2, h3⟩ := setCells_heap g [d] (0 + ws.length) W cur _ _ hh
          refine ⟨_, rfl, ?_, setCells_grown g _ _ _, .inl rfl⟩
          have hgo := own_of_cells (base := base) (xs := ws ++ [d]) h2 hg (by rw [h3, hs, Nat.mul_one]) hcm (by rw [hln]; exact hroom) (fun j x hx => ?_)
          · rw [hln] at hgo
            rw [hln]
            exact hgo
          · by_cases hj : j < ws.length
            · rw [List.getElem?_append_left hj] at hx
              rw [World.cell?_setCells_out g [d] (0 + ws.length) W ⟨g, j, none⟩ (fun _ _ => .inl (by show j < 0 + ws.length; omega))]
              exact hcell j x hx
            · have hjl := (List.getElem?_eq_some_iff.1 hx).1
              rw [hln] at hjl
              obtain rfl : j = ws.length := by omega
              rw [List.getElem?_append_right (Nat.le_refl _)] at hx
              have := World.cell?_setCells_in g [d] (0 + ws.length) W (fun j hj => by
                simp only [World.cell?, hh]
                simp at hj
                rw [if_neg (by simp), Array.getElem?_eq_getElem (by omega)]
                rfl) 0 (by simp)
              rw [Nat.add_zero, Nat.zero_add] at this
              rw [Nat.zero_add, this]
              simpa using hx
      · refine (insert_end_grow (some ⟨g, 0, none⟩) ws.length cap vb 0 1 1 ws [d] W (by omega) hc (by omega) (by omega) rfl rfl (fun h => by cases h) (fun a ha j v hj => by obtain rfl := Option.some.inj ha; rw [add_plain]; exact hcell j v hj) hvcell h1v).mono ?_
        rintro e w' ⟨rfl, rfl⟩
        have hge := grownCap_ge W (ws.length + 1) cap 46
        refine ⟨_, rfl, ?_, ⟨rfl, rfl, rfl, by simp, fun k hk _ => Below.heap_alloc _ _ _ hk⟩, .inr ⟨_, rfl, Nat.le_refl _⟩⟩
        have hgo := own_of_cells (e := 46) (base := base) (xs := ws ++ [d]) (cur := (ws ++ [d]).toArray ++ Builtin.zeroCells (Value.slice none 0 0).cells (grownCap W (ws.length + 1) cap 46 - (ws.length + 1))) (heap_alloc_new W.drew _) hbase ?_ (grownCap_le_maxLen W (ws.length + 1) cap 46 (by unfold maxLen; omega)) (by rw [hln]; exact hge) (fun j x hx => ?_)
        · rw [hln] at hgo
          rw [hln]
          exact hgo
        · simp only [Builtin.zeroCells, Value.cells]
          simp
          omega
        · rw [World.cell?_alloc_at (w := W.drew) _ _ W.drew.heap.size j rfl, Array.getElem?_append_left (by have := (List.getElem?_eq_some_iff.1 hx).1; simpa using this)]
          simpa using hx
  · have hlt : i < ws.length := by omega
    rcases hO.2 with ⟨rfl, h0⟩ | ⟨g, cap, cur, rfl, hg, hh, hc, hcm, hs, ht⟩
    · omega
    · have hcell : ∀ j x, ws[j]? = some x → W.cell? ⟨g, 0 + j, none⟩ = some x := fun j x hx => by
        have := hO.cells (g := g) rfl j x hx
        rw [add_plain] at this
        rwa [Nat.zero_add]
      have hsome : ∀ j, j < cap → (W.cell? ⟨g, j, none⟩).isSome = true := fun j hj => by
        simp only [World.cell?, hh]
        rw [if_neg (by simp), Array.getElem?_eq_getElem (by omega)]
        rfl
      by_cases hroom : ws.length + 1 ≤ cap
      · refine (insert_shift g 0 ws.length cap i vb 0 1 1 ws [d] W hlt (by omega) hroom hcm (fun e => hvu (by rw [e]; rfl)) rfl rfl hcell (fun j hj => by rw [Nat.zero_add]; exact hsome j (by omega)) (fun j hj => by simp [World.frozen?, hh]) hvcell h1 h1v 46 46 1 cur.size (by simp [World.shape?, hvb]) (by simp [World.shape?, hh]) (by omega) (by simp [World.frozen?, hvb]) (by simp [World.frozen?, hvb])).mono ?_
        rintro e w' ⟨rfl, rfl⟩
        obtain ⟨cur1, h2, h3⟩ := setCells_heap g (ws.drop i) (0 + (i + 1)) W.drew cur _ _ hh
        obtain ⟨cur2, h4, h5⟩ := setCells_heap g [d] (0 + i) _ _ _ _ h2
        have hsome1 : ∀ j, j < cap → ((W.drew.setCells g (0 + (i + 1)) (ws.drop i)).cell? ⟨g, j, none⟩).isSome = true := fun j hj => by
          simp only [World.cell?, h2]
          rw [if_neg (by simp), Array.getElem?_eq_getElem (by omega)]
          rfl
        refine ⟨_, rfl, ?_, (show W.grownBy W.drew (some g) from ⟨rfl, rfl, rfl, Nat.le_refl _, fun _ _ _ => rfl⟩).trans ((setCells_grown g _ _ _).trans (setCells_grown g _ _ _)), .inl rfl⟩
        have hgo := own_of_cells (base := base) (xs := ws.take i ++ [d] ++ ws.drop i) h4 hg (by rw [h5, h3, hs, Nat.mul_one]) hcm (by rw [hln]; exact hroom) (fun j x hx => ?_)
        · rw [hln] at hgo
          rw [hln]
          exact hgo
        · rcases drop_cell hi hx with ⟨hj, hx⟩ | ⟨rfl, rfl⟩ | ⟨hj, hx⟩
          · rw [World.cell?_setCells_out g [d] (0 + i) _ ⟨g, j, none⟩ (fun _ _ => .inl (by show j < 0 + i; omega)), World.cell?_setCells_out g _ _ W.drew ⟨g, j, none⟩ (fun _ _ => .inl (by show j < 0 + (i + 1); omega))]
            have := hcell j x hx
            rwa [Nat.zero_add] at this
          · have := World.cell?_setCells_in g [x] (0 + j) (W.drew.setCells g (0 + (j + 1)) (ws.drop j)) (fun t ht => by
              simp at ht
              exact hsome1 _ (by omega)) 0 (by simp)
            rw [Nat.add_zero, Nat.zero_add] at this
            rw [Nat.zero_add]
            simpa using this
          · rw [World.cell?_setCells_out g [d] (0 + i) _ ⟨g, j, none⟩ (fun _ _ => .inr (by show 0 + i + 1 ≤ j; omega))]
            have hdl := (List.getElem?_eq_some_iff.1 hx).1
            have := World.cell?_setCells_in g (ws.drop i) (0 + (i + 1)) W.drew (fun t ht => by
              rw [List.length_drop] at ht
              exact hsome _ (by omega)) (j - (i + 1)) hdl
            rw [show 0 + (i + 1) + (j - (i + 1)) = j by omega] at this
            rw [this]
            exact (List.getElem?_eq_getElem hdl).symm.trans hx
      · refine (insert_grow g 0 ws.length cap i vb 0 1 1 ws [d] W hlt (by omega) hc (by omega) (by omega) rfl rfl hcell hvcell h1 h1v).mono ?_
        rintro e w' ⟨rfl, rfl⟩
        have hge := grownCap_ge W (ws.length + 1) cap 46
        have hgm := grownCap_le_maxLen W (ws.length + 1) cap 46 (by unfold maxLen; omega)
        generalize grownCap W (ws.length + 1) cap 46 = G at hge hgm ⊢
        obtain ⟨ROW, hROW⟩ : ∃ ROW : Array Value, ROW = (ws.take i).toArray ++ Builtin.zeroCells (Value.slice none 0 0).cells (ws.length + 1 - i) ++ Builtin.zeroCells (Value.slice none 0 0).cells (G - (ws.length + 1)) := ⟨_, rfl⟩
        have hRs : ROW.size = G := by
          rw [hROW]
          simp only [Builtin.zeroCells, Value.cells]
          simp
          omega
        have hRt : ∀ j x, j < i → ws[j]? = some x → ROW[j]? = some x := fun j x hj hx => by
          rw [hROW, Array.append_assoc, Array.getElem?_append_left (by simp; omega)]
          simp [hj, hx]
        rw [← hROW]
        have hh0 : (W.alloc (.cells ROW 46)).drew.heap[W.heap.size]? = some (.cells ROW 46 (0, 0)) := heap_alloc_new W _
        obtain ⟨cur1, h2, h3⟩ := setCells_heap W.heap.size [d] i _ _ _ _ hh0
        have h2' : ((W.alloc (.cells ROW 46)).drew.setCells W.heap.size i [d]).drew.heap[W.heap.size]? = some (.cells cur1 46 (0, 0)) := h2
        obtain ⟨cur2, h4, h5⟩ := setCells_heap W.heap.size (ws.drop i) (i + 1) _ _ _ _ h2'
        have hgr : W.grownBy (((W.alloc (.cells ROW 46)).drew.setCells W.heap.size i [d]).drew.setCells W.heap.size (i + 1) (ws.drop i)) (some g) := by
          have a1 : W.grownBy (W.alloc (.cells ROW 46)).drew (some g) := ⟨rfl, rfl, rfl, by simp, fun k hk _ => Below.heap_alloc _ _ _ hk⟩
          have a2 := grown_then a1 (setCells_grown W.heap.size [d] i _) (fun k hk => .inr (by obtain rfl := Option.some.inj hk; exact Nat.le_refl _))
          have a3 : W.grownBy ((W.alloc (.cells ROW 46)).drew.setCells W.heap.size i [d]).drew (some g) := ⟨a2.os, a2.tape, a2.output, a2.size, a2.block⟩
          exact grown_then a3 (setCells_grown W.heap.size (ws.drop i) (i + 1) _) (fun k hk => .inr (by obtain rfl := Option.some.inj hk; exact Nat.le_refl _))
        refine ⟨_, rfl, ?_, hgr, .inr ⟨_, rfl, Nat.le_refl _⟩⟩
        have hgo := own_of_cells (base := base) (xs := ws.take i ++ [d] ++ ws.drop i) h4 hbase (by rw [h5, h3, hRs]) hgm (by rw [hln]; exact hge) (fun j x hx => ?_)
        · rw [hln] at hgo
          rw [hln]
          exact hgo
        · rcases drop_cell hi hx with ⟨hj, hx⟩ | ⟨rfl, rfl⟩ | ⟨hj, hx⟩
          · rw [World.cell?_setCells_out W.heap.size (ws.drop i) (i + 1) _ ⟨W.heap.size, j, none⟩ (fun _ _ => .inl (by show j < i + 1; omega))]
            show ((W.alloc (.cells ROW 46)).drew.setCells W.heap.size i [d]).cell? ⟨W.heap.size, j, none⟩ = some x
            rw [World.cell?_setCells_out W.heap.size [d] i _ ⟨W.heap.size, j, none⟩ (fun _ _ => .inl (by show j < i; omega))]
            simp only [World.cell?, hh0]
            exact hRt j x hj hx
          · rw [World.cell?_setCells_out W.heap.size (ws.drop j) (j + 1) _ ⟨W.heap.size, j, none⟩ (fun _ _ => .inl (by show j < j + 1; omega))]
            have := World.cell?_setCells_in W.heap.size [x] j (W.alloc (.cells ROW 46)).drew (fun t ht => by
              simp at ht
              simp only [World.cell?, hh0]
              rw [if_neg (by simp), Array.getElem?_eq_getElem (by omega)]
              rfl) 0 (by simp)
            rw [Nat.add_zero] at this
            exact this
          · have hdl := (List.getElem?_eq_some_iff.1 hx).1
            have := World.cell?_setCells_in W.heap.size (ws.drop i) (i + 1) ((W.alloc (.cells ROW 46)).drew.setCells W.heap.size i [d]).drew (fun t ht => by
              rw [List.length_drop] at ht
              simp only [World.cell?, h2']
              rw [if_neg (by simp), Array.getElem?_eq_getElem (by omega)]
              rfl) (j - (i + 1)) hdl
            rw [show i + 1 + (j - (i + 1)) = j by omega] at this
            rw [this]
            exact (List.getElem?_eq_getElem hdl).symm.trans hx
end Go.Proofs.Ytnhcocjdkmelhaa.Hand
