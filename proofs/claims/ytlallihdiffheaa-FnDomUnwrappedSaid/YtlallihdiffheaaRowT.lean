/- A row of trees of the call's own, whose trees lie elsewhere; append onto it. -/
import Derived.Test.YtlallihdiffheaaTree
import Derived.Test.YtlallihdiffheaaFine
namespace Go.Proofs.Ytlallihdiffheaa.Dom
open Go.RowKit Go.Proofs.YtlallihdiffheaaW.PrintWords Go.Proofs.YtlallihdiffheaaW.PrintLast Go.Proofs.YtlallihdiffheaaW.PrintMore Go.Proofs.Ytlallihdiffheaa.GT Go.Proofs.Ytlallihdiffheaa.Hand
set_option linter.unusedVariables false

/-- The row v tells the trees xs; the trees lie in blocks of S; the row's own block is none of these. -/
structure RowT (base : Nat) (S : Nat → Prop) (v : Value) (xs : List Nd) (w : World) : Prop where
  row : ∃ css : List (List Value), w.ownsRow base 25 5 v xs.length css.flatten ∧ css.length = xs.length ∧ ∀ (i : Nat) (y : Nd) (cs : List Value), xs[i]? = some y → css[i]? = some cs → cs.length = 5 ∧ Kd.FK k25 w S y cs
  lt : ∀ k, S k → k < w.heap.size
  apart : ∀ g, v.ownBlock = some g → ¬ S g
theorem RowT.slice {base : Nat} {S : Nat → Prop} {v : Value} {xs : List Nd} {w : World} (h : RowT base S v xs w) : ∃ A c, v = .slice A xs.length c ∧ xs.length ≤ c := by
  obtain ⟨css, h1, _, _⟩ := h.row
  obtain ⟨A, c, rfl⟩ := own_slice h1
  refine ⟨A, c, rfl, ?_⟩
  rcases h1.2 with ⟨hv, hz⟩ | ⟨g, cap, cur, hv, _, _, hc, _⟩
  · omega
  · injection hv with _ _ hv
    omega
theorem RowT.base_le {base : Nat} {S : Nat → Prop} {v : Value} {xs : List Nd} {w : World} (h : RowT base S v xs w) : ∀ g, v.ownBlock = some g → base ≤ g := by
  obtain ⟨css, h1, _, _⟩ := h.row
  exact own_base h1
theorem RowT.blk_lt {base : Nat} {S : Nat → Prop} {v : Value} {xs : List Nd} {w : World} (h : RowT base S v xs w) : ∀ g, v.ownBlock = some g → g < w.heap.size := by
  obtain ⟨css, h1, _, _⟩ := h.row
  exact fun g hg => own_lt h1 g hg
theorem RowT.empty {base g : Nat} {S : Nat → Prop} {w : World} (hb : base ≤ g) (hg : w.heap[g]? = some (.cells #[] 25 (0, 0))) (hl : ∀ k, S k → k < w.heap.size) (ha : ¬ S g) : RowT base S (.slice (some ⟨g, 0, none⟩) 0 0) [] w :=
  ⟨⟨[], ⟨by simp, .inr ⟨g, 0, #[], rfl, hb, hg, Nat.le_refl _, by simp only [maxLen]; omega, by simp, by simp⟩⟩, rfl, fun i y cs h => by simp at h⟩, hl, fun g' h => by
    simp only [Value.ownBlock, Option.some.injEq] at h
    exact h ▸ ha⟩
theorem RowT.below {base : Nat} {S : Nat → Prop} {v : Value} {xs : List Nd} {w w1 : World} (h : RowT base S v xs w) (hb : Below w.heap.size w w1) : RowT base S v xs w1 := by
  obtain ⟨⟨css, h1, h2, h3⟩, h4, h5⟩ := h
  refine ⟨⟨css, pw_own_below h1 hb, h2, fun i y cs hy hc => ?_⟩, fun k hk => Nat.lt_of_lt_of_le (h4 k hk) hb.size, h5⟩
  obtain ⟨a, b⟩ := h3 i y cs hy hc
  exact ⟨a, Foot.step b (fun k hk hlt => hb.block k hlt)⟩
/-- A store elsewhere. -/
theorem RowT.store {base : Nat} {S : Nat → Prop} {v : Value} {xs : List Nd} {w : World} (h : RowT base S v xs w) (a : Addr) (ha : a.block < base) (hs : ¬ S a.block) (u : Value) : RowT base S v xs (w.setCell a u) := by
  obtain ⟨⟨css, h1, h2, h3⟩, h4, h5⟩ := h
  refine ⟨⟨css, ownsRow_setCell_below h1 ha u, h2, fun i y cs hy hc => ?_⟩, fun k hk => by rw [World.size_setCell]; exact h4 k hk, h5⟩
  obtain ⟨b, c⟩ := h3 i y cs hy hc
  exact ⟨b, Foot.step c (fun k hk _ => Below.heap_setCell _ _ _ _ (fun e => hs (e ▸ hk)))⟩
theorem RowT.widen {base : Nat} {S T : Nat → Prop} {v : Value} {xs : List Nd} {w : World} (h : RowT base S v xs w) (hst : ∀ k, S k → T k) (hl : ∀ k, T k → k < w.heap.size) (ha : ∀ g, v.ownBlock = some g → ¬ T g) : RowT base T v xs w := by
  obtain ⟨⟨css, h1, h2, h3⟩, h4, h5⟩ := h
  refine ⟨⟨css, h1, h2, fun i y cs hy hc => ?_⟩, hl, ha⟩
  obtain ⟨a, b⟩ := h3 i y cs hy hc
  exact ⟨a, Foot.mono b hst⟩
/-- What the row tells, read. -/
theorem RowT.F {base c : Nat} {S : Nat → Prop} {A : Option Addr} {xs : List Nd} {w : World} (h : RowT base S (.slice A xs.length c) xs w) (hn : xs.length ≤ 9223372036854775807) : Kd.F k25 w (fun k => S k ∨ some k = (Value.slice A xs.length c).ownBlock) A xs.length xs := by
  obtain ⟨⟨css, h1, h2, h3⟩, h4, h5⟩ := h
  intro W hW
  rcases Nat.eq_zero_or_pos xs.length with h0 | h0
  · exact ⟨rfl, hn, fun hp => absurd hp (by omega)⟩
  · rcases h1.2 with ⟨_, e⟩ | ⟨g, cap, cur, he, hg, hgg, hnc, _, _, _⟩
    · omega
    · injection he with he1 _ he3
      subst he1 he3
      refine ⟨rfl, hn, fun _ => ⟨_, rfl, fun j p hj => ?_⟩⟩
      have hjl := (List.getElem?_eq_some_iff.1 hj).1
      obtain ⟨cs, hcs⟩ : ∃ cs, css[j]? = some cs := ⟨_, List.getElem?_eq_getElem (by omega)⟩
      obtain ⟨h6, h7⟩ := h3 j p cs hj hcs
      refine ⟨cs, h6, h7 W fun k hk hlt => hW k (.inl hk) hlt, fun i u hu => ?_⟩
      have hall : ∀ c ∈ css, c.length = 5 := fun c hc => by
        obtain ⟨m, hm⟩ := List.mem_iff_getElem?.1 hc
        have hml := (List.getElem?_eq_some_iff.1 hm).1
        exact (h3 m _ c (List.getElem?_eq_getElem (by omega)) hm).1
      have h9 := h1.cells (g := g) rfl (j * 5 + i) u (flatten_get5 css j cs hall hcs i u hu)
      have hgl : g < w.heap.size := (Array.getElem?_eq_some_iff.1 hgg).1
      have hk5 : k25.sz = 5 := rfl
      rw [hk5, ← h9]
      exact World.cell?_of_block (by rw [show ((⟨g, 0, none⟩ : Addr).add (j * 5 + i)).block = g by unfold Addr.add; split <;> rfl]; exact hW g (.inr rfl) hgl)
/-- The cells of a row that is read. -/
theorem F_cells {w : World} {S : Nat → Prop} {ad : Addr} {ys : List Nd} (h : Kd.F k25 w S (some ad) ys.length ys) : ∃ css : List (List Value), css.length = ys.length ∧ (∀ (i : Nat) (y : Nd) (cs : List Value), ys[i]? = some y → css[i]? = some cs → cs.length = 5 ∧ Kd.FK k25 w S y cs) ∧ ∀ j u, css.flatten[j]? = some u → w.cell? (ad.add j) = some u := by
  have hr := Kd.F_rows h
  have key : ∀ (m : Nat), m ≤ ys.length → ∃ css : List (List Value), css.length = m ∧ (∀ (i : Nat) (y : Nd) (cs : List Value), ys[i]? = some y → css[i]? = some cs → cs.length = 5 ∧ Kd.FK k25 w S y cs ∧ ∀ j u, cs[j]? = some u → w.cell? (ad.add (i * 5 + j)) = some u) := by
    intro m
    induction m with
    | zero => exact fun _ => ⟨[], rfl, fun i y cs _ h => by simp at h⟩
    | succ m ih =>
      intro hm
      obtain ⟨css, h1, h2⟩ := ih (by omega)
      obtain ⟨ad', e, hc⟩ := hr.2.2 (by omega)
      obtain rfl := Option.some.inj e
      obtain ⟨c, hc1, hc2, hc3⟩ := hc m _ (List.getElem?_eq_getElem (show m < ys.length by omega))
      refine ⟨css ++ [c], by simp [h1], fun i y cs hy hcs => ?_⟩
      by_cases hi : i < m
      · rw [List.getElem?_append_left (by omega)] at hcs
        exact h2 i y cs hy hcs
      · have hil := (List.getElem?_eq_some_iff.1 hcs).1
        simp only [List.length_append, List.length_singleton] at hil
        obtain rfl : i = m := by omega
        rw [List.getElem?_append_right (by omega)] at hcs
        simp only [h1, Nat.sub_self, List.getElem?_cons_zero, Option.some.injEq] at hcs
        subst hcs
        rw [List.getElem?_eq_getElem (by omega)] at hy
        obtain rfl := Option.some.inj hy
        exact ⟨hc1, hc2, hc3⟩
  obtain ⟨css, h1, h2⟩ := key ys.length (Nat.le_refl _)
  have hall : ∀ c ∈ css, c.length = 5 := fun c hc => by
    obtain ⟨m, hm⟩ := List.mem_iff_getElem?.1 hc
    have hml := (List.getElem?_eq_some_iff.1 hm).1
    exact (h2 m _ c (List.getElem?_eq_getElem (by omega)) hm).1
  refine ⟨css, h1, fun i y cs hy hcs => ⟨(h2 i y cs hy hcs).1, (h2 i y cs hy hcs).2.1⟩, fun j u hu => ?_⟩
  have hfl : css.flatten.length = css.length * 5 := by
    clear h1 h2 hu
    induction css with
    | nil => rfl
    | cons c t ih =>
      rw [List.flatten_cons, List.length_append, hall c List.mem_cons_self, ih (fun d hd => hall d (List.mem_cons_of_mem _ hd)), List.length_cons]
      omega
  have hjl := (List.getElem?_eq_some_iff.1 hu).1
  have hq : j / 5 < css.length := by omega
  have hql : (css[j / 5]).length = 5 := hall _ (List.getElem_mem hq)
  have hm : j % 5 < (css[j / 5]).length := by omega
  have h5 := flatten_get5 css (j / 5) _ hall (List.getElem?_eq_getElem hq) (j % 5) _ (List.getElem?_eq_getElem hm)
  have ej : j / 5 * 5 + j % 5 = j := by omega
  rw [ej, hu] at h5
  have h6 := (h2 (j / 5) _ _ (List.getElem?_eq_getElem (by omega)) (List.getElem?_eq_getElem hq)).2.2 (j % 5) _ (List.getElem?_eq_getElem hm)
  rw [ej] at h6
  rw [h6, h5]
theorem infoNd : (Try.prog.info? 25).map (fun i => (i.zero, i.size, i.bytes)) = some (some (.agg #[.int .i64 0, .string ⟨#[]⟩, .string ⟨#[]⟩, .slice none 0 0, .slice none 0 0]), 5, 88) := by kernel_rfl
/-- The row, behind an append of its own. -/
theorem RowT.join {base : Nat} {S : Nat → Prop} {v v1 : Value} {xs ys : List Nd} {w w1 : World} {css ds : List (List Value)} (h : RowT base S v xs w) (h1 : w.ownsRow base 25 5 v xs.length css.flatten) (h2 : css.length = xs.length)
    (h3 : ∀ (i : Nat) (y : Nd) (cs : List Value), xs[i]? = some y → css[i]? = some cs → cs.length = 5 ∧ Kd.FK k25 w S y cs) (hd : ds.length = ys.length)
    (hds : ∀ (i : Nat) (y : Nd) (cs : List Value), ys[i]? = some y → ds[i]? = some cs → cs.length = 5 ∧ Kd.FK k25 w S y cs)
    (ho : w1.ownsRow base 25 5 v1 (xs.length + ys.length) (css.flatten ++ ds.flatten)) (hg : w.grownBy w1 v.ownBlock) (hat : v1.ownBlock = v.ownBlock ∨ ∃ b, v1.ownBlock = some b ∧ w.heap.size ≤ b) : RowT base S v1 (xs ++ ys) w1 := by
  have hmv : ∀ (y : Nd) (cs : List Value), Kd.FK k25 w S y cs → Kd.FK k25 w1 S y cs := fun y cs hk => Foot.step hk (fun k hk hlt => hg.block k hlt (fun e => h.apart k e.symm hk))
  refine ⟨⟨css ++ ds, by rw [List.flatten_append, List.length_append]; exact ho, by simp [h2, hd], fun i y cs hy hc => ?_⟩, fun k hk => Nat.lt_of_lt_of_le (h.lt k hk) hg.size, fun g hg2 hs => ?_⟩
  · by_cases hi : i < xs.length
    · rw [List.getElem?_append_left hi] at hy
      rw [List.getElem?_append_left (by omega)] at hc
      obtain ⟨a, b⟩ := h3 i y cs hy hc
      exact ⟨a, hmv y cs b⟩
    · rw [List.getElem?_append_right (by omega)] at hy
      rw [List.getElem?_append_right (by omega), h2] at hc
      obtain ⟨a, b⟩ := hds _ y cs hy hc
      exact ⟨a, hmv y cs b⟩
  · rcases hat with e | ⟨b, e, hb⟩
    · exact h.apart g (e ▸ hg2) hs
    · rw [e] at hg2
      obtain rfl := Option.some.inj hg2
      have := h.lt _ hs
      omega
section
variable {P : Program} {ops : Array Oper} {rest : List Oper} {o : Oper} {a : Act} {Q : Exit → Act → World → Prop} {W : World}
theorem one_cells {W : World} {S : Nat → Prop} {y : Nd} {cs : List Value} (h : Kd.FK k25 W S y cs) : ∀ u ∈ cs, u.oneCell' = true := (Kd.FK_raw h).2.2
theorem flat_one {W : World} {S : Nat → Prop} {ys : List Nd} {ds : List (List Value)} (hd : ds.length = ys.length) (hds : ∀ (i : Nat) (y : Nd) (cs : List Value), ys[i]? = some y → ds[i]? = some cs → cs.length = 5 ∧ Kd.FK k25 W S y cs) : (∀ u ∈ ds.flatten, u.oneCell' = true) ∧ ds.flatten.length = ys.length * 5 := by
  have hall : ∀ c ∈ ds, c.length = 5 ∧ ∀ u ∈ c, u.oneCell' = true := fun c hc => by
    obtain ⟨m, hm⟩ := List.mem_iff_getElem?.1 hc
    have hml := (List.getElem?_eq_some_iff.1 hm).1
    obtain ⟨a, b⟩ := hds m _ c (List.getElem?_eq_getElem (by omega)) hm
    exact ⟨a, one_cells b⟩
  refine ⟨fun u hu => ?_, ?_⟩
  · obtain ⟨c, hc, hu⟩ := List.mem_flatten.1 hu
    exact (hall c hc).2 u hu
  · rw [← hd]
    clear hds hd
    induction ds with
    | nil => rfl
    | cons c t ih =>
      rw [List.flatten_cons, List.length_append, (hall c List.mem_cons_self).1, ih (fun d hd => hall d (List.mem_cons_of_mem _ hd)), List.length_cons]
      omega
/-- append of trees that are read, onto a row of one's own that isn't nil. -/
theorem wpList_append_trees (hgd : o.guard = none) (base : Nat) (S : Nat → Prop) (s x : Operand) (t : TypeId) (ho : o.op = .call { callee := .builtin .append, args := #[s, x], argTypes := #[t, t] }) (ht : P.underlying t = some (.slice 25))
    (hinfo : (P.info? 25).map (fun i => (i.zero, i.size, i.bytes)) = some (some (.agg #[.int .i64 0, .string ⟨#[]⟩, .string ⟨#[]⟩, .slice none 0 0, .slice none 0 0]), 5, 88))
    {g cap c : Nat} {xs ys : List Nd} {A : Option Addr} (hs : a.eval s = .slice (some ⟨g, 0, none⟩) xs.length cap) (hx : a.eval x = .slice A ys.length c) (HR : RowT base S (.slice (some ⟨g, 0, none⟩) xs.length cap) xs W) (HF : Kd.F k25 W S A ys.length ys) (hbase : base ≤ W.heap.size) (hl : xs.length + ys.length ≤ 1000000)
    (h : ∀ v1 w1, RowT base S v1 (xs ++ ys) w1 → W.grownBy w1 (some g) → (∃ g1 c1, v1 = .slice (some ⟨g1, 0, none⟩) (xs ++ ys).length c1) → wpList P ops Q rest (a.put o.dst v1) w1) :
    wpList P ops Q (o :: rest) a W := by
  obtain ⟨i0, hi, hzz⟩ := Option.map_eq_some_iff.1 hinfo
  simp only [Prod.mk.injEq] at hzz
  obtain ⟨hz0, hz1, hz2⟩ := hzz
  obtain ⟨css, h1, h2, h3⟩ := HR.row
  refine wpList_plain hgd fun K hK => ?_
  have hob : (Value.slice (some ⟨g, 0, none⟩) xs.length cap).ownBlock = some g := rfl
  cases A with
  | none =>
    have h0 : ys = [] := by
      cases ys with
      | nil => rfl
      | cons y l =>
        obtain ⟨ad, e, _⟩ := (Kd.F_now HF).2.2 (by simp)
        cases e
    subst h0
    have hcap : xs.length ≤ cap := by
      obtain ⟨_, _, e, hc⟩ := HR.slice
      injection e with _ _ e
      omega
    have hr : (Builtin.append_ #[t, t] o.type #[.slice (some ⟨g, 0, none⟩) xs.length cap, .slice none 0 c]).run P W = .ok (.slice (some ⟨g, 0, none⟩) xs.length cap) W := by
      simp [Builtin.append_, run_underlying ht, sizeOf, typeInfo, hi, Builtin.lenOf, Builtin.firstCells, storeCells, hcap]
    unfold Oper.wp execOp
    have hx' : a.eval x = .slice none 0 c := hx
    simp only [ho, resolve, invoke, builtin, Sem.run_bind, Sem.run_pure, Result.andThen_ok, List.map_toArray, List.map_cons, List.map_nil, hs, hx', hr]
    exact hK _ _ (h _ _ (by rw [List.append_nil]; exact HR) ⟨rfl, rfl, rfl, Nat.le_refl _, fun _ _ _ => rfl⟩ ⟨g, cap, by rw [List.append_nil]⟩)
  | some ad =>
    obtain ⟨ds, hd, hds, hcell⟩ := F_cells HF
    obtain ⟨f1, f2⟩ := flat_one hd hds
    obtain ⟨v', w', hr, hown, hgr, _, hat⟩ := run_append_own_at (P := P) W base t o.type 25 i0 _ 5 88 ht hi hz0 hz1 hz2 rfl (by omega) _ xs.length css.flatten h1 ad ys.length c ds.flatten f2 hcell f1 (by simp only [maxLen]; omega) (by omega) hbase
    unfold Oper.wp execOp
    simp only [ho, resolve, invoke, builtin, Sem.run_bind, Sem.run_pure, Result.andThen_ok, List.map_toArray, List.map_cons, List.map_nil, hs, hx, hr]
    have hat' : v'.ownBlock = (Value.slice (some ⟨g, 0, none⟩) xs.length cap).ownBlock ∨ ∃ b, v'.ownBlock = some b ∧ W.heap.size ≤ b := hat.imp id (fun e => ⟨_, e, Nat.le_refl _⟩)
    have hj := HR.join h1 h2 h3 hd hds hown hgr hat'
    refine hK _ _ (h v' w' hj hgr ?_)
    obtain ⟨A1, c1, e, _⟩ := hj.slice
    subst e
    rcases hat with e | e
    · cases A1 with
      | none => cases e
      | some ad1 =>
        obtain ⟨b1, o1, s1⟩ := ad1
        refine ⟨b1, c1, ?_⟩
        rcases hown.2 with ⟨e2, _⟩ | ⟨g2, cap2, cur2, e2, _⟩
        · cases e2
        · injection e2 with e2
          injection e2 with e2
          rw [e2] at e ⊢
          simp only [Value.ownBlock] at e
          injection e2 with e3 e4 e5
          rw [e3]
    · rcases hown.2 with ⟨e2, _⟩ | ⟨g2, cap2, cur2, e2, _⟩
      · rw [e2] at e
        cases e
      · injection e2 with e2
        exact ⟨g2, c1, by rw [e2]⟩
end
end Go.Proofs.Ytlallihdiffheaa.Dom
