import Derived.Test.YtlallihdiffheaaDoorZSwapTags
section
/- domutils.SwapTags by hand: its finder is laid and called. -/
namespace Go.Proofs.YtlallihdiffheaaDoor.Dom
open Go.RowKit Go.Proofs.YtlallihdiffheaaDoorW.PrintWords Go.Proofs.YtlallihdiffheaaDoorW.PrintLast Go.Proofs.YtlallihdiffheaaDoorW.PrintMore Go.Proofs.YtlallihdiffheaaDoor.GT Go.Proofs.YtlallihdiffheaaDoor.Hand
set_option linter.unusedVariables false
set_option linter.unusedSimpArgs false

set_option maxRecDepth 100000 in
set_option maxHeartbeats 3200000 in
theorem swapTags_any (ok : Prop) (ns1 ns2 : List ByteArray) (b : Nat) (p : Pay) (k : F Pay) (cv : Value) (H : NMap) (w : World) (hw : Holds w H) (hs : Sits H none none none (.node b p k .nil)) (hn : Neat (.node b p k .nil)) (hp : Plain (.node b p k .nil)) (ha : AscF (.node b p k .nil)) (hnd : (b :: k.blocks).Nodup) (hl : k.blocks.length ≤ 1000) (hok : ¬ ok → hasF ns1 (.node b p k .nil) = false ∨ hasF ns2 (.node b p k .nil) = false) (xo xi : Nat) (ho : BoxS w xo ns1) (hi : BoxS w xi ns2) (hT : TabB w) :
    Calls Tryd.prog 47 #[cv, .pointer (some ⟨b, 0, none⟩), .func (.func 76) #[] #[.pointer (some ⟨xo, 0, none⟩)], .func (.func 76) #[] #[.pointer (some ⟨xi, 0, none⟩)]] w fun e w' => e = .returned (.tuple #[]) ∧ ∃ K, SwpH ok H K ∧ Holds w' K ∧ Stays H w w' := by
  have hent : ∀ (a bo bi fi : Nat) (W : World), (callFunc 72 #[.pointer (some ⟨a, 0, none⟩), .pointer (some ⟨bo, 0, none⟩), .pointer (some ⟨bi, 0, none⟩), .pointer (some ⟨fi, 0, none⟩)]).run Tryd.prog W = .ok (.enter 72 #[.pointer (some ⟨a, 0, none⟩), .pointer (some ⟨bo, 0, none⟩), .pointer (some ⟨bi, 0, none⟩), .pointer (some ⟨fi, 0, none⟩)]) W :=
    fun a bo bi fi W => enters Tryd.func72 (by rfl) (by rfl) _ _
  have hcall : ∀ (W : World) (bo bi fi : Nat), Below w.heap.size w W → W.heap[fi]? = some (.cells #[.func (.func 72) #[] #[.pointer (some ⟨bo, 0, none⟩), .pointer (some ⟨bi, 0, none⟩), .pointer (some ⟨fi, 0, none⟩)]] 64 (0, 0)) → W.heap[bo]? = some (isObj xo) → W.heap[bi]? = some (isObj xi) →
      Calls Tryd.prog 72 #[.pointer (some ⟨b, 0, none⟩), .pointer (some ⟨bo, 0, none⟩), .pointer (some ⟨bi, 0, none⟩), .pointer (some ⟨fi, 0, none⟩)] W fun e w' => e = .returned (.tuple #[]) ∧ ∃ K, SwpH ok H K ∧ Holds w' K ∧ Stays H w w' := fun W bo bi fi hb h1 h2 h3 =>
    (swap_all ok ns1 ns2 (k.blocks.length + 1) k b p none none none H W bo bi fi xo xi (Nat.lt_succ_self _) (by omega) (hw.below hb) hs hn hp ha hnd hok ⟨h1, h2, h3, ho.below hb, hi.below hb, tabB_below hT hb⟩).mono fun e w' ⟨e1, K, e2, e3, e4⟩ => ⟨e1, K, e2, e3, (Stays.of_below hb).trans e4⟩
  have HCALL := Lib.hid hcall
  clear hcall hw hs hn hp ha hnd hok ho hi hT
  go_enter Tryd.func47, Tryd.ntmps47
  go_wp2_with (refine (HCALL.out _ _ _ _ (alloc3 w _ _ _).2.2.2.2 (alloc3 w _ _ _).2.2.1 (alloc3 w _ _ _).1 (alloc3 w _ _ _).2.1).mono ?_; rintro e w3 ⟨rfl, hk⟩; have HK := Lib.hid hk; clear hk)
  go_end0
  exact ⟨rfl, HK.out⟩
end Go.Proofs.YtlallihdiffheaaDoor.Dom
end
section
/- impl.SwapTags by hand: some elements become other ones. -/
namespace Go.Proofs.YtlallihdiffheaaDoor.Dom
open Go.RowKit Go.Proofs.YtlallihdiffheaaDoorW.PrintWords Go.Proofs.YtlallihdiffheaaDoorW.PrintLast Go.Proofs.YtlallihdiffheaaDoorW.PrintMore Go.Proofs.YtlallihdiffheaaDoor.GT Go.Proofs.YtlallihdiffheaaDoor.Hand
set_option linter.unusedVariables false
set_option linter.unusedSimpArgs false

/-- A row of names that lies in a block of its own. -/
def RowS (w : World) (g : Nat) (ns : List ByteArray) : Prop := w.heap[g]? = some (.cells (ns.map Value.string).toArray 9 (0, 0))
theorem RowS.below {w w' : World} {g : Nat} {ns : List ByteArray} (h : RowS w g ns) (hb : Below w.heap.size w w') : RowS w' g ns := (hb.block g (lt_of_block h)).trans h
/-- There are outer ones, and inner ones. -/
def Has2 (ns1 ns2 : List ByteArray) (f : F Pay) : Prop := ¬ (hasF ns1 f = false ∨ hasF ns2 f = false)
/-- A tree, and what it is with some elements made others. -/
def QS (ns1 ns2 : List ByteArray) (x y : S25) : Prop := ∃ (b : Nat) (p p' : Pay) (k k' : F Pay), Neat (.node b p k .nil) ∧ nodeOf p (erase k) = x ∧ Swp (Has2 ns1 ns2 (.node b p k .nil)) (.node b p k .nil) (.node b p' k' .nil) ∧ y = nodeOf p' (erase k')
set_option maxRecDepth 100000 in
theorem background_any (w : World) : Calls Tryd.prog 43 #[] w fun e w' => ∃ v, e = .returned v ∧ w' = w := by
  go_enter Tryd.func43, Tryd.ntmps43
  go_wp2
  go_ret
  exact ⟨_, rfl, rfl⟩
set_option maxRecDepth 100000 in
theorem namedMk_any (g n c : Nat) (w : World) : Calls Tryd.prog 48 #[.slice (some ⟨g, 0, none⟩) n c] w fun e w' => e = .returned (.func (.func 76) #[] #[.pointer (some ⟨w.heap.size, 0, none⟩)]) ∧ w'.heap[w.heap.size]? = some (boxNs (some ⟨g, 0, none⟩) n c) ∧ Below w.heap.size w w' := by
  have hmf : ∀ (fn : Fn) (first cap : Array Value) (w : World), (Instr.makeFunc fn first cap).run Tryd.prog w = .ok (.func fn first cap) w := fun _ _ _ _ => rfl
  have hx := heap_alloc_new w (boxNs (some ⟨g, 0, none⟩) n c)
  have hb := below_alloc (Below.refl w.heap.size w) (boxNs (some ⟨g, 0, none⟩) n c)
  have HX := Lib.hid hx
  have HB := Lib.hid hb
  clear hx hb
  go_enter Tryd.func48, Tryd.ntmps48
  go_wp2
  go_ret
  exact ⟨rfl, HX.out, HB.out⟩
set_option maxRecDepth 100000 in
set_option maxHeartbeats 1600000 in
theorem swap_do (n : Nat) (hn60 : n ≤ 60) (x : S25) (hx : Sm n x) (W0 : World) (bo bi g1 g2 : Nat) (ns1 ns2 : List ByteArray) (h1 : W0.heap[bo]? = some (boxNs (some ⟨g1, 0, none⟩) ns1.length ns1.length)) (h2 : W0.heap[bi]? = some (boxNs (some ⟨g2, 0, none⟩) ns2.length ns2.length))
    (hr1 : RowS W0 g1 ns1) (hr2 : RowS W0 g2 ns2) (hl1 : ns1.length ≤ 1000) (hl2 : ns2.length ≤ 1000) (hT0 : TabB W0) : DoSpec 46 #[.pointer (some ⟨bo, 0, none⟩), .pointer (some ⟨bi, 0, none⟩)] W0 x (QS ns1 ns2 x) := by
  intro w L b p k hB hL hs ht hn hd hf
  obtain ⟨e1, e2, e3, e5⟩ := sm_node hx ht hn
  have hT := tabB_below hT0 hB
  have hb1 := (hB.block bo (lt_of_block h1)).trans h1
  have hb2 := (hB.block bi (lt_of_block h2)).trans h2
  have hq1 := hr1.below hB
  have hq2 := hr2.below hB
  have hsk : ∀ W', Below w.heap.size w W' → W'.cell? ⟨bo, 0, none⟩ = some (.slice (some ⟨g1, 0, none⟩) ns1.length ns1.length) ∧ W'.cell? ⟨bi, 0, none⟩ = some (.slice (some ⟨g2, 0, none⟩) ns2.length ns2.length) := fun W' hb => by
    obtain ⟨c1, -⟩ := out_cell ((hb.block bo (lt_of_block hb1)).trans hb1) 0
    obtain ⟨c2, -⟩ := out_cell ((hb.block bi (lt_of_block hb2)).trans hb2) 0
    simp only [List.getElem?_toArray, List.getElem?_cons_zero] at c1 c2
    exact ⟨c1, c2⟩
  have HSK := Lib.hid hsk
  have hcall := fun (cv : Value) (W : World) (x1 x2 : Nat) (hb : Below w.heap.size w W) (hx1 : W.heap[x1]? = some (boxNs (some ⟨g1, 0, none⟩) ns1.length ns1.length)) (hx2 : W.heap[x2]? = some (boxNs (some ⟨g2, 0, none⟩) ns2.length ns2.length)) =>
    (swapTags_any (Has2 ns1 ns2 (.node b p k .nil)) ns1 ns2 b p k cv L W (hL.below hb) hs hn e3 e5 hd (by have h := e1; simp only [F.blocks, List.length_cons, List.length_append] at h; omega) (fun h => Classical.not_not.1 h) x1 x2 ⟨g1, ns1.length, hx1, hq1.below hb, Nat.le_refl _, hl1⟩ ⟨g2, ns2.length, hx2, hq2.below hb, Nat.le_refl _, hl2⟩ (tabB_below hT hb)).mono (fun e w' (h : e = .returned (.tuple #[]) ∧ ∃ K, SwpH (Has2 ns1 ns2 (.node b p k .nil)) L K ∧ Holds w' K ∧ Stays L W w') => (⟨h.1, by
      obtain ⟨K, a1, a2, a3⟩ := h.2
      exact ⟨K, a1, a2, (Stays.of_below hb).trans a3⟩⟩ : e = .returned (.tuple #[]) ∧ ∃ K, SwpH (Has2 ns1 ns2 (.node b p k .nil)) L K ∧ Holds w' K ∧ Stays L w w'))
  have HCALL := Lib.hid hcall
  have HH := Lib.hid (And.intro hs (And.intro ht (And.intro hn (And.intro e1 e3))))
  clear hcall hB hL hs ht hn hd hf e1 e2 e3 e5 hT hT0 h1 h2 hb1 hb2 hq1 hq2 hr1 hr2 hsk
  show Calls Tryd.prog 46 #[.pointer (some ⟨b, 0, none⟩), .pointer (some ⟨bo, 0, none⟩), .pointer (some ⟨bi, 0, none⟩)] w _
  go_enter Tryd.func46, Tryd.ntmps46
  go_wp2_with fail
  refine start_ (n := 7) (S := fun W' => W'.cell? ⟨bo, 0, none⟩ = some (.slice (some ⟨g1, 0, none⟩) ns1.length ns1.length) ∧ W'.cell? ⟨bi, 0, none⟩ = some (.slice (some ⟨g2, 0, none⟩) ns2.length ns2.length)) (ds := [6]) #[false, false, false, false, false, false, false] rfl rfl rfl (HSK.out _ (below_drew (Below.refl _ _))) (fun hHeld => ?_)
  refine take_ (i := 2) (N := some 6) (v := ?_) (a' := ?_) #[false, false, true, false, false, false, false] rfl rfl (by kernel_rfl) (fun _ _ _ h => h) (Or.inl ⟨by rfl, ?_⟩) hHeld ?_ ?_
  rotate_left
  · rintro w' ⟨s0_, s1_⟩
    go_simp
    with_reducible rfl
  rotate_left
  · simp only [Act.put, List.setIfInBounds_toArray, List.set_cons_zero, List.set_cons_succ]
    rfl
  refine take_ (i := 4) (N := some 8) (v := ?_) (a' := ?_) #[false, false, true, false, true, false, false] rfl rfl (by kernel_rfl) (fun _ _ _ h => h) (Or.inl ⟨by rfl, ?_⟩) hHeld ?_ ?_
  rotate_left
  · rintro w' ⟨s0_, s1_⟩
    go_simp
    with_reducible rfl
  rotate_left
  · simp only [Act.put, List.setIfInBounds_toArray, List.set_cons_zero, List.set_cons_succ]
    rfl
  refine pure_ (i := 1) (N := some 5) (v := ?_) (a' := ?_) #[false, true, true, false, true, false, false] rfl rfl (by kernel_rfl) (fun _ _ _ h => h) (Or.inl ⟨by rfl, ?_⟩) ?_ ?_
  rotate_left
  · intro w'
    go_simp
    with_reducible rfl
  rotate_left
  · simp only [Act.put, List.setIfInBounds_toArray, List.set_cons_zero, List.set_cons_succ]
    rfl
  refine one_ (i := 0) (N := some 4) #[true, true, true, false, true, false, false] rfl rfl (by kernel_rfl) (by decide) (fun K hK => ?_)
  go_simp
  refine (background_any _).mono ?_
  rintro e w1 ⟨cv, rfl, rfl⟩
  refine hK.out _ _ ?_ (fun hHeld => ?_)
  · exact HSK.out _ (below_drew (Below.refl _ _))
  clear hK K
  try simp only [Act.put, List.setIfInBounds_toArray, List.set_cons_zero, List.set_cons_succ]
  refine one_ (i := 3) (N := some 7) #[true, true, true, true, true, false, false] rfl rfl (by kernel_rfl) (by decide) (fun K hK => ?_)
  go_simp
  refine (namedMk_any g1 ns1.length ns1.length w.drew).mono ?_
  rintro e w2 ⟨rfl, hx1, hb1⟩
  have HB1 := Lib.hid (below_then (below_drew (Below.refl w.heap.size w)) (Nat.le_refl _) hb1)
  have HX1 := Lib.hid hx1
  clear hx1 hb1
  refine hK.out _ _ ?_ (fun hHeld => ?_)
  · exact HSK.out _ HB1.out
  clear hK K
  try simp only [Act.put, List.setIfInBounds_toArray, List.set_cons_zero, List.set_cons_succ]
  refine one_ (i := 5) (N := some 9) #[true, true, true, true, true, true, false] rfl rfl (by kernel_rfl) (by decide) (fun K hK => ?_)
  go_simp
  refine (namedMk_any g2 ns2.length ns2.length w2).mono ?_
  rintro e w3 ⟨rfl, hx2, hb2⟩
  have HB2 := Lib.hid (below_then HB1.out HB1.out.size hb2)
  have HX2 := Lib.hid hx2
  have HX3 := Lib.hid ((hb2.block w.heap.size (lt_of_block HX1.out)).trans HX1.out)
  clear hx2 hb2
  refine hK.out _ _ ?_ (fun hHeld => ?_)
  · exact HSK.out _ HB2.out
  clear hK K
  try simp only [Act.put, List.setIfInBounds_toArray, List.set_cons_zero, List.set_cons_succ]
  refine last_ (i := 6) (N := some 10) #[true, true, true, true, true, true, true] rfl rfl (by kernel_rfl) (by decide) (fun K hK => ?_)
  go_simp
  refine (HCALL.out cv w3 w.heap.size w2.heap.size HB2.out HX3.out HX2.out).mono ?_
  rintro e w4 ⟨rfl, hk⟩
  have HK := Lib.hid hk
  clear hk
  refine hK.out _ _ ?_
  clear hK K
  try simp only [Act.put, List.setIfInBounds_toArray, List.set_cons_zero, List.set_cons_succ]
  refine done_ (by kernel_rfl) ?_
  go_end0
  obtain ⟨K, a1, a2, a3⟩ := HK.out
  obtain ⟨hs, ht, hn, h1, h3⟩ := HH.out
  obtain ⟨f', hf', hsf⟩ := swp_sits a1 _ _ _ _ hs
  obtain ⟨p', k', rr', rfl⟩ := swp_node hf'
  obtain rfl : rr' = .nil := hf'.2.2.2.isnil rfl
  refine ⟨rfl, _, p', k', K, ⟨b, p, p', k, k', hn, ht, hf', rfl⟩, a2, hsf, rfl, hf'.plain h3, ?_, a3⟩
  rw [hf'.heads.2.2]
  omega
set_option maxRecDepth 100000 in
set_option maxHeartbeats 800000 in
theorem swapTree_any (n : Nat) (hn60 : n ≤ 60) (x : S25) (hx : Sm n x) (w : World) (A3 A4 : Option Addr) (c3 c4 : Nat) (h3 : k29.C w A3 x.f3.length x.f3) (l3 : x.f3.length ≤ c3) (h4 : k25.C w A4 x.f4.length x.f4) (l4 : x.f4.length ≤ c4)
    (g1 g2 : Nat) (ns1 ns2 : List ByteArray) (hr1 : RowS w g1 ns1) (hr2 : RowS w g2 ns2) (hl1 : ns1.length ≤ 1000) (hl2 : ns2.length ≤ 1000) (hT0 : TabB w) :
    Calls Tryd.prog 22 #[.agg #[.int .i64 x.f0, .string x.f1, .string x.f2, .slice A3 x.f3.length c3, .slice A4 x.f4.length c4], .slice (some ⟨g1, 0, none⟩) ns1.length ns1.length, .slice (some ⟨g2, 0, none⟩) ns2.length ns2.length] w fun e w' => ∃ y, QS ns1 ns2 x y ∧ ToldPost y w e w' := by
  have hmf : ∀ (fn : Fn) (first cap : Array Value) (w : World), (Instr.makeFunc fn first cap).run Tryd.prog w = .ok (.func fn first cap) w := fun _ _ _ _ => rfl
  obtain ⟨W, hW0⟩ : ∃ W, W = (((w.alloc (.cells #[.int .i64 x.f0, .string x.f1, .string x.f2, .slice A3 x.f3.length c3, .slice A4 x.f4.length c4] 25 (0, 0))).alloc (boxNs (some ⟨g1, 0, none⟩) ns1.length ns1.length)).alloc (boxNs (some ⟨g2, 0, none⟩) ns2.length ns2.length)).alloc (.cells #[.int .i64 0, .string ⟨#[]⟩, .string ⟨#[]⟩, .slice none 0 0, .slice none 0 0] 25 (0, 0)) := ⟨_, rfl⟩
  have hsz : W.heap.size = w.heap.size + 4 := by rw [hW0]; simp only [World.size_alloc]
  have hW : Below w.heap.size w W := by rw [hW0]; exact below_alloc (below_alloc (below_alloc (below_alloc (Below.refl _ _) _) _) _) _
  have hN : W.heap[w.heap.size]? = some (.cells #[.int .i64 x.f0, .string x.f1, .string x.f2, .slice A3 x.f3.length c3, .slice A4 x.f4.length c4] 25 (0, 0)) := by
    rw [hW0, Below.heap_alloc _ _ _ (by simp only [World.size_alloc]; omega), Below.heap_alloc _ _ _ (by simp only [World.size_alloc]; omega), Below.heap_alloc _ _ _ (by simp only [World.size_alloc]; omega)]
    exact heap_alloc_new _ _
  have ho1 : W.heap[w.heap.size + 1]? = some (boxNs (some ⟨g1, 0, none⟩) ns1.length ns1.length) := by
    rw [hW0, Below.heap_alloc _ _ _ (by simp only [World.size_alloc]; omega), Below.heap_alloc _ _ _ (by simp only [World.size_alloc]; omega), ← World.size_alloc w]
    exact heap_alloc_new _ _
  have ho2 : W.heap[w.heap.size + 1 + 1]? = some (boxNs (some ⟨g2, 0, none⟩) ns2.length ns2.length) := by
    rw [hW0, Below.heap_alloc _ _ _ (by simp only [World.size_alloc]; omega), ← World.size_alloc w, ← World.size_alloc (w.alloc _)]
    exact heap_alloc_new _ _
  have hrv : W.heap[w.heap.size + 1 + 1 + 1]? = some (.cells #[.int .i64 0, .string ⟨#[]⟩, .string ⟨#[]⟩, .slice none 0 0, .slice none 0 0] 25 (0, 0)) := by
    rw [hW0, ← World.size_alloc w, ← World.size_alloc (w.alloc _), ← World.size_alloc ((w.alloc _).alloc _)]
    exact heap_alloc_new _ _
  have hcall := behind_any 46 #[.pointer (some ⟨w.heap.size + 1, 0, none⟩), .pointer (some ⟨w.heap.size + 1 + 1, 0, none⟩)] W x (QS ns1 ns2 x) hx.wf A3 A4 c3 c4 (fun v W => enters Tryd.func46 (by rfl) (by rfl) _ _)
    (swap_do n hn60 x hx W (w.heap.size + 1) (w.heap.size + 1 + 1) g1 g2 ns1 ns2 ho1 ho2 (hr1.below hW) (hr2.below hW) hl1 hl2 (tabB_below hT0 hW)) (Kd.C_below h3 hW) l3 (Kd.C_below h4 hW) l4
  have hafter : ∀ w1 : World, Below W.heap.size W w1 → w1.heap[w.heap.size + 1 + 1 + 1]? = some (.cells #[.int .i64 0, .string ⟨#[]⟩, .string ⟨#[]⟩, .slice none 0 0, .slice none 0 0] 25 (0, 0)) ∧ Below w.heap.size w w1 ∧ W.heap.size ≤ w1.heap.size := fun w1 hb =>
    ⟨(hb.block _ (by omega)).trans hrv, below_then hW hW.size hb, hb.size⟩
  have HCALL := Lib.hid hcall
  have HAFT := Lib.hid hafter
  have HSZ := Lib.hid hsz
  obtain ⟨m0, -⟩ := out_cell hN 0
  obtain ⟨m1, -⟩ := out_cell hN 1
  obtain ⟨m2, -⟩ := out_cell hN 2
  obtain ⟨m3, -⟩ := out_cell hN 3
  obtain ⟨m4, -⟩ := out_cell hN 4
  have HWE := Lib.hid hW0
  clear hW hsz hrv hcall hafter h3 h4 hT0 hN ho1 ho2 hr1 hr2 hW0 m0 m1 m2 m3 m4
  rw [HWE.out] at HCALL HAFT HSZ
  go_enter Tryd.func22, Tryd.ntmps22
  go_wp2_with (go_at_call 40; refine HCALL.out.mono ?_; rintro e w1 ⟨y, hq, A5, c5, A6, c6, rfl, htl, hb⟩; obtain ⟨hr1, hB1, hs1⟩ := HAFT.out w1 hb; obtain ⟨r0, f0⟩ := out_cell hr1 0; obtain ⟨r1, f1⟩ := out_cell hr1 1; obtain ⟨r2, f2⟩ := out_cell hr1 2; obtain ⟨r3, f3⟩ := out_cell hr1 3; obtain ⟨r4, f4⟩ := out_cell hr1 4; simp only [List.getElem?_toArray, List.getElem?_cons_succ, List.getElem?_cons_zero] at r0 r1 r2 r3 r4; have HR1 := Lib.hid hr1; have HB1 := Lib.hid hB1; have HQ := Lib.hid hq; have HTL := Lib.hid htl; have HS1 := Lib.hid hs1; clear hr1 hB1 hq htl hb hs1)
  obtain ⟨e4, hg, hsz2⟩ := put5 (.int .i64 y.f0) (.string y.f1) (.string y.f2) (.slice A5 y.f3.length c5) (.slice A6 y.f4.length c6) HR1.out
  refine bodyPost_ret (results_cell_row rfl _ _ (w.heap.size + 1 + 1 + 1) 25 #[.int .i64 y.f0, .string y.f1, .string y.f2, .slice A5 y.f3.length c5, .slice A6 y.f4.length c6] (0, 0) _ rfl e4 Tryd.underlying25 rfl (by kernel_rfl)) rfl ?_
  refine ⟨y, HQ.out, A5, c5, A6, c6, rfl, fun W hW => HTL.out W fun z hz1 hz2 => ?_, HB1.out.grown hg HB1.out.size (fun z hz => by have := Option.some.inj hz; omega)⟩
  have h7 := HSZ.out
  have h8 := HS1.out
  rw [hW z (by omega) (by omega)]
  exact hg.block z hz2 (fun e => by have := Option.some.inj e; omega)
end Go.Proofs.YtlallihdiffheaaDoor.Dom
end
