/- spec.Put29 by hand: others in the place of a node. -/
import Derived.Test.YtlallihdiffheaaRowT
import Derived.Test.YtlallihdiffheaaChanged
namespace Go.Proofs.Ytlallihdiffheaa.Dom
open Go.RowKit Go.Proofs.YtlallihdiffheaaW.PrintWords Go.Proofs.YtlallihdiffheaaW.PrintLast Go.Proofs.YtlallihdiffheaaW.PrintMore Go.Proofs.Ytlallihdiffheaa.GT Go.Proofs.Ytlallihdiffheaa.Hand
set_option linter.unusedVariables false
set_option linter.unusedSimpArgs false

def PutPost (S : Nat → Prop) (w : World) (z : Nd) : Ending → World → Prop := fun e w' => ∃ A3 c3 A4 c4, e = .returned (.agg #[.int .i64 z.f0, .string z.f1, .string z.f2, .slice A3 z.f3.length c3, .slice A4 z.f4.length c4]) ∧
  Kd.FK k25 w' (fun k => S k ∨ w.heap.size ≤ k ∧ k < w'.heap.size) z [.int .i64 z.f0, .string z.f1, .string z.f2, .slice A3 z.f3.length c3, .slice A4 z.f4.length c4] ∧ Below w.heap.size w w'
def PutAt (is : List Int) : Prop := ∀ (i : Int) (n : Nat) (x y : Nd) (hx : Tn n x) (hn : n ≤ 1000) (ws : List Nd) (hws : ws.length ≤ 1000) (hat : atN x (i :: is) = some y) (w : World) (S : Nat → Prop) (hS : ∀ k, S k → k < w.heap.size) (A3 A4 Ap Aw : Option Addr) (c3 c4 cp cw : Nat)
    (h3 : Kd.F k34 w S A3 x.f3.length x.f3) (l3 : x.f3.length ≤ c3) (h4 : Kd.F k25 w S A4 x.f4.length x.f4) (l4 : x.f4.length ≤ c4)
    (hp : Kd.C (Kd.int .i64) w Ap (i :: is).length (i :: is)) (lp : (i :: is).length ≤ cp) (hw : Kd.F k25 w S Aw ws.length ws) (lw : ws.length ≤ cw),
    Calls Try.prog 19 #[.agg #[.int .i64 x.f0, .string x.f1, .string x.f2, .slice A3 x.f3.length c3, .slice A4 x.f4.length c4], .slice Ap (i :: is).length cp, .slice Aw ws.length cw] w (PutPost S w (putN x (i :: is) ws))
theorem atN_head {x y : Nd} {i : Int} {is : List Int} (h : atN x (i :: is) = some y) : 0 ≤ i ∧ i.toNat < x.f4.length ∧ ∃ c, x.f4[i.toNat]? = some c ∧ atN c is = some y := by
  rw [atN] at h
  split at h
  · cases h
  · rename_i hi
    cases e : x.f4[i.toNat]? with
    | none => rw [e] at h; cases h
    | some c =>
      rw [e] at h
      exact ⟨by omega, (List.getElem?_eq_some_iff.1 e).1, c, rfl, h⟩
def boxO (x : Nd) (v3 v4 : Value) : Obj := .cells #[.int .i64 x.f0, .string x.f1, .string x.f2, v3, v4] 25 (0, 0)
def zeroO : Obj := .cells #[.int .i64 0, .string ⟨#[]⟩, .string ⟨#[]⟩, .slice none 0 0, .slice none 0 0] 25 (0, 0)
/-- Under way: the box, the result's cell, and the row of kids so far. -/
structure Mid (w : World) (x : Nd) (v3 v4 : Value) (T : Nat → Prop) (v : Value) (xs : List Nd) (w1 : World) : Prop where
  row : RowT (w.heap.size + 2) T v xs w1
  box : w1.heap[w.heap.size]? = some (boxO x v3 v4)
  res : w1.heap[w.heap.size + 1]? = some zeroO
  below : Below w.heap.size w w1
  size : w.heap.size + 2 ≤ w1.heap.size
theorem Mid.start {w : World} {x : Nd} {v3 v4 : Value} {S : Nat → Prop} (hS : ∀ k, S k → k < w.heap.size) : Mid w x v3 v4 S (.slice (some ⟨w.heap.size + 1 + 1, 0, none⟩) ([] : List Nd).length 0) [] (((w.alloc (boxO x v3 v4)).alloc zeroO).alloc (.cells #[] 25 (0, 0))) := by
  refine ⟨RowT.empty (by omega) ?_ (fun k hk => ?_) (fun h => ?_), ?_, ?_, below_alloc (below_alloc (below_alloc (Below.refl _ _) _) _) _, ?_⟩
  · rw [← World.size_alloc w (boxO x v3 v4), ← World.size_alloc (w.alloc (boxO x v3 v4)) zeroO]
    exact heap_alloc_new _ _
  · have := hS k hk
    simp only [World.size_alloc]
    omega
  · have := hS _ h
    omega
  · rw [Below.heap_alloc _ _ _ (by simp only [World.size_alloc]; omega), Below.heap_alloc _ _ _ (by simp only [World.size_alloc]; omega)]
    exact heap_alloc_new _ _
  · rw [Below.heap_alloc _ _ _ (by simp only [World.size_alloc]; omega), ← World.size_alloc w (boxO x v3 v4)]
    exact heap_alloc_new _ _
  · simp only [World.size_alloc]
    omega
/-- A row that grew, all else as it was. -/
theorem Mid.grown {w w1 w2 : World} {x : Nd} {v3 v4 v v2 : Value} {T : Nat → Prop} {xs ys : List Nd} (h : Mid w x v3 v4 T v xs w1) {g : Nat} (hv : v.ownBlock = some g) (hg : w1.grownBy w2 (some g)) (hr : RowT (w.heap.size + 2) T v2 ys w2) : Mid w x v3 v4 T v2 ys w2 := by
  have hge := h.row.base_le g hv
  have hs := h.size
  refine ⟨hr, (hg.block _ (by omega) (fun e => by have := Option.some.inj e; omega)).trans h.box, (hg.block _ (by omega) (fun e => by have := Option.some.inj e; omega)).trans h.res, h.below.grown hg (by omega) (fun j hj => by have := Option.some.inj hj; omega), Nat.le_trans hs hg.size⟩
theorem grownBy_cell (W : World) (b i : Nat) (v : Value) : W.grownBy (W.setCell ⟨b, i, none⟩ v) (some b) :=
  ⟨rfl, rfl, rfl, by rw [World.size_setCell]; exact Nat.le_refl _, fun k _ hk => Below.heap_setCell _ _ _ _ (fun e => hk (by rw [e]))⟩
/-- The end: the row in the box, the box in the result. -/
theorem put_end {w w3 : World} {x z : Nd} {S T : Nat → Prop} {us : List Nd} {v4 : Value} {A3 : Option Addr} {c3 g3 c5 : Nat} (hS : ∀ k, S k → k < w.heap.size) (hT : ∀ k, T k → S k ∨ w.heap.size + 2 ≤ k) (h3 : Kd.F k34 w S A3 x.f3.length x.f3) (l3 : x.f3.length ≤ c3)
    (h : Mid w x (.slice A3 x.f3.length c3) v4 T (.slice (some ⟨g3, 0, none⟩) us.length c5) us w3) (hus : us.length ≤ 9223372036854775807) (hz : z = { x with f4 := us }) :
    let W5 := ((((((w3.setCell ⟨w.heap.size, 4, none⟩ (.slice (some ⟨g3, 0, none⟩) us.length c5)).setCell ⟨w.heap.size + 1, 0, none⟩ (.int .i64 x.f0)).setCell ⟨w.heap.size + 1, 1, none⟩ (.string x.f1)).setCell ⟨w.heap.size + 1, 2, none⟩ (.string x.f2)).setCell ⟨w.heap.size + 1, 3, none⟩ (.slice A3 x.f3.length c3)).setCell ⟨w.heap.size + 1, 4, none⟩ (.slice (some ⟨g3, 0, none⟩) us.length c5))
    W5.heap[w.heap.size + 1]? = some (.cells #[.int .i64 x.f0, .string x.f1, .string x.f2, .slice A3 x.f3.length c3, .slice (some ⟨g3, 0, none⟩) us.length c5] 25 (0, 0)) ∧
    PutPost S w z (.returned (.agg #[.int .i64 x.f0, .string x.f1, .string x.f2, .slice A3 x.f3.length c3, .slice (some ⟨g3, 0, none⟩) us.length c5])) W5 := by
  intro W5
  have hr : (w3.setCell ⟨w.heap.size, 4, none⟩ (.slice (some ⟨g3, 0, none⟩) us.length c5)).heap[w.heap.size + 1]? = some zeroO := (Below.heap_setCell _ _ _ _ (by show w.heap.size + 1 ≠ w.heap.size; omega)).trans h.res
  obtain ⟨g4, hg, hsz⟩ := put5 (.int .i64 x.f0) (.string x.f1) (.string x.f2) (.slice A3 x.f3.length c3) (.slice (some ⟨g3, 0, none⟩) us.length c5) hr
  have hsz5 : W5.heap.size = w3.heap.size := by simp only [W5, World.size_setCell]
  have hk : ∀ k, k ≠ w.heap.size → k ≠ w.heap.size + 1 → k < w3.heap.size → W5.heap[k]? = w3.heap[k]? := fun k h1 h2 h3 =>
    (hg.block k (by rw [World.size_setCell]; exact h3) (fun e => h2 (Option.some.inj e))).trans (Below.heap_setCell _ _ _ _ h1)
  have hs3 := h.size
  have hg3 := h.row.base_le g3 rfl
  have hg3' := h.row.blk_lt g3 rfl
  have hbel : Below w.heap.size w W5 := (h.below.setCell (by show _ ≤ w.heap.size; omega) _).grown hg (by rw [World.size_setCell]; omega) (fun j hj => by have := Option.some.inj hj; omega)
  obtain ⟨A, c, he, hc⟩ := h.row.slice
  injection he with _ _ he
  subst he
  refine ⟨g4, A3, c3, some ⟨g3, 0, none⟩, c5, by rw [hz], ?_, hbel⟩
  rw [hz]
  refine k25_mkF W5 _ { x with f4 := us } l3 (Foot.mono (Foot.step h3 (fun k hk hlt => hbel.block k hlt)) (fun k hk => .inl hk)) hc (Foot.mono (Foot.step (h.row.F hus) (fun k hkk hlt => hk k ?_ ?_ hlt)) (fun k hkk => ?_))
  · rcases hkk with hkk | hkk
    · rcases hT k hkk with hkk | hkk
      · have := hS k hkk; omega
      · omega
    · have : k = g3 := Option.some.inj hkk
      omega
  · rcases hkk with hkk | hkk
    · rcases hT k hkk with hkk | hkk
      · have := hS k hkk; omega
      · omega
    · have : k = g3 := Option.some.inj hkk
      omega
  · rcases hkk with hkk | hkk
    · have hlt := h.row.lt k hkk
      rcases hT k hkk with hkk | hkk
      · exact .inl hkk
      · exact .inr ⟨by omega, by omega⟩
    · have : k = g3 := Option.some.inj hkk
      exact .inr ⟨by omega, by omega⟩
/-- A row that is told elsewhere moves with the world; what it leads to may lie in more. -/
theorem Mid.wider {w w1 w3 : World} {x : Nd} {v3 v4 v : Value} {S : Nat → Prop} {xs : List Nd} (h : Mid w x v3 v4 S v xs w1) (hb : Below w1.heap.size w1 w3) : Mid w x v3 v4 (fun k => S k ∨ w1.heap.size ≤ k ∧ k < w3.heap.size) v xs w3 := by
  have hs := h.size
  have h3 := hb.size
  refine ⟨(h.row.below hb).widen (fun k hk => .inl hk) (fun k hk => ?_) (fun g hg hk => ?_), (hb.block _ (by omega)).trans h.box, (hb.block _ (by omega)).trans h.res, below_then h.below (by omega) hb, by omega⟩
  · rcases hk with hk | hk
    · have := h.row.lt k hk
      omega
    · exact hk.2
  · rcases hk with hk | hk
    · exact h.row.apart g hg hk
    · have := h.row.blk_lt g hg
      omega
theorem kid_at {w : World} {S : Nat → Prop} {a4 : Addr} {xs : List Nd} (h : Kd.F k25 w S (some a4) xs.length xs) {m : Nat} {ck : Nd} (hck : xs[m]? = some ck) : ∃ A3 c3 A4 c4, w.cell? (a4.add (m * 5)) = some (.int .i64 ck.f0) ∧ w.cell? ⟨(a4.add (m * 5)).block, (a4.add (m * 5)).off + 1, none⟩ = some (.string ck.f1) ∧ w.cell? ⟨(a4.add (m * 5)).block, (a4.add (m * 5)).off + 2, none⟩ = some (.string ck.f2) ∧
    w.cell? ⟨(a4.add (m * 5)).block, (a4.add (m * 5)).off + 3, none⟩ = some (.slice A3 ck.f3.length c3) ∧ w.cell? ⟨(a4.add (m * 5)).block, (a4.add (m * 5)).off + 4, none⟩ = some (.slice A4 ck.f4.length c4) ∧ ck.f3.length ≤ c3 ∧ Kd.F k34 w S A3 ck.f3.length ck.f3 ∧ ck.f4.length ≤ c4 ∧ Kd.F k25 w S A4 ck.f4.length ck.f4 := by
  have hr := Kd.F_rows h
  have hml := (List.getElem?_eq_some_iff.1 hck).1
  obtain ⟨ad', e, hc⟩ := hr.2.2 (by omega)
  obtain rfl := Option.some.inj e
  obtain ⟨c, _, hfk, hc0⟩ := hc m ck hck
  have hc1 : ∀ j u, c[j]? = some u → w.cell? (a4.add (m * 5 + j)) = some u := hc0
  obtain ⟨A3, c3, A4, c4, rfl, l3, g3, l4, g4⟩ := k25_openF hfk
  exact ⟨A3, c3, A4, c4, hc1 0 _ rfl, by rw [← add_field _ _ 1 (by omega)]; exact hc1 1 _ rfl, by rw [← add_field _ _ 2 (by omega)]; exact hc1 2 _ rfl, by rw [← add_field _ _ 3 (by omega)]; exact hc1 3 _ rfl, by rw [← add_field _ _ 4 (by omega)]; exact hc1 4 _ rfl, l3, g3, l4, g4⟩
set_option maxRecDepth 100000 in
set_option maxHeartbeats 3200000 in
theorem put_step (is : List Int) (ih : ∀ j js, is = j :: js → PutAt js) : PutAt is := by
  intro i n x y hx hn ws hws hat w S hS A3 A4 Ap Aw c3 c4 cp cw h3 l3 h4 l4 hp lp hw lw
  obtain ⟨hi0, hil, ck, hck, hat2⟩ := atN_head hat
  have hkl : x.f4.length ≤ 1000 := by
    obtain ⟨m, hm, h⟩ := hx.kids
    have := h.len
    omega
  obtain ⟨ap, rfl, hc0⟩ := Kd.at_int hp 0 (by omega) (by simp)
  simp only [Int.toNat_zero, Addr.add_zero'] at hc0
  have hc0' : w.cell? ap = some (.int .i64 i) := hc0
  have hap := World.block_lt_of_cell? w _ hc0'
  obtain ⟨a4, rfl, -⟩ := (Kd.F_now h4).2.2 (by omega)
  have hpm := hp.2.1
  obtain ⟨path, hpath⟩ : ∃ path, path = i :: is := ⟨_, rfl⟩
  have hpl : 1 ≤ path.length := by rw [hpath]; simp
  have HD := Lib.hid hpath
  obtain ⟨z, hz⟩ : ∃ z, z = putN x (i :: is) ws := ⟨_, rfl⟩
  rw [← hz]
  rw [← hpath] at hp lp hpm ⊢
  obtain ⟨ys, hys⟩ : ∃ ys, ys = x.f4.take i.toNat := ⟨_, rfl⟩
  have hyl : i = (ys.length : Int) := by
    rw [hys, List.length_take]
    omega
  subst hyl
  simp only [Int.toNat_natCast] at hil hck hys
  have hin : ys.length ≤ x.f4.length := by omega
  have HF1 := Kd.F_take h4 hin
  rw [← hys] at HF1
  have HM0 := Lib.hid (Mid.start (x := x) (v3 := .slice A3 x.f3.length c3) (v4 := .slice (some a4) x.f4.length c4) hS)
  have HFY := Lib.hid HF1
  have HY := Lib.hid hys
  have HZ := Lib.hid hz
  have H3 := Lib.hid h3
  have H4 := Lib.hid h4
  have HP := Lib.hid hp
  have HW := Lib.hid hw
  have HS := Lib.hid hS
  have HX := Lib.hid hx
  have HCK := Lib.hid hck
  have HAT := Lib.hid hat2
  have IH := Lib.hid ih
  clear hpath hz hx hat hS h3 h4 hp hw hc0 hck hat2 ih HF1 hys
  obtain ⟨ts, hts⟩ : ∃ ts, ts = x.f4.drop (ys.length + 1) := ⟨_, rfl⟩
  have hdl : ts.length = x.f4.length - (ys.length + 1) := by rw [hts]; exact List.length_drop
  have hcut := Kd.F_cut H4.out (m := ys.length + 1) (by omega) l4
  rw [← hts] at hcut
  have HTS := Lib.hid hts
  clear hts
  have htail : ∃ A5, (A5 = some a4 ∧ c4 = ys.length + 1 ∨ A5 = some (a4.add ((ys.length + 1) * 5)) ∧ c4 ≠ ys.length + 1) ∧ Kd.F k25 w S A5 ts.length ts := by
    by_cases hc : c4 = ys.length + 1
    · rw [if_pos hc] at hcut
      exact ⟨_, .inl ⟨rfl, hc⟩, hcut⟩
    · rw [if_neg hc] at hcut
      exact ⟨_, .inr ⟨rfl, hc⟩, hcut⟩
  clear hcut
  obtain ⟨A5, hA5, hcut⟩ := htail
  have HCUT := Lib.hid hcut
  clear hcut
  rcases is with _ | ⟨j, js⟩
  · have hp1 : path.length = 1 := by rw [HD.out]; rfl
    rcases hA5 with ⟨rfl, rfl⟩ | ⟨rfl, hA5⟩
    all_goals
      go_enter Try.func19, Try.ntmps19
      go_wp2_with (first
      | (at_builtin; refine wpList_append_trees rfl (w.heap.size + 2) S (.tmp 12) (.tmp 16) 23 rfl Try.underlying23 infoNd (xs := []) (ys := ys) rfl rfl HM0.out.row (Foot.step HFY.out (fun k hk hlt => HM0.out.below.block k hlt)) (HM0.out.size) (by simp only [List.length_nil]; omega) ?_; intro v1 w1 hr1 hg1 he1; rw [List.nil_append] at hr1 he1; obtain ⟨g1, c1, rfl⟩ := he1; have HM1 := Lib.hid (HM0.out.grown rfl hg1 hr1); clear hr1 hg1)
      | (at_builtin; refine wpList_append_trees rfl (w.heap.size + 2) S (.tmp 21) (.tmp 22) 23 rfl Try.underlying23 infoNd (xs := ys) (ys := ws) rfl rfl HM1.out.row (Foot.step HW.out (fun k hk hlt => HM1.out.below.block k hlt)) (HM1.out.size) (by omega) ?_; intro v2 w2 hr2 hg2 he2; obtain ⟨zs, hzs⟩ : ∃ zs, zs = ys ++ ws := ⟨_, rfl⟩; have hzl : zs.length ≤ 2000 := (by rw [hzs, List.length_append]; omega); rw [← hzs] at hr2 he2; obtain ⟨g2, c2, rfl⟩ := he2; have HM2 := Lib.hid (HM1.out.grown rfl hg2 hr2); clear hr2 hg2; obtain ⟨e0, ef0⟩ := out_cell HM2.out.box 0; obtain ⟨e1, ef1⟩ := out_cell HM2.out.box 1; obtain ⟨e2, ef2⟩ := out_cell HM2.out.box 2; obtain ⟨e3, ef3⟩ := out_cell HM2.out.box 3; obtain ⟨e4, ef4⟩ := out_cell HM2.out.box 4; obtain ⟨r0, rf0⟩ := out_cell HM2.out.res 0; obtain ⟨r1, rf1⟩ := out_cell HM2.out.res 1; obtain ⟨r2, rf2⟩ := out_cell HM2.out.res 2; obtain ⟨r3, rf3⟩ := out_cell HM2.out.res 3; obtain ⟨r4, rf4⟩ := out_cell HM2.out.res 4; simp only [List.getElem?_toArray, List.getElem?_cons_succ, List.getElem?_cons_zero] at e0 e1 e2 e3 e4 r0 r1 r2 r3 r4; have HZS := Lib.hid hzs; clear hzs)
      | (at_builtin; refine wpList_append_trees rfl (w.heap.size + 2) S (.tmp 36) (.tmp 41) 23 rfl Try.underlying23 infoNd (xs := zs) (ys := ts) rfl (by first | (rw [hdl]; rfl) | (rw [show ts.length = 0 from (by omega)]; rfl)) HM2.out.row (Foot.step HCUT.out (fun k hk hlt => HM2.out.below.block k hlt)) (HM2.out.size) (by omega) ?_; intro v3 w3 hr3 hg3 he3; obtain ⟨us, hus⟩ : ∃ us, us = zs ++ ts := ⟨_, rfl⟩; rw [← hus] at hr3 he3; obtain ⟨g3, c5, rfl⟩ := he3; have HM3 := Lib.hid (HM2.out.grown rfl hg3 hr3); clear hr3 hg3; clear e0 e1 e2 e3 e4 r0 r1 r2 r3 r4 ef0 ef1 ef2 ef3 ef4 rf0 rf1 rf2 rf3 rf4; obtain ⟨e0, ef0⟩ := out_cell HM3.out.box 0; obtain ⟨e1, ef1⟩ := out_cell HM3.out.box 1; obtain ⟨e2, ef2⟩ := out_cell HM3.out.box 2; obtain ⟨e3, ef3⟩ := out_cell HM3.out.box 3; obtain ⟨e4, ef4⟩ := out_cell HM3.out.box 4; obtain ⟨r0, rf0⟩ := out_cell HM3.out.res 0; obtain ⟨r1, rf1⟩ := out_cell HM3.out.res 1; obtain ⟨r2, rf2⟩ := out_cell HM3.out.res 2; obtain ⟨r3, rf3⟩ := out_cell HM3.out.res 3; obtain ⟨r4, rf4⟩ := out_cell HM3.out.res 4; simp only [List.getElem?_toArray, List.getElem?_cons_succ, List.getElem?_cons_zero] at e0 e1 e2 e3 e4 r0 r1 r2 r3 r4; have HUS := Lib.hid hus; clear hus))
      have hus : us.length ≤ 9223372036854775807 := by rw [HUS.out, List.length_append]; omega
      obtain ⟨g4, hpost⟩ := put_end HS.out (fun k hk => .inl hk) H3.out l3 HM3.out hus (z := z) (by rw [HZ.out, putN, Int.toNat_natCast, HCK.out, HUS.out, HZS.out, HTS.out, List.append_assoc]; simp only; rw [← HY.out])
      exact bodyPost_ret (results_cell_row rfl _ _ (w.heap.size + 1) 25 #[.int .i64 x.f0, .string x.f1, .string x.f2, .slice A3 x.f3.length c3, .slice (some ⟨g3, 0, none⟩) us.length c5] (0, 0) _ rfl g4 Try.underlying25 rfl (by kernel_rfl)) rfl hpost
  · have hlen1 : path.length = (j :: js).length + 1 := by rw [HD.out]; rfl
    simp only [List.length_cons] at hlen1
    have hp2 : ((path.length : Int) == 1) = false := by simp; omega
    have hp3 : (1 : Int) ≤ (path.length : Int) := by omega
    have hadd : ap.add 1 = ⟨ap.block, ap.off + 1, none⟩ := by
      have h := add_field ap 0 1 (by omega)
      rw [Addr.add_zero'] at h
      exact h
    have hcp : ¬ cp = 1 := by omega
    obtain ⟨A3y, c3y, A4y, c4y, q0, q1, q2, q3, q4, m3, f3, m4, f4⟩ := kid_at H4.out HCK.out
    have hcd := Kd.C_drop HP.out (m := 1) (by omega) lp
    rw [if_neg hcp, HD.out] at hcd
    have hcd2 : Kd.C (Kd.int .i64) w (some (ap.add 1)) (j :: js).length (j :: js) := hcd
    rw [hadd] at hcd2
    obtain ⟨z2, hz2⟩ : ∃ z2, z2 = putN ck (j :: js) ws := ⟨_, rfl⟩
    have hcall : ∀ W, Below w.heap.size w W → Calls Try.prog 19 #[.agg #[.int .i64 ck.f0, .string ck.f1, .string ck.f2, .slice A3y ck.f3.length c3y, .slice A4y ck.f4.length c4y], .slice (some ⟨ap.block, ap.off + 1, none⟩) (path.length - 1) (cp - 1), .slice Aw ws.length cw] W (PutPost S W z2) := by
      intro W hb
      have hTn : ∃ m, m ≤ 1000 ∧ Tn m ck := by
        obtain ⟨m, hm, h⟩ := HX.out.kids
        obtain ⟨m', hm', h'⟩ := h.mem ck (List.mem_of_getElem? HCK.out)
        exact ⟨m', by omega, h'⟩
      obtain ⟨mm, hmm, hT⟩ := hTn
      have h := IH.out j js rfl j mm ck y hT hmm ws hws HAT.out W S (fun k hk => Nat.lt_of_lt_of_le (HS.out k hk) hb.size) A3y A4y (some ⟨ap.block, ap.off + 1, none⟩) Aw c3y c4y (cp - 1) cw (Foot.step f3 (fun k hk hlt => hb.block k hlt)) m3 (Foot.step f4 (fun k hk hlt => hb.block k hlt)) m4 (Kd.C_below hcd2 hb) (by simp only [List.length_cons]; omega) (Foot.step HW.out (fun k hk hlt => hb.block k hlt)) lw
      rw [show (j :: js).length = path.length - 1 by simp only [List.length_cons]; omega, ← hz2] at h
      exact h
    have hqb := World.block_lt_of_cell? w _ q0
    have HCALL := Lib.hid hcall
    have HZ2 := Lib.hid hz2
    clear hcall hcd hcd2 hz2 f3 f4 hlen1 hadd
    rcases hA5 with ⟨rfl, rfl⟩ | ⟨rfl, hA5⟩
    all_goals
      go_enter Try.func19, Try.ntmps19
      go_wp2_with (at_builtin; refine wpList_append_trees rfl (w.heap.size + 2) S (.tmp 12) (.tmp 16) 23 rfl Try.underlying23 infoNd (xs := []) (ys := ys) rfl rfl HM0.out.row (Foot.step HFY.out (fun k hk hlt => HM0.out.below.block k hlt)) (HM0.out.size) (by simp only [List.length_nil]; omega) ?_; intro v1 w1 hr1 hg1 he1; rw [List.nil_append] at hr1 he1; obtain ⟨g1, c1, rfl⟩ := he1; have HM1 := Lib.hid (HM0.out.grown rfl hg1 hr1); clear hr1 hg1)
      replace q0 := (HM1.out.below.cell hqb).trans q0
      replace q1 := (HM1.out.below.cell (World.block_lt_of_cell? w _ q1)).trans q1
      replace q2 := (HM1.out.below.cell (World.block_lt_of_cell? w _ q2)).trans q2
      replace q3 := (HM1.out.below.cell (World.block_lt_of_cell? w _ q3)).trans q3
      replace q4 := (HM1.out.below.cell (World.block_lt_of_cell? w _ q4)).trans q4
      obtain ⟨e4, ef4⟩ := out_cell HM1.out.box 4
      simp only [List.getElem?_toArray, List.getElem?_cons_succ, List.getElem?_cons_zero] at e4
      go_region_law (first
        | (go_simp
           go_at_call 19
           refine (HCALL.out w1.drew (below_then HM1.out.below HM1.out.below.size (below_drew (Below.refl _ _)))).mono ?_
           rintro e w3 ⟨A3z, c3z, A4z, c4z, rfl, hfk, hb3⟩
           have HFK := Lib.hid hfk
           have HB3 := Lib.hid (show Below w1.heap.size w1 w3 from below_then (below_drew (Below.refl _ _)) (Nat.le_refl _) hb3)
           clear hfk hb3 e4 ef4 q0 q1 q2 q3 q4)
        | (have HM1' := Lib.hid (HM1.out.wider HB3.out)
           obtain ⟨css, hcs1, hcs2, hcs3⟩ := HM1'.out.row.row
           refine step_append_fine (w0 := w3) (W := w3) (w.heap.size + 2) rfl (.tmp 24) (.tmp 34) 23 25 _ 5 88 rfl Try.underlying23 infoNd rfl (.slice (some ⟨g1, 0, none⟩) ys.length c1) ys.length css.flatten [.int .i64 z2.f0, .string z2.f1, .string z2.f2, .slice A3z z2.f3.length c3z, .slice A4z z2.f4.length c4z] (by simp [Act.eval, Act.put]) (by simp [Act.eval, Act.put]) rfl (by simp [Value.oneCell']) hcs1 (Below.refl _ _) (by have := HM1'.out.size; omega) (by omega) (by omega) ?_
           intro v2 w4 hown hb4 hg4 hv4
           obtain ⟨g2, c2, rfl, _, _⟩ := hown.form (by omega)
           have hj := HM1'.out.row.join (ys := [z2]) (ds := [[.int .i64 z2.f0, .string z2.f1, .string z2.f2, .slice A3z z2.f3.length c3z, .slice A4z z2.f4.length c4z]]) hcs1 hcs2 hcs3 rfl (fun i y cs hy hc => by
             rcases i with _ | i
             · simp only [List.getElem?_cons_zero, Option.some.injEq] at hy hc
               subst hy hc
               exact ⟨rfl, HFK.out⟩
             · simp at hy) hown hg4 hv4
           obtain ⟨zs, hzs⟩ : ∃ zs, zs = ys ++ [z2] := ⟨_, rfl⟩
           have hzl : zs.length = ys.length + 1 := by rw [hzs]; simp
           rw [← hzs] at hj
           rw [← hzl] at hj
           have HM2 := Lib.hid (HM1'.out.grown rfl hg4 hj)
           have HST := Lib.hid (fun (k : Nat) (hk : S k) => (Or.inl hk : S k ∨ w1.heap.size ≤ k ∧ k < w3.heap.size))
           have HTS2 := Lib.hid (fun (k : Nat) (hk : S k ∨ w1.heap.size ≤ k ∧ k < w3.heap.size) => (hk.imp id (fun h => by have := HM1.out.row.blk_lt g1 rfl; have := HM1.out.row.base_le g1 rfl; omega) : S k ∨ w.heap.size + 2 ≤ k))
           obtain ⟨e0, ef0⟩ := out_cell HM2.out.box 0
           obtain ⟨e1, ef1⟩ := out_cell HM2.out.box 1
           obtain ⟨e2, ef2⟩ := out_cell HM2.out.box 2
           obtain ⟨e3, ef3⟩ := out_cell HM2.out.box 3
           obtain ⟨e4, ef4⟩ := out_cell HM2.out.box 4
           obtain ⟨r0, rf0⟩ := out_cell HM2.out.res 0
           obtain ⟨r1, rf1⟩ := out_cell HM2.out.res 1
           obtain ⟨r2, rf2⟩ := out_cell HM2.out.res 2
           obtain ⟨r3, rf3⟩ := out_cell HM2.out.res 3
           obtain ⟨r4, rf4⟩ := out_cell HM2.out.res 4
           simp only [List.getElem?_toArray, List.getElem?_cons_succ, List.getElem?_cons_zero] at e0 e1 e2 e3 e4 r0 r1 r2 r3 r4
           have HZS := Lib.hid hzs
           clear hzs hown hb4 hg4 hv4 hj hcs1 hcs2 hcs3))
      all_goals
        go_wp2_with (at_builtin; refine wpList_append_trees rfl (w.heap.size + 2) (fun k => S k ∨ w1.heap.size ≤ k ∧ k < w3.heap.size) (.tmp 36) (.tmp 41) 23 rfl Try.underlying23 infoNd (xs := zs) (ys := ts) (by first | rfl | (rw [hzl]; rfl)) (by first | (rw [hdl]; rfl) | (rw [show ts.length = 0 from (by omega)]; rfl)) HM2.out.row (Foot.mono (Foot.step HCUT.out (fun k hk hlt => HM2.out.below.block k hlt)) HST.out) (HM2.out.size) (by omega) ?_; intro v3 w5 hr3 hg3 he3; obtain ⟨us, hus⟩ : ∃ us, us = zs ++ ts := ⟨_, rfl⟩; rw [← hus] at hr3 he3; obtain ⟨g3, c5, rfl⟩ := he3; have HM3 := Lib.hid (HM2.out.grown rfl hg3 hr3); clear hr3 hg3; clear e0 e1 e2 e3 e4 r0 r1 r2 r3 r4 ef0 ef1 ef2 ef3 ef4 rf0 rf1 rf2 rf3 rf4; obtain ⟨e0, ef0⟩ := out_cell HM3.out.box 0; obtain ⟨e1, ef1⟩ := out_cell HM3.out.box 1; obtain ⟨e2, ef2⟩ := out_cell HM3.out.box 2; obtain ⟨e3, ef3⟩ := out_cell HM3.out.box 3; obtain ⟨e4, ef4⟩ := out_cell HM3.out.box 4; obtain ⟨r0, rf0⟩ := out_cell HM3.out.res 0; obtain ⟨r1, rf1⟩ := out_cell HM3.out.res 1; obtain ⟨r2, rf2⟩ := out_cell HM3.out.res 2; obtain ⟨r3, rf3⟩ := out_cell HM3.out.res 3; obtain ⟨r4, rf4⟩ := out_cell HM3.out.res 4; simp only [List.getElem?_toArray, List.getElem?_cons_succ, List.getElem?_cons_zero] at e0 e1 e2 e3 e4 r0 r1 r2 r3 r4; have HUS := Lib.hid hus; clear hus)
        have hus : us.length ≤ 9223372036854775807 := by rw [HUS.out, List.length_append]; omega
        obtain ⟨g4, hpost⟩ := put_end HS.out HTS2.out H3.out l3 HM3.out hus (z := z) (by rw [HZ.out, putN, Int.toNat_natCast, HCK.out, HUS.out, HZS.out, HTS.out, List.append_assoc, HZ2.out]; simp only; rw [← HY.out]; rfl)
        exact bodyPost_ret (results_cell_row rfl _ _ (w.heap.size + 1) 25 #[.int .i64 x.f0, .string x.f1, .string x.f2, .slice A3 x.f3.length c3, .slice (some ⟨g3, 0, none⟩) us.length c5] (0, 0) _ rfl g4 Try.underlying25 rfl (by kernel_rfl)) rfl hpost
theorem put_at (is : List Int) : PutAt is := by
  induction is with
  | nil => exact put_step [] (fun j js h => by cases h)
  | cons j js ih => exact put_step (j :: js) (fun j' js' h => by injection h with h1 h2; subst h2; exact ih)
end Go.Proofs.Ytlallihdiffheaa.Dom
