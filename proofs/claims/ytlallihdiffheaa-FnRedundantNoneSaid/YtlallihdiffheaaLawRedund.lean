/- laws.inlineWithin of small trees: it has an answer; where it says no, no such element stands within another one. laws.FnRedundantNone by hand: the walk. -/
import Derived.Test.YtlallihdiffheaaRedund
import Derived.Test.YtlallihdiffheaaSame
import Derived.Test.YtlallihdiffheaaGTx5
import Derived.Test.YtlallihdiffheaaLawMerge
namespace Go.Proofs.Ytlallihdiffheaa.Hand
open Go.RowKit Go.Proofs.Ytlallihdiffheaa.GT Go.Proofs.YtlallihdiffheaaW.PrintWords Go.Proofs.YtlallihdiffheaaW.PrintLast
set_option linter.unusedVariables false

theorem named_loop (ns : List ByteArray) (hl : ns.length ≤ 1000) (a : ByteArray) : ∀ (d i k : Nat), ns.length - i = d → i ≤ ns.length → d + 1 ≤ k → spec_Named.l0 k a ns (ns.length : Int) (i : Int) = some ((ns.drop i).any (fun x => a.toList == x.toList)) := by
  intro d
  induction d with
  | zero =>
    intro i k hd hi hk
    obtain ⟨k, rfl⟩ : ∃ m, k = m + 1 := ⟨k - 1, by omega⟩
    rw [spec_Named.l0, if_neg (by omega), List.drop_eq_nil_of_le (by omega)]
    rfl
  | succ d ih =>
    intro i k hd hi hk
    obtain ⟨k, rfl⟩ : ∃ m, k = m + 1 := ⟨k - 1, by omega⟩
    have hw : wrap64 ((i : Int) + 1) = ((i + 1 : Nat) : Int) := by unfold wrap64; omega
    have hlt : i < ns.length := by omega
    have e : rdOf ByteArray.empty ns (i : Int) = ns[i] := by simp [rdOf, hlt]
    rw [spec_Named.l0, if_pos (by omega), if_pos (by omega), if_pos (by omega), e, hw, ih (i + 1) k (by omega) (by omega) (by omega), List.drop_eq_getElem_cons hlt, List.any_cons]
    by_cases h : ns[i].toList = a.toList
    · rw [if_pos h, show (a.toList == ns[i].toList) = true from beq_iff_eq.2 h.symm, Bool.true_or]
    · rw [if_neg h, show (a.toList == ns[i].toList) = false from beq_eq_false_iff_ne.2 (fun e => h e.symm), Bool.false_or]
theorem named_ns (ns : List ByteArray) (hl : ns.length ≤ 1000) (a : ByteArray) (k : Nat) (hk : ns.length + 1 ≤ k) : spec_Named.f k ns a = some (ns.any (fun x => a.toList == x.toList)) := by
  unfold spec_Named.f
  have h := named_loop ns hl a ns.length 0 k (by omega) (by omega) hk
  simpa using h
theorem within_loop (ns : List ByteArray) (N : Nat) (ih : ∀ n, n ≤ N → ∀ x : S25, Sm n x → ∀ (i : Bool) k, 10 * n + 10 ≤ k → ∃ r, laws_inlineWithin.f k x.f0 x.f1 x.f2 x.f3 x.f4 ns i = some r ∧ (r = false → NW ns i x)) (ins is : Bool) (kids : List S25) (hl : kids.length ≤ 1000000) :
    ∀ (d i m k : Nat), kids.length - i = d → i ≤ kids.length → SmL m (kids.drop i) → m ≤ N → 10 * m + 11 ≤ k →
      ∃ r, laws_inlineWithin.l0 k ns ins is kids (kids.length : Int) (i : Int) = some r ∧ (r = false → ∀ y ∈ kids.drop i, NW ns (ins || is) y) := by
  intro d
  induction d with
  | zero =>
    intro i m k hd hi hs hm hk
    obtain ⟨k, rfl⟩ : ∃ m, k = m + 1 := ⟨k - 1, by omega⟩
    refine ⟨false, ?_, fun _ y hy => ?_⟩
    · rw [laws_inlineWithin.l0, if_neg (by omega)]
    · rw [List.drop_eq_nil_of_le (by omega)] at hy
      cases hy
  | succ d ihd =>
    intro i m k hd hi hs hm hk
    obtain ⟨k, rfl⟩ : ∃ m, k = m + 1 := ⟨k - 1, by omega⟩
    have hdc : kids.drop i = rd_T25 kids (i : Int) :: kids.drop (i + 1) := by
      rw [List.drop_eq_getElem_cons (show i < kids.length by omega)]
      simp [rd_T25, show i < kids.length by omega]
    rw [hdc] at hs ⊢
    cases hs with
    | cons a b _ _ hy hl2 =>
      have ha := hy.sz.pos
      have hw : wrap64 ((i : Int) + 1) = ((i + 1 : Nat) : Int) := by unfold wrap64; omega
      obtain ⟨r1, h1, h2⟩ := ih a (by omega) _ hy (ins || is) k (by omega)
      obtain ⟨r2, h3, h4⟩ := ihd (i + 1) b k (by omega) (by omega) hl2 (by omega) (by omega)
      have key : ∃ r, (if r1 = true then some true else laws_inlineWithin.l0 k ns ins is kids (kids.length : Int) ((i + 1 : Nat) : Int)) = some r ∧ (r = false → ∀ y ∈ rd_T25 kids (i : Int) :: kids.drop (i + 1), NW ns (ins || is) y) := by
        cases r1 with
        | true => exact ⟨true, rfl, fun h => absurd h (by decide)⟩
        | false =>
          rw [if_neg (by decide), h3]
          refine ⟨r2, rfl, fun h y hy2 => ?_⟩
          rcases List.mem_cons.1 hy2 with e | e
          · rw [e]
            exact h2 rfl
          · exact h4 h y e
      rw [laws_inlineWithin.l0, if_pos (by omega), if_pos (by omega), if_pos (by omega), hw]
      cases ins with
      | true =>
        rw [Bool.true_or] at h1
        rw [if_pos rfl, h1, Option.bind_some]
        exact key
      | false =>
        rw [Bool.false_or] at h1
        rw [if_neg (by decide), h1, Option.bind_some]
        exact key
theorem within_sm (ns : List ByteArray) (hns : ns.length ≤ 5) : ∀ (N n : Nat), n ≤ N → N ≤ 1000000 → ∀ x : S25, Sm n x → ∀ (i : Bool) k, 10 * n + 10 ≤ k → ∃ r, laws_inlineWithin.f k x.f0 x.f1 x.f2 x.f3 x.f4 ns i = some r ∧ (r = false → NW ns i x) := by
  intro N
  induction N with
  | zero =>
    intro n hn _ x hx
    have := hx.sz.pos
    omega
  | succ N ih =>
    intro n hn hN x hx i k hk
    have hp := hx.sz.pos
    obtain ⟨k, rfl⟩ : ∃ m, k = m + 3 := ⟨k - 3, by omega⟩
    have h0 : ∀ (m : Nat) (q0 : Int) (q1 q2 : ByteArray) (kids : List S25), kids.length ≤ 1000000 → SmL m kids → m ≤ N → 10 * m + 11 ≤ k → ∃ r, laws_inlineWithin.f (k + 3) q0 q1 q2 [] kids ns i = some r ∧ (r = false → NW ns i ⟨q0, q1, q2, [], kids⟩) := by
      intro m q0 q1 q2 kids hl hs hm hk2
      have hj : ∀ is : Bool, (decide (q0 = 0) && ns.any (fun x => q1.toList == x.toList)) = is → ∃ r, laws_inlineWithin.j0 (k + 2) ns i is q0 q1 q2 [] kids = some r ∧ (r = false → NW ns i ⟨q0, q1, q2, [], kids⟩) := by
        intro is his
        obtain ⟨r, h1, h2⟩ := within_loop ns N (fun n hn x hx i k hk => ih n hn (by omega) x hx i k hk) i is kids hl kids.length 0 m k (by omega) (by omega) (by simpa using hs) hm hk2
        have h1 : laws_inlineWithin.l0 k ns i is kids (kids.length : Int) 0 = some r := h1
        rw [laws_inlineWithin.j0]
        cases is with
        | true =>
          rw [if_pos rfl, laws_inlineWithin.j1]
          cases i with
          | true => exact ⟨true, rfl, fun h => absurd h (by decide)⟩
          | false =>
            rw [if_neg (by decide), h1]
            refine ⟨r, rfl, fun h => .mk _ _ _ _ _ (fun _ => rfl) ?_⟩
            rw [his]
            simpa using h2 h
        | false =>
          rw [if_neg (by decide), laws_inlineWithin.j1, if_neg (by decide), h1]
          refine ⟨r, rfl, fun h => .mk _ _ _ _ _ (fun e => by rw [his] at e; cases e) ?_⟩
          rw [his]
          simpa using h2 h
      by_cases hq : q0 = 0
      · rw [laws_inlineWithin.f, if_pos hq, named_ns ns (by omega) q1 (k + 2) (by omega), Option.bind_some]
        exact hj _ (by rw [decide_eq_true hq, Bool.true_and])
      · rw [laws_inlineWithin.f, if_neg hq]
        exact hj false (by rw [decide_eq_false hq, Bool.false_and])
    cases hx with
    | text t _ => exact h0 0 1 _ _ [] (by simp) .nil (by omega) (by omega)
    | comment t _ => exact h0 0 2 _ _ [] (by simp) .nil (by omega) (by omega)
    | elem m name kids hk2 => exact h0 m 0 _ _ kids (by have := (SmL.sz hk2).len'; omega) hk2 (by omega) (by omega)
end Go.Proofs.Ytlallihdiffheaa.Hand
namespace Go.Proofs.Ytlallihdiffheaa.Hand
open Go.RowKit Go.Proofs.YtlallihdiffheaaW.PrintWords Go.Proofs.YtlallihdiffheaaW.PrintLast Go.Proofs.Ytlallihdiffheaa.GT
set_option linter.unusedVariables false
set_option linter.unusedSimpArgs false

/-- The names of strong text. -/
def boldNs : List ByteArray := [⟨#[98]⟩, ⟨#[115, 116, 114, 111, 110, 103]⟩]
def boldObj : Obj := .cells #[.string ⟨#[98]⟩, .string ⟨#[115, 116, 114, 111, 110, 103]⟩] 9 (0, 0)
theorem bold_C {w : World} {g : Nat} (hg : w.heap[g]? = some boldObj) : Kd.C Kd.string w (some ⟨g, 0, none⟩) boldNs.length boldNs := by
  refine ⟨rfl, by decide, fun _ => ⟨_, rfl, fun j p hj => ?_⟩⟩
  have h0 := (out_cell hg 0).1
  have h1 := (out_cell hg 1).1
  rcases j with _ | _ | j
  · have hj : some (⟨#[98]⟩ : ByteArray) = some p := hj
    obtain rfl := Option.some.inj hj
    refine ⟨[.string ⟨#[98]⟩], rfl, rfl, fun i u hu => ?_⟩
    rcases i with _ | i
    · simp only [List.getElem?_cons_zero, Option.some.injEq] at hu
      subst hu
      exact h0
    · simp at hu
  · have hj : some (⟨#[115, 116, 114, 111, 110, 103]⟩ : ByteArray) = some p := hj
    obtain rfl := Option.some.inj hj
    refine ⟨[.string ⟨#[115, 116, 114, 111, 110, 103]⟩], rfl, rfl, fun i u hu => ?_⟩
    rcases i with _ | i
    · simp only [List.getElem?_cons_zero, Option.some.injEq] at hu
      subst hu
      exact h1
    · simp at hu
  · simp [boldNs] at hj
theorem within_call {x : S25} {r : Bool} (hr : laws_inlineWithin.f 700 x.f0 x.f1 x.f2 x.f3 x.f4 boldNs false = some r) (w : World) (A3 A4 : Option Addr) (c3 c4 : Nat) (h : k25.K w x (treeCells x A3 c3 A4 c4)) (g : Nat) (hg : w.heap[g]? = some boldObj) :
    Calls Try.prog 43 #[.agg #[.int .i64 x.f0, .string x.f1, .string x.f2, .slice A3 x.f3.length c3, .slice A4 x.f4.length c4], .slice (some ⟨g, 0, none⟩) 2 2, .bool false] w fun e w' => e = .returned (.bool r) ∧ Below w.heap.size w w' := by
  obtain ⟨X5, x5, X6, x6, he7, l7, g7, l8, g8⟩ := k25_open h
  simp only [treeCells, List.cons.injEq, Value.slice.injEq, and_true, true_and] at he7
  obtain ⟨⟨rfl, rfl⟩, rfl, rfl⟩ := he7
  exact laws_inlineWithin.calls 700 _ _ _ _ _ _ _ _ _ _ 2 boldNs false r w g7 l7 g8 l8 (bold_C hg) (by decide) hr
theorem redundant_call (n : Nat) (hn60 : n ≤ 60) (x : S25) (hx : Sm n x) (hnw : NW boldNs false x) (w : World) (A3 A4 : Option Addr) (c3 c4 : Nat) (h : k25.K w x (treeCells x A3 c3 A4 c4)) (g : Nat) (hg : w.heap[g]? = some boldObj) :
    Calls Try.prog 44 #[.agg #[.int .i64 x.f0, .string x.f1, .string x.f2, .slice A3 x.f3.length c3, .slice A4 x.f4.length c4], .slice (some ⟨g, 0, none⟩) 2 2] w (ToldPost x w) := by
  obtain ⟨X5, x5, X6, x6, he7, l7, g7, l8, g8⟩ := k25_open h
  simp only [treeCells, List.cons.injEq, Value.slice.injEq, and_true, true_and] at he7
  obtain ⟨⟨rfl, rfl⟩, rfl, rfl⟩ := he7
  exact redundant_any n hn60 x hx w A3 A4 (some ⟨g, 0, none⟩) c3 c4 2 boldNs hnw g7 l7 g8 l8 (bold_C hg) (by decide) (by decide)
set_option maxRecDepth 100000 in
set_option maxHeartbeats 3200000 in
theorem law_redund (x : S25) (w : World) (A3 A4 : Option Addr) (c3 c4 : Nat) (h3 : k34.C w A3 x.f3.length x.f3) (l3 : x.f3.length ≤ c3) (h4 : k25.C w A4 x.f4.length x.f4) (l4 : x.f4.length ≤ c4) :
    Calls Try.prog 11 #[.agg #[.int .i64 x.f0, .string x.f1, .string x.f2, .slice A3 x.f3.length c3, .slice A4 x.f4.length c4]] w fun e w' => e = .returned (.bool true) ∧ Below w.heap.size w w' := by
  obtain ⟨kz, rz, hz⟩ := fits2_any x
  have H3 := Lib.hid h3
  have H4 := Lib.hid h4
  have HZ := Lib.hid hz
  clear h3 h4 hz
  go_enter Try.func11, Try.ntmps11
  go_wp2_with (first
    | (go_at_call 14; refine (laws_zzFits2.calls kz x.f0 x.f1 x.f2 A3 c3 x.f3 A4 c4 x.f4 rz _ (Kd.C_alloc H3.out _) l3 (Kd.C_alloc H4.out _) l4 HZ.out).mono ?_; rintro e w1 ⟨rfl, hb1⟩; have hn1 := (hb1.block w.heap.size (by rw [World.size_alloc]; omega)).trans (heap_alloc_new w _); have hB1 : Below w.heap.size w w1 := below_then (below_alloc (Below.refl _ _) _) (by rw [World.size_alloc]; omega) hb1; have hs1 : w.heap.size < w1.heap.size := (by have := hb1.size; rw [World.size_alloc] at this; omega); obtain ⟨n0, f0⟩ := out_cell hn1 0; obtain ⟨n1, f1⟩ := out_cell hn1 1; obtain ⟨n2, f2⟩ := out_cell hn1 2; obtain ⟨n3, f3⟩ := out_cell hn1 3; obtain ⟨n4, f4⟩ := out_cell hn1 4; simp only [List.getElem?_toArray, List.getElem?_cons_succ, List.getElem?_cons_zero] at n0 n1 n2 n3 n4; have HN1 := Lib.hid hn1; have HB1 := Lib.hid hB1; clear hb1 hn1 hB1)
    | (go_at_call 31; refine (cutTree_any x w1 A3 A4 c3 c4 (Kd.C_below H3.out HB1.out) l3 (Kd.C_below H4.out HB1.out) l4).mono ?_; rintro e w2 ⟨y, n, B3, d3, B4, d4, rfl, hsm, htl, hb2⟩; have hn2 := (hb2.block w.heap.size hs1).trans HN1.out; obtain ⟨m0, g0⟩ := out_cell hn2 0; obtain ⟨m1, g1⟩ := out_cell hn2 1; obtain ⟨m2, g2⟩ := out_cell hn2 2; obtain ⟨m3, g3⟩ := out_cell hn2 3; obtain ⟨m4, g4⟩ := out_cell hn2 4; simp only [List.getElem?_toArray, List.getElem?_cons_succ, List.getElem?_cons_zero] at m0 m1 m2 m3 m4; have HN2 := Lib.hid hn2; have HB2 := Lib.hid hb2; have HSM := Lib.hid hsm; have HTL := Lib.hid htl; clear hn2 hb2 hsm htl))
  · go_ret
    exact ⟨rfl, HB1.out⟩
  · obtain ⟨e4, hg, hsz⟩ := put5 (.int .i64 y.f0) (.string y.f1) (.string y.f2) (.slice B3 y.f3.length d3) (.slice B4 y.f4.length d4) HN2.out
    clear n0 n1 n2 n3 n4 f0 f1 f2 f3 f4 m0 m1 m2 m3 m4 g0 g1 g2 g3 g4
    generalize (((((w2.setCell ⟨w.heap.size, 0, none⟩ (.int .i64 y.f0)).setCell ⟨w.heap.size, 1, none⟩ (.string y.f1)).setCell ⟨w.heap.size, 2, none⟩ (.string y.f2)).setCell ⟨w.heap.size, 3, none⟩ (.slice B3 y.f3.length d3)).setCell ⟨w.heap.size, 4, none⟩ (.slice B4 y.f4.length d4)) = W3 at *
    have hL1 : ∀ w', Below W3.heap.size W3 w' → Below w.heap.size w w' := fun w' hb => by
      have h1 := HB2.out.size
      refine below_then (B := w.heap.size) ((HB1.out.trans (HB2.out.mono (by omega))).grown hg (by omega) (fun z hz => by have := Option.some.inj hz; omega)) (by omega) hb
    have hKY : ∀ W, Below W3.heap.size W3 W → k25.K W y (treeCells y B3 d3 B4 d4) := fun W hb => HTL.out W (fun z hz1 hz2 => (hb.block z (by omega)).trans (hg.block z hz2 (fun e => by have := Option.some.inj e; omega)))
    have HWL : w.heap.size < W3.heap.size := by have := HB2.out.size; omega
    obtain ⟨m0, -⟩ := out_cell e4 0
    obtain ⟨m1, -⟩ := out_cell e4 1
    obtain ⟨m2, -⟩ := out_cell e4 2
    obtain ⟨m3, -⟩ := out_cell e4 3
    obtain ⟨m4, -⟩ := out_cell e4 4
    simp only [List.getElem?_toArray, List.getElem?_cons_succ, List.getElem?_cons_zero] at m0 m1 m2 m3 m4
    have hcn : ∀ W, Below W3.heap.size W3 W → W.cell? ⟨w.heap.size, 0, none⟩ = some (.int .i64 y.f0) ∧ W.cell? ⟨w.heap.size, 1, none⟩ = some (.string y.f1) ∧ W.cell? ⟨w.heap.size, 2, none⟩ = some (.string y.f2) ∧ W.cell? ⟨w.heap.size, 3, none⟩ = some (.slice B3 y.f3.length d3) ∧ W.cell? ⟨w.heap.size, 4, none⟩ = some (.slice B4 y.f4.length d4) := fun W hb =>
      ⟨(hb.cell (p := ⟨w.heap.size, 0, none⟩) HWL).trans m0, (hb.cell (p := ⟨w.heap.size, 1, none⟩) HWL).trans m1, (hb.cell (p := ⟨w.heap.size, 2, none⟩) HWL).trans m2, (hb.cell (p := ⟨w.heap.size, 3, none⟩) HWL).trans m3, (hb.cell (p := ⟨w.heap.size, 4, none⟩) HWL).trans m4⟩
    obtain ⟨E3, e3, E4, e5, he, l3', g3, l4', g4⟩ := k25_open (hKY W3 (Below.refl _ _))
    obtain ⟨rfl, rfl, rfl, rfl⟩ : B3 = E3 ∧ d3 = e3 ∧ B4 = E4 ∧ d4 = e5 := by
      simp only [treeCells, List.cons.injEq, Value.slice.injEq, and_true, true_and] at he
      exact ⟨he.1.1, he.1.2, he.2.1, he.2.2⟩
    have HCN := Lib.hid hcn
    have HKY := Lib.hid hKY
    have HL1 := Lib.hid hL1
    have HG4 := Lib.hid (And.intro l3' (And.intro g3 (And.intro l4' g4)))
    clear hg he l3' g3 l4' g4 e4 hL1 hKY hcn
    obtain ⟨r, hr, hnw⟩ := within_sm boldNs (by decide) 60 n HSM.out.2 (by decide) y HSM.out.1 false 700 (by have := HSM.out.2; omega)
    have HW := Lib.hid (And.intro hr hnw)
    clear hr hnw
    go_wp2
    have h5 : (W3.alloc boldObj).heap[W3.heap.size]? = some boldObj := heap_alloc_new _ _
    have hb5 : Below W3.heap.size W3 (W3.alloc boldObj) := below_alloc (Below.refl _ _) _
    have hs5 : W3.heap.size < (W3.alloc boldObj).heap.size := by rw [World.size_alloc]; omega
    simp only [boldObj] at h5 hb5 hs5
    generalize (W3.alloc (.cells #[.string ⟨#[98]⟩, .string ⟨#[115, 116, 114, 111, 110, 103]⟩] 9 (0, 0))) = W5 at *
    have hbo : ∀ W, Below W5.heap.size W5 W → W.heap[w2.heap.size]? = some boldObj := fun W hb => by
      rw [← hsz]
      exact (hb.block _ hs5).trans h5
    obtain ⟨v0, v1, v2, v3, v4⟩ := HCN.out W5 hb5
    have HBO := Lib.hid hbo
    have HB5 := Lib.hid hb5
    clear h5 hb5 hs5 hbo m0 m1 m2 m3 m4
    cases r with
    | true =>
      first
      | go_region_law (first
        | (go_simp
           go_at_call 43
           refine (within_call HW.out.1 _ B3 B4 d3 d4 (HKY.out _ (below_then HB5.out HB5.out.size (Below.refl _ _).drew)) w2.heap.size (HBO.out _ (Below.refl _ _).drew)).mono ?_
           rintro e w6 ⟨rfl, hb6⟩
           have HC6 := Lib.hid (below_then (Below.refl W5.heap.size W5).drew (Nat.le_refl _) hb6)
           obtain ⟨p0, p1, p2, p3, p4⟩ := HCN.out w6 (below_then HB5.out HB5.out.size HC6.out)
           clear hb6)
        | (go_simp
           go_at_call 35
           refine (lives_any _).mono ?_
           rintro e w11 ⟨rfl, hb11⟩
           have HC11 := Lib.hid (below_then HC6.out HC6.out.size hb11)
           clear hb11))
      | skip
      all_goals (
        go_wp2
        go_ret
        exact ⟨rfl, HL1.out _ (below_then HB5.out HB5.out.size HC11.out)⟩)
    | false =>
      go_region_law (first
      | (go_simp
         go_at_call 43
         refine (within_call HW.out.1 _ B3 B4 d3 d4 (HKY.out _ (below_then HB5.out HB5.out.size (Below.refl _ _).drew)) w2.heap.size (HBO.out _ (Below.refl _ _).drew)).mono ?_
         rintro e w6 ⟨rfl, hb6⟩
         have HC6 := Lib.hid (below_then (Below.refl W5.heap.size W5).drew (Nat.le_refl _) hb6)
         obtain ⟨p0, p1, p2, p3, p4⟩ := HCN.out w6 (below_then HB5.out HB5.out.size HC6.out)
         clear hb6)
      | (go_simp
         go_at_call 44
         refine (redundant_call n HSM.out.2 y HSM.out.1 (HW.out.2 rfl) w6 B3 B4 d3 d4 (HKY.out _ (below_then HB5.out HB5.out.size HC6.out)) w2.heap.size (HBO.out _ HC6.out)).mono ?_
         rintro e w7 ⟨A7, c7, A8, c8, rfl, htl7, hb7⟩
         have HC7 := Lib.hid (below_then HC6.out HC6.out.size hb7)
         have HTL7 := Lib.hid htl7
         obtain ⟨q0, q1, q2, q3, q4⟩ := HCN.out w7 (below_then HB5.out HB5.out.size HC7.out)
         clear hb7 htl7)
      | (go_simp
         go_at_call 32
         refine (same_call y w7 A7 A8 B3 B4 c7 c8 d3 d4 (HTL7.out w7 (fun z hz1 hz2 => rfl)) (HKY.out _ (below_then HB5.out HB5.out.size HC7.out)) (same_sm 60 n HSM.out.2 (by omega) y HSM.out.1 600 (by have := HSM.out.2; omega))).mono ?_
         rintro e w8 ⟨rfl, hb8⟩
         have HC8 := Lib.hid (below_then HC7.out HC7.out.size hb8)
         clear hb8)
      | (go_simp
         go_at_call 35
         refine (lives_any _).mono ?_
         rintro e w11 ⟨rfl, hb11⟩
         have HC11 := Lib.hid (below_then HC8.out HC8.out.size hb11)
         clear hb11))
      all_goals (
        go_wp2
        go_ret
        exact ⟨rfl, HL1.out _ (below_then HB5.out HB5.out.size HC11.out)⟩)
end Go.Proofs.Ytlallihdiffheaa.Hand
