/- laws.FnDomRemoved and laws.FnDomUnwrapped by hand: the walks. -/
import Derived.Test.YtlallihdiffheaaPut
import Derived.Test.YtlallihdiffheaaFits
import Derived.Test.YtlallihdiffheaaTree29
namespace Go.Proofs.Ytlallihdiffheaa.Dom
open Go.RowKit Go.Proofs.YtlallihdiffheaaW.PrintWords Go.Proofs.YtlallihdiffheaaW.PrintLast Go.Proofs.YtlallihdiffheaaW.PrintMore Go.Proofs.Ytlallihdiffheaa.GT Go.Proofs.Ytlallihdiffheaa.Hand
set_option linter.unusedVariables false
set_option linter.unusedSimpArgs false

theorem equal_call (z : Nd) {k : Nat} (hs : laws_equal29.f k z.f0 z.f1 z.f2 z.f3 z.f4 z.f0 z.f1 z.f2 z.f3 z.f4 = some true) (w : World) (A5 A6 A7 A8 : Option Addr) (c5 c6 c7 c8 : Nat) (h1 : k25.K w z (treeCells z A5 c5 A6 c6)) (h2 : k25.K w z (treeCells z A7 c7 A8 c8)) :
    Calls Try.prog 18 #[.agg #[.int .i64 z.f0, .string z.f1, .string z.f2, .slice A5 z.f3.length c5, .slice A6 z.f4.length c6], .agg #[.int .i64 z.f0, .string z.f1, .string z.f2, .slice A7 z.f3.length c7, .slice A8 z.f4.length c8]] w fun e w' => e = .returned (.bool true) ∧ Below w.heap.size w w' := by
  obtain ⟨X5, x5, X6, x6, he7, l7, g7, l8, g8⟩ := k25_open h1
  obtain ⟨X7, x7, X8, x8, he9, l9, g9, l10, g10⟩ := k25_open h2
  simp only [treeCells, List.cons.injEq, Value.slice.injEq, and_true, true_and] at he7 he9
  obtain ⟨⟨rfl, rfl⟩, rfl, rfl⟩ := he7
  obtain ⟨⟨rfl, rfl⟩, rfl, rfl⟩ := he9
  exact laws_equal29.calls k _ _ _ _ _ _ _ _ _ _ _ _ _ _ _ _ _ _ true _ g7 l7 g8 l8 g9 l9 g10 l10 hs
theorem below_any (x : Nd) (path : List Int) (hp : path.length ≤ 9223372036854775807) : ∃ k rb, laws_below29.f k x.f0 x.f1 x.f2 x.f3 x.f4 path = some rb ∧ (rb = true → ∃ i is y, path = i :: is ∧ atN x (i :: is) = some y) := by
  obtain ⟨k, hk⟩ := at_any x path hp
  refine ⟨k, ?_⟩
  unfold laws_below29.f
  rw [hk]
  cases e : atN x path with
  | none => exact ⟨false, rfl, fun h => by cases h⟩
  | some y =>
    refine ⟨decide ((path.length : Int) > 0), rfl, fun h => ?_⟩
    cases path with
    | nil => simp at h
    | cons i is => exact ⟨i, is, y, rfl, e⟩
/-- The box of the law's tree, and what is below. -/
structure Bx (w : World) (x : Nd) (v3 v4 : Value) (w1 : World) : Prop where
  box : w1.heap[w.heap.size]? = some (boxO x v3 v4)
  below : Below w.heap.size w w1
  size : w.heap.size < w1.heap.size
theorem Bx.start {w : World} {x : Nd} {v3 v4 : Value} : Bx w x v3 v4 (w.alloc (boxO x v3 v4)) :=
  ⟨heap_alloc_new _ _, below_alloc (Below.refl _ _) _, by rw [World.size_alloc]; omega⟩
theorem Bx.step {w w1 w2 : World} {x : Nd} {v3 v4 : Value} (h : Bx w x v3 v4 w1) (hb : Below w1.heap.size w1 w2) : Bx w x v3 v4 w2 :=
  ⟨(hb.block _ h.size).trans h.box, below_then h.below (Nat.le_of_lt h.size) hb, Nat.lt_of_lt_of_le h.size hb.size⟩
theorem Bx.cells {w w1 : World} {x : Nd} {v3 v4 : Value} (h : Bx w x v3 v4 w1) : w1.cell? ⟨w.heap.size, 0, none⟩ = some (.int .i64 x.f0) ∧ w1.cell? ⟨w.heap.size, 1, none⟩ = some (.string x.f1) ∧ w1.cell? ⟨w.heap.size, 2, none⟩ = some (.string x.f2) ∧ w1.cell? ⟨w.heap.size, 3, none⟩ = some v3 ∧ w1.cell? ⟨w.heap.size, 4, none⟩ = some v4 :=
  ⟨(out_cell h.box 0).1, (out_cell h.box 1).1, (out_cell h.box 2).1, (out_cell h.box 3).1, (out_cell h.box 4).1⟩
theorem atN_tn {n : Nat} {x : Nd} (hx : Tn n x) (p : List Int) {y : Nd} (h : atN x p = some y) : ∃ m, m ≤ n ∧ Tn m y := by
  induction p generalizing n x with
  | nil =>
    rw [atN] at h
    injection h with h
    subst h
    exact ⟨n, Nat.le_refl _, hx⟩
  | cons i is ih =>
    obtain ⟨_, _, c, hc, h2⟩ := atN_head h
    obtain ⟨m, hm, hk⟩ := hx.kids
    obtain ⟨m', hm', h'⟩ := hk.mem c (List.mem_of_getElem? hc)
    obtain ⟨m2, hm2, h3⟩ := ih h' h2
    exact ⟨m2, by omega, h3⟩
section
variable (x : Nd) (hx : OkT x) (path : List Int) (w : World) (A3 A4 Ap : Option Addr) (c3 c4 cp : Nat) (h3 : k34.C w A3 x.f3.length x.f3) (l3 : x.f3.length ≤ c3) (h4 : k25.C w A4 x.f4.length x.f4) (l4 : x.f4.length ≤ c4) (hp : Kd.C (Kd.int .i64) w Ap path.length path) (lp : path.length ≤ cp)
include hx h3 l3 h4 l4 hp lp
set_option maxRecDepth 100000 in
set_option maxHeartbeats 6400000 in
theorem law_removed : Calls Try.prog 3 #[.agg #[.int .i64 x.f0, .string x.f1, .string x.f2, .slice A3 x.f3.length c3, .slice A4 x.f4.length c4], .slice Ap path.length cp] w fun e w' => e = .returned (.bool true) ∧ Below w.heap.size w w' := by
  have hpm := hp.2.1
  obtain ⟨kz, rz, hz⟩ := fits2_any x
  obtain ⟨kt, rt, ht⟩ := tree_any x hx
  obtain ⟨ka, rb, hbe⟩ := below_any x path hpm
  have H3 := Lib.hid h3
  have H4 := Lib.hid h4
  have HP := Lib.hid hp
  have HZ := Lib.hid hz
  have HT := Lib.hid ht
  have HBE := Lib.hid hbe
  have HX0 := Lib.hid (Bx.start (w := w) (x := x) (v3 := .slice A3 x.f3.length c3) (v4 := .slice A4 x.f4.length c4))
  clear h3 h4 hp hz ht hbe hx
  cases rz with
  | false =>
    go_enter Try.func3, Try.ntmps3
    go_wp2_with (first
      | (go_at_call 14; refine (laws_zzFits2.calls kz x.f0 x.f1 x.f2 A3 c3 x.f3 A4 c4 x.f4 _ _ (Kd.C_below H3.out HX0.out.below) l3 (Kd.C_below H4.out HX0.out.below) l4 HZ.out).mono ?_; rintro e w1 ⟨rfl, hb1⟩; have HX1 := Lib.hid (HX0.out.step hb1); have hs1 := HX1.out.size; obtain ⟨n10, n11, n12, n13, n14⟩ := HX1.out.cells; clear hb1)
      | (go_at_call 15; refine (laws_tree29.calls kt x.f0 x.f1 x.f2 A3 c3 x.f3 A4 c4 x.f4 _ _ (Kd.C_below H3.out HX1.out.below) l3 (Kd.C_below H4.out HX1.out.below) l4 HT.out.1).mono ?_; rintro e w2 ⟨rfl, hb2⟩; have HX2 := Lib.hid (HX1.out.step hb2); have hs2 := HX2.out.size; obtain ⟨n20, n21, n22, n23, n24⟩ := HX2.out.cells; clear hb2)
      | (go_at_call 16; refine (laws_below29.calls ka x.f0 x.f1 x.f2 A3 c3 x.f3 A4 c4 x.f4 Ap cp path _ _ (Kd.C_below H3.out HX2.out.below) l3 (Kd.C_below H4.out HX2.out.below) l4 (Kd.C_below HP.out HX2.out.below) lp HBE.out.1).mono ?_; rintro e w3 ⟨rfl, hb3⟩; have HX3 := Lib.hid (HX2.out.step hb3); have hs3 := HX3.out.size; obtain ⟨n30, n31, n32, n33, n34⟩ := HX3.out.cells; clear hb3))
    go_ret
    exact ⟨rfl, HX1.out.below⟩
  | true =>
    by_cases hpl : (path.length : Int) > 2147483647
    · go_enter Try.func3, Try.ntmps3
      go_wp2_with (first
      | (go_at_call 14; refine (laws_zzFits2.calls kz x.f0 x.f1 x.f2 A3 c3 x.f3 A4 c4 x.f4 _ _ (Kd.C_below H3.out HX0.out.below) l3 (Kd.C_below H4.out HX0.out.below) l4 HZ.out).mono ?_; rintro e w1 ⟨rfl, hb1⟩; have HX1 := Lib.hid (HX0.out.step hb1); have hs1 := HX1.out.size; obtain ⟨n10, n11, n12, n13, n14⟩ := HX1.out.cells; clear hb1)
      | (go_at_call 15; refine (laws_tree29.calls kt x.f0 x.f1 x.f2 A3 c3 x.f3 A4 c4 x.f4 _ _ (Kd.C_below H3.out HX1.out.below) l3 (Kd.C_below H4.out HX1.out.below) l4 HT.out.1).mono ?_; rintro e w2 ⟨rfl, hb2⟩; have HX2 := Lib.hid (HX1.out.step hb2); have hs2 := HX2.out.size; obtain ⟨n20, n21, n22, n23, n24⟩ := HX2.out.cells; clear hb2)
      | (go_at_call 16; refine (laws_below29.calls ka x.f0 x.f1 x.f2 A3 c3 x.f3 A4 c4 x.f4 Ap cp path _ _ (Kd.C_below H3.out HX2.out.below) l3 (Kd.C_below H4.out HX2.out.below) l4 (Kd.C_below HP.out HX2.out.below) lp HBE.out.1).mono ?_; rintro e w3 ⟨rfl, hb3⟩; have HX3 := Lib.hid (HX2.out.step hb3); have hs3 := HX3.out.size; obtain ⟨n30, n31, n32, n33, n34⟩ := HX3.out.cells; clear hb3))
      go_ret
      exact ⟨rfl, HX1.out.below⟩
    · cases rt with
      | false =>
        go_enter Try.func3, Try.ntmps3
        go_wp2_with (first
      | (go_at_call 14; refine (laws_zzFits2.calls kz x.f0 x.f1 x.f2 A3 c3 x.f3 A4 c4 x.f4 _ _ (Kd.C_below H3.out HX0.out.below) l3 (Kd.C_below H4.out HX0.out.below) l4 HZ.out).mono ?_; rintro e w1 ⟨rfl, hb1⟩; have HX1 := Lib.hid (HX0.out.step hb1); have hs1 := HX1.out.size; obtain ⟨n10, n11, n12, n13, n14⟩ := HX1.out.cells; clear hb1)
      | (go_at_call 15; refine (laws_tree29.calls kt x.f0 x.f1 x.f2 A3 c3 x.f3 A4 c4 x.f4 _ _ (Kd.C_below H3.out HX1.out.below) l3 (Kd.C_below H4.out HX1.out.below) l4 HT.out.1).mono ?_; rintro e w2 ⟨rfl, hb2⟩; have HX2 := Lib.hid (HX1.out.step hb2); have hs2 := HX2.out.size; obtain ⟨n20, n21, n22, n23, n24⟩ := HX2.out.cells; clear hb2)
      | (go_at_call 16; refine (laws_below29.calls ka x.f0 x.f1 x.f2 A3 c3 x.f3 A4 c4 x.f4 Ap cp path _ _ (Kd.C_below H3.out HX2.out.below) l3 (Kd.C_below H4.out HX2.out.below) l4 (Kd.C_below HP.out HX2.out.below) lp HBE.out.1).mono ?_; rintro e w3 ⟨rfl, hb3⟩; have HX3 := Lib.hid (HX2.out.step hb3); have hs3 := HX3.out.size; obtain ⟨n30, n31, n32, n33, n34⟩ := HX3.out.cells; clear hb3))
        go_ret
        exact ⟨rfl, HX2.out.below⟩
      | true =>
        cases rb with
        | false =>
          go_enter Try.func3, Try.ntmps3
          go_wp2_with (first
      | (go_at_call 14; refine (laws_zzFits2.calls kz x.f0 x.f1 x.f2 A3 c3 x.f3 A4 c4 x.f4 _ _ (Kd.C_below H3.out HX0.out.below) l3 (Kd.C_below H4.out HX0.out.below) l4 HZ.out).mono ?_; rintro e w1 ⟨rfl, hb1⟩; have HX1 := Lib.hid (HX0.out.step hb1); have hs1 := HX1.out.size; obtain ⟨n10, n11, n12, n13, n14⟩ := HX1.out.cells; clear hb1)
      | (go_at_call 15; refine (laws_tree29.calls kt x.f0 x.f1 x.f2 A3 c3 x.f3 A4 c4 x.f4 _ _ (Kd.C_below H3.out HX1.out.below) l3 (Kd.C_below H4.out HX1.out.below) l4 HT.out.1).mono ?_; rintro e w2 ⟨rfl, hb2⟩; have HX2 := Lib.hid (HX1.out.step hb2); have hs2 := HX2.out.size; obtain ⟨n20, n21, n22, n23, n24⟩ := HX2.out.cells; clear hb2)
      | (go_at_call 16; refine (laws_below29.calls ka x.f0 x.f1 x.f2 A3 c3 x.f3 A4 c4 x.f4 Ap cp path _ _ (Kd.C_below H3.out HX2.out.below) l3 (Kd.C_below H4.out HX2.out.below) l4 (Kd.C_below HP.out HX2.out.below) lp HBE.out.1).mono ?_; rintro e w3 ⟨rfl, hb3⟩; have HX3 := Lib.hid (HX2.out.step hb3); have hs3 := HX3.out.size; obtain ⟨n30, n31, n32, n33, n34⟩ := HX3.out.cells; clear hb3))
          go_ret
          exact ⟨rfl, HX3.out.below⟩
        | true =>
          obtain ⟨i, is, y, hpath, hat⟩ := HBE.out.2 rfl
          obtain ⟨-, ⟨n, hn, htn⟩, -⟩ := HT.out.2 rfl
          obtain ⟨z, hz⟩ : ∃ z, z = putN x (i :: is) [] := ⟨_, rfl⟩
          have hp0 := HP.out
          rw [hpath] at hp0
          have hrem : ∀ W, Below w.heap.size w W → (∃ m, m ≤ 1000 ∧ Tn m z) ∧ Calls Try.prog 17 #[.agg #[.int .i64 x.f0, .string x.f1, .string x.f2, .slice A3 x.f3.length c3, .slice A4 x.f4.length c4], .slice Ap path.length cp] W (ChangedPost z W) := by
            intro W hb
            have h := removed_any htn hn hat W A3 A4 Ap c3 c4 cp (Kd.C_below H3.out hb) l3 (Kd.C_below H4.out hb) l4 (Kd.C_below hp0 hb)
            rw [← hz, ← hpath] at h
            exact h
          obtain ⟨mz, hmz, htz⟩ := (hrem w (Below.refl _ _)).1
          obtain ⟨kq, hq⟩ := equal_self mz z htz (by omega)
          have hput : ∀ W, Below w.heap.size w W → Calls Try.prog 19 #[.agg #[.int .i64 x.f0, .string x.f1, .string x.f2, .slice A3 x.f3.length c3, .slice A4 x.f4.length c4], .slice Ap path.length cp, .slice none 0 0] W (PutPost (fun k => k < w.heap.size) W z) := by
            intro W hb
            have h := put_at is i n x y htn (by omega) [] (by simp) hat W (fun k => k < w.heap.size) (fun k hk => Nat.lt_of_lt_of_le hk hb.size) A3 A4 Ap none c3 c4 cp 0 (Foot.step (Kd.C_F k34_heap H3.out) (fun k hk _ => hb.block k hk)) l3 (Foot.step (Kd.C_F k25_heap H4.out) (fun k hk _ => hb.block k hk)) l4 (Kd.C_below hp0 hb) (by rw [← hpath]; exact lp) (fun W' _ => ⟨rfl, by simp, fun hp => by simp at hp⟩) (Nat.le_refl _)
            rw [← hz, ← hpath] at h
            exact h
          have HREM := Lib.hid hrem
          have HPUT := Lib.hid hput
          have HEQ := Lib.hid hq
          clear hrem hput hq hmz htz hp0 hpath hat htn hz
          go_enter Try.func3, Try.ntmps3
          go_wp2_with (first
            | (go_at_call 14; refine (laws_zzFits2.calls kz x.f0 x.f1 x.f2 A3 c3 x.f3 A4 c4 x.f4 _ _ (Kd.C_below H3.out HX0.out.below) l3 (Kd.C_below H4.out HX0.out.below) l4 HZ.out).mono ?_; rintro e w1 ⟨rfl, hb1⟩; have HX1 := Lib.hid (HX0.out.step hb1); have hs1 := HX1.out.size; obtain ⟨n10, n11, n12, n13, n14⟩ := HX1.out.cells; clear hb1)
            | (go_at_call 15; refine (laws_tree29.calls kt x.f0 x.f1 x.f2 A3 c3 x.f3 A4 c4 x.f4 _ _ (Kd.C_below H3.out HX1.out.below) l3 (Kd.C_below H4.out HX1.out.below) l4 HT.out.1).mono ?_; rintro e w2 ⟨rfl, hb2⟩; have HX2 := Lib.hid (HX1.out.step hb2); have hs2 := HX2.out.size; obtain ⟨n20, n21, n22, n23, n24⟩ := HX2.out.cells; clear hb2)
            | (go_at_call 16; refine (laws_below29.calls ka x.f0 x.f1 x.f2 A3 c3 x.f3 A4 c4 x.f4 Ap cp path _ _ (Kd.C_below H3.out HX2.out.below) l3 (Kd.C_below H4.out HX2.out.below) l4 (Kd.C_below HP.out HX2.out.below) lp HBE.out.1).mono ?_; rintro e w3 ⟨rfl, hb3⟩; have HX3 := Lib.hid (HX2.out.step hb3); have hs3 := HX3.out.size; obtain ⟨n30, n31, n32, n33, n34⟩ := HX3.out.cells; clear hb3)
            | (go_at_call 17; refine (HREM.out w3 HX3.out.below).2.mono ?_; rintro e w4 ⟨A5, c5, A6, c6, rfl, htl, hb4⟩; have HTL := Lib.hid htl; have HB4 := Lib.hid hb4; have HX4 := Lib.hid (HX3.out.step hb4); have hs4 := HX4.out.size; obtain ⟨n40, n41, n42, n43, n44⟩ := HX4.out.cells; clear htl hb4))
          have h5 : (w4.alloc (boxO z (.slice A5 z.f3.length c5) (.slice A6 z.f4.length c6))).heap[w4.heap.size]? = some (boxO z (.slice A5 z.f3.length c5) (.slice A6 z.f4.length c6)) := heap_alloc_new _ _
          have hb5 : Below w4.heap.size w4 (w4.alloc (boxO z (.slice A5 z.f3.length c5) (.slice A6 z.f4.length c6))) := below_alloc (Below.refl _ _) _
          have hs5 : w4.heap.size < (w4.alloc (boxO z (.slice A5 z.f3.length c5) (.slice A6 z.f4.length c6))).heap.size := by rw [World.size_alloc]; omega
          unfold boxO at h5 hb5 hs5
          generalize (w4.alloc (.cells #[.int .i64 z.f0, .string z.f1, .string z.f2, .slice A5 z.f3.length c5, .slice A6 z.f4.length c6] 25 (0, 0))) = W5 at *
          have HX5 := Lib.hid (HX4.out.step hb5)
          have hsk : ∀ W, Below W5.heap.size W5 W → W.cell? ⟨w4.heap.size, 0, none⟩ = some (.int .i64 z.f0) ∧ W.cell? ⟨w4.heap.size, 1, none⟩ = some (.string z.f1) ∧ W.cell? ⟨w4.heap.size, 2, none⟩ = some (.string z.f2) ∧ W.cell? ⟨w4.heap.size, 3, none⟩ = some (.slice A5 z.f3.length c5) ∧ W.cell? ⟨w4.heap.size, 4, none⟩ = some (.slice A6 z.f4.length c6) := fun W hb =>
            ⟨(hb.cell (p := ⟨w4.heap.size, 0, none⟩) hs5).trans (out_cell h5 0).1, (hb.cell (p := ⟨w4.heap.size, 1, none⟩) hs5).trans (out_cell h5 1).1, (hb.cell (p := ⟨w4.heap.size, 2, none⟩) hs5).trans (out_cell h5 2).1, (hb.cell (p := ⟨w4.heap.size, 3, none⟩) hs5).trans (out_cell h5 3).1, (hb.cell (p := ⟨w4.heap.size, 4, none⟩) hs5).trans (out_cell h5 4).1⟩
          have hk5 : ∀ W, Below W5.heap.size W5 W → k25.K W z (treeCells z A5 c5 A6 c6) := fun W hb => HTL.out W (fun k h1 h2 => (hb.block k (by omega)).trans (hb5.block k h2))
          have HSK := Lib.hid hsk
          have HK5 := Lib.hid hk5
          have HB5 := Lib.hid hb5
          clear hsk hk5 hb5 h5
          try clear n10 n11 n12 n13 n14 n20 n21 n22 n23 n24 n30 n31 n32 n33 n34
          try clear n40 n41 n42 n43 n44
          obtain ⟨n50, n51, n52, n53, n54⟩ := HX5.out.cells
          obtain ⟨o50, o51, o52, o53, o54⟩ := HSK.out W5 (Below.refl _ _)
          go_region_law (first
            | (go_simp
               go_at_call 19
               refine (HPUT.out W5.drew (HX5.out.step (Below.refl _ _).drew).below).mono ?_
               rintro e w6 ⟨A7, c7, A8, c8, rfl, hfk, hb6⟩
               have hb6' : Below W5.heap.size W5 w6 := below_then (Below.refl W5.heap.size W5).drew (Nat.le_refl _) hb6
               have HFK := Lib.hid hfk
               have HB6 := Lib.hid hb6'
               obtain ⟨p0, p1, p2, p3, p4⟩ := HSK.out w6 hb6'
               obtain ⟨q0, q1, q2, q3, q4⟩ := (HX5.out.step hb6').cells
               clear hb6 hb6' hfk)
            | (go_simp
               go_at_call 18
               refine (equal_call z HEQ.out w6 A5 A6 A7 A8 c5 c6 c7 c8 (HK5.out w6 HB6.out) (Kd.FK_now HFK.out)).mono ?_
               rintro e w7 ⟨rfl, hb7⟩
               have HB7 := Lib.hid (HX5.out.step (below_then HB6.out HB6.out.size hb7)).below
               clear hb7))
          all_goals (
            go_wp2
            go_ret
            exact ⟨rfl, HB7.out⟩)
set_option maxRecDepth 100000 in
set_option maxHeartbeats 6400000 in
theorem law_unwrapped : Calls Try.prog 6 #[.agg #[.int .i64 x.f0, .string x.f1, .string x.f2, .slice A3 x.f3.length c3, .slice A4 x.f4.length c4], .slice Ap path.length cp] w fun e w' => e = .returned (.bool true) ∧ Below w.heap.size w w' := by
  have hpm := hp.2.1
  obtain ⟨kz, rz, hz⟩ := fits2_any x
  obtain ⟨kt, rt, ht⟩ := tree_any x hx
  obtain ⟨ka, rb, hbe⟩ := below_any x path hpm
  have H3 := Lib.hid h3
  have H4 := Lib.hid h4
  have HP := Lib.hid hp
  have HZ := Lib.hid hz
  have HT := Lib.hid ht
  have HBE := Lib.hid hbe
  have HX0 := Lib.hid (Bx.start (w := w) (x := x) (v3 := .slice A3 x.f3.length c3) (v4 := .slice A4 x.f4.length c4))
  clear h3 h4 hp hz ht hbe hx
  cases rz with
  | false =>
    go_enter Try.func6, Try.ntmps6
    go_wp2_with (first
      | (go_at_call 14; refine (laws_zzFits2.calls kz x.f0 x.f1 x.f2 A3 c3 x.f3 A4 c4 x.f4 _ _ (Kd.C_below H3.out HX0.out.below) l3 (Kd.C_below H4.out HX0.out.below) l4 HZ.out).mono ?_; rintro e w1 ⟨rfl, hb1⟩; have HX1 := Lib.hid (HX0.out.step hb1); have hs1 := HX1.out.size; obtain ⟨n10, n11, n12, n13, n14⟩ := HX1.out.cells; clear hb1)
      | (go_at_call 15; refine (laws_tree29.calls kt x.f0 x.f1 x.f2 A3 c3 x.f3 A4 c4 x.f4 _ _ (Kd.C_below H3.out HX1.out.below) l3 (Kd.C_below H4.out HX1.out.below) l4 HT.out.1).mono ?_; rintro e w2 ⟨rfl, hb2⟩; have HX2 := Lib.hid (HX1.out.step hb2); have hs2 := HX2.out.size; obtain ⟨n20, n21, n22, n23, n24⟩ := HX2.out.cells; clear hb2)
      | (go_at_call 16; refine (laws_below29.calls ka x.f0 x.f1 x.f2 A3 c3 x.f3 A4 c4 x.f4 Ap cp path _ _ (Kd.C_below H3.out HX2.out.below) l3 (Kd.C_below H4.out HX2.out.below) l4 (Kd.C_below HP.out HX2.out.below) lp HBE.out.1).mono ?_; rintro e w3 ⟨rfl, hb3⟩; have HX3 := Lib.hid (HX2.out.step hb3); have hs3 := HX3.out.size; obtain ⟨n30, n31, n32, n33, n34⟩ := HX3.out.cells; clear hb3))
    go_ret
    exact ⟨rfl, HX1.out.below⟩
  | true =>
    by_cases hpl : (path.length : Int) > 2147483647
    · go_enter Try.func6, Try.ntmps6
      go_wp2_with (first
      | (go_at_call 14; refine (laws_zzFits2.calls kz x.f0 x.f1 x.f2 A3 c3 x.f3 A4 c4 x.f4 _ _ (Kd.C_below H3.out HX0.out.below) l3 (Kd.C_below H4.out HX0.out.below) l4 HZ.out).mono ?_; rintro e w1 ⟨rfl, hb1⟩; have HX1 := Lib.hid (HX0.out.step hb1); have hs1 := HX1.out.size; obtain ⟨n10, n11, n12, n13, n14⟩ := HX1.out.cells; clear hb1)
      | (go_at_call 15; refine (laws_tree29.calls kt x.f0 x.f1 x.f2 A3 c3 x.f3 A4 c4 x.f4 _ _ (Kd.C_below H3.out HX1.out.below) l3 (Kd.C_below H4.out HX1.out.below) l4 HT.out.1).mono ?_; rintro e w2 ⟨rfl, hb2⟩; have HX2 := Lib.hid (HX1.out.step hb2); have hs2 := HX2.out.size; obtain ⟨n20, n21, n22, n23, n24⟩ := HX2.out.cells; clear hb2)
      | (go_at_call 16; refine (laws_below29.calls ka x.f0 x.f1 x.f2 A3 c3 x.f3 A4 c4 x.f4 Ap cp path _ _ (Kd.C_below H3.out HX2.out.below) l3 (Kd.C_below H4.out HX2.out.below) l4 (Kd.C_below HP.out HX2.out.below) lp HBE.out.1).mono ?_; rintro e w3 ⟨rfl, hb3⟩; have HX3 := Lib.hid (HX2.out.step hb3); have hs3 := HX3.out.size; obtain ⟨n30, n31, n32, n33, n34⟩ := HX3.out.cells; clear hb3))
      go_ret
      exact ⟨rfl, HX1.out.below⟩
    · cases rt with
      | false =>
        go_enter Try.func6, Try.ntmps6
        go_wp2_with (first
      | (go_at_call 14; refine (laws_zzFits2.calls kz x.f0 x.f1 x.f2 A3 c3 x.f3 A4 c4 x.f4 _ _ (Kd.C_below H3.out HX0.out.below) l3 (Kd.C_below H4.out HX0.out.below) l4 HZ.out).mono ?_; rintro e w1 ⟨rfl, hb1⟩; have HX1 := Lib.hid (HX0.out.step hb1); have hs1 := HX1.out.size; obtain ⟨n10, n11, n12, n13, n14⟩ := HX1.out.cells; clear hb1)
      | (go_at_call 15; refine (laws_tree29.calls kt x.f0 x.f1 x.f2 A3 c3 x.f3 A4 c4 x.f4 _ _ (Kd.C_below H3.out HX1.out.below) l3 (Kd.C_below H4.out HX1.out.below) l4 HT.out.1).mono ?_; rintro e w2 ⟨rfl, hb2⟩; have HX2 := Lib.hid (HX1.out.step hb2); have hs2 := HX2.out.size; obtain ⟨n20, n21, n22, n23, n24⟩ := HX2.out.cells; clear hb2)
      | (go_at_call 16; refine (laws_below29.calls ka x.f0 x.f1 x.f2 A3 c3 x.f3 A4 c4 x.f4 Ap cp path _ _ (Kd.C_below H3.out HX2.out.below) l3 (Kd.C_below H4.out HX2.out.below) l4 (Kd.C_below HP.out HX2.out.below) lp HBE.out.1).mono ?_; rintro e w3 ⟨rfl, hb3⟩; have HX3 := Lib.hid (HX2.out.step hb3); have hs3 := HX3.out.size; obtain ⟨n30, n31, n32, n33, n34⟩ := HX3.out.cells; clear hb3))
        go_ret
        exact ⟨rfl, HX2.out.below⟩
      | true =>
        cases rb with
        | false =>
          go_enter Try.func6, Try.ntmps6
          go_wp2_with (first
      | (go_at_call 14; refine (laws_zzFits2.calls kz x.f0 x.f1 x.f2 A3 c3 x.f3 A4 c4 x.f4 _ _ (Kd.C_below H3.out HX0.out.below) l3 (Kd.C_below H4.out HX0.out.below) l4 HZ.out).mono ?_; rintro e w1 ⟨rfl, hb1⟩; have HX1 := Lib.hid (HX0.out.step hb1); have hs1 := HX1.out.size; obtain ⟨n10, n11, n12, n13, n14⟩ := HX1.out.cells; clear hb1)
      | (go_at_call 15; refine (laws_tree29.calls kt x.f0 x.f1 x.f2 A3 c3 x.f3 A4 c4 x.f4 _ _ (Kd.C_below H3.out HX1.out.below) l3 (Kd.C_below H4.out HX1.out.below) l4 HT.out.1).mono ?_; rintro e w2 ⟨rfl, hb2⟩; have HX2 := Lib.hid (HX1.out.step hb2); have hs2 := HX2.out.size; obtain ⟨n20, n21, n22, n23, n24⟩ := HX2.out.cells; clear hb2)
      | (go_at_call 16; refine (laws_below29.calls ka x.f0 x.f1 x.f2 A3 c3 x.f3 A4 c4 x.f4 Ap cp path _ _ (Kd.C_below H3.out HX2.out.below) l3 (Kd.C_below H4.out HX2.out.below) l4 (Kd.C_below HP.out HX2.out.below) lp HBE.out.1).mono ?_; rintro e w3 ⟨rfl, hb3⟩; have HX3 := Lib.hid (HX2.out.step hb3); have hs3 := HX3.out.size; obtain ⟨n30, n31, n32, n33, n34⟩ := HX3.out.cells; clear hb3))
          go_ret
          exact ⟨rfl, HX3.out.below⟩
        | true =>
          obtain ⟨i, is, y, hpath, hat⟩ := HBE.out.2 rfl
          obtain ⟨-, ⟨n, hn, htn⟩, -⟩ := HT.out.2 rfl
          obtain ⟨my, hmy, hty⟩ := atN_tn htn (i :: is) hat
          have hyl : y.f4.length ≤ 1000 := by
            obtain ⟨m, hm, h⟩ := hty.kids
            have := h.len
            omega
          obtain ⟨kA, hA⟩ := at_any x path hpm
          rw [hpath, hat, ← hpath] at hA
          obtain ⟨z, hz⟩ : ∃ z, z = putN x (i :: is) y.f4 := ⟨_, rfl⟩
          have hp0 := HP.out
          rw [hpath] at hp0
          have hrem : ∀ W, Below w.heap.size w W → (∃ m, m ≤ 1000 ∧ Tn m z) ∧ Calls Try.prog 27 #[.agg #[.int .i64 x.f0, .string x.f1, .string x.f2, .slice A3 x.f3.length c3, .slice A4 x.f4.length c4], .slice Ap path.length cp] W (ChangedPost z W) := by
            intro W hb
            have h := unwrapped_any htn hn hat W A3 A4 Ap c3 c4 cp (Kd.C_below H3.out hb) l3 (Kd.C_below H4.out hb) l4 (Kd.C_below hp0 hb)
            rw [← hz, ← hpath] at h
            exact h
          obtain ⟨mz, hmz, htz⟩ := (hrem w (Below.refl _ _)).1
          obtain ⟨kq, hq⟩ := equal_self mz z htz (by omega)
          have hput : ∀ (w4 W : World) (A9 : Option Addr) (c9 : Nat), Below w.heap.size w w4 → Below w4.heap.size w4 W → Kd.F k25 w4 (fun k => k < w4.heap.size) A9 y.f4.length y.f4 → y.f4.length ≤ c9 → Calls Try.prog 19 #[.agg #[.int .i64 x.f0, .string x.f1, .string x.f2, .slice A3 x.f3.length c3, .slice A4 x.f4.length c4], .slice Ap path.length cp, .slice A9 y.f4.length c9] W (PutPost (fun k => k < w4.heap.size) W z) := by
            intro w4 W A9 c9 hb4 hb hf9 hl9
            have hs4 := hb4.size
            have hbW : Below w.heap.size w W := below_then hb4 hs4 hb
            have h := put_at is i n x y htn (by omega) y.f4 hyl hat W (fun k => k < w4.heap.size) (fun k hk => Nat.lt_of_lt_of_le hk hb.size) A3 A4 Ap A9 c3 c4 cp c9 (Foot.mono (Foot.step (Kd.C_F k34_heap H3.out) (fun k hk _ => hbW.block k hk)) (fun k hk => Nat.lt_of_lt_of_le hk hs4)) l3 (Foot.mono (Foot.step (Kd.C_F k25_heap H4.out) (fun k hk _ => hbW.block k hk)) (fun k hk => Nat.lt_of_lt_of_le hk hs4)) l4 (Kd.C_below hp0 hbW) (by rw [← hpath]; exact lp) (Foot.step hf9 (fun k hk _ => hb.block k hk)) hl9
            rw [← hz, ← hpath] at h
            exact h
          have HA := Lib.hid hA
          have HREM := Lib.hid hrem
          have HPUT := Lib.hid hput
          have HEQ := Lib.hid hq
          clear hrem hput hq hmz htz hp0 hpath hat htn hz hA hty
          go_enter Try.func6, Try.ntmps6
          go_wp2_with (first
            | (go_at_call 14; refine (laws_zzFits2.calls kz x.f0 x.f1 x.f2 A3 c3 x.f3 A4 c4 x.f4 _ _ (Kd.C_below H3.out HX0.out.below) l3 (Kd.C_below H4.out HX0.out.below) l4 HZ.out).mono ?_; rintro e w1 ⟨rfl, hb1⟩; have HX1 := Lib.hid (HX0.out.step hb1); have hs1 := HX1.out.size; obtain ⟨n10, n11, n12, n13, n14⟩ := HX1.out.cells; clear hb1)
            | (go_at_call 15; refine (laws_tree29.calls kt x.f0 x.f1 x.f2 A3 c3 x.f3 A4 c4 x.f4 _ _ (Kd.C_below H3.out HX1.out.below) l3 (Kd.C_below H4.out HX1.out.below) l4 HT.out.1).mono ?_; rintro e w2 ⟨rfl, hb2⟩; have HX2 := Lib.hid (HX1.out.step hb2); have hs2 := HX2.out.size; obtain ⟨n20, n21, n22, n23, n24⟩ := HX2.out.cells; clear hb2)
            | (go_at_call 16; refine (laws_below29.calls ka x.f0 x.f1 x.f2 A3 c3 x.f3 A4 c4 x.f4 Ap cp path _ _ (Kd.C_below H3.out HX2.out.below) l3 (Kd.C_below H4.out HX2.out.below) l4 (Kd.C_below HP.out HX2.out.below) lp HBE.out.1).mono ?_; rintro e w3 ⟨rfl, hb3⟩; have HX3 := Lib.hid (HX2.out.step hb3); have hs3 := HX3.out.size; obtain ⟨n30, n31, n32, n33, n34⟩ := HX3.out.cells; clear hb3)
            | (go_at_call 23; refine (spec_At29.calls kA x.f0 x.f1 x.f2 (fun k => k < w.heap.size) A3 c3 x.f3 (fun k => k < w.heap.size) A4 c4 x.f4 Ap cp path y.f0 y.f1 y.f2 y.f3 y.f4 true w3 (Kd.V_mk l3 (Foot.step (Kd.C_F k34_heap H3.out) (fun k hk _ => HX3.out.below.block k hk))) (Kd.V_mk l4 (Foot.step (Kd.C_F k25_heap H4.out) (fun k hk _ => HX3.out.below.block k hk))) (Kd.C_below HP.out HX3.out.below) lp HA.out).mono ?_; rintro e w4 ⟨_, _, rfl, ⟨A8, c8, rfl, l8, -⟩, ⟨A9, c9, rfl, l9, hf9⟩, hb4⟩; have HF9 := Lib.hid (Foot.mono (Foot.bound hf9) (fun k hk => hk.2)); have HB4 := Lib.hid hb4; have HX4 := Lib.hid (HX3.out.step hb4); have hs4 := HX4.out.size; obtain ⟨n40, n41, n42, n43, n44⟩ := HX4.out.cells; clear hb4 hf9))
          have h5 : (w4.alloc (boxO y (.slice A8 y.f3.length c8) (.slice A9 y.f4.length c9))).heap[w4.heap.size]? = some (boxO y (.slice A8 y.f3.length c8) (.slice A9 y.f4.length c9)) := heap_alloc_new _ _
          have hb5 : Below w4.heap.size w4 (w4.alloc (boxO y (.slice A8 y.f3.length c8) (.slice A9 y.f4.length c9))) := below_alloc (Below.refl _ _) _
          have hs5 : w4.heap.size < (w4.alloc (boxO y (.slice A8 y.f3.length c8) (.slice A9 y.f4.length c9))).heap.size := by rw [World.size_alloc]; omega
          unfold boxO at h5 hb5 hs5
          generalize (w4.alloc (.cells #[.int .i64 y.f0, .string y.f1, .string y.f2, .slice A8 y.f3.length c8, .slice A9 y.f4.length c9] 25 (0, 0))) = W5 at *
          have HX5 := Lib.hid (HX4.out.step hb5)
          have hsy : ∀ W, Below W5.heap.size W5 W → W.cell? ⟨w4.heap.size, 4, none⟩ = some (.slice A9 y.f4.length c9) := fun W hb => (hb.cell (p := ⟨w4.heap.size, 4, none⟩) hs5).trans (out_cell h5 4).1
          have HSY := Lib.hid hsy
          have HB5 := Lib.hid hb5
          clear hsy hb5 h5
          try clear n10 n11 n12 n13 n14 n20 n21 n22 n23 n24 n30 n31 n32 n33 n34
          try clear n40 n41 n42 n43 n44
          obtain ⟨n50, n51, n52, n53, n54⟩ := HX5.out.cells
          have hs5' := HX5.out.size
          go_wp2_with (go_at_call 27; refine (HREM.out W5 HX5.out.below).2.mono ?_; rintro e w6 ⟨A5, c5, A6, c6, rfl, htl, hb6⟩; have HTL := Lib.hid htl; have HB6 := Lib.hid hb6; have HX6 := Lib.hid (HX5.out.step hb6); have hs6 := HX6.out.size; obtain ⟨n60, n61, n62, n63, n64⟩ := HX6.out.cells; clear htl hb6)
          have h7 : (w6.alloc (boxO z (.slice A5 z.f3.length c5) (.slice A6 z.f4.length c6))).heap[w6.heap.size]? = some (boxO z (.slice A5 z.f3.length c5) (.slice A6 z.f4.length c6)) := heap_alloc_new _ _
          have hb7 : Below w6.heap.size w6 (w6.alloc (boxO z (.slice A5 z.f3.length c5) (.slice A6 z.f4.length c6))) := below_alloc (Below.refl _ _) _
          have hs7 : w6.heap.size < (w6.alloc (boxO z (.slice A5 z.f3.length c5) (.slice A6 z.f4.length c6))).heap.size := by rw [World.size_alloc]; omega
          unfold boxO at h7 hb7 hs7
          generalize (w6.alloc (.cells #[.int .i64 z.f0, .string z.f1, .string z.f2, .slice A5 z.f3.length c5, .slice A6 z.f4.length c6] 25 (0, 0))) = W7 at *
          have HX7 := Lib.hid (HX6.out.step hb7)
          have hb57 : Below W5.heap.size W5 W7 := below_then HB6.out HB6.out.size hb7
          have hsk : ∀ W, Below W7.heap.size W7 W → W.cell? ⟨w6.heap.size, 0, none⟩ = some (.int .i64 z.f0) ∧ W.cell? ⟨w6.heap.size, 1, none⟩ = some (.string z.f1) ∧ W.cell? ⟨w6.heap.size, 2, none⟩ = some (.string z.f2) ∧ W.cell? ⟨w6.heap.size, 3, none⟩ = some (.slice A5 z.f3.length c5) ∧ W.cell? ⟨w6.heap.size, 4, none⟩ = some (.slice A6 z.f4.length c6) ∧ W.cell? ⟨w4.heap.size, 4, none⟩ = some (.slice A9 y.f4.length c9) := fun W hb =>
            ⟨(hb.cell (p := ⟨w6.heap.size, 0, none⟩) hs7).trans (out_cell h7 0).1, (hb.cell (p := ⟨w6.heap.size, 1, none⟩) hs7).trans (out_cell h7 1).1, (hb.cell (p := ⟨w6.heap.size, 2, none⟩) hs7).trans (out_cell h7 2).1, (hb.cell (p := ⟨w6.heap.size, 3, none⟩) hs7).trans (out_cell h7 3).1, (hb.cell (p := ⟨w6.heap.size, 4, none⟩) hs7).trans (out_cell h7 4).1, HSY.out W (below_then hb57 hb57.size hb)⟩
          have hk7 : ∀ W, Below W7.heap.size W7 W → k25.K W z (treeCells z A5 c5 A6 c6) := fun W hb => HTL.out W (fun k h1 h2 => (hb.block k (by omega)).trans (hb7.block k h2))
          have HSK := Lib.hid hsk
          have HK7 := Lib.hid hk7
          have HB47 := Lib.hid (show Below w4.heap.size w4 W7 from below_then HB5.out (Nat.le_of_lt hs5) hb57)
          clear hsk hk7 hb7 h7 hb57
          try clear n50 n51 n52 n53 n54
          try clear n60 n61 n62 n63 n64
          obtain ⟨n70, n71, n72, n73, n74⟩ := HX7.out.cells
          obtain ⟨o70, o71, o72, o73, o74, o75⟩ := HSK.out W7 (Below.refl _ _)
          go_region_law (first
            | (go_simp
               go_at_call 19
               refine (HPUT.out w4 W7.drew A9 c9 HX4.out.below (below_then HB47.out HB47.out.size (Below.refl _ _).drew) HF9.out l9).mono ?_
               rintro e w8 ⟨A10, c10, A11, c11, rfl, hfk, hb8⟩
               have hb8' : Below W7.heap.size W7 w8 := below_then (Below.refl W7.heap.size W7).drew (Nat.le_refl _) hb8
               have HFK := Lib.hid hfk
               have HB8 := Lib.hid hb8'
               obtain ⟨p0, p1, p2, p3, p4, p5⟩ := HSK.out w8 hb8'
               obtain ⟨q0, q1, q2, q3, q4⟩ := (HX7.out.step hb8').cells
               clear hb8 hb8' hfk)
            | (go_simp
               go_at_call 18
               refine (equal_call z HEQ.out w8 A5 A6 A10 A11 c5 c6 c10 c11 (HK7.out w8 HB8.out) (Kd.FK_now HFK.out)).mono ?_
               rintro e w9 ⟨rfl, hb9⟩
               have HB9 := Lib.hid (HX7.out.step (below_then HB8.out HB8.out.size hb9)).below
               clear hb9))
          all_goals (
            go_wp2
            go_ret
            exact ⟨rfl, HB9.out⟩)
end
end Go.Proofs.Ytlallihdiffheaa.Dom
