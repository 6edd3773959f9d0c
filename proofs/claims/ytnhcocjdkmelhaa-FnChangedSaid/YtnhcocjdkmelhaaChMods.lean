/- impl.changes and table.zzMods by hand: changes as rows of three cells each. -/
import Derived.Test.YtnhcocjdkmelhaaChApply
import Derived.Test.YtnhcocjdkmelhaaFine
import Derived.Test.YtnhcocjdkmelhaaGChx0
namespace Go.Proofs.Ytnhcocjdkmelhaa.Hand
open Go.RowKit Go.Proofs.YtnhcocjdkmelhaaW.PrintWords Go.Proofs.YtnhcocjdkmelhaaW.PrintLast Go.Proofs.YtnhcocjdkmelhaaW.PrintMore
set_option linter.unusedVariables false

abbrev Ch := GCh.S36
abbrev kCh := GCh.k36
def tri (c : Ch) : Nat × Nat × ByteArray := (c.f0.toNat, c.f1.toNat, c.f2)
def c3 : List (Int × Int × Value) → List Value
  | [] => []
  | m :: l => [.int .i64 m.1, .int .i64 m.2.1, m.2.2] ++ c3 l
theorem c3_snoc (m : Int × Int × Value) : ∀ l, c3 (l ++ [m]) = c3 l ++ [.int .i64 m.1, .int .i64 m.2.1, m.2.2]
  | [] => rfl
  | x :: l => by
    rw [List.cons_append, c3, c3, c3_snoc m l, List.append_assoc]
theorem c3_get : ∀ (l : List (Int × Int × Value)) (j : Nat) (m : Int × Int × Value), l[j]? = some m → (c3 l)[j * 3]? = some (.int .i64 m.1) ∧ (c3 l)[j * 3 + 1]? = some (.int .i64 m.2.1) ∧ (c3 l)[j * 3 + 2]? = some m.2.2
  | [], j, m, h => by simp at h
  | x :: l, 0, m, h => by
    obtain rfl : x = m := by simpa using h
    exact ⟨rfl, rfl, rfl⟩
  | x :: l, j + 1, m, h => by
    have h1 := c3_get l j m (by simpa using h)
    have e : (j + 1) * 3 = j * 3 + 3 := by omega
    rw [e]
    exact h1
/-- Rows of three cells, being built: row, column, a row of bytes. -/
structure MRow (t : TypeId) (base : Nat) (w : World) (v : Value) (ms : List (Int × Int × Value)) (l : List Ch) : Prop where
  own : w.ownsRow base t 3 v l.length (c3 ms)
  len : ms.length = l.length
  each : ∀ (j : Nat) (m : Int × Int × Value) (c : Ch), ms[j]? = some m → l[j]? = some c → m.1 = c.f0 ∧ m.2.1 = c.f1 ∧ BRow w m.2.2 c.f2
theorem MRow.nil (t : TypeId) (base : Nat) (w : World) : MRow t base w (.slice none 0 0) [] [] := ⟨own_nil _ _ _ _, rfl, fun j m c h => by simp at h⟩
theorem MRow.below {t : TypeId} {base : Nat} {w w1 : World} {v : Value} {ms : List (Int × Int × Value)} {l : List Ch} (h : MRow t base w v ms l) (hb : Below w.heap.size w w1) : MRow t base w1 v ms l :=
  ⟨pw_own_below h.own hb, h.len, fun j m c h1 h2 => by
    obtain ⟨a, b, d⟩ := h.each j m c h1 h2
    exact ⟨a, b, d.below hb⟩⟩
theorem MRow.at {t : TypeId} {base : Nat} {w : World} {v : Value} {ms : List (Int × Int × Value)} {l : List Ch} (h : MRow t base w v ms l) (hp : ∀ c ∈ l, 0 ≤ c.f0 ∧ 0 ≤ c.f1) : ∃ A cp, v = .slice A l.length cp ∧ MAt t w A (l.map tri) := by
  obtain ⟨A, cp, rfl⟩ := own_slice h.own
  refine ⟨A, cp, rfl, fun h0 => ?_⟩
  rw [List.length_map] at h0
  obtain ⟨g, cap, he, hg, hgl⟩ := h.own.form h0
  injection he with he _ _
  subst he
  obtain ⟨cells, hc⟩ := own_typed h.own g rfl
  refine ⟨g, rfl, ⟨cells, _, hc⟩, fun j y x s hj => ?_⟩
  rw [List.getElem?_map, Option.map_eq_some_iff] at hj
  obtain ⟨c, hcj, hct⟩ := hj
  have hjl := (List.getElem?_eq_some_iff.1 hcj).1
  obtain ⟨m, hm⟩ : ∃ m, ms[j]? = some m := ⟨_, List.getElem?_eq_getElem (by rw [h.len]; exact hjl)⟩
  obtain ⟨e1, e2, e3⟩ := h.each j m c hm hcj
  obtain ⟨p0, p1⟩ := hp c (List.mem_of_getElem? hcj)
  obtain ⟨q0, q1, q2⟩ := c3_get ms j m hm
  simp only [tri, Prod.mk.injEq] at hct
  obtain ⟨rfl, rfl, rfl⟩ := hct
  have r0 := h.own.cells (g := g) rfl _ _ q0
  have r1 := h.own.cells (g := g) rfl _ _ q1
  have r2 := h.own.cells (g := g) rfl _ _ q2
  rw [add_plain] at r0 r1 r2
  exact ⟨m.2.2, by rw [r0, e1, Int.toNat_of_nonneg p0], by rw [r1, e2, Int.toNat_of_nonneg p1], r2, e3⟩
theorem MRow.snoc {t : TypeId} {base : Nat} {w w1 : World} {v v1 d : Value} {ms : List (Int × Int × Value)} {l : List Ch} {c : Ch} (h : MRow t base w v ms l) (ht : t ≠ 5) (hd : BRow w d c.f2)
    (ho : w1.ownsRow base t 3 v1 (l.length + 1) (c3 ms ++ [.int .i64 c.f0, .int .i64 c.f1, d])) (hg : w.grownBy w1 v.ownBlock) : MRow t base w1 v1 (ms ++ [(c.f0, c.f1, d)]) (l ++ [c]) := by
  have hother : ∀ x s, BRow w x s → BRow w1 x s := fun x s hx => hx.other hg fun g hg' cells t' fr hc => by
    obtain ⟨cs, hcs⟩ := own_typed h.own g hg'
    rw [hcs] at hc
    injection hc with hc
    injection hc with _ hc _
    exact fun e => ht (hc.trans e)
  refine ⟨by rw [c3_snoc, List.length_append, List.length_singleton]; exact ho, by simp [h.len], fun j m c' h1 h2 => ?_⟩
  by_cases hj : j < ms.length
  · rw [List.getElem?_append_left hj] at h1
    rw [List.getElem?_append_left (by rw [← h.len]; exact hj)] at h2
    obtain ⟨a, b, e⟩ := h.each j m c' h1 h2
    exact ⟨a, b, hother _ _ e⟩
  · rw [List.getElem?_append_right (by omega)] at h1
    rw [List.getElem?_append_right (by rw [← h.len]; omega)] at h2
    obtain h0 : j - ms.length = 0 := by
      have := (List.getElem?_eq_some_iff.1 h1).1
      simp at this
      omega
    rw [h0] at h1
    rw [← h.len, h0] at h2
    simp at h1 h2
    subst h1 h2
    exact ⟨rfl, rfl, hother _ _ hd⟩
theorem infoZz : (Try.prog.info? 56).map (fun i => (i.zero, i.size, i.bytes)) = some (some (.agg #[.int .i64 0, .int .i64 0, .slice none 0 0]), 3, 40) := by kernel_rfl
theorem infoMod : (Try.prog.info? 72).map (fun i => (i.zero, i.size, i.bytes)) = some (some (.agg #[.int .i64 0, .int .i64 0, .slice none 0 0]), 3, 40) := by kernel_rfl

set_option maxRecDepth 100000 in
set_option maxHeartbeats 1600000 in
theorem changes_any (A : Option Addr) (c : Nat) (l : List Ch) (w : World) (hl : l.length ≤ 2147483647) (hr : kCh.C w A l.length l) :
    Calls Try.prog 22 #[.slice A l.length c] w fun e w' => ∃ v ms, e = .returned v ∧ MRow 56 w.heap.size w' v ms l ∧ Below w.heap.size w w' := by
  have hconv := fun (s : ByteArray) W => run_bytesW (P := Try.prog) 9 46 5 s Try.underlying9 Try.underlying46 Try.underlying5 W
  have HR := Lib.hid hr
  clear hr
  go_enter Try.func22, Try.ntmps22
  go_wp2
  go_loopw [3, 8] (fun v0 k0 wr => ∃ (v : Value) (k : Nat) (ms : List (Int × Int × Value)), v = v0 ∧ k0 = .int .i64 k ∧ k ≤ l.length ∧ MRow 56 w.heap.size wr v ms (l.take k) ∧ Below w.heap.size w wr) (fun _ k0 _ => l.length - (intOf k0).toNat)
  case atStart => exact ⟨_, 0, [], rfl, rfl, Nat.zero_le _, by rw [List.take_zero]; exact MRow.nil _ _ _, Below.refl _ _⟩
  case round =>
    obtain ⟨v, k, ms, rfl, rfl, hk, hM, hB⟩ := hrel
    have HM := Lib.hid hM
    have HB := Lib.hid hB
    by_cases hlt : k < l.length
    · obtain ⟨ad, rfl, q0, q1, q2⟩ := GCh.at_T36 (Kd.C_below HR.out hB) (k : Int) (by omega) (by omega)
      have hks : l.take (k + 1) = l.take k ++ [GCh.rd_T36 l (k : Int)] := by
        rw [List.take_add_one, List.getElem?_eq_getElem hlt]
        simp [GCh.rd_T36, hlt]
      generalize GCh.rd_T36 l (k : Int) = y at *
      simp only [Int.toNat_natCast] at q0 q1 q2
      have HKS := Lib.hid hks
      have htl : (l.take k).length = k := by rw [List.length_take]; omega
      obtain ⟨Av, cv, rfl⟩ : ∃ A c, v = .slice A k c := by
        obtain ⟨A, c, h⟩ := own_slice hM.own
        rw [htl] at h
        exact ⟨A, c, h⟩
      have hb2 := (bytesW_below (below_alloc (Below.refl wr.heap.size wr) (.cells #[.int .i64 y.f0, .int .i64 y.f1, .string y.f2] 36 (0, 0))) (by simp) y.f2 5)
      have HM2 := Lib.hid (hM.below hb2)
      have HO2 := Lib.hid (show World.ownsRow _ _ _ _ _ k _ from htl ▸ (hM.below hb2).own)
      have HBW2 := Lib.hid hb2
      have HTL := Lib.hid htl
      have hbr := bytesW_BRow (wr.alloc (.cells #[.int .i64 y.f0, .int .i64 y.f1, .string y.f2] 36 (0, 0))) y.f2
      rw [World.size_alloc] at hbr
      have HBR := Lib.hid hbr
      clear hM hB hks hb2 htl hbr
      go_wp2_with (at_builtin; refine wpList_append_one rfl w.heap.size (.tmp 12) (.tmp 21) 44 56 _ 3 40 rfl Try.underlying44 infoZz rfl (.slice Av k cv) k (c3 ms) [.int .i64 y.f0, .int .i64 y.f1, .slice (some ⟨wr.heap.size + 1, 0, none⟩) y.f2.size (bcap (wr.alloc (.cells #[.int .i64 y.f0, .int .i64 y.f1, .string y.f2] 36 (0, 0))) y.f2 5)] rfl (by simp [Act.eval]) rfl (by simp [Value.oneCell']) HO2.out (Nat.le_trans HB.out.size HBW2.out.size) (by omega) (by omega) ?_; intro v1 w2 hown hg hv2; have HOWN := Lib.hid hown; have HG := Lib.hid hg; clear hown hg hv2)
      go_roundw
      case rel =>
        refine ⟨v1, k + 1, ms ++ [(y.f0, y.f1, (.slice (some ⟨wr.heap.size + 1, 0, none⟩) y.f2.size (bcap (wr.alloc (.cells #[.int .i64 y.f0, .int .i64 y.f1, .string y.f2] 36 (0, 0))) y.f2 5)))], rfl, by go_num, hlt, ?_, (HB.out.trans (HBW2.out.mono HB.out.size)).grown HG.out (Nat.le_trans HB.out.size HBW2.out.size) (fun k hk => own_base HO2.out k hk)⟩
        rw [HKS.out]
        exact HM2.out.snoc (by decide) HBR.out (by rw [HTL.out]; have := HOWN.out; simpa using this) HG.out
      case measure => simp [intOf]; omega
    · obtain rfl : k = l.length := by omega
      go_wp2
      go_ret
      exact ⟨_, ms, rfl, by have := HM.out; rwa [List.take_length] at this, HB.out⟩
theorem mods_row {w w1 : World} {base n : Nat} {v : Value} (h : w.ownsRow base 72 3 v n []) : True := trivial
set_option maxRecDepth 100000 in
set_option maxHeartbeats 1600000 in
theorem zzMods_any (A : Option Addr) (c : Nat) (l : List Ch) (w : World) (hl : l.length ≤ 2147483647) (hp : ∀ c ∈ l, 0 ≤ c.f0 ∧ 0 ≤ c.f1) (hM : MAt 56 w A (l.map tri)) :
    Calls Try.prog 28 #[.slice A l.length c] w fun e w' => ∃ v ms, e = .returned v ∧ MRow 72 w.heap.size w' v ms l ∧ Below w.heap.size w w' := by
  obtain ⟨i0, hi, hz⟩ := Option.map_eq_some_iff.1 infoMod
  simp only [Prod.mk.injEq] at hz
  obtain ⟨hz0, hz1, hz2⟩ := hz
  have hmk := fun W => run_make (P := Try.prog) W 52 72 i0 (.agg #[.int .i64 0, .int .i64 0, .slice none 0 0]) Try.underlying52 hi hz0 .i64 .i64 0 (l.length : Int) (by omega) (by omega) (by rw [hz2]; omega) (by omega)
  simp only [Int.toNat_natCast] at hmk
  rw [hz1] at hmk
  have HM0 := Lib.hid hM
  have HP := Lib.hid hp
  clear hM hp hi hz0 hz1 hz2
  go_enter Try.func28, Try.ntmps28
  go_wp2
  obtain ⟨v0, hv0⟩ : ∃ x, x = Value.slice (some ⟨w.heap.size, 0, none⟩) 0 l.length := ⟨_, rfl⟩
  obtain ⟨w0, hw0⟩ : ∃ x, x = w.alloc (.cells (madeCells #[.int .i64 0, .int .i64 0, .slice none 0 0] (l.length * 3)) 72) := ⟨_, rfl⟩
  rw [← hv0, ← hw0]
  have hst : MRow 72 w.heap.size w0 v0 [] [] ∧ Below w.heap.size w w0 := by
    subst hv0 hw0
    refine ⟨⟨⟨rfl, .inr ⟨w.heap.size, l.length, _, rfl, Nat.le_refl _, heap_alloc_new w _, Nat.zero_le _, by simp only [maxLen]; omega, ?_, by simp [c3]⟩⟩, rfl, fun j m c h => by simp at h⟩, below_alloc (Below.refl _ _) _⟩
    exact size_madeCells _ _
  have HST := Lib.hid hst
  clear hst hv0 hw0
  go_loopw [3, 11] (fun v0 k0 wr => ∃ (v : Value) (k : Nat) (ms : List (Int × Int × Value)), v = v0 ∧ k0 = .int .i64 k ∧ k ≤ l.length ∧ MRow 72 w.heap.size wr v ms (l.take k) ∧ Below w.heap.size w wr) (fun _ k0 _ => l.length - (intOf k0).toNat)
  case atStart => exact ⟨_, 0, [], rfl, rfl, Nat.zero_le _, by rw [List.take_zero]; exact HST.out.1, HST.out.2⟩
  case round =>
    obtain ⟨v, k, ms, rfl, rfl, hk, hM, hB⟩ := hrel
    have HM := Lib.hid hM
    have HB := Lib.hid hB
    by_cases hlt : k < l.length
    · obtain ⟨g, rfl, -, hcells⟩ := HM0.out (by rw [List.length_map]; omega)
      obtain ⟨y, hy⟩ : ∃ y, l[k]? = some y := ⟨_, List.getElem?_eq_getElem hlt⟩
      have hyt : (l.map tri)[k]? = some (tri y) := by rw [List.getElem?_map, hy]; rfl
      obtain ⟨hy0, hy1⟩ := HP.out y (List.mem_of_getElem? hy)
      obtain ⟨d, q0, q1, q2, hd⟩ := hcells k _ _ _ hyt
      rw [Int.toNat_of_nonneg hy0] at q0
      rw [Int.toNat_of_nonneg hy1] at q1
      have lt0 := World.block_lt_of_cell? w _ q0
      have htl : (l.take k).length = k := by rw [List.length_take]; omega
      obtain ⟨Av, cv, rfl⟩ : ∃ A c, v = .slice A k c := by
        obtain ⟨A, c, h⟩ := own_slice hM.own
        rw [htl] at h
        exact ⟨A, c, h⟩
      have hdd := hd
      obtain ⟨dk, dcap, dcur, dfr, rfl, -, hdh, -⟩ := hdd
      have hb2 := below_alloc (Below.refl wr.heap.size wr) (.cells #[.int .i64 y.f0, .int .i64 y.f1, .slice (some ⟨dk, 0, none⟩) y.f2.size dcap] 56 (0, 0))
      have hd2 := (hd.below hB).below hb2
      replace q0 := (hB.cell (p := ⟨g, k * 3, none⟩) lt0).trans q0
      replace q1 := (hB.cell (p := ⟨g, k * 3 + 1, none⟩) lt0).trans q1
      replace q2 := (hB.cell (p := ⟨g, k * 3 + 2, none⟩) lt0).trans q2
      have HM2 := Lib.hid (hM.below hb2)
      have HO2 := Lib.hid (show World.ownsRow _ _ _ _ _ k _ from htl ▸ (hM.below hb2).own)
      have HBW2 := Lib.hid hb2
      have HTL := Lib.hid htl
      have HD2 := Lib.hid hd2
      have HY := Lib.hid hy
      clear hM hB hb2 htl hd hd2 hdh hcells hyt hy hy0 hy1 lt0
      go_wp2_with (at_builtin; refine wpList_append_one rfl w.heap.size (.tmp 15) (.tmp 23) 52 72 _ 3 40 rfl Try.underlying52 infoMod rfl (.slice Av k cv) k (c3 ms) [.int .i64 y.f0, .int .i64 y.f1, .slice (some ⟨dk, 0, none⟩) y.f2.size dcap] rfl (by simp [Act.eval]) rfl (by simp [Value.oneCell']) HO2.out (Nat.le_trans HB.out.size HBW2.out.size) (by omega) (by omega) ?_; intro v1 w2 hown hg hv2; have HOWN := Lib.hid hown; have HG := Lib.hid hg; clear hown hg hv2)
      go_roundw
      case rel =>
        refine ⟨v1, k + 1, ms ++ [(y.f0, y.f1, .slice (some ⟨dk, 0, none⟩) y.f2.size dcap)], rfl, by go_num, hlt, ?_, (HB.out.trans (HBW2.out.mono HB.out.size)).grown HG.out (Nat.le_trans HB.out.size HBW2.out.size) (fun k hk => own_base HO2.out k hk)⟩
        rw [show l.take (k + 1) = l.take k ++ [y] by rw [List.take_add_one, HY.out]; rfl]
        exact HM2.out.snoc (by decide) HD2.out (by rw [HTL.out]; have := HOWN.out; simpa using this) HG.out
      case measure => simp [intOf]; omega
    · obtain rfl : k = l.length := by omega
      go_wp2
      go_ret
      exact ⟨_, ms, rfl, by have := HM.out; rwa [List.take_length] at this, HB.out⟩
end Go.Proofs.Ytnhcocjdkmelhaa.Hand
