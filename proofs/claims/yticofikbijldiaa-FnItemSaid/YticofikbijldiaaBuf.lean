/- bytes.Buffer: its writers once more, by hand, with a finer frame: what is no row of the buffer's own stays as it was, rows of bytes that were made behind the buffer among them. -/
import Derived.Test.YticofikbijldiaaItemShelf
import Derived.Lib.BufferGrow
import Derived.Lib.BufferWrite
import Derived.Lib.BufferMore
import Derived.Lib.BufferOwn
import Derived.Laws.CopyRow
import Derived.Laws.MakeOwn
import Derived.OwnWalk
import Derived.Deep.RegionWith
import Derived.Deep.RegionLaw
namespace Go.Proofs.Yticofikbijldiaa.Hand
open Go.RowKit Go.Proofs.YticofikbijldiaaW.PrintWords Go.Proofs.YticofikbijldiaaW.PrintLast Go.Proofs.YticofikbijldiaaW.PrintMore
set_option linter.unusedVariables false

/-- The block of the row that a buffer writes into. -/
def RowOf (w : World) (b : Nat) : Option Nat := (w.cell? ⟨b, 0, none⟩).bind Value.ownBlock
/-- Nothing but the buffer and its own row has turned; the row is the old one or a new one. -/
structure Fine (b : Nat) (w w' : World) : Prop where
  size : w.heap.size ≤ w'.heap.size
  block : ∀ k, k < w.heap.size → k ≠ b → RowOf w b ≠ some k → w'.heap[k]? = w.heap[k]?
  row : RowOf w' b = RowOf w b ∨ ∃ g, w.heap.size ≤ g ∧ RowOf w' b = some g
theorem Fine.refl (b : Nat) (w : World) : Fine b w w := ⟨Nat.le_refl _, fun _ _ _ _ => rfl, .inl rfl⟩
theorem Fine.trans {b : Nat} {w w1 w2 : World} (h : Fine b w w1) (h2 : Fine b w1 w2) : Fine b w w2 := by
  refine ⟨Nat.le_trans h.size h2.size, fun k hk hb hr => ?_, ?_⟩
  · rw [h2.block k (Nat.lt_of_lt_of_le hk h.size) hb ?_]
    · exact h.block k hk hb hr
    · rcases h.row with e | ⟨g, hg, e⟩
      · rw [e]
        exact hr
      · rw [e]
        intro e2
        have := Option.some.inj e2
        omega
  · rcases h2.row with e | ⟨g, hg, e⟩
    · rw [e]
      exact h.row
    · exact .inr ⟨g, Nat.le_trans h.size hg, e⟩
theorem Fine.of_grown {b g : Nat} {w w' : World} (h : w.grownBy w' (some b)) (hg : w.heap.size ≤ g) (hr : RowOf w' b = some g) : Fine b w w' :=
  ⟨h.size, fun k hk hb _ => h.block k hk (fun e => hb (Option.some.inj e)), .inr ⟨g, hg, hr⟩⟩
theorem RowOf_heap {w : World} {b : Nat} {v x y : Value} {T : TypeId} (h : w.heap[b]? = some (.cells #[v, x, y] T (0, 0))) : RowOf w b = v.ownBlock := by
  rw [RowOf, Lib.cell_of_heap h]
  rfl
theorem infoU8b : (Try.prog.info? 5).map (fun i => (i.zero, i.size, i.bytes)) = some (some (.int .u8 0), 1, 1) := by kernel_rfl
theorem infoU8c : (Try.prog.info? 5).map (·.size) = some 1 := by kernel_rfl

set_option maxHeartbeats 1600000 in
set_option maxRecDepth 100000 in
theorem grow_nil_small (B b n : Nat) (lr : Int) (w : World) (hB : B ≤ b) (hBw : B ≤ w.heap.size)
    (hbk : w.heap[b]? = some (.cells #[.slice none 0 0, .int .i64 0, .int .i8 lr] 68 (0, 0))) (hn : 1 ≤ n) (h64 : n ≤ 64) :
    Calls Try.prog 115 #[.pointer (some ⟨b, 0, none⟩), .int .i64 n] w fun e w' => e = .returned (.int .i64 0) ∧ ∃ xs, xs.length = n ∧ Lib.IsBuffer 68 5 B b xs w' ∧ Below B w w' ∧ Fine b w w' := by
  obtain ⟨i0, hi, hz0, hz1, hz2⟩ := info_parts infoU8b
  obtain ⟨M, hM⟩ : ∃ M, M = madeCells (Value.int .u8 0).cells ((64 : Int).toNat * i0.size) := ⟨_, rfl⟩
  have hMs : M.size = 64 := by rw [hM, size_madeCells, hz1]; rfl
  have hmk : ∀ W : World, (Instr.makeSlice 45 (.int .i64 (n : Int)) (.int .i64 64)).run Try.prog W = .ok (.slice (some ⟨W.heap.size, 0, none⟩) n 64) (W.alloc (.cells M 5)) := fun W => by
    have h := run_makeSlice (P := Try.prog) W 45 5 i0 (.int .u8 0) Try.underlying45 hi hz0 .i64 .i64 (n : Int) 64 (by omega) (by omega) (by rw [hz1]; decide) (by rw [hz2]; decide) (by decide)
    rw [← hM] at h
    simpa using h
  clear hM
  have hIs : Lib.IsBuffer 68 5 B b [] w := ⟨hB, _, _, hbk, World.ownsRow_nil _ _ _ _, by simp [Value.ownBlock]⟩
  have hnil : ∀ W, (binOp .eql 45 (.slice none 0 0) (.slice none 0 0)).run Try.prog W = .ok (.bool true) W := fun W => Lib.run_eql_slice_nil_nil W _ _ Try.underlying45
  go_enter Try.func115, Try.ntmps115
  go_wp2_with (go_at_call 118; refine (Buffer_Len B b [] _ hIs).mono ?_)
  rintro e W0 ⟨rfl, k, hW0⟩
  have hbk0 : W0.heap[b]? = some (.cells #[.slice none 0 0, .int .i64 0, .int .i8 lr] 68 (0, 0)) := by rw [hW0]; exact hbk
  have c0 : W0.cell? ⟨b, 0, none⟩ = some (.slice none 0 0) := by rw [Lib.cell_of_heap hbk0]; rfl
  have c1 : W0.cell? ⟨b, 1, none⟩ = some (.int .i64 0) := by rw [Lib.cell_of_heap hbk0]; rfl
  have f0 : W0.frozen? ⟨b, 0, none⟩ = false := Lib.frozen_of_heap hbk0 0
  have f1 : W0.frozen? ⟨b, 1, none⟩ = false := Lib.frozen_of_heap hbk0 1
  have hbW0 := Lib.lt_of_heap hbk0
  have c0a : ∀ o, (W0.alloc o).cell? ⟨b, 0, none⟩ = some (.slice none 0 0) := fun o => (World.cell?_of_block (a := ⟨b, 0, none⟩) (Below.heap_alloc W0 o b hbW0)).trans c0
  have f0a : ∀ o, (W0.alloc o).frozen? ⟨b, 0, none⟩ = false := fun o => (World.frozen?_of_block (a := ⟨b, 0, none⟩) (Below.heap_alloc W0 o b hbW0)).trans f0
  have HW0 := Lib.hid hW0
  clear hW0 hIs
  have q64 : decide ((n : Int) ≤ 64) = true := decide_eq_true (by omega)
  go_wp2_with (go_at_call 114; refine (Buffer_tryGrow_none b _ 0 0 n _ c0 (Nat.le_refl _) (Nat.zero_le _) (by omega)).mono ?_; rintro e w' ⟨rfl, rfl⟩)
  go_ret
  have hsz0 : w'.heap.size = w.heap.size := by rw [HW0.out]; rfl
  have hb0 : Below B w w' := by rw [HW0.out]; exact ⟨rfl, rfl, rfl, Nat.le_refl _, fun _ _ => rfl⟩
  have hg0 : w.grownBy w' (some b) := by rw [HW0.out]; exact ⟨rfl, rfl, rfl, Nat.le_refl _, fun _ _ _ => rfl⟩
  obtain ⟨xs, q1, q2, q3⟩ := Lib.grow_small_end hB hbk0 (by omega) hMs h64 (by unfold maxLen; omega) hb0
  refine ⟨rfl, xs, q1, q2, q3, Fine.of_grown (g := w'.heap.size) (Lib.grownBy_allocR (Lib.grownBy_setB hg0 0 _) _) (by omega) ?_⟩
  have hh : ((w'.setCell ⟨b, 0, none⟩ (.slice (some ⟨w'.heap.size, 0, none⟩) n 64)).alloc (.cells M 5)).heap[b]? = _ := (Below.heap_alloc _ _ b (by rw [show (w'.setCell ⟨b, 0, none⟩ (.slice (some ⟨w'.heap.size, 0, none⟩) n 64)).heap.size = w'.heap.size by simp [World.setCell]]; exact hbW0)).trans (Lib.heap_setCell_same (i := 0) hbk0 _)
  exact RowOf_heap hh

theorem three_sets {w2 : World} {b : Nat} {v0 v1 v2 : Value} {lr : Int} {T : TypeId} (hbk2 : w2.heap[b]? = some (.cells #[v0, .int .i64 0, .int .i8 lr] T (0, 0))) :
    (((w2.setCell ⟨b, 0, none⟩ v1).setCell ⟨b, 1, none⟩ (.int .i64 0)).setCell ⟨b, 0, none⟩ v2).heap[b]? = some (.cells #[v2, .int .i64 0, .int .i8 lr] T (0, 0)) :=
  Lib.heap_setCell_same (i := 0) (Lib.heap_setCell_same (i := 1) (Lib.heap_setCell_same (i := 0) hbk2 v1) (.int .i64 0)) v2
set_option maxHeartbeats 3200000 in
set_option maxRecDepth 100000 in
theorem grow_nil_big (B b n : Nat) (lr : Int) (w : World) (hB : B ≤ b) (hBw : B ≤ w.heap.size)
    (hbk : w.heap[b]? = some (.cells #[.slice none 0 0, .int .i64 0, .int .i8 lr] 68 (0, 0))) (h64 : 64 < n) (hlim : n ≤ 140737488355328) :
    Calls Try.prog 115 #[.pointer (some ⟨b, 0, none⟩), .int .i64 n] w fun e w' => e = .returned (.int .i64 0) ∧ ∃ xs, xs.length = n ∧ Lib.IsBuffer 68 5 B b xs w' ∧ Below B w w' ∧ Fine b w w' := by
  have hn : 1 ≤ n := by omega
  have hIs : Lib.IsBuffer 68 5 B b [] w := ⟨hB, _, _, hbk, World.ownsRow_nil _ _ _ _, by simp [Value.ownBlock]⟩
  have hnil : ∀ W, (binOp .eql 45 (.slice none 0 0) (.slice none 0 0)).run Try.prog W = .ok (.bool true) W := fun W => Lib.run_eql_slice_nil_nil W _ _ Try.underlying45
  go_enter Try.func115, Try.ntmps115
  go_wp2_with (go_at_call 118; refine (Buffer_Len B b [] _ hIs).mono ?_)
  rintro e W0 ⟨rfl, k, hW0⟩
  have hbk0 : W0.heap[b]? = some (.cells #[.slice none 0 0, .int .i64 0, .int .i8 lr] 68 (0, 0)) := by rw [hW0]; exact hbk
  have c0 : W0.cell? ⟨b, 0, none⟩ = some (.slice none 0 0) := by rw [Lib.cell_of_heap hbk0]; rfl
  have c1 : W0.cell? ⟨b, 1, none⟩ = some (.int .i64 0) := by rw [Lib.cell_of_heap hbk0]; rfl
  have f0 : W0.frozen? ⟨b, 0, none⟩ = false := Lib.frozen_of_heap hbk0 0
  have f1 : W0.frozen? ⟨b, 1, none⟩ = false := Lib.frozen_of_heap hbk0 1
  have HW0 := Lib.hid hW0
  clear hW0 hIs
  have q64 : decide ((n : Int) ≤ 64) = false := decide_eq_false (by omega)
  go_wp2_with (go_at_call 114; refine (Buffer_tryGrow_none b _ 0 0 n _ c0 (Nat.le_refl _) (Nat.zero_le _) (by omega)).mono ?_; rintro e w' ⟨rfl, rfl⟩)
  have hbW := Lib.lt_of_heap hbk0
  have hwn : IntKind.i64.wrap (n : Int) = n := by rw [IntKind.wrap_i64]; omega
  go_region_with (
      go_at_call 119
      refine (bytes_growSlice_nil n _ hn hlim).mono ?_
      rintro e w2 ⟨cap2, cells, rfl, hN, hcsz, hcap2, hcm2, hbel⟩
      have hbk2 : w2.heap[b]? = some (.cells #[.slice none 0 0, .int .i64 0, .int .i8 lr] 68 (0, 0)) := (hbel.block b hbW).trans hbk0
      have d0 : w2.cell? ⟨b, 0, none⟩ = some (.slice none 0 0) := by rw [Lib.cell_of_heap hbk2]; rfl
      have d1 : w2.cell? ⟨b, 1, none⟩ = some (.int .i64 0) := by rw [Lib.cell_of_heap hbk2]; rfl
      have e0 : w2.frozen? ⟨b, 0, none⟩ = false := Lib.frozen_of_heap hbk2 0
      have e1 : w2.frozen? ⟨b, 1, none⟩ = false := Lib.frozen_of_heap hbk2 1)
  all_goals (
    go_wp2
    go_ret
    have hsz0 : w'.heap.size = w.heap.size := by rw [HW0.out]; rfl
    have hb0 : Below B w w'.drew := by rw [HW0.out]; exact ⟨rfl, rfl, rfl, Nat.le_refl _, fun _ _ => rfl⟩
    have hg2 : w.grownBy w2 (some b) := Lib.grownBy_below (w := w'.drew) (by rw [HW0.out]; exact ⟨rfl, rfl, rfl, Nat.le_refl _, fun _ _ _ => rfl⟩) hbel
    obtain ⟨xs, q1, q2, q3⟩ := Lib.grow_end (l := 0) (n := n) (bs := []) hB hbk2 hN (by show B ≤ w'.heap.size; omega) (by show w'.heap.size ≠ b; omega) hcsz (by simp) (by omega) hcm2 (hb0.trans (hbel.mono (by show B ≤ w'.heap.size; omega))) _
    exact ⟨rfl, xs, q1, by simpa using q2, by simpa using q3, Fine.of_grown (g := w'.heap.size) (Lib.grownBy_setB (Lib.grownBy_setB (Lib.grownBy_setB hg2 0 _) 1 _) 0 _) (by omega) (RowOf_heap (three_sets hbk2))⟩)
end Go.Proofs.Yticofikbijldiaa.Hand
