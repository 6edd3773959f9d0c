/- bytes.Buffer.grow where the buffer has a row without room: the finer frame. -/
import Derived.Test.YticofikbijldiaaBuf
namespace Go.Proofs.Yticofikbijldiaa.Hand
open Go.RowKit Go.Proofs.YticofikbijldiaaW.PrintWords Go.Proofs.YticofikbijldiaaW.PrintLast Go.Proofs.YticofikbijldiaaW.PrintMore
set_option linter.unusedVariables false

set_option maxHeartbeats 3200000 in
set_option maxRecDepth 100000 in
theorem grow_row0 (B b g cap n : Nat) (lr : Int) (cur : Array Value) (w : World) (hB : B ≤ b) (hBw : B ≤ w.heap.size)
    (hbk : w.heap[b]? = some (.cells #[.slice (some ⟨g, 0, none⟩) 0 cap, .int .i64 0, .int .i8 lr] 68 (0, 0))) (hBg : B ≤ g) (hg : w.heap[g]? = some (.cells cur 5 (0, 0))) (hcm : cap ≤ maxLen) (hcs : cur.size = cap) (hgb : g ≠ b)
    (hn : 1 ≤ n) (hroom : cap < n) (hlim : n ≤ 140737488355328) :
    Calls Try.prog 115 #[.pointer (some ⟨b, 0, none⟩), .int .i64 n] w fun e w' => e = .returned (.int .i64 0) ∧ ∃ xs, xs.length = n ∧ Lib.IsBuffer 68 5 B b xs w' ∧ Below B w w' ∧ Fine b w w' := by
  have hIs : Lib.IsBuffer 68 5 B b [] w := ⟨hB, _, _, hbk, ⟨rfl, .inr ⟨g, cap, cur, rfl, hBg, hg, Nat.zero_le _, hcm, by omega, rfl⟩⟩, by simp [Value.ownBlock]; exact hgb⟩
  have hnil : ∀ W, (binOp .eql 45 (.slice (some ⟨g, 0, none⟩) 0 cap) (.slice none 0 0)).run Try.prog W = .ok (.bool false) W := fun W => Lib.run_eql_slice_some_nil W _ _ _ Try.underlying45
  go_enter Try.func115, Try.ntmps115
  go_wp2_with (go_at_call 118; refine (Buffer_Len B b [] _ hIs).mono ?_)
  rintro e W0 ⟨rfl, k, hW0⟩
  have hbk0 : W0.heap[b]? = some (.cells #[.slice (some ⟨g, 0, none⟩) 0 cap, .int .i64 0, .int .i8 lr] 68 (0, 0)) := by rw [hW0]; exact hbk
  have hg0 : W0.heap[g]? = some (.cells cur 5 (0, 0)) := by rw [hW0]; exact hg
  have c0 : W0.cell? ⟨b, 0, none⟩ = some (.slice (some ⟨g, 0, none⟩) 0 cap) := by rw [Lib.cell_of_heap hbk0]; rfl
  have c1 : W0.cell? ⟨b, 1, none⟩ = some (.int .i64 0) := by rw [Lib.cell_of_heap hbk0]; rfl
  have f0 : W0.frozen? ⟨b, 0, none⟩ = false := Lib.frozen_of_heap hbk0 0
  have f1 : W0.frozen? ⟨b, 1, none⟩ = false := Lib.frozen_of_heap hbk0 1
  have HW0 := Lib.hid hW0
  clear hW0 hIs
  have hcm' := hcm
  unfold maxLen at hcm'
  go_wp2_with (go_at_call 114; refine (Buffer_tryGrow_none b _ 0 cap n _ c0 (Nat.zero_le _) hcm (by omega)).mono ?_; rintro e w' ⟨rfl, rfl⟩)
  have hc2 : cap ≤ 140737488355328 := by omega
  have hbW := Lib.lt_of_heap hbk0
  have hwn : IntKind.i64.wrap (n : Int) = n := by rw [IntKind.wrap_i64]; omega
  go_region_with (
      go_at_call 119
      refine (bytes_growSlice_row g 0 cap n cur _ ?_ hcs (Nat.zero_le _) hn (by omega) hc2 (by simp)).mono ?_
      exact hg0
      rintro e w2 ⟨cap2, cells, rfl, hN, hcsz, htk, hcap2, hcm2, hbel⟩
      have hbk2 : w2.heap[b]? = some (.cells #[.slice (some ⟨g, 0, none⟩) 0 cap, .int .i64 0, .int .i8 lr] 68 (0, 0)) := (hbel.block b hbW).trans hbk0
      have d0 : w2.cell? ⟨b, 0, none⟩ = some (.slice (some ⟨g, 0, none⟩) 0 cap) := by rw [Lib.cell_of_heap hbk2]; rfl
      have d1 : w2.cell? ⟨b, 1, none⟩ = some (.int .i64 0) := by rw [Lib.cell_of_heap hbk2]; rfl
      have e0 : w2.frozen? ⟨b, 0, none⟩ = false := Lib.frozen_of_heap hbk2 0
      have e1 : w2.frozen? ⟨b, 1, none⟩ = false := Lib.frozen_of_heap hbk2 1)
  all_goals (
    go_wp2
    go_ret
    have hsz0 : w'.heap.size = w.heap.size := by rw [HW0.out]; rfl
    have hb0 : Below B w w'.drew := by rw [HW0.out]; exact ⟨rfl, rfl, rfl, Nat.le_refl _, fun _ _ => rfl⟩
    have hg2 : w.grownBy w2 (some b) := Lib.grownBy_below (w := w'.drew) (by rw [HW0.out]; exact ⟨rfl, rfl, rfl, Nat.le_refl _, fun _ _ _ => rfl⟩) hbel
    obtain ⟨xs, q1, q2, q3⟩ := Lib.grow_end (l := 0) (n := n) (bs := []) hB hbk2 hN (by show B ≤ w'.heap.size; omega) (by show w'.heap.size ≠ b; omega) hcsz (by simp) (by omega) hcm2 (hb0.trans (hbel.mono (by show B ≤ w'.heap.size; omega))) _
    exact ⟨rfl, xs, q1, by simpa using q2, by simpa using q3, Fine.of_grown (g := w'.heap.size) (Lib.grownBy_setB (Lib.grownBy_setB (Lib.grownBy_setB hg2 0 _) 1 _) 0 _) (by omega) (RowOf_heap (three_sets hbk2))⟩)
end Go.Proofs.Yticofikbijldiaa.Hand
