/- bytes.Buffer.WriteByte, and WriteRune of a line feed, with the finer frame. -/
import Derived.Test.YticofikbijldiaaBufWrite
namespace Go.Proofs.Yticofikbijldiaa.Hand
open Go.RowKit Go.Proofs.YticofikbijldiaaW.PrintWords Go.Proofs.YticofikbijldiaaW.PrintLast Go.Proofs.YticofikbijldiaaW.PrintMore
set_option linter.unusedVariables false

set_option maxHeartbeats 3200000 in
set_option maxRecDepth 100000 in
theorem write_byte (B b : Nat) (bs : List Value) (x : Int) (w : World) (h : Lib.IsBuffer 68 5 B b bs w) (hBw : B ≤ w.heap.size) (h1 : ∀ v ∈ bs, v.oneCell' = true) (hlim : bs.length + 1 ≤ 140737488355328) :
    Calls Try.prog 116 #[.pointer (some ⟨b, 0, none⟩), .int .u8 x] w fun e w' => e = .returned .nilIface ∧ Lib.IsBuffer 68 5 B b (bs ++ [.int .u8 x]) w' ∧ Below B w w' ∧ Fine b w w' := by
  obtain ⟨hB, v0, lr, hbk, -, -⟩ := id h
  have c2 : w.cell? ⟨b, 2, none⟩ = some (.int .i8 lr) := by rw [Lib.cell_of_heap hbk]; rfl
  have f2 : w.frozen? ⟨b, 2, none⟩ = false := Lib.frozen_of_heap hbk 2
  obtain ⟨W, hW⟩ : ∃ W, W = w.setCell ⟨b, 2, none⟩ (.int .i8 0) := ⟨_, rfl⟩
  have hI0 : Lib.IsBuffer 68 5 B b bs W := by rw [hW]; exact h.setLast 0
  have hB0 : Below B w W := by rw [hW]; exact (Below.refl B w).setCell (p := ⟨b, 2, none⟩) hB _
  have hbk1 : W.heap[b]? = some (.cells #[v0, .int .i64 0, .int .i8 0] 68 (0, 0)) := by rw [hW]; exact Lib.heap_setCell_same (i := 2) hbk (.int .i8 0)
  have hF0 : Fine b w W := by rw [hW]; exact Fine.setB hbk (by rw [← hW]; exact hbk1) rfl
  have hBW : B ≤ W.heap.size := Nat.le_trans hBw hF0.size
  have hend : ∀ W1 g cap (cur : Array Value) lr2, W1.heap[b]? = some (.cells #[.slice (some ⟨g, 0, none⟩) (bs.length + 1) cap, .int .i64 0, .int .i8 lr2] 68 (0, 0)) → B ≤ g → W1.heap[g]? = some (.cells cur 5 (0, 0)) → bs.length + 1 ≤ cap → cap ≤ maxLen → cur.size = cap → cur.toList.take bs.length = bs → g ≠ b →
      Below B w W1 → Fine b w W1 →
      (∃ v4, W1.cell? ⟨g, bs.length, none⟩ = some v4) ∧ W1.frozen? ⟨g, bs.length, none⟩ = false ∧ Lib.IsBuffer 68 5 B b (bs ++ [.int .u8 x]) (W1.setCell ⟨g, bs.length, none⟩ (.int .u8 x)) ∧ Below B w (W1.setCell ⟨g, bs.length, none⟩ (.int .u8 x)) ∧ Fine b w (W1.setCell ⟨g, bs.length, none⟩ (.int .u8 x)) := by
    intro W1 g cap cur lr2 hk hBg hg hnc hcm hcs htk hgb hb hf
    obtain ⟨r1, r2⟩ := Lib.poke_end (v := .int .u8 x) (l := bs.length) hB hk hBg hg hcm hcs hgb hnc
    rw [htk] at r1
    have hlt : bs.length < cur.size := by omega
    have hk2 : (W1.setCell ⟨g, bs.length, none⟩ (.int .u8 x)).heap[b]? = some (.cells #[.slice (some ⟨g, 0, none⟩) (bs.length + 1) cap, .int .i64 0, .int .i8 lr2] 68 (0, 0)) := by
      rw [Below.heap_setCell _ _ _ _ (Ne.symm hgb)]
      exact hk
    refine ⟨⟨cur[bs.length], by rw [Lib.cell_of_heap hg]; exact Array.getElem?_eq_getElem hlt⟩, Lib.frozen_of_heap hg _, r1, hb.trans r2, hf.trans (Fine.same hk hk2 rfl (by simp [World.setCell]) (fun k _ _ hr => Below.heap_setCell _ _ _ _ (fun e => hr (by rw [e]; rfl))))⟩
  have HE := Lib.hid hend
  have HW := Lib.hid hW.symm
  clear hend hW hbk
  obtain ⟨l, hl⟩ : ∃ l, l = bs.length := ⟨_, rfl⟩
  have HL := Lib.hid hl
  obtain ⟨-, lr1, hc⟩ := hI0.cases
  have hgrow : (∀ ao l cap, W.cell? ⟨b, 0, none⟩ = some (.slice ao l cap) → cap - l < 1) → Calls Try.prog 114 #[.pointer (some ⟨b, 0, none⟩), .int .i64 1] W (fun e w' => e = .returned (.tuple #[.int .i64 0, .bool false]) ∧ w' = W) →
      Calls Try.prog 116 #[.pointer (some ⟨b, 0, none⟩), .int .u8 x] w fun e w' => e = .returned .nilIface ∧ Lib.IsBuffer 68 5 B b (bs ++ [.int .u8 x]) w' ∧ Below B w w' ∧ Fine b w w' := by
    intro hno hT
    have HG := Lib.hid (grow_fine B b 1 bs W hI0 hBW h1 (Nat.le_refl _) hlim hno)
    have HB0 := Lib.hid hB0
    have HF0 := Lib.hid hF0
    clear hc hno hI0 h hl hbk1 hB0 hF0
    go_enter Try.func116, Try.ntmps116
    go_wp2_with (first
      | (go_at_call 114; rw [HW.out]; refine hT.mono ?_; rintro e w' ⟨rfl, hw⟩; rw [hw]; clear hw)
      | (go_at_call 115; refine HG.out.mono ?_))
    rintro e W1 ⟨rfl, xs, hxl, hI, hbel, hfine⟩
    obtain ⟨-, lr2, hc2⟩ := hI.cases
    have hll : (bs ++ xs).length = l + 1 := by rw [List.length_append, hxl, ← HL.out]
    rcases hc2 with ⟨hnil, -⟩ | ⟨g, cap, cur, hbk2, hBg, hg, hnc, hcm, hcs, htk, hgb⟩
    · exact absurd (congrArg List.length hnil) (by rw [hll, List.length_nil]; omega)
    · rw [hll] at hbk2 hnc htk
      have htk2 : cur.toList.take bs.length = bs := by
        have h3 := congrArg (List.take l) htk
        rw [List.take_take, Nat.min_eq_left (Nat.le_add_right _ _)] at h3
        rw [← HL.out, h3, HL.out, List.take_left' rfl]
      obtain ⟨⟨v4, d4⟩, f4, q1, q2, q3⟩ := HE.out W1 g cap cur lr2 (by rw [← HL.out]; exact hbk2) hBg hg (by rw [← HL.out]; exact hnc) hcm hcs htk2 hgb (HB0.out.trans hbel) (HF0.out.trans hfine)
      rw [← HL.out] at d4 f4 q1 q2 q3
      have d0 : W1.cell? ⟨b, 0, none⟩ = some (.slice (some ⟨g, 0, none⟩) (l + 1) cap) := by rw [Lib.cell_of_heap hbk2]; rfl
      have i0 : (0 : Int) ≤ (l : Int) := by omega
      have i1 : (l : Int) < ((l + 1 : Nat) : Int) := by omega
      have Q1 := Lib.hid q1
      have Q2 := Lib.hid q2
      have Q3 := Lib.hid q3
      clear q1 q2 q3 hbk2 hg hI htk htk2 hll
      rw [← HL.out]
      go_wp2
      go_ret
      exact ⟨rfl, Q1.out, Q2.out, Q3.out⟩
  rcases hc with ⟨hnil, hbk2⟩ | ⟨g, cap, cur, hbk2, hBg, hg, hnc, hcm, hcs, htk, hgb⟩
  · have d0 : W.cell? ⟨b, 0, none⟩ = some (.slice none 0 0) := by rw [Lib.cell_of_heap hbk2]; rfl
    refine hgrow (fun ao l cap h2 => ?_) (Buffer_tryGrow_none b none 0 0 1 _ d0 (Nat.le_refl _) (Nat.zero_le _) (by omega))
    rw [d0] at h2
    simp only [Option.some.injEq, Value.slice.injEq] at h2
    omega
  · have d0 : W.cell? ⟨b, 0, none⟩ = some (.slice (some ⟨g, 0, none⟩) bs.length cap) := by rw [Lib.cell_of_heap hbk2]; rfl
    by_cases hroom : 1 ≤ cap - bs.length
    · rw [← hl] at hbk2 d0 hnc htk hroom
      have e0 := Lib.frozen_of_heap hbk2 0
      obtain ⟨W1, hW1⟩ : ∃ W1, W1 = W.setCell ⟨b, 0, none⟩ (.slice (some ⟨g, 0, none⟩) (l + 1) cap) := ⟨_, rfl⟩
      have hbk3 : W1.heap[b]? = some (.cells #[.slice (some ⟨g, 0, none⟩) (l + 1) cap, .int .i64 0, .int .i8 lr1] 68 (0, 0)) := by rw [hW1]; exact Lib.heap_setCell_same (i := 0) hbk2 _
      have hg3 : W1.heap[g]? = some (.cells cur 5 (0, 0)) := by rw [hW1, Below.heap_setCell _ _ _ _ hgb]; exact hg
      have hF1 : Fine b W W1 := by rw [hW1]; exact Fine.setB hbk2 (v2 := .slice (some ⟨g, 0, none⟩) (l + 1) cap) (x2 := .int .i64 0) (y2 := .int .i8 lr1) (by rw [← hW1]; exact hbk3) rfl
      have hB1 : Below B w W1 := by rw [hW1]; exact hB0.setCell (p := ⟨b, 0, none⟩) hB _
      have d1 : W1.cell? ⟨b, 0, none⟩ = some (.slice (some ⟨g, 0, none⟩) (l + 1) cap) := by rw [Lib.cell_of_heap hbk3]; rfl
      have hT := Buffer_tryGrow_room b (some ⟨g, 0, none⟩) l cap 1 W d0 e0 hnc hcm hroom
      rw [← hW1] at hT
      obtain ⟨⟨v4, d4⟩, f4, q1, q2, q3⟩ := HE.out W1 g cap cur lr1 (by rw [← hl]; exact hbk3) hBg hg3 (by omega) hcm hcs (by rw [← hl]; exact htk) hgb hB1 (hF0.trans hF1)
      rw [← hl] at d4 f4 q1 q2 q3
      have i0 : (0 : Int) ≤ (l : Int) := by omega
      have i1 : (l : Int) < ((l + 1 : Nat) : Int) := by omega
      have Q1 := Lib.hid q1
      have Q2 := Lib.hid q2
      have Q3 := Lib.hid q3
      clear q1 q2 q3 hbk2 hg htk hbk3 hg3 hF1 hB1 hW1 hbk1 hI0 h hgrow hl hB0 hF0
      go_enter Try.func116, Try.ntmps116
      go_wp2_with (go_at_call 114; rw [HW.out]; refine hT.mono ?_; rintro e w' ⟨rfl, hw⟩; rw [hw]; clear hw)
      go_ret
      exact ⟨rfl, Q1.out, Q2.out, Q3.out⟩
    · refine hgrow (fun ao l cap h2 => ?_) (Buffer_tryGrow_none b (some ⟨g, 0, none⟩) bs.length cap 1 _ d0 hnc hcm (by omega))
      rw [d0] at h2
      simp only [Option.some.injEq, Value.slice.injEq] at h2
      omega
set_option maxRecDepth 100000 in
theorem write_feed (B b : Nat) (bs : List Value) (w : World) (h : Lib.IsBuffer 68 5 B b bs w) (hBw : B ≤ w.heap.size) (h1 : ∀ v ∈ bs, v.oneCell' = true) (hlim : bs.length + 1 ≤ 140737488355328) :
    Calls Try.prog 113 #[.pointer (some ⟨b, 0, none⟩), .int .i32 10] w fun e w' => e = .returned (.tuple #[.int .i64 1, .nilIface]) ∧ Lib.IsBuffer 68 5 B b (bs ++ [.int .u8 10]) w' ∧ Below B w w' ∧ Fine b w w' := by
  have HW := Lib.hid (write_byte B b bs 10 w h hBw h1 hlim)
  go_enter Try.func113, Try.ntmps113
  go_wp2_with (go_at_call 116; refine HW.out.mono ?_; rintro e w' ⟨rfl, hi, hb, hf⟩; have HI := Lib.hid hi; have HB := Lib.hid hb; have HF := Lib.hid hf; clear hi hb hf)
  go_ret2
  exact ⟨rfl, HI.out, HB.out, HF.out⟩
end Go.Proofs.Yticofikbijldiaa.Hand
