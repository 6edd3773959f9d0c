/- bytes.Buffer.Write, WriteByte and WriteRune (of ASCII) with the finer frame. -/
import Derived.Test.YticofikbijldiaaBufRow
import Derived.Test.YticofikbijldiaaBufRow2
import Derived.Lib.BufferSrc
namespace Go.Proofs.Yticofikbijldiaa.Hand
open Go.RowKit Go.Proofs.YticofikbijldiaaW.PrintWords Go.Proofs.YticofikbijldiaaW.PrintLast Go.Proofs.YticofikbijldiaaW.PrintMore
set_option linter.unusedVariables false

theorem Fine.same {b : Nat} {w w' : World} {v v2 x y x2 y2 : Value} {T : TypeId} (h : w.heap[b]? = some (.cells #[v, x, y] T (0, 0))) (h2 : w'.heap[b]? = some (.cells #[v2, x2, y2] T (0, 0))) (hv : v2.ownBlock = v.ownBlock) (hs : w.heap.size ≤ w'.heap.size)
    (hb : ∀ k, k < w.heap.size → k ≠ b → v.ownBlock ≠ some k → w'.heap[k]? = w.heap[k]?) : Fine b w w' := by
  have e1 := RowOf_heap h
  have e2 := RowOf_heap h2
  exact ⟨hs, fun k hk hkb hr => hb k hk hkb (by rw [← e1]; exact hr), .inl (by rw [e1, e2, hv])⟩
theorem Fine.setB {b i : Nat} {w : World} {v x y v2 x2 y2 u : Value} {T : TypeId} (h : w.heap[b]? = some (.cells #[v, x, y] T (0, 0))) (h2 : (w.setCell ⟨b, i, none⟩ u).heap[b]? = some (.cells #[v2, x2, y2] T (0, 0))) (hv : v2.ownBlock = v.ownBlock) : Fine b w (w.setCell ⟨b, i, none⟩ u) :=
  Fine.same h h2 hv (by simp [World.setCell]) (fun k _ hkb _ => Below.heap_setCell _ _ _ _ hkb)
theorem Fine.cell {b : Nat} {w w' : World} (h : Fine b w w') {a : Addr} {v : Value} (hc : w.cell? a = some v) (hb : a.block ≠ b) (hr : RowOf w b ≠ some a.block) : w'.cell? a = some v :=
  (World.cell?_of_block (h.block a.block (World.block_lt_of_cell? w a hc) hb hr)).trans hc
/-- grow, wherever there is no room. -/
theorem grow_fine (B b n : Nat) (bs : List Value) (w : World) (h : Lib.IsBuffer 68 5 B b bs w) (hBw : B ≤ w.heap.size) (h1 : ∀ v ∈ bs, v.oneCell' = true) (hn : 1 ≤ n) (hlim : bs.length + n ≤ 140737488355328)
    (hno : ∀ ao l cap, w.cell? ⟨b, 0, none⟩ = some (.slice ao l cap) → cap - l < n) :
    Calls Try.prog 115 #[.pointer (some ⟨b, 0, none⟩), .int .i64 n] w fun e w' => e = .returned (.int .i64 bs.length) ∧ ∃ xs, xs.length = n ∧ Lib.IsBuffer 68 5 B b (bs ++ xs) w' ∧ Below B w w' ∧ Fine b w w' := by
  obtain ⟨hB, lr, hc⟩ := h.cases
  rcases hc with ⟨rfl, hbk⟩ | ⟨g, cap, cur, hbk, hBg, hg, hnc, hcm, hcs, htk, hgb⟩
  · by_cases h64 : n ≤ 64
    · exact grow_nil_small B b n lr w hB hBw hbk hn h64
    · exact grow_nil_big B b n lr w hB hBw hbk (by omega) (by simpa using hlim)
  · have hroom := hno _ _ _ (by rw [Lib.cell_of_heap hbk]; rfl)
    by_cases hl0 : bs.length = 0
    · obtain rfl : bs = [] := List.eq_nil_of_length_eq_zero hl0
      exact grow_row0 B b g cap n lr cur w hB hBw hbk hBg hg hcm hcs hgb hn (by simpa using hroom) (by simpa using hlim)
    · exact grow_row B b g bs.length cap n lr cur bs w hB hBw hbk rfl hl0 hBg hg hnc hcm hcs htk hgb h1 hn hroom hlim

set_option maxHeartbeats 3200000 in
set_option maxRecDepth 100000 in
/-- Write of no byte. -/
theorem write_none (B b c : Nat) (bs : List Value) (p : Option Addr) (w : World) (h : Lib.IsBuffer 68 5 B b bs w) (hBw : B ≤ w.heap.size) :
    Calls Try.prog 112 #[.pointer (some ⟨b, 0, none⟩), .slice p 0 c] w fun e w' => e = .returned (.tuple #[.int .i64 0, .nilIface]) ∧ Lib.IsBuffer 68 5 B b bs w' ∧ Below B w w' ∧ Fine b w w' := by
  have hce : ∀ d dLen dCap W, (Builtin.copy_ #[45, 45] 3 #[.slice d dLen dCap, .slice p 0 c]).run Try.prog W = .ok (goInt 0) W := fun d dLen dCap W => run_copy_none W 45 45 3 5 d p dLen dCap 0 c Try.underlying45 infoU8c (by simp)
  obtain ⟨hB, lr, hc⟩ := h.cases
  rcases hc with ⟨rfl, hbk⟩ | ⟨g, cap, cur, hbk, hBg, hg, hnc, hcm, hcs, htk, hgb⟩
  · have c2 : w.cell? ⟨b, 2, none⟩ = some (.int .i8 lr) := by rw [Lib.cell_of_heap hbk]; rfl
    have f2 : w.frozen? ⟨b, 2, none⟩ = false := Lib.frozen_of_heap hbk 2
    have hbk1 := Lib.heap_setCell_same (i := 2) hbk (.int .i8 0)
    have d0 : (w.setCell ⟨b, 2, none⟩ (.int .i8 0)).cell? ⟨b, 0, none⟩ = some (.slice none 0 0) := by rw [Lib.cell_of_heap hbk1]; rfl
    have e0 := Lib.frozen_of_heap hbk1 0
    have hbk2 := Lib.heap_setCell_same (i := 0) hbk1 (.slice none 0 0)
    have d3 : ((w.setCell ⟨b, 2, none⟩ (.int .i8 0)).setCell ⟨b, 0, none⟩ (.slice none 0 0)).cell? ⟨b, 0, none⟩ = some (.slice none 0 0) := by rw [Lib.cell_of_heap hbk2]; rfl
    have HF := Lib.hid ((Fine.setB hbk hbk1 rfl).trans (Fine.setB hbk1 hbk2 rfl))
    have HI := Lib.hid (show Lib.IsBuffer 68 5 B b [] ((w.setCell ⟨b, 2, none⟩ (.int .i8 0)).setCell ⟨b, 0, none⟩ (.slice none 0 0)) from ⟨hB, _, _, hbk2, World.ownsRow_nil _ _ _ _, by simp [Value.ownBlock]⟩)
    have HB := Lib.hid (((Below.refl B w).setCell (p := ⟨b, 2, none⟩) hB (.int .i8 0)).setCell (p := ⟨b, 0, none⟩) hB (.slice none 0 0))
    have hT := Buffer_tryGrow_room b none 0 0 0 _ d0 e0 (Nat.le_refl _) (Nat.zero_le _) (Nat.le_refl _)
    clear hbk hbk1 hbk2
    go_enter Try.func112, Try.ntmps112
    go_wp2_with (go_at_call 114; refine hT.mono ?_; rintro e w' ⟨rfl, hw⟩; rw [hw]; clear hw)
    go_ret2
    exact ⟨rfl, HI.out, HB.out, HF.out⟩
  · have c2 : w.cell? ⟨b, 2, none⟩ = some (.int .i8 lr) := by rw [Lib.cell_of_heap hbk]; rfl
    have f2 : w.frozen? ⟨b, 2, none⟩ = false := Lib.frozen_of_heap hbk 2
    have hbk1 := Lib.heap_setCell_same (i := 2) hbk (.int .i8 0)
    obtain ⟨l, hl⟩ : ∃ l, l = bs.length := ⟨_, rfl⟩
    rw [← hl] at hbk hbk1 hnc htk
    have d0 : (w.setCell ⟨b, 2, none⟩ (.int .i8 0)).cell? ⟨b, 0, none⟩ = some (.slice (some ⟨g, 0, none⟩) l cap) := by rw [Lib.cell_of_heap hbk1]; rfl
    have e0 := Lib.frozen_of_heap hbk1 0
    have hbk2 := Lib.heap_setCell_same (i := 0) hbk1 (.slice (some ⟨g, 0, none⟩) (l + 0) cap)
    have d3 : ((w.setCell ⟨b, 2, none⟩ (.int .i8 0)).setCell ⟨b, 0, none⟩ (.slice (some ⟨g, 0, none⟩) (l + 0) cap)).cell? ⟨b, 0, none⟩ = some (.slice (some ⟨g, 0, none⟩) (l + 0) cap) := by rw [Lib.cell_of_heap hbk2]; rfl
    have HF := Lib.hid ((Fine.setB hbk hbk1 rfl).trans (Fine.setB hbk1 hbk2 rfl))
    have hg2 : ((w.setCell ⟨b, 2, none⟩ (.int .i8 0)).setCell ⟨b, 0, none⟩ (.slice (some ⟨g, 0, none⟩) (l + 0) cap)).heap[g]? = some (.cells cur 5 (0, 0)) := by
      rw [Below.heap_setCell _ _ _ _ hgb, Below.heap_setCell _ _ _ _ hgb]
      exact hg
    have HI := Lib.hid (show Lib.IsBuffer 68 5 B b bs ((w.setCell ⟨b, 2, none⟩ (.int .i8 0)).setCell ⟨b, 0, none⟩ (.slice (some ⟨g, 0, none⟩) (l + 0) cap)) from
      ⟨hB, _, _, hbk2, ⟨by rw [Nat.mul_one], .inr ⟨g, cap, cur, by rw [hl]; rfl, hBg, hg2, by omega, hcm, by omega, by rw [Nat.mul_one, ← hl]; exact htk⟩⟩, by simp [Value.ownBlock]; exact hgb⟩)
    have HB := Lib.hid (((Below.refl B w).setCell (p := ⟨b, 2, none⟩) hB (.int .i8 0)).setCell (p := ⟨b, 0, none⟩) hB (.slice (some ⟨g, 0, none⟩) (l + 0) cap))
    have hT := Buffer_tryGrow_room b (some ⟨g, 0, none⟩) l cap 0 _ d0 e0 hnc hcm (Nat.zero_le _)
    have hcm' := hcm
    unfold maxLen at hcm'
    have i0 : (0 : Int) ≤ (l : Int) := by omega
    have i1 : (l : Int) ≤ (cap : Int) := by omega
    clear hbk hbk1 hbk2 hg2 hl htk hnc
    go_enter Try.func112, Try.ntmps112
    go_wp2_with (go_at_call 114; refine hT.mono ?_; rintro e w' ⟨rfl, hw⟩; rw [hw]; clear hw)
    all_goals (go_ret2; first | exact ⟨rfl, HI.out, HB.out, HF.out⟩ | (have hcl : cap = l := (by assumption); subst hcl; exact ⟨rfl, HI.out, HB.out, HF.out⟩))

/-- What a walk reads of the buffer's first cells, behind the row's name. -/
theorem Fine.row_set {b g : Nat} {w : World} {v x y : Value} {T : TypeId} (h : w.heap[b]? = some (.cells #[v, x, y] T (0, 0))) (hv : v.ownBlock = some g) (hgb : g ≠ b) (cs : Array Value) : Fine b w (w.setRow g cs) := by
  have h2 : (w.setRow g cs).heap[b]? = some (.cells #[v, x, y] T (0, 0)) := by rw [setRow_other _ _ _ _ (Ne.symm hgb)]; exact h
  refine Fine.same h h2 rfl (by simp) (fun k _ hkb hr => setRow_other _ _ _ _ (fun e => hr (by rw [hv, e])))
set_option maxHeartbeats 3200000 in
set_option maxRecDepth 100000 in
/-- Write of bytes. -/
theorem write_some (B b : Nat) (bs cs : List Value) (a : Addr) (n c : Nat) (w : World) (h : Lib.IsBuffer 68 5 B b bs w) (hBw : B ≤ w.heap.size) (h1 : ∀ v ∈ bs, v.oneCell' = true)
    (hn : cs.length = n) (hn1 : 1 ≤ n) (hab : a.block ≠ b) (har : RowOf w b ≠ some a.block) (hsrc : ∀ j v, cs[j]? = some v → w.cell? (a.add j) = some v) (h1c : ∀ v ∈ cs, v.oneCell' = true) (hlim : bs.length + n ≤ 140737488355328) :
    Calls Try.prog 112 #[.pointer (some ⟨b, 0, none⟩), .slice (some a) n c] w fun e w' => e = .returned (.tuple #[.int .i64 n, .nilIface]) ∧ Lib.IsBuffer 68 5 B b (bs ++ cs) w' ∧ Below B w w' ∧ Fine b w w' := by
  obtain ⟨hB, v0, lr, hbk, -, -⟩ := id h
  have c2 : w.cell? ⟨b, 2, none⟩ = some (.int .i8 lr) := by rw [Lib.cell_of_heap hbk]; rfl
  have f2 : w.frozen? ⟨b, 2, none⟩ = false := Lib.frozen_of_heap hbk 2
  obtain ⟨W, hW⟩ : ∃ W, W = w.setCell ⟨b, 2, none⟩ (.int .i8 0) := ⟨_, rfl⟩
  have hI0 : Lib.IsBuffer 68 5 B b bs W := by rw [hW]; exact h.setLast 0
  have hB0 : Below B w W := by rw [hW]; exact (Below.refl B w).setCell (p := ⟨b, 2, none⟩) hB _
  have hbk1 : W.heap[b]? = some (.cells #[v0, .int .i64 0, .int .i8 0] 68 (0, 0)) := by rw [hW]; exact Lib.heap_setCell_same (i := 2) hbk (.int .i8 0)
  have hF0 : Fine b w W := by rw [hW]; exact Fine.setB hbk (by rw [← hW]; exact hbk1) rfl
  have hBW : B ≤ W.heap.size := Nat.le_trans hBw hF0.size
  have har0 : RowOf W b ≠ some a.block := by rw [RowOf_heap hbk1, ← RowOf_heap hbk]; exact har
  have hsrc0 : ∀ j v, cs[j]? = some v → W.cell? (a.add j) = some v := fun j v hj => hF0.cell (hsrc j v hj) (by rw [Lib.block_add]; exact hab) (by rw [Lib.block_add]; exact har)
  have hend : ∀ W1 g cap (cur : Array Value) lr2, W1.heap[b]? = some (.cells #[.slice (some ⟨g, 0, none⟩) (bs.length + n) cap, .int .i64 0, .int .i8 lr2] 68 (0, 0)) → B ≤ g → W1.heap[g]? = some (.cells cur 5 (0, 0)) → bs.length + n ≤ cap → cap ≤ maxLen → cur.size = cap → cur.toList.take bs.length = bs → g ≠ b →
      Below B w W1 → Fine b w W1 → (∀ j v, cs[j]? = some v → W1.cell? (a.add j) = some v) →
      ∃ W2, (Builtin.copy_ #[45, 45] 3 #[.slice (some ⟨g, bs.length, none⟩) n (cap - bs.length), .slice (some a) n c]).run Try.prog W1 = .ok (.int .i64 n) W2 ∧ Lib.IsBuffer 68 5 B b (bs ++ cs) W2 ∧ Below B w W2 ∧ Fine b w W2 := by
    intro W1 g cap cur lr2 hk hBg hg hnc hcm hcs htk hgb hb hf hs
    have hcp := run_copy_row (P := Try.prog) W1 45 45 3 5 g bs.length n (cap - bs.length) a n c cur 5 cs Try.underlying45 infoU8c hg (by rw [hn]; exact (Nat.min_self n).symm) hs (by rw [hn]; omega) h1c
    obtain ⟨r1, r2⟩ := Lib.written_end (news := cs) (l := bs.length) hB (by rw [hn]; exact hk) hBg hg hcm hcs hgb (by rw [hn]; exact hnc)
    rw [htk] at r1 r2 hcp
    rw [hn] at r1 r2 hcp
    refine ⟨_, hcp, r1, ?_, ?_⟩
    · exact hb.trans r2
    · exact hf.trans (Fine.row_set hk rfl hgb _)
  have HE := Lib.hid hend
  clear hend
  have HW := Lib.hid hW.symm
  clear hW hbk
  obtain ⟨l, hl⟩ : ∃ l, l = bs.length := ⟨_, rfl⟩
  have HL := Lib.hid hl
  obtain ⟨-, lr1, hc⟩ := hI0.cases
  have hgrow : (∀ ao l cap, W.cell? ⟨b, 0, none⟩ = some (.slice ao l cap) → cap - l < n) → Calls Try.prog 114 #[.pointer (some ⟨b, 0, none⟩), .int .i64 (n : Int)] W (fun e w' => e = .returned (.tuple #[.int .i64 0, .bool false]) ∧ w' = W) →
      Calls Try.prog 112 #[.pointer (some ⟨b, 0, none⟩), .slice (some a) n c] w fun e w' => e = .returned (.tuple #[.int .i64 n, .nilIface]) ∧ Lib.IsBuffer 68 5 B b (bs ++ cs) w' ∧ Below B w w' ∧ Fine b w w' := by
    intro hno hT
    have HG := Lib.hid (grow_fine B b n bs W hI0 hBW h1 hn1 hlim hno)
    have HS := Lib.hid hsrc0
    have HB0 := Lib.hid hB0
    have HF0 := Lib.hid hF0
    clear hc hno hsrc hI0 h hl hbk1 hB0 hF0 hsrc0
    go_enter Try.func112, Try.ntmps112
    go_wp2_with (first
      | (go_at_call 114; rw [HW.out]; refine hT.mono ?_; rintro e w' ⟨rfl, hw⟩; rw [hw]; clear hw)
      | (go_at_call 115; refine HG.out.mono ?_))
    rintro e W1 ⟨rfl, xs, hxl, hI, hbel, hfine⟩
    obtain ⟨-, lr2, hc2⟩ := hI.cases
    have hll : (bs ++ xs).length = l + n := by rw [List.length_append, hxl, ← HL.out]
    rcases hc2 with ⟨hnil, -⟩ | ⟨g, cap, cur, hbk2, hBg, hg, hnc, hcm, hcs, htk, hgb⟩
    · exact absurd (congrArg List.length hnil) (by rw [hll, List.length_nil]; omega)
    · rw [hll] at hbk2 hnc htk
      have htk2 : cur.toList.take bs.length = bs := by
        have h3 := congrArg (List.take l) htk
        rw [List.take_take, Nat.min_eq_left (Nat.le_add_right _ _)] at h3
        rw [← HL.out, h3, HL.out, List.take_left' rfl]
      obtain ⟨W2, hr, q1, q2, q3⟩ := HE.out W1 g cap cur lr2 (by rw [← HL.out]; exact hbk2) hBg hg (by rw [← HL.out]; exact hnc) hcm hcs htk2 hgb (HB0.out.trans hbel) (HF0.out.trans hfine)
        (fun j v hj => hfine.cell (HS.out j v hj) (by rw [Lib.block_add]; exact hab) (by rw [Lib.block_add]; exact har0))
      rw [← HL.out] at hr
      have d0 : W1.cell? ⟨b, 0, none⟩ = some (.slice (some ⟨g, 0, none⟩) (l + n) cap) := by rw [Lib.cell_of_heap hbk2]; rfl
      have hne : ¬ cap = l := by omega
      have hcm' := hcm
      unfold maxLen at hcm'
      have Q1 := Lib.hid q1
      have Q2 := Lib.hid q2
      have Q3 := Lib.hid q3
      clear q1 q2 q3 hbk2 hg hI htk htk2 hll
      rw [← HL.out]
      go_wp2
      go_ret2
      exact ⟨rfl, Q1.out, Q2.out, Q3.out⟩
  rcases hc with ⟨hnil, hbk2⟩ | ⟨g, cap, cur, hbk2, hBg, hg, hnc, hcm, hcs, htk, hgb⟩
  · have d0 : W.cell? ⟨b, 0, none⟩ = some (.slice none 0 0) := by rw [Lib.cell_of_heap hbk2]; rfl
    refine hgrow (fun ao l cap h2 => ?_) (Buffer_tryGrow_none b none 0 0 n _ d0 (Nat.le_refl _) (Nat.zero_le _) (by omega))
    rw [d0] at h2
    simp only [Option.some.injEq, Value.slice.injEq] at h2
    omega
  · have d0 : W.cell? ⟨b, 0, none⟩ = some (.slice (some ⟨g, 0, none⟩) bs.length cap) := by rw [Lib.cell_of_heap hbk2]; rfl
    by_cases hroom : n ≤ cap - bs.length
    · rw [← hl] at hbk2 d0 hnc htk hroom
      have e0 := Lib.frozen_of_heap hbk2 0
      obtain ⟨W1, hW1⟩ : ∃ W1, W1 = W.setCell ⟨b, 0, none⟩ (.slice (some ⟨g, 0, none⟩) (l + n) cap) := ⟨_, rfl⟩
      have hbk3 : W1.heap[b]? = some (.cells #[.slice (some ⟨g, 0, none⟩) (l + n) cap, .int .i64 0, .int .i8 lr1] 68 (0, 0)) := by rw [hW1]; exact Lib.heap_setCell_same (i := 0) hbk2 _
      have hg3 : W1.heap[g]? = some (.cells cur 5 (0, 0)) := by rw [hW1, Below.heap_setCell _ _ _ _ hgb]; exact hg
      have hF1 : Fine b W W1 := by rw [hW1]; exact Fine.setB hbk2 (v2 := .slice (some ⟨g, 0, none⟩) (l + n) cap) (x2 := .int .i64 0) (y2 := .int .i8 lr1) (by rw [← hW1]; exact hbk3) rfl
      have hB1 : Below B w W1 := by rw [hW1]; exact hB0.setCell (p := ⟨b, 0, none⟩) hB _
      have d1 : W1.cell? ⟨b, 0, none⟩ = some (.slice (some ⟨g, 0, none⟩) (l + n) cap) := by rw [Lib.cell_of_heap hbk3]; rfl
      have hT := Buffer_tryGrow_room b (some ⟨g, 0, none⟩) l cap n W d0 e0 hnc hcm hroom
      rw [← hW1] at hT
      obtain ⟨W2, hr, q1, q2, q3⟩ := HE.out W1 g cap cur lr1 (by rw [← hl]; exact hbk3) hBg hg3 (by omega) hcm hcs (by rw [← hl]; exact htk) hgb hB1 (hF0.trans hF1)
        (fun j v hj => hF1.cell (hsrc0 j v hj) (by rw [Lib.block_add]; exact hab) (by rw [Lib.block_add]; exact har0))
      rw [← hl] at hr
      have hne : ¬ cap = l := by omega
      have hcm' := hcm
      unfold maxLen at hcm'
      have Q1 := Lib.hid q1
      have Q2 := Lib.hid q2
      have Q3 := Lib.hid q3
      clear q1 q2 q3 hbk2 hg htk hbk3 hg3 hF1 hB1 hW1 hbk1 hI0 h hgrow hsrc hsrc0 hl hB0 hF0
      go_enter Try.func112, Try.ntmps112
      go_wp2_with (go_at_call 114; rw [HW.out]; refine hT.mono ?_; rintro e w' ⟨rfl, hw⟩; rw [hw]; clear hw)
      go_ret2
      exact ⟨rfl, Q1.out, Q2.out, Q3.out⟩
    · refine hgrow (fun ao l cap h2 => ?_) (Buffer_tryGrow_none b (some ⟨g, 0, none⟩) bs.length cap n _ d0 hnc hcm (by omega))
      rw [d0] at h2
      simp only [Option.some.injEq, Value.slice.injEq] at h2
      omega
end Go.Proofs.Yticofikbijldiaa.Hand
