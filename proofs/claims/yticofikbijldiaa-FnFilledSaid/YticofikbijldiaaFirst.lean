/- table.removeFirstRowIfEmpty by hand: the first row goes, if all its cells are empty. -/
import Derived.Test.YticofikbijldiaaRowsB
namespace Go.Proofs.Yticofikbijldiaa.Hand
open Go.RowKit Go.Sort Go.Proofs.YticofikbijldiaaW.PrintWords Go.Proofs.YticofikbijldiaaW.PrintLast Go.Proofs.YticofikbijldiaaW.PrintMore
set_option linter.unusedVariables false

/-- The block behind a row's cells being laid anew: an own row of the first n of them. -/
theorem putRow_own {w : World} {base : Nat} {e : TypeId} {g n cap m : Nat} {vs ys : List Value} (h : w.ownsRow base e 1 (.slice (some ⟨g, 0, none⟩) n cap) n vs) (hy : ys.length = n) (hm : m ≤ n) (q : Nat) :
    (putRow idv (Sort.ahead w q) g 0 ys.toArray).ownsRow base e 1 (.slice (some ⟨g, 0, none⟩) m cap) m (ys.take m) ∧ w.grownBy (putRow idv (Sort.ahead w q) g 0 ys.toArray) (some g) := by
  obtain ⟨h1, h2⟩ := h
  rcases h2 with ⟨hn, _⟩ | ⟨g', cap', cur, he, hg, hh, hc, hm', hs, ht⟩
  · cases hn
  · injection he with ha hb hc'
    injection ha with ha
    injection ha with ha
    subst ha hc'
    have hlt := lt_of_block hh
    have hblk : (putRow idv (Sort.ahead w q) g 0 ys.toArray).heap[g]? = some (.cells (putCells idv 0 ys.toArray cur) e (0, 0)) := by
      show (w.heap.modify g (onCells (putCells idv 0 ys.toArray)))[g]? = _
      rw [Array.getElem?_modify, if_pos rfl, hh]
      rfl
    refine ⟨⟨by simp; omega, .inr ⟨g, cap, _, rfl, hg, hblk, by omega, hm', by simp [putCells, hs], ?_⟩⟩, ⟨rfl, rfl, rfl, ?_, fun k hk hne => ?_⟩⟩
    · apply List.ext_getElem?
      intro k
      rw [Nat.mul_one, List.getElem?_take, List.getElem?_take]
      by_cases hk : k < m
      · rw [if_pos hk, if_pos hk, Array.getElem?_toList, putCells, Array.getElem?_mapIdx, Array.getElem?_eq_getElem (by omega), List.getElem?_eq_getElem (by omega)]
        simp [idv, show k < ys.length by omega]
      · rw [if_neg hk, if_neg hk]
    · show w.heap.size ≤ (w.heap.modify g _).size
      rw [Array.size_modify]
      exact Nat.le_refl _
    · show (w.heap.modify g _)[k]? = _
      rw [Array.getElem?_modify, if_neg]
      rintro rfl
      exact hne rfl
def noFirst : List (List ByteArray) → List (List ByteArray)
  | [] => []
  | s :: t => if emptyB s = true then t else s :: t
theorem CellRows.tail {w : World} {v : Value} {vs : List Value} {s : List ByteArray} {ss : List (List ByteArray)} (h : CellRows w (v :: vs) (s :: ss)) : CellRows w vs ss :=
  ⟨by have := h.1; simpa using this, fun i u t hu ht => h.2 (i + 1) u t (by simpa using hu) (by simpa using ht)⟩
set_option maxRecDepth 100000 in
set_option maxHeartbeats 800000 in
theorem removeFirst_any (v : Value) (vs : List Value) (sss : List (List ByteArray)) (base : Nat) (w : World) (hl : sss.length ≤ 2147483647) (hll : ∀ ss ∈ sss, ss.length ≤ 2147483647 ∧ ∀ s ∈ ss, s.size ≤ 9223372036854775807)
    (hO : w.ownsRow base 48 1 v sss.length vs) (hV : CellRows w vs sss) :
    Calls Try.prog 76 #[v] w fun e w' => ∃ v' vs', e = .returned v' ∧ w'.ownsRow base 48 1 v' (noFirst sss).length vs' ∧ CellRows w' vs' (noFirst sss) ∧ Below base w w' := by
  cases sss with
  | nil =>
    obtain ⟨A, cp, rfl⟩ := own_slice hO
    have HO := Lib.hid hO
    have HV := Lib.hid hV
    clear hO hV
    go_enter Try.func76, Try.ntmps76
    go_wp2
    go_ret
    exact ⟨_, vs, rfl, HO.out, HV.out, Below.refl _ _⟩
  | cons s t =>
    obtain ⟨v0, vt, rfl⟩ : ∃ v0 vt, vs = v0 :: vt := by
      cases vs with
      | nil => exact absurd hV.1 (by simp)
      | cons a b => exact ⟨a, b, rfl⟩
    obtain ⟨g, cap, rfl, hg, hgl⟩ := hO.form (by simp)
    obtain ⟨b0, ws, hO0, hV0⟩ := hV.2 0 v0 s rfl rfl
    have hs := hll s List.mem_cons_self
    have hc : w.cell? ⟨g, 0, none⟩ = some v0 := hO.cells (g := g) rfl 0 v0 rfl
    have hsz : Hid ((s :: t).length = t.length + 1) := List.length_cons
    obtain ⟨n, hn⟩ : ∃ n, n = (s :: t).length := ⟨_, rfl⟩
    have hn0 : 0 < n := by rw [hn, hsz.out]; omega
    have hcap : n ≤ cap ∧ cap ≤ maxLen := by
      rcases hO.2 with ⟨hx, _⟩ | ⟨g', cap', cur, he, _, _, h3, h4, _⟩
      · cases hx
      · injection he with _ _ hc'
        subst hc'
        exact ⟨by rw [hn]; exact h3, h4⟩
    have hone : Hid (∀ u ∈ (v0 :: vt).toArray.toList, u.oneCell' = true) := by
      intro u hu
      obtain ⟨i, hi⟩ := List.mem_iff_getElem?.1 hu
      obtain ⟨s', _, hcr⟩ := hV.get hi
      exact hcr.one
    have hH : ∀ w1, Below w.heap.size w w1 → Holds idv w1 g 0 (v0 :: vt).toArray := by
      intro w1 hb j hj
      have hO1 := pw_own_below hO hb
      rw [Nat.zero_add]
      refine ⟨?_, hO1.frozenAt j⟩
      have hj' : j < (v0 :: vt).length := by simpa using hj
      have := hO1.cells (g := g) rfl j _ (List.getElem?_eq_getElem hj')
      rw [add_plain] at this
      rw [this]
      simp only [idv, List.getElem!_toArray, List.getElem!_eq_getElem?_getD, List.getElem?_eq_getElem hj', Option.getD_some]
    have hvl : (v0 :: vt).toArray.size = n := by have := hV.1; simp at this ⊢; rw [hn]; simp; exact this
    have HO := Lib.hid hO
    have HV := Lib.hid hV
    have HO0 := Lib.hid hO0
    have HV0 := Lib.hid hV0
    have HH := Lib.hid hH
    have HS := Lib.hid hs
    have HN := Lib.hid hn
    have HVL := Lib.hid hvl
    have hc63 : cap ≤ 9223372036854775807 := by have := hcap.2; simp only [maxLen] at this; omega
    have HC := Lib.hid hcap
    have hnl : n ≤ 2147483647 := by rw [hn]; exact hl
    rw [← hn]
    clear hO hV hO0 hV0 hH hs hn hvl hll hl hcap
    by_cases he : emptyB s = true
    · have HE := Lib.hid he
      clear he
      go_enter Try.func76, Try.ntmps76
      go_wp2_with (first
        | (go_at_call 70; refine (isEmpty_any _ ws s _ _ HS.out.1 HS.out.2 HO0.out HV0.out).mono ?_; rintro e w1 ⟨rfl, hb⟩; have HB := Lib.hid hb; rw [HE.out]; clear hb)
        | (go_at_call 85; rw [← HVL.out]; refine (delete_rows g 0 cap 0 1 (v0 :: vt).toArray hone _ (HH.out _ HB.out) (by rw [HVL.out]; exact HC.out.1) hc63 (by omega) (by rw [HVL.out]; omega)).mono ?_; rintro e w2 ⟨rfl, q, hw2⟩; have HW := Lib.hid hw2; clear hw2; rw [HVL.out]))
      go_ret
      have hno : noFirst (s :: t) = t := by simp [noFirst, HE.out]
      have hO1 := pw_own_below HO.out HB.out
      obtain ⟨hp, hgr⟩ := putRow_own (m := t.length) (ys := List.take 0 (v0 :: vt) ++ List.drop 1 (v0 :: vt) ++ List.replicate (1 - 0) (Value.slice none 0 0)) hO1 (by have := HV.out.1; simp at this ⊢; exact this) (by simp) q
      rw [← HW.out] at hp hgr
      have hvt : vt.length = t.length := by have := HV.out.1; simpa using this
      have htk : List.take t.length (List.take 0 (v0 :: vt) ++ List.drop 1 (v0 :: vt) ++ List.replicate (1 - 0) (Value.slice none 0 0)) = vt := by
        simp [← hvt]
      rw [htk] at hp
      rw [hno]
      refine ⟨.slice (some ⟨g, 0, none⟩) t.length cap, vt, ?_, hp, ?_, ?_⟩
      · rw [show t.length = n - 1 by rw [HN.out, hsz.out]; rfl]
        rfl
      · exact HV.out.tail.mono fun _ _ h => (h.below HB.out).grown hO1 hgr
      · exact ⟨hgr.os.trans HB.out.os, hgr.tape.trans HB.out.tape, hgr.output.trans HB.out.output, Nat.le_trans HB.out.size hgr.size, fun k hk => (hgr.block k (by have := HB.out.size; omega) (fun e => by injection e with e; omega)).trans (HB.out.block k (by omega))⟩
    · have HE := Lib.hid (Bool.eq_false_iff.2 he)
      clear he
      go_enter Try.func76, Try.ntmps76
      go_wp2_with (go_at_call 70; refine (isEmpty_any _ ws s _ _ HS.out.1 HS.out.2 HO0.out HV0.out).mono ?_; rintro e w1 ⟨rfl, hb⟩; have HB := Lib.hid hb; rw [HE.out]; clear hb)
      go_ret
      have hno : noFirst (s :: t) = s :: t := by simp [noFirst, HE.out]
      rw [hno]
      exact ⟨.slice (some ⟨g, 0, none⟩) n cap, v0 :: vt, rfl, by rw [HN.out]; exact pw_own_below HO.out HB.out, HV.out.mono fun _ _ h => h.below HB.out, ⟨HB.out.os, HB.out.tape, HB.out.output, HB.out.size, fun k hk => HB.out.block k (by omega)⟩⟩
end Go.Proofs.Yticofikbijldiaa.Hand
