/- A contract by hand: impl.Pound, of texts with a mark or a backslash ahead of a pound sign at the end. -/
import Derived.Test.YticofikbijldiaaGuard
import Derived.Test.YticofikbijldiaaBytes
namespace Go.Proofs.Yticofikbijldiaa.Hand
open Go.RowKit Go.Proofs.YticofikbijldiaaW.PrintWords Go.Proofs.YticofikbijldiaaW.PrintLast Go.Proofs.YticofikbijldiaaW.PrintMore
set_option linter.unusedVariables false

/-- A heading's text behind the escape of a pound sign at its end. -/
def poundOf (s : ByteArray) : ByteArray :=
  if bt s ((s.size : Int) - 1) = 35 then (if 3 ≤ s.size ∧ bt s ((s.size : Int) - 3) = 92 then s else strOfNums ((bys s).set (s.size - 2) 92)) else s

theorem reads_set {w : World} {k : IntKind} {g n : Nat} {xs : List Int} (h : ReadsInt w k (some ⟨g, 0, none⟩) n xs) (i : Nat) (hi : i < n) (v : Int) (u : Value) (hu : w.cell? ⟨g, i, none⟩ = some u) :
    ReadsInt (w.setCell ⟨g, i, none⟩ (.int k v)) k (some ⟨g, 0, none⟩) n (xs.set i v) := by
  refine ⟨by rw [List.length_set]; exact h.1, h.2.1, fun hn => ⟨_, rfl, fun j hj => ?_⟩⟩
  obtain ⟨ad, e, hc⟩ := h.2.2 hn
  injection e with e
  subst e
  have hj' := hc j hj
  rw [add_plain] at hj' ⊢
  have hl := h.1
  by_cases e : i = j
  · subst e
    rw [World.cell?_setCell_same _ _ _ hu]
    simp [List.getD_eq_getElem?_getD, hl, hj]
  · rw [World.cell?_setCell_other _ _ _ _ (fun z => by injection z with _ z; exact e z), hj']
    simp [List.getD_eq_getElem?_getD, e]

set_option maxRecDepth 100000 in
theorem pound_do (s : ByteArray) (b0 b1 : Nat) (w : World) (hs : 0 < s.size) (hs2 : s.size ≤ 2147483647) (hm : bt s ((s.size : Int) - 1) = 35 → 2 ≤ s.size)
    (h0 : w.cell? ⟨b0, 0, none⟩ = some (.string s)) (x : Value) (h1 : w.cell? ⟨b1, 0, none⟩ = some x) (hf1 : w.frozen? ⟨b1, 0, none⟩ = false) :
    Calls Try.prog 49 #[.pointer (some ⟨b0, 0, none⟩), .pointer (some ⟨b1, 0, none⟩)] w fun e W => e = .returned (.tuple #[]) ∧ ∃ W0, Below w.heap.size w W0 ∧ W = W0.setCell ⟨b1, 0, none⟩ (.string (poundOf s)) := by
  have hconv := fun W => run_bytesW (P := Try.prog) 9 45 5 s Try.underlying9 Try.underlying45 Try.underlying5 W
  have hl0 : b0 < w.heap.size := World.block_lt_of_cell? w _ h0
  have hl1 : b1 < w.heap.size := World.block_lt_of_cell? w _ h1
  have hB := bytesW_below (Below.refl w.heap.size w) (Nat.le_refl _) s 5
  have k1 : (bytesW w s 5).cell? ⟨b1, 0, none⟩ = some x := (hB.cell (p := ⟨b1, 0, none⟩) hl1).trans h1
  have f1 : (bytesW w s 5).frozen? ⟨b1, 0, none⟩ = false := (hB.frozen (p := ⟨b1, 0, none⟩) hl1).trans hf1
  have hback : (convert 45 9 (.slice (some ⟨w.heap.size, 0, none⟩) s.size (bcap w s 5))).run Try.prog (bytesW w s 5) = .ok (.string s) (bytesW w s 5) := by
    have := Kd.C_string (P := Try.prog) (c := bcap w s 5) Try.underlying45 Try.underlying5 Try.underlying9 (C_of_ints (bytesW_reads w s 5 (by omega)))
    rwa [str_bys] at this
  have c1 := bytesW_cell w s 5 (s.size - 1) (by omega)
  have n1 : (bys s).getD (s.size - 1) 0 = bt s ((s.size : Int) - 1) := by rw [← rd_bys, rd, show ((s.size : Int) - 1).toNat = s.size - 1 by omega]
  have HB := Lib.hid hB
  clear hB
  obtain ⟨y, hy⟩ : ∃ y, bt s ((s.size : Int) - 1) = y := ⟨_, rfl⟩
  rw [n1, hy] at c1
  have HY := Lib.hid hy
  clear hy n1
  by_cases e1 : y = 35
  · have h2 : 2 ≤ s.size := hm (HY.out.trans e1)
    have t1 : (y != 35) = false := by simpa using e1
    have HE := Lib.hid e1
    clear e1 hm
    have c2 := bytesW_cell w s 5 (s.size - 2) (by omega)
    have f2 := bytesW_frozen w s 5 (s.size - 2) (by omega)
    have hrs := reads_set (bytesW_reads w s 5 (by omega)) (s.size - 2) (by omega) 92 _ c2
    have hbs := Kd.C_string (P := Try.prog) (c := bcap w s 5) Try.underlying45 Try.underlying5 Try.underlying9 (C_of_ints hrs)
    have k2 : ((bytesW w s 5).setCell ⟨w.heap.size, s.size - 2, none⟩ (.int .u8 92)).cell? ⟨b1, 0, none⟩ = some x := (World.cell?_of_block (Below.heap_setCell _ _ _ _ (by show b1 ≠ w.heap.size; omega))).trans k1
    have f3 : ((bytesW w s 5).setCell ⟨w.heap.size, s.size - 2, none⟩ (.int .u8 92)).frozen? ⟨b1, 0, none⟩ = false := (World.frozen?_of_block (Below.heap_setCell _ _ _ _ (by show b1 ≠ w.heap.size; omega))).trans f1
    clear hrs
    by_cases e3 : 3 ≤ s.size
    · have c3 := bytesW_cell w s 5 (s.size - 3) (by omega)
      have n3 : (bys s).getD (s.size - 3) 0 = bt s ((s.size : Int) - 3) := by rw [← rd_bys, rd, show ((s.size : Int) - 3).toNat = s.size - 3 by omega]
      obtain ⟨z, hz⟩ : ∃ z, bt s ((s.size : Int) - 3) = z := ⟨_, rfl⟩
      rw [n3, hz] at c3
      have HZ := Lib.hid hz
      clear hz n3
      by_cases e4 : z = 92
      · have t4 : (z == 92) = true := by simpa using e4
        have HE4 := Lib.hid e4
        clear e4
        go_enter Try.func49, Try.ntmps49
        go_wp2
        go_end0
        have hp : poundOf s = s := by
          rw [poundOf, if_pos (by rw [HY.out]; exact HE.out), if_pos ⟨e3, by rw [HZ.out]; exact HE4.out⟩]
        exact ⟨rfl, _, HB.out, by rw [hp]⟩
      · have t4 : (z == 92) = false := by simpa using e4
        have HE4 := Lib.hid e4
        clear e4
        go_enter Try.func49, Try.ntmps49
        go_wp2
        go_end0
        have hp : poundOf s = strOfNums ((bys s).set (s.size - 2) 92) := by
          rw [poundOf, if_pos (by rw [HY.out]; exact HE.out), if_neg (fun h => HE4.out (HZ.out.symm.trans h.2))]
        exact ⟨rfl, _, HB.out.setCell (p := ⟨w.heap.size, s.size - 2, none⟩) (Nat.le_refl _) _, by rw [hp]⟩
    · have t3 : decide (3 ≤ (s.size : Int)) = false := decide_eq_false (by omega)
      go_enter Try.func49, Try.ntmps49
      go_wp2
      go_end0
      have hp : poundOf s = strOfNums ((bys s).set (s.size - 2) 92) := by
        rw [poundOf, if_pos (by rw [HY.out]; exact HE.out), if_neg (fun h => e3 h.1)]
      exact ⟨rfl, _, HB.out.setCell (p := ⟨w.heap.size, s.size - 2, none⟩) (Nat.le_refl _) _, by rw [hp]⟩
  · have t1 : (y != 35) = true := by simpa using e1
    have HE := Lib.hid e1
    clear e1
    go_enter Try.func49, Try.ntmps49
    go_wp2
    go_end0
    have hp : poundOf s = s := by rw [poundOf, if_neg (by rw [HY.out]; exact HE.out)]
    exact ⟨rfl, _, HB.out, by rw [hp]⟩

theorem alloc2_size (w : World) (A B : Obj) : ((w.alloc A).alloc B).heap.size = w.heap.size + 2 := by simp
theorem alloc3_size (w : World) (A B C : Obj) : (((w.alloc A).alloc B).alloc C).heap.size = w.heap.size + 3 := by simp
theorem heap3 (w : World) (A B C : Obj) : (((w.alloc A).alloc B).alloc C).heap[w.heap.size]? = some A ∧ (((w.alloc A).alloc B).alloc C).heap[w.heap.size + 1]? = some B ∧ (((w.alloc A).alloc B).alloc C).heap[w.heap.size + 2]? = some C := by
  refine ⟨?_, ?_, ?_⟩
  · rw [Below.heap_alloc _ _ _ (by simp; omega), Below.heap_alloc _ _ _ (by simp), heap_alloc_new]
  · rw [Below.heap_alloc _ _ _ (by simp), show w.heap.size + 1 = (w.alloc A).heap.size by simp, heap_alloc_new]
  · rw [show w.heap.size + 2 = ((w.alloc A).alloc B).heap.size by simp, heap_alloc_new]
theorem below3 (w : World) (A B C : Obj) : Below w.heap.size w (((w.alloc A).alloc B).alloc C) := (((Below.refl _ _).alloc (Nat.le_refl _) _).alloc (by simp) _).alloc (by simp; omega) _
theorem cell_one {w : World} {k : Nat} {v : Value} {t : TypeId} (h : w.heap[k]? = some (.cells #[v] t (0, 0))) : w.cell? ⟨k, 0, none⟩ = some v := by simp [World.cell?, h]
theorem frozen_one {w : World} {k : Nat} {v : Value} {t : TypeId} (h : w.heap[k]? = some (.cells #[v] t (0, 0))) : w.frozen? ⟨k, 0, none⟩ = false := by simp [World.frozen?, h]

set_option maxRecDepth 100000 in
theorem pound_any (s : ByteArray) (w : World) (hs : 0 < s.size) (hs2 : s.size ≤ 2147483647) (hm : bt s ((s.size : Int) - 1) = 35 → 2 ≤ s.size) :
    Calls Try.prog 24 #[.string s] w fun e w' => e = .returned (.string (poundOf s)) ∧ Below w.heap.size w w' := by
  have hmf : ∀ (fn : Fn) (first cap : Array Value) (w : World), (Instr.makeFunc fn first cap).run Try.prog w = .ok (.func fn first cap) w := fun _ _ _ _ => rfl
  have HM := Lib.hid hm
  clear hm
  go_enter Try.func24, Try.ntmps24
  go_wp2_with (go_at_call 48; refine (guarded_any 49 _ _ (fun W => Below w.heap.size w W ∧ W.cell? ⟨w.heap.size + 1, 0, none⟩ = some (.string (poundOf s))) (fun W => enters Try.func49 (by kernel_rfl) rfl _ W) ?_).mono ?_)
  · rw [alloc2_size]
    obtain ⟨a0, a1, a2⟩ := heap3 w (.cells #[.string s] 9) (.cells #[.string ⟨#[]⟩] 9) (.cells #[.bool false] 4)
    have hz := alloc3_size w (.cells #[.string s] 9) (.cells #[.string ⟨#[]⟩] 9) (.cells #[.bool false] 4)
    have hB := below3 w (.cells #[.string s] 9) (.cells #[.string ⟨#[]⟩] 9) (.cells #[.bool false] 4)
    generalize (((w.alloc (.cells #[.string s] 9)).alloc (.cells #[.string ⟨#[]⟩] 9)).alloc (.cells #[.bool false] 4)) = wa at *
    have c1 : wa.cell? ⟨w.heap.size + 1, 0, none⟩ = some (.string ⟨#[]⟩) := cell_one a1
    refine (pound_do s w.heap.size (w.heap.size + 1) wa hs hs2 HM.out (cell_one a0) _ c1 (frozen_one a1)).mono ?_
    rintro e W ⟨rfl, W0, hb, rfl⟩
    refine ⟨rfl, ?_, (hB.trans (hb.mono (by omega))).setCell (Nat.le_succ _) _, ?_⟩
    · rw [Below.heap_setCell _ _ _ _ (by show w.heap.size + 2 ≠ w.heap.size + 1; omega), hb.block _ (by omega)]
      exact a2
    · exact World.cell?_setCell_same _ _ _ ((hb.cell (p := ⟨w.heap.size + 1, 0, none⟩) (by show w.heap.size + 1 < wa.heap.size; omega)).trans c1)
  · rw [alloc2_size]
    rintro e w' ⟨rfl, W, ⟨hb, hc⟩, h2, rfl⟩
    have hB2 := Lib.hid (hb.setCell (p := ⟨w.heap.size + 2, 0, none⟩) (Nat.le_add_right _ _) (.bool false))
    have hc2 : (W.setCell ⟨w.heap.size + 2, 0, none⟩ (.bool false)).cell? ⟨w.heap.size + 1, 0, none⟩ = some (.string (poundOf s)) :=
      (World.cell?_of_block (Below.heap_setCell _ _ _ _ (by show w.heap.size + 1 ≠ w.heap.size + 2; omega))).trans hc
    clear hb hc h2
    go_wp2
    go_ret
    exact ⟨rfl, hB2.out⟩
end Go.Proofs.Yticofikbijldiaa.Hand
