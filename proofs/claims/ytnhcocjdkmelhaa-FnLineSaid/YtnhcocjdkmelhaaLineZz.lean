/- table.ZzLine and impl.Line by hand. -/
import Derived.Test.YtnhcocjdkmelhaaLineHeader
import Derived.Test.YtnhcocjdkmelhaaGuard
import Derived.Test.YtnhcocjdkmelhaaBytes
namespace Go.Proofs.Ytnhcocjdkmelhaa.Hand
open Go.RowKit Go.Proofs.YtnhcocjdkmelhaaW.PrintWords Go.Proofs.YtnhcocjdkmelhaaW.PrintLast Go.Proofs.YtnhcocjdkmelhaaW.PrintMore
set_option linter.unusedVariables false
set_option linter.unusedSimpArgs false
set_option maxRecDepth 100000 in
set_option maxHeartbeats 6400000 in
theorem zz_any (A1 A2 : Option Addr) (c1 c2 : Nat) (l : List ByteArray) (ns : List Int) (hl : l.length = ns.length) (hn : ∀ n ∈ ns, 0 ≤ n ∧ n ≤ 1000) (hlen : ns.length ≤ 2147483647) (w : World) (hC1 : Kd.C Kd.string w A1 ns.length l) (hC2 : Kd.C (Kd.int .i64) w A2 ns.length ns) :
    Calls Try.prog 24 #[.string ⟨#[97, 108, 105, 103, 110, 101, 100]⟩, .slice A1 ns.length c1, .slice A2 ns.length c2] w fun e w' => ∃ v, e = .returned v ∧ w'.ownsRow w.heap.size 5 1 v (lineTo l ns ns.length).length (Lib.byteCells (lineTo l ns ns.length)) ∧ Below w.heap.size w w' := by
  have hh := header_any (w.heap.size + 1) w.heap.size A1 A2 c1 c2 l ns hl hn hlen w ((w.alloc (.cells #[.slice none 0 0, .int .i64 0, .int .i8 0] 60)).alloc (.cells #[.nilIface, .string ⟨#[]⟩, .string ⟨#[]⟩, .bool false, .bool false, .bool false, .string ⟨#[97, 108, 105, 103, 110, 101, 100]⟩] 67)) hC1 hC2 (by
    have h0 := Lib.fresh_isBuffer 60 5 w
    refine ⟨?_, ((Below.refl _ w).alloc (Nat.le_refl _) _).alloc (by simp) _, by simp, by omega, #[.nilIface, .string ⟨#[]⟩, .string ⟨#[]⟩, .bool false, .bool false, .bool false, .string ⟨#[97, 108, 105, 103, 110, 101, 100]⟩], 67, ?_, by decide, rfl⟩
    · obtain ⟨hB, v, lr, hk, ho, hne⟩ := h0
      refine ⟨hB, v, lr, (Below.heap_alloc _ _ _ (by simp)).trans hk, ?_, hne⟩
      exact pw_own_below ho ((Below.refl _ _).alloc (Nat.le_refl _) _)
    · rw [show w.heap.size + 1 = (w.alloc (.cells #[.slice none 0 0, .int .i64 0, .int .i8 0] 60)).heap.size by simp]
      exact heap_alloc_new _ _)
  have HH := Lib.hid hh
  clear hh hC1 hC2 hn hl hlen
  go_enter Try.func24, Try.ntmps24
  go_wp2_with (go_at_call 30; refine HH.out.mono ?_; rintro e w1 ⟨rfl, hb⟩)
  have HB := Lib.hid hb
  clear hb
  go_at_call 31
  refine (Buffer_Bytes w.heap.size w.heap.size _ w1 HB.out.buf).mono ?_
  rintro e w2 ⟨v, rfl, ho, m, rfl⟩
  have HO := Lib.hid ho
  clear ho
  go_wp2
  go_ret
  exact ⟨v, rfl, by have := HO.out; rwa [show (Lib.byteCells (lineTo l ns ns.length)).length = (lineTo l ns ns.length).length from by simp [Lib.byteCells]] at this, pw_below_drewN HB.out.below m⟩

def bv (l : List Int) : List Value := l.map (Value.int .u8)
theorem cells_C {w : World} {A : Addr} {l : List Int} (hl : l.length ≤ 9223372036854775807) (h : ∀ j v, (bv l)[j]? = some v → w.cell? (A.add j) = some v) : (Kd.int .u8).C w (some A) l.length l := by
  refine C_of_ints ⟨rfl, hl, fun _ => ⟨A, rfl, fun j hj => ?_⟩⟩
  refine h j _ ?_
  rw [bv, List.getElem?_map, List.getElem?_eq_getElem hj, List.getD_eq_getElem?_getD, List.getElem?_eq_getElem hj]
  rfl
theorem own_C {w : World} {B : Nat} {v : Value} {l : List Int} (h : w.ownsRow B 5 1 v l.length (bv l)) (hl : l.length ≤ 9223372036854775807) : ∃ A c, v = .slice A l.length c ∧ (Kd.int .u8).C w A l.length l := by
  rcases h.2 with ⟨rfl, h0⟩ | ⟨g, cap, cur, rfl, hBg, hg, hnc, hcm, hcs, htk⟩
  · refine ⟨none, 0, by rw [h0], C_of_ints ⟨rfl, hl, fun hn => by omega⟩⟩
  · refine ⟨some ⟨g, 0, none⟩, cap, rfl, cells_C hl ?_⟩
    rw [Nat.mul_one] at htk
    rw [← htk]
    exact Lib.cells_of_row hg l.length
def numsOf (l : List UInt8) : List Int := l.map (fun x => (x.toNat : Int))
theorem byteCells_nums (l : List UInt8) : Lib.byteCells l = bv (numsOf l) := by simp [Lib.byteCells, bv, numsOf]
theorem cell1 {w : World} {k : Nat} {v : Value} {t : TypeId} (h : w.heap[k]? = some (.cells #[v] t (0, 0))) : w.cell? ⟨k, 0, none⟩ = some v := by simp [World.cell?, h]
theorem frozen1 {w : World} {k : Nat} {v : Value} {t : TypeId} (h : w.heap[k]? = some (.cells #[v] t (0, 0))) : w.frozen? ⟨k, 0, none⟩ = false := by simp [World.frozen?, h]
theorem heap5 (w : World) (A B C D E : Obj) : let W := (((((w.alloc A).alloc B).alloc C).alloc D).alloc E); W.heap[w.heap.size]? = some A ∧ W.heap[w.heap.size + 1]? = some B ∧ W.heap[w.heap.size + 2]? = some C ∧ W.heap[w.heap.size + 3]? = some D ∧ W.heap[w.heap.size + 4]? = some E ∧ W.heap.size = w.heap.size + 5 ∧ Below w.heap.size w W := by
  intro W
  have e1 : (w.alloc A).heap.size = w.heap.size + 1 := by simp
  have e2 : ((w.alloc A).alloc B).heap.size = w.heap.size + 2 := by simp
  have e3 : (((w.alloc A).alloc B).alloc C).heap.size = w.heap.size + 3 := by simp
  have e4 : ((((w.alloc A).alloc B).alloc C).alloc D).heap.size = w.heap.size + 4 := by simp
  refine ⟨?_, ?_, ?_, ?_, ?_, by simp [W], ?_⟩
  · rw [Below.heap_alloc _ _ _ (by omega), Below.heap_alloc _ _ _ (by omega), Below.heap_alloc _ _ _ (by omega), Below.heap_alloc _ _ _ (by omega), heap_alloc_new]
  · rw [Below.heap_alloc _ _ _ (by omega), Below.heap_alloc _ _ _ (by omega), Below.heap_alloc _ _ _ (by omega), ← e1, heap_alloc_new]
  · rw [Below.heap_alloc _ _ _ (by omega), Below.heap_alloc _ _ _ (by omega), ← e2, heap_alloc_new]
  · rw [Below.heap_alloc _ _ _ (by omega), ← e3, heap_alloc_new]
  · rw [← e4, heap_alloc_new]
  · exact (((((Below.refl _ _).alloc (Nat.le_refl _) _).alloc (by omega) _).alloc (by omega) _).alloc (by omega) _).alloc (by omega) _
theorem size4 (w : World) (A B C D : Obj) : ((((w.alloc A).alloc B).alloc C).alloc D).heap.size = w.heap.size + 4 := by simp
set_option maxRecDepth 100000 in
theorem padded_any (k : Int) (hk : k = 0 ∨ k = 1) (w : World) : Calls Try.prog 25 #[.int .i64 k] w fun e w' => e = .returned (.string ⟨#[97, 108, 105, 103, 110, 101, 100]⟩) ∧ w' = w := by
  rcases hk with rfl | rfl
  all_goals
    go_enter Try.func25, Try.ntmps25
    go_wp2
    go_ret
    exact ⟨rfl, rfl⟩
set_option maxHeartbeats 6400000 in
set_option maxRecDepth 100000 in
theorem line_do (b0 b1 b2 b3 : Nat) (k : Int) (hk : k = 0 ∨ k = 1) (A1 A2 : Option Addr) (c1 c2 : Nat) (l : List ByteArray) (ns : List Int) (hl : l.length = ns.length) (hn : ∀ n ∈ ns, 0 ≤ n ∧ n ≤ 1000) (hlen : ns.length ≤ 2147483647) (w : World) (hC1 : Kd.C Kd.string w A1 ns.length l) (hC2 : Kd.C (Kd.int .i64) w A2 ns.length ns)
    (h0 : w.cell? ⟨b0, 0, none⟩ = some (.int .i64 k)) (h1 : w.cell? ⟨b1, 0, none⟩ = some (.slice A1 ns.length c1)) (h2 : w.cell? ⟨b2, 0, none⟩ = some (.slice A2 ns.length c2)) (x : Value) (h3 : w.cell? ⟨b3, 0, none⟩ = some x) (hf3 : w.frozen? ⟨b3, 0, none⟩ = false) :
    Calls Try.prog 23 #[.pointer (some ⟨b0, 0, none⟩), .pointer (some ⟨b1, 0, none⟩), .pointer (some ⟨b2, 0, none⟩), .pointer (some ⟨b3, 0, none⟩)] w fun e W => e = .returned (.tuple #[]) ∧ ∃ W0, Below w.heap.size w W0 ∧ W = W0.setCell ⟨b3, 0, none⟩ (.string (strOfNums (numsOf (lineTo l ns ns.length)))) := by
  have hl3 : b3 < w.heap.size := World.block_lt_of_cell? w _ h3
  have hZ := Lib.hid (fun (W : World) (hb : Below w.heap.size w W) => zz_any A1 A2 c1 c2 l ns hl hn hlen W (Kd.C_below hC1 hb) (Kd.C_below hC2 hb))
  have hll := lineTo_len l ns hn ns.length (Nat.le_refl _)
  have hlz : (numsOf (lineTo l ns ns.length)).length ≤ 9223372036854775807 := by
    rw [numsOf, List.length_map]
    omega
  have HZ : Hid (∀ (W : World) (hb : Below w.heap.size w W), Calls Try.prog 24 #[.string ⟨#[97, 108, 105, 103, 110, 101, 100]⟩, .slice A1 ns.length c1, .slice A2 ns.length c2] W fun e w' => ∃ A c, e = .returned (.slice A (numsOf (lineTo l ns ns.length)).length c) ∧ (Kd.int .u8).C w' A (numsOf (lineTo l ns ns.length)).length (numsOf (lineTo l ns ns.length)) ∧ Below w.heap.size w w') := by
    refine Lib.hid fun W hb => (hZ.out W hb).mono ?_
    rintro e w' ⟨v, rfl, ho, hb2⟩
    rw [byteCells_nums, show (lineTo l ns ns.length).length = (numsOf (lineTo l ns ns.length)).length from by simp [numsOf]] at ho
    obtain ⟨A, c, rfl, hC⟩ := own_C ho hlz
    exact ⟨A, c, rfl, hC, hb.trans (hb2.mono hb.size)⟩
  clear hZ hll hlz hl hn hlen hC1 hC2
  generalize numsOf (lineTo l ns ns.length) = r at *
  have HK := Lib.hid hk
  clear hk
  go_enter Try.func23, Try.ntmps23
  go_region_law (first
    | (go_simp; go_at_call 25; refine (padded_any k HK.out _).mono ?_; rintro e w1 ⟨rfl, rfl⟩)
    | (go_simp; go_at_call 24; refine (HZ.out _ (Below.refl _ _).drew).mono ?_; rintro e w1 ⟨A, c, rfl, hC, hb2⟩; have hback := Kd.C_string (P := Try.prog) (c := c) Try.underlying46 Try.underlying5 Try.underlying9 hC; have k2 : w1.cell? ⟨b3, 0, none⟩ = some x := (hb2.cell (p := ⟨b3, 0, none⟩) hl3).trans h3; have f2 : w1.frozen? ⟨b3, 0, none⟩ = false := (hb2.frozen (p := ⟨b3, 0, none⟩) hl3).trans hf3; have HB2 := Lib.hid hb2; clear hC hb2))
  all_goals
    go_end0
    exact ⟨rfl, w1, HB2.out, rfl⟩
set_option maxHeartbeats 6400000 in
set_option maxRecDepth 100000 in
theorem line_any (k : Int) (hk : k = 0 ∨ k = 1) (A1 A2 : Option Addr) (c1 c2 : Nat) (l : List ByteArray) (ns : List Int) (hl : l.length = ns.length) (hn : ∀ n ∈ ns, 0 ≤ n ∧ n ≤ 1000) (hlen : ns.length ≤ 2147483647) (w : World) (hC1 : Kd.C Kd.string w A1 ns.length l) (hC2 : Kd.C (Kd.int .i64) w A2 ns.length ns) :
    Calls Try.prog 13 #[.int .i64 k, .slice A1 ns.length c1, .slice A2 ns.length c2] w fun e w' => e = .returned (.string (strOfNums (numsOf (lineTo l ns ns.length)))) ∧ Below w.heap.size w w' := by
  have hmf : ∀ (fn : Fn) (first cap : Array Value) (w : World), (Instr.makeFunc fn first cap).run Try.prog w = .ok (.func fn first cap) w := fun _ _ _ _ => rfl
  have HD := Lib.hid (fun (b0 b1 b2 b3 : Nat) (W : World) (hb : Below w.heap.size w W) h0 h1 h2 x h3 h4 => line_do b0 b1 b2 b3 k hk A1 A2 c1 c2 l ns hl hn hlen W (Kd.C_below hC1 hb) (Kd.C_below hC2 hb) h0 h1 h2 x h3 h4)
  clear hC1 hC2 hk hl hn hlen
  generalize strOfNums (numsOf (lineTo l ns ns.length)) = r at *
  go_enter Try.func13, Try.ntmps13
  go_wp2_with (go_at_call 17; refine (guarded_any 23 _ _ (fun W => Below w.heap.size w W ∧ W.cell? ⟨w.heap.size + 3, 0, none⟩ = some (.string r)) (fun W => enters Try.func23 (by kernel_rfl) rfl _ W) ?_).mono ?_)
  · rw [size4]
    obtain ⟨a0, a1, a2, a3, a4, hz, hB⟩ := heap5 w (.cells #[.int .i64 k] 3) (.cells #[.slice A1 ns.length c1] 28) (.cells #[.slice A2 ns.length c2] 30) (.cells #[.string ⟨#[]⟩] 9) (.cells #[.bool false] 4)
    generalize (((((w.alloc (.cells #[.int .i64 k] 3)).alloc (.cells #[.slice A1 ns.length c1] 28)).alloc (.cells #[.slice A2 ns.length c2] 30)).alloc (.cells #[.string ⟨#[]⟩] 9)).alloc (.cells #[.bool false] 4)) = wa at *
    have c3 : wa.cell? ⟨w.heap.size + 3, 0, none⟩ = some (.string ⟨#[]⟩) := cell1 a3
    refine (HD.out w.heap.size (w.heap.size + 1) (w.heap.size + 2) (w.heap.size + 3) wa hB (cell1 a0) (cell1 a1) (cell1 a2) _ c3 (frozen1 a3)).mono ?_
    rintro e W ⟨rfl, W0, hb, rfl⟩
    refine ⟨rfl, ?_, (hB.trans (hb.mono (by omega))).setCell (Nat.le_add_right _ _) _, ?_⟩
    · rw [Below.heap_setCell _ _ _ _ (by show w.heap.size + 4 ≠ w.heap.size + 3; omega), hb.block _ (by omega)]
      exact a4
    · exact World.cell?_setCell_same _ _ _ ((hb.cell (p := ⟨w.heap.size + 3, 0, none⟩) (by show w.heap.size + 3 < wa.heap.size; omega)).trans c3)
  · rw [size4]
    rintro e w' ⟨rfl, W, ⟨hb, hc⟩, h2, rfl⟩
    have hB2 := Lib.hid (hb.setCell (p := ⟨w.heap.size + 4, 0, none⟩) (Nat.le_add_right _ _) (.bool false))
    have hc2 : (W.setCell ⟨w.heap.size + 4, 0, none⟩ (.bool false)).cell? ⟨w.heap.size + 3, 0, none⟩ = some (.string r) :=
      (World.cell?_of_block (Below.heap_setCell _ _ _ _ (by show w.heap.size + 3 ≠ w.heap.size + 4; omega))).trans hc
    clear hb hc h2
    go_wp2
    go_ret
    exact ⟨rfl, hB2.out⟩
end Go.Proofs.Ytnhcocjdkmelhaa.Hand
