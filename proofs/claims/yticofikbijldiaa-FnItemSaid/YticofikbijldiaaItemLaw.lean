/- commonmark.ZzItem, impl.Item and laws.FnItem by hand. -/
import Derived.Test.YticofikbijldiaaItem
import Derived.Test.YticofikbijldiaaGuard
namespace Go.Proofs.Yticofikbijldiaa.Hand
open Go.RowKit Go.Proofs.YticofikbijldiaaW.PrintWords Go.Proofs.YticofikbijldiaaW.PrintLast Go.Proofs.YticofikbijldiaaW.PrintMore Go.Proofs.Yticofikbijldiaa.GIt
set_option linter.unusedVariables false
set_option linter.unusedSimpArgs false

/-- The item's bytes. -/
def itemL (xs : List Int) (n : Nat) : List Int := pre (List.replicate n 32) (linesL [] xs) (linesL [] xs).length
theorem own_C {w : World} {B : Nat} {v : Value} {l : List Int} (h : w.ownsRow B 5 1 v l.length (bv l)) (hl : l.length ≤ 9223372036854775807) : ∃ A c, v = .slice A l.length c ∧ (Kd.int .u8).C w A l.length l := by
  rcases h.2 with ⟨rfl, h0⟩ | ⟨g, cap, cur, rfl, hBg, hg, hnc, hcm, hcs, htk⟩
  · refine ⟨none, 0, by rw [h0], C_of_ints ⟨rfl, hl, fun hn => by omega⟩⟩
  · refine ⟨some ⟨g, 0, none⟩, cap, rfl, cells_C hl ?_⟩
    rw [Nat.mul_one] at htk
    rw [← htk]
    exact Lib.cells_of_row hg l.length
set_option maxHeartbeats 800000 in
set_option maxRecDepth 100000 in
theorem zzItem_any (g c n : Nat) (xs : List Int) (w : World) (hC : (Kd.int .u8).C w (some ⟨g, 0, none⟩) xs.length xs) (hc : xs.length ≤ c) (hl : xs.length ≤ 65536) (hb : ∀ x ∈ xs, 0 ≤ x ∧ x < 256) (hm : NoMark xs) (hn : n ≤ 256) :
    Calls Try.prog 67 #[.slice (some ⟨g, 0, none⟩) xs.length c, .int .i64 (n : Int)] w fun e w' => ∃ A c2, e = .returned (.slice A (itemL xs n).length c2) ∧ (Kd.int .u8).C w' A (itemL xs n).length (itemL xs n) ∧ Below w.heap.size w w' := by
  have hbk : (w.alloc (.cells #[.slice none 0 0, .int .i64 0, .int .i8 0] 68 (0, 0))).heap[w.heap.size]? = some (.cells #[.slice none 0 0, .int .i64 0, .int .i8 0] 68 (0, 0)) := heap_alloc_new _ _
  have HR := Lib.hid (render_any w.heap.size g c n 0 xs (w.alloc (.cells #[.slice none 0 0, .int .i64 0, .int .i8 0] 68 (0, 0))) (Kd.C_below hC ((Below.refl _ _).alloc (Nat.le_refl _) _)) hc hl hb hm hn hbk)
  have hil : (itemL xs n).length ≤ 9223372036854775807 := by
    have h1 := pre_len (sep := List.replicate n 32) (by rw [List.length_replicate]; exact hn) (fun l hl2 => (lines_data hl hb hm l hl2).1) (linesL [] xs).length
    have h2 := linesL_len xs []
    unfold itemL
    omega
  clear hC hbk
  rw [show pre (List.replicate n 32) (linesL [] xs) (linesL [] xs).length = itemL xs n from rfl] at HR
  generalize itemL xs n = r at *
  go_enter Try.func67, Try.ntmps67
  go_wp2_with (first
    | (go_at_call 80; refine HR.out.mono ?_; rintro e w1 ⟨rfl, hI, hb1⟩; have HI := Lib.hid hI; have HB1 := Lib.hid hb1; clear hI hb1)
    | (go_at_call 81; refine (Buffer_Bytes w.heap.size w.heap.size (bv r) _ HI.out).mono ?_; rintro e w2 ⟨v, rfl, hown, nd, hw2⟩; obtain ⟨A, c2, rfl, hC2⟩ := own_C (by rw [bv_length] at hown; exact hown) hil; have HC2 := Lib.hid hC2; have HW2 := Lib.hid hw2; rw [bv_length] at hown; clear hC2 hw2 hown))
  go_ret
  refine ⟨A, c2, rfl, HC2.out, ?_⟩
  rw [HW2.out]
  refine pw_below_drewN ?_ nd
  exact ((Below.refl w.heap.size w).alloc (Nat.le_refl _) _).trans HB1.out
set_option maxHeartbeats 800000 in
set_option maxRecDepth 100000 in
theorem item_do (s : ByteArray) (n b0 b1 b2 : Nat) (w : World) (hs : s.size ≤ 65536) (hn : n ≤ 256) (hm : NoMark (bys s))
    (h0 : w.cell? ⟨b0, 0, none⟩ = some (.string s)) (h1 : w.cell? ⟨b1, 0, none⟩ = some (.int .i64 (n : Int))) (x : Value) (h2 : w.cell? ⟨b2, 0, none⟩ = some x) (hf2 : w.frozen? ⟨b2, 0, none⟩ = false) :
    Calls Try.prog 66 #[.pointer (some ⟨b0, 0, none⟩), .pointer (some ⟨b1, 0, none⟩), .pointer (some ⟨b2, 0, none⟩)] w fun e W => e = .returned (.tuple #[]) ∧ ∃ W0, Below w.heap.size w W0 ∧ W = W0.setCell ⟨b2, 0, none⟩ (.string (strOfNums (itemL (bys s) n))) := by
  have hconv := fun W => run_bytesW (P := Try.prog) 9 45 5 s Try.underlying9 Try.underlying45 Try.underlying5 W
  have hl1 : b1 < w.heap.size := World.block_lt_of_cell? w _ h1
  have hl2 : b2 < w.heap.size := World.block_lt_of_cell? w _ h2
  have hB := bytesW_below (Below.refl w.heap.size w) (Nat.le_refl _) s 5
  have k1 : (bytesW w s 5).cell? ⟨b1, 0, none⟩ = some (.int .i64 (n : Int)) := (hB.cell (p := ⟨b1, 0, none⟩) hl1).trans h1
  have hz := zzItem_any w.heap.size (bcap w s 5) n (bys s) (bytesW w s 5) (bytesW_C w s 5 (by omega)) (by rw [bys_length]; exact bcap_ge _ _ _) (by rw [bys_length]; exact hs) (bys_range s) hm hn
  rw [bys_length, bytesW_size] at hz
  have HZ := Lib.hid hz
  have HB := Lib.hid hB
  clear hz hB
  generalize itemL (bys s) n = r at *
  go_enter Try.func66, Try.ntmps66
  go_wp2_with (go_at_call 67; refine HZ.out.mono ?_; rintro e w1 ⟨A, c2, rfl, hC, hb1⟩; have hback := Kd.C_string (P := Try.prog) (c := c2) Try.underlying45 Try.underlying5 Try.underlying9 hC; have hb2 : Below w.heap.size w w1 := (HB.out.trans (hb1.mono (Nat.le_succ _))); have k2 : w1.cell? ⟨b2, 0, none⟩ = some x := (hb2.cell (p := ⟨b2, 0, none⟩) hl2).trans h2; have f2 : w1.frozen? ⟨b2, 0, none⟩ = false := (hb2.frozen (p := ⟨b2, 0, none⟩) hl2).trans hf2; have HB2 := Lib.hid hb2; clear hC hb1 hb2)
  go_end0
  exact ⟨rfl, w1, HB2.out, rfl⟩
theorem ne_of_beq_false {a b : Int} (h : (a == b) = false) : a ≠ b := by simpa using h
theorem heap4 (w : World) (A B C D : Obj) : let W := ((((w.alloc A).alloc B).alloc C).alloc D); W.heap[w.heap.size]? = some A ∧ W.heap[w.heap.size + 1]? = some B ∧ W.heap[w.heap.size + 2]? = some C ∧ W.heap[w.heap.size + 3]? = some D ∧ W.heap.size = w.heap.size + 4 ∧ Below w.heap.size w W := by
  intro W
  have e1 : (w.alloc A).heap.size = w.heap.size + 1 := by simp
  have e2 : ((w.alloc A).alloc B).heap.size = w.heap.size + 2 := by simp
  have e3 : (((w.alloc A).alloc B).alloc C).heap.size = w.heap.size + 3 := by simp
  refine ⟨?_, ?_, ?_, ?_, by simp [W], ?_⟩
  · rw [Below.heap_alloc _ _ _ (by omega), Below.heap_alloc _ _ _ (by omega), Below.heap_alloc _ _ _ (by omega), heap_alloc_new]
  · rw [Below.heap_alloc _ _ _ (by omega), Below.heap_alloc _ _ _ (by omega), ← e1, heap_alloc_new]
  · rw [Below.heap_alloc _ _ _ (by omega), ← e2, heap_alloc_new]
  · rw [← e3, heap_alloc_new]
  · exact ((((Below.refl _ _).alloc (Nat.le_refl _) _).alloc (by omega) _).alloc (by omega) _).alloc (by omega) _
theorem cell1 {w : World} {k : Nat} {v : Value} {t : TypeId} (h : w.heap[k]? = some (.cells #[v] t (0, 0))) : w.cell? ⟨k, 0, none⟩ = some v := by simp [World.cell?, h]
theorem frozen1 {w : World} {k : Nat} {v : Value} {t : TypeId} (h : w.heap[k]? = some (.cells #[v] t (0, 0))) : w.frozen? ⟨k, 0, none⟩ = false := by simp [World.frozen?, h]
theorem size3 (w : World) (A B C : Obj) : (((w.alloc A).alloc B).alloc C).heap.size = w.heap.size + 3 := by simp
set_option maxHeartbeats 800000 in
set_option maxRecDepth 100000 in
theorem item_any (s : ByteArray) (n : Nat) (w : World) (hs : s.size ≤ 65536) (hn : n ≤ 256) (hm : NoMark (bys s)) :
    Calls Try.prog 39 #[.string s, .int .i64 (n : Int)] w fun e w' => e = .returned (.string (strOfNums (itemL (bys s) n))) ∧ Below w.heap.size w w' := by
  have hmf : ∀ (fn : Fn) (first cap : Array Value) (w : World), (Instr.makeFunc fn first cap).run Try.prog w = .ok (.func fn first cap) w := fun _ _ _ _ => rfl
  have HD := Lib.hid (fun (b0 b1 b2 : Nat) (w : World) h0 h1 x h2 h3 => item_do s n b0 b1 b2 w hs hn hm h0 h1 x h2 h3)
  generalize strOfNums (itemL (bys s) n) = r at *
  go_enter Try.func39, Try.ntmps39
  go_wp2_with (go_at_call 48; refine (guarded_any 66 _ _ (fun W => Below w.heap.size w W ∧ W.cell? ⟨w.heap.size + 2, 0, none⟩ = some (.string r)) (fun W => enters Try.func66 (by kernel_rfl) rfl _ W) ?_).mono ?_)
  · rw [size3]
    obtain ⟨a0, a1, a2, a3, hz, hB⟩ := heap4 w (.cells #[.string s] 9) (.cells #[.int .i64 (n : Int)] 3) (.cells #[.string ⟨#[]⟩] 9) (.cells #[.bool false] 4)
    generalize ((((w.alloc (.cells #[.string s] 9)).alloc (.cells #[.int .i64 (n : Int)] 3)).alloc (.cells #[.string ⟨#[]⟩] 9)).alloc (.cells #[.bool false] 4)) = wa at *
    have c2 : wa.cell? ⟨w.heap.size + 2, 0, none⟩ = some (.string ⟨#[]⟩) := cell1 a2
    refine (HD.out w.heap.size (w.heap.size + 1) (w.heap.size + 2) wa (cell1 a0) (cell1 a1) _ c2 (frozen1 a2)).mono ?_
    rintro e W ⟨rfl, W0, hb, rfl⟩
    refine ⟨rfl, ?_, (hB.trans (hb.mono (by omega))).setCell (Nat.le_add_right _ _) _, ?_⟩
    · rw [Below.heap_setCell _ _ _ _ (by show w.heap.size + 3 ≠ w.heap.size + 2; omega), hb.block _ (by omega)]
      exact a3
    · exact World.cell?_setCell_same _ _ _ ((hb.cell (p := ⟨w.heap.size + 2, 0, none⟩) (by show w.heap.size + 2 < wa.heap.size; omega)).trans c2)
  · rw [size3]
    rintro e w' ⟨rfl, W, ⟨hb, hc⟩, h2, rfl⟩
    have hB2 := Lib.hid (hb.setCell (p := ⟨w.heap.size + 3, 0, none⟩) (Nat.le_add_right _ _) (.bool false))
    have hc2 : (W.setCell ⟨w.heap.size + 3, 0, none⟩ (.bool false)).cell? ⟨w.heap.size + 2, 0, none⟩ = some (.string r) :=
      (World.cell?_of_block (Below.heap_setCell _ _ _ _ (by show w.heap.size + 2 ≠ w.heap.size + 3; omega))).trans hc
    clear hb hc h2
    go_wp2
    go_ret
    exact ⟨rfl, hB2.out⟩
set_option maxHeartbeats 800000 in
set_option maxRecDepth 100000 in
theorem law_item (s : ByteArray) (m : Int) (w : World) (hs : s.size ≤ 140737488351232) (hm : -9223372036854775808 ≤ m ∧ m ≤ 9223372036854775807) :
    Calls Try.prog 13 #[.string s, .int .i64 m] w fun e w' => e = .returned (.bool true) ∧ Below w.heap.size w w' := by
  by_cases h1 : s.size ≤ 2147483647
  · have c1 : decide ((s.size : Int) > 2147483647) = false := decide_eq_false (by omega)
    go_enter Try.func13, Try.ntmps13
    go_wp2
    go_loopw [6] (fun c w' => ∃ (pos b : Nat), w' = w.iter s pos ∧ ((∀ r ∈ rns s b pos, r ≠ 61442) → ∀ r ∈ runes s, r ≠ 61442) ∧ s.size ≤ pos + b ∧ pos ≤ s.size + 4) (fun _ w' => s.size - w'.iterPos w.heap.size)
    case atStart => exact ⟨0, s.size, rfl, fun h => h, by omega, by omega⟩
    case round =>
      obtain ⟨pos, b, rfl, hc, hb, hpos⟩ := hrel
      have HC := Lib.hid hc
      clear hc
      by_cases hp : pos < s.size
      · have hnx : ∀ ty, (Instr.next (.pointer (some ⟨w.heap.size, 0, none⟩)) true ty).run Try.prog (w.iter s pos) = _ := fun ty => run_next_any w s pos ty hp
        obtain ⟨b', hbe, hb2, hr⟩ := rns_more s b pos hp hb
        have hw := width_pos s pos hp
        have hw4 := width_le s pos
        have HR := Lib.hid hr
        have HE := Lib.hid hbe
        clear hr hbe
        go_wp2
        · go_ret
          exact ⟨rfl, (Below.refl _ _).alloc (Nat.le_refl _) _⟩
        · have hne := ne_of_beq_false (by assumption : ((((Utf8.decode s pos).1 : Nat) : Int) == 61442) = false)
          have HNE := Lib.hid hne
          clear hne
          refine ⟨⟨_, b', rfl, fun h => HC.out (fun r hr => ?_), by omega, by omega⟩, ?_⟩
          · rw [HR.out] at hr
            rcases List.mem_cons.1 hr with rfl | hr
            · exact HNE.out
            · exact h r hr
          · simp
            omega
      · have hnx : ∀ ty, (Instr.next (.pointer (some ⟨w.heap.size, 0, none⟩)) true ty).run Try.prog (w.iter s pos) = _ := fun ty => run_next_end w s pos ty hp
        have hrunes : ∀ r ∈ runes s, r ≠ 61442 := HC.out (fun r hr => by rw [rns_end s b pos hp] at hr; simp at hr)
        have hnm := noMark_of_runes s hrunes
        have HNM := Lib.hid hnm
        clear hnm hrunes
        by_cases h2 : s.size ≤ 65536
        · have c2 : decide ((s.size : Int) > 65536) = false := decide_eq_false (by omega)
          by_cases h3 : m < 0
          · have c3 : decide (m < 0) = true := decide_eq_true h3
            go_wp2
            go_ret
            exact ⟨rfl, (Below.refl _ _).alloc (Nat.le_refl _) _⟩
          · have c3 : decide (m < 0) = false := decide_eq_false h3
            by_cases h4 : m ≤ 256
            · have c4 : decide (m > 256) = false := decide_eq_false (by omega)
              obtain ⟨n, rfl⟩ : ∃ n : Nat, m = (n : Int) := ⟨m.toNat, by omega⟩
              have hn : n ≤ 256 := by omega
              obtain ⟨k, r, hf, hbr⟩ := item_f s n h2 hn
              have hcall := fun W => spec_Item.calls k s (n : Int) r W hf
              have hrr : strOfNums (itemL (bys s) n) = r := by
                rw [itemL, ← hbr, str_bys]
              have HCALL := Lib.hid hcall
              have HRR := Lib.hid hrr
              clear hcall hrr hf hbr
              go_wp2_with (first
                | (go_at_call 39; refine (item_any s n _ h2 hn HNM.out).mono ?_; rintro e w1 ⟨rfl, hb1⟩; have HB1 := Lib.hid hb1; clear hb1; rw [HRR.out])
                | (go_at_call 40; refine (HCALL.out _).mono ?_; rintro e w2 ⟨rfl, hb2⟩; have HB2 := Lib.hid hb2; clear hb2))
              go_ret
              have hb0 : Below w.heap.size w (w.iter s pos) := (Below.refl _ _).alloc (Nat.le_refl _) _
              have hb1 := hb0.trans (HB1.out.mono hb0.size)
              exact ⟨rfl, hb1.trans (HB2.out.mono hb1.size)⟩
            · have c4 : decide (m > 256) = true := decide_eq_true (by omega)
              go_wp2
              go_ret
              exact ⟨rfl, (Below.refl _ _).alloc (Nat.le_refl _) _⟩
        · have c2 : decide ((s.size : Int) > 65536) = true := decide_eq_true (by omega)
          go_wp2
          go_ret
          exact ⟨rfl, (Below.refl _ _).alloc (Nat.le_refl _) _⟩
  · have c1 : decide ((s.size : Int) > 2147483647) = true := decide_eq_true (by omega)
    go_enter Try.func13, Try.ntmps13
    go_wp2
    go_ret
    exact ⟨rfl, Below.refl _ _⟩
end Go.Proofs.Yticofikbijldiaa.Hand
