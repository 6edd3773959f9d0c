import Derived.Test.YtlallihdiffheaaZBlanksPure
import Derived.Test.YtlallihdiffheaaZGuard
import Derived.WalkSpells
import Derived.OneCell
import Derived.Deep.RegionLaw
import Derived.Lib.AppendStr
import Derived.Laws.MakeOwn
import Derived.Test.YtlallihdiffheaaZGIn1x
import Derived.Lib.SlBytesConst
section
/- Contracts by hand: collapse.replaceAnyWhitespaceWithSpace and its inner function: runs of white space become one blank. -/
namespace Go.Proofs.Ytlallihdiffheaa.Hand
open Go.RowKit Go.Proofs.YtlallihdiffheaaW.PrintWords Go.Proofs.YtlallihdiffheaaW.PrintLast Go.Proofs.YtlallihdiffheaaW.PrintMore
set_option linter.unusedVariables false

/-- append(own, s...), s a string, as a step of a region that draws. -/
theorem step_append_str {P : Program} {ops : Array Oper} {o : Oper} {a : Act} {w : World} {K : Act → World → Prop} {Q : Exit → Act → World → Prop} {E : Prop} (hg : o.guard = none) (s x : Operand) (t u e : TypeId)
    (ho : o.op = .call { callee := .builtin .append, args := #[s, x], argTypes := #[t, u] })
    (ht : P.underlying t = some (.slice e)) (hu : P.underlying u = some .string) (hinfo : (P.info? e).map (fun i => (i.zero, i.size, i.bytes)) = some (some (.int .u8 0), 1, 1))
    (base : Nat) (v : Value) (xs : List Int) (y : ByteArray) (hs : a.eval s = v) (hx : a.eval x = .string y)
    (HO : w.ownsRow base e 1 v xs.length (nums .u8 xs)) (hbase : base ≤ w.heap.size) (hl : xs.length + y.size ≤ 140737488355328)
    (hK : ∀ v1 w1, w1.ownsRow base e 1 v1 (xs ++ bys y).length (nums .u8 (xs ++ bys y)) → w.grownBy w1 v.ownBlock → (v1 = .slice none 0 0 ↔ v = .slice none 0 0 ∧ y.size = 0) → K (a.put o.dst v1) w1) :
    if Region.wanted o (yielded ops a.tmps) = true then Oper.wp P o a w K Q else E := by
  obtain ⟨i0, hi, hzz⟩ := Option.map_eq_some_iff.1 hinfo
  simp only [Prod.mk.injEq] at hzz
  obtain ⟨hz0, hz1, hz2⟩ := hzz
  have hw : Region.wanted o (yielded ops a.tmps) = true := by simp [Region.wanted, hg]
  rw [if_pos hw]
  obtain ⟨v1, w1, hrun, hown, hgr, hnil⟩ := Lib.run_append_own_string (P := P) w base t u o.type e i0 ht hu hi hz0 hz1 hz2 v xs.length (nums .u8 xs) HO y (by simp only [maxLen]; omega) hl hbase
  have hl2 : (xs ++ bys y).length = xs.length + y.size := by rw [List.length_append, bys_length]
  have hc : nums .u8 (xs ++ bys y) = nums .u8 xs ++ Lib.strCells y := by
    rw [nums_append]
    congr 1
    simp [nums, bys, Lib.strCells]
  have hk := hK v1 w1 (by rw [hl2, hc]; exact hown) hgr hnil
  unfold Oper.wp
  simp [execOp, ho, resolve, invoke, builtin, hs, hx, hrun, Result.andThen]
  exact hk
theorem infoByte : (Try.prog.info? 5).map (fun i => (i.zero, i.size, i.bytes)) = some (some (.int .u8 0), 1, 1) := by kernel_rfl

theorem mk_some (w : World) (b0 b1 : Nat) (ad : Addr) (n c : Nat) (h1 : w.cell? ⟨b1, 0, none⟩ = some (.slice (some ad) n c)) :
    Calls Try.prog 167 #[.pointer (some ⟨b1, 0, none⟩), .pointer (some ⟨b0, 0, none⟩)] w fun e w' => e = .returned (.tuple #[]) ∧ w = w' := by
  have hq := fun W => Lib.run_eql_slice_nil (P := Try.prog) W 103 5 (some ad) n c 0 0 Try.underlying103
  go_enter Try.func167, Try.ntmps167
  go_wp2
  go_end0
  exact ⟨rfl, rfl⟩
/-- The world in which an empty row with room for n bytes lies in a variable. -/
def mkW (w : World) (b1 n : Nat) : World := (w.alloc (.cells (madeCells #[.int .u8 0] n) 5)).setCell ⟨b1, 0, none⟩ (.slice (some ⟨w.heap.size, 0, none⟩) 0 n)
theorem mk_nil (w : World) (b0 b1 : Nat) (s : ByteArray) (hs : s.size ≤ 2147483647) (h0 : w.cell? ⟨b0, 0, none⟩ = some (.string s)) (h1 : w.cell? ⟨b1, 0, none⟩ = some (.slice none 0 0)) (f1 : w.frozen? ⟨b1, 0, none⟩ = false) :
    Calls Try.prog 167 #[.pointer (some ⟨b1, 0, none⟩), .pointer (some ⟨b0, 0, none⟩)] w fun e w' => e = .returned (.tuple #[]) ∧ mkW w b1 s.size = w' := by
  have hq := fun W => Lib.run_eql_slice_nil (P := Try.prog) W 103 5 none 0 0 0 0 Try.underlying103
  obtain ⟨i0, hi, hzz⟩ := Option.map_eq_some_iff.1 infoByte
  simp only [Prod.mk.injEq] at hzz
  obtain ⟨hz0, hz1, hz2⟩ := hzz
  have hmk := fun W => run_make (P := Try.prog) W 103 5 i0 (.int .u8 0) Try.underlying103 hi hz0 .i64 .i64 0 (s.size : Int) (by omega) (by omega) (by rw [hz2]; omega) (by omega)
  have hc1 : ∀ o, (w.alloc o).cell? ⟨b1, 0, none⟩ = some (.slice none 0 0) := fun o => (World.cell?_of_block (Below.heap_alloc _ _ _ (World.block_lt_of_cell? w _ h1))).trans h1
  have hf1 : ∀ o, (w.alloc o).frozen? ⟨b1, 0, none⟩ = false := fun o => (World.frozen?_of_block (Below.heap_alloc _ _ _ (World.block_lt_of_cell? w _ h1))).trans f1
  rw [hz1] at hmk
  simp only [Int.toNat_natCast, Nat.mul_one, Int.toNat_zero] at hmk
  clear hi hz0 hz1 hz2
  go_enter Try.func167, Try.ntmps167
  go_wp2
  go_end0
  exact ⟨rfl, rfl⟩

/-- What lies in memory: the text in a variable, a row of bytes in another one. -/
structure BW (w wr : World) (s : ByteArray) (v : Value) (xs : List Int) : Prop where
  b : Below w.heap.size w wr
  h0 : wr.heap[w.heap.size]? = some (.cells #[.string s] 9 (0, 0))
  h1 : wr.heap[w.heap.size + 1]? = some (.cells #[v] 103 (0, 0))
  own : wr.ownsRow (w.heap.size + 2) 5 1 v xs.length (nums .u8 xs)
theorem BW.lt {w wr : World} {s : ByteArray} {v : Value} {xs : List Int} (h : BW w wr s v xs) : w.heap.size + 2 ≤ wr.heap.size := lt_of_block h.h1
theorem BW.c0 {w wr : World} {s : ByteArray} {v : Value} {xs : List Int} (h : BW w wr s v xs) : wr.cell? ⟨w.heap.size, 0, none⟩ = some (.string s) := cell_of_one h.h0
theorem BW.c1 {w wr : World} {s : ByteArray} {v : Value} {xs : List Int} (h : BW w wr s v xs) : wr.cell? ⟨w.heap.size + 1, 0, none⟩ = some v := cell_of_one h.h1
theorem BW.f1 {w wr : World} {s : ByteArray} {v : Value} {xs : List Int} (h : BW w wr s v xs) : wr.frozen? ⟨w.heap.size + 1, 0, none⟩ = false := free_of_one h.h1
theorem BW.drew {w wr : World} {s : ByteArray} {v : Value} {xs : List Int} (h : BW w wr s v xs) : BW w wr.drew s v xs := ⟨h.b.drew, h.h0, h.h1, h.own⟩
theorem BW.drewN {w wr : World} {s : ByteArray} {v : Value} {xs : List Int} (h : BW w wr s v xs) (n : Nat) : BW w (wr.drewN n) s v xs := ⟨pw_below_drewN h.b n, h.h0, h.h1, h.own⟩
theorem BW.made {w wr : World} {s : ByteArray} (h : BW w wr s (.slice none 0 0) []) (hs : s.size ≤ 2147483647) : BW w (mkW wr (w.heap.size + 1) s.size) s (.slice (some ⟨wr.heap.size, 0, none⟩) 0 s.size) [] := by
  have hl := h.lt
  have ha : (wr.alloc (.cells (madeCells #[.int .u8 0] s.size) 5)).heap[w.heap.size + 1]? = some (.cells #[.slice none 0 0] 103 (0, 0)) := (Below.heap_alloc _ _ _ (by omega)).trans h.h1
  refine ⟨(h.b.alloc (by omega) _).setCell (Nat.le_succ _) _, ?_, one_setCell ha, ⟨by simp [nums], .inr ⟨wr.heap.size, s.size, madeCells #[.int .u8 0] s.size, rfl, by omega, ?_, Nat.zero_le _, by simp only [maxLen]; omega, ?_, by simp [nums]⟩⟩⟩
  · rw [mkW, Below.heap_setCell _ _ _ _ (by show w.heap.size ≠ w.heap.size + 1; omega), Below.heap_alloc _ _ _ (by omega)]
    exact h.h0
  · rw [mkW, Below.heap_setCell _ _ _ _ (by show wr.heap.size ≠ w.heap.size + 1; omega)]
    exact heap_alloc_new _ _
  · have := size_madeCells #[Value.int .u8 0] s.size
    rw [Nat.mul_one]
    exact this
theorem BW.app {w wr w1 : World} {s : ByteArray} {v v1 : Value} {xs ys : List Int} (h : BW w wr s v xs) (hg : wr.grownBy w1 v.ownBlock) (ho : w1.ownsRow (w.heap.size + 2) 5 1 v1 ys.length (nums .u8 ys)) :
    BW w (w1.setCell ⟨w.heap.size + 1, 0, none⟩ v1) s v1 ys := by
  have hl := h.lt
  have hk : ∀ k, k < w.heap.size + 2 → some k ≠ v.ownBlock := fun k hk e => by have := own_base h.own k e.symm; omega
  have ha : w1.heap[w.heap.size + 1]? = some (.cells #[v] 103 (0, 0)) := (hg.block _ (by omega) (hk _ (by omega))).trans h.h1
  refine ⟨(h.b.grown hg (by omega) (fun k e => by have := own_base h.own k e; omega)).setCell (Nat.le_succ _) _, ?_, one_setCell ha, ownsRow_setCell_below ho (Nat.lt_succ_self _) _⟩
  rw [Below.heap_setCell _ _ _ _ (by show w.heap.size ≠ w.heap.size + 1; omega), hg.block _ (by omega) (hk _ (by omega))]
  exact h.h0

theorem BW.k1 {w wr w1 : World} {s : ByteArray} {v : Value} {xs : List Int} (h : BW w wr s v xs) (hg : wr.grownBy w1 v.ownBlock) : w1.heap[w.heap.size + 1]? = some (.cells #[v] 103 (0, 0)) := by
  have hl := h.lt
  exact (hg.block _ (by omega) (fun e => by have := own_base h.own _ e.symm; omega)).trans h.h1
theorem own_form {w : World} {base : Nat} {e : TypeId} {n : Nat} {v : Value} {xs : List Value} (h : w.ownsRow base e 1 v n xs) (hn : ¬ v = .slice none 0 0) : ∃ g c, v = .slice (some ⟨g, 0, none⟩) n c := by
  rcases h.2 with ⟨rfl, _⟩ | ⟨g, cap, cur, rfl, _⟩
  · exact absurd rfl hn
  · exact ⟨g, cap, rfl⟩
theorem ext_small (s : ByteArray) (a b n : Nat) (hs : s.size ≤ 2147483647) (hn : n ≤ 2147483647) : n + (s.extract a b).size ≤ 140737488355328 := by
  rw [ByteArray.size_extract]
  omega
theorem snoc_small (s : ByteArray) (xs : List Int) (a b : Nat) (hs : s.size ≤ 2147483647) (hn : xs.length ≤ 2147483647) : ((xs ++ bys (s.extract a b)).length + 1) * 1 ≤ 140737488355328 := by
  rw [List.length_append, bys_length, ByteArray.size_extract]
  omega
theorem take_all (l : List Int) (a n : Nat) (h : l.length = n) : (l.drop a).take (n - a) = l.drop a := List.take_of_length_le (by rw [List.length_drop, h]; exact Nat.le_refl _)
theorem whole_one (s : ByteArray) (m : Nat) (hm : s.size = m + 1) (h : bt s (m : Int) = 32) : strOfNums ([] ++ ((bys s).drop 0).take (m - 0) ++ [32]) = s := by
  rw [List.nil_append, List.drop_zero, Nat.sub_zero, ← h, bt_bys, ← take_snoc' (bys s) m (by rw [bys_length]; omega), List.take_of_length_le (by rw [bys_length]; omega), str_bys]
theorem blankB_false {c : Int} (h : blankB c = false) : (c == 32) = false ∧ (c == 13) = false ∧ (c == 10) = false ∧ (c == 9) = false := by
  simpa [blankB, and_assoc] using h
/-- Where the row is none yet. -/
def NilRel (v : Value) (xs : List Int) (sn : Nat) : Prop := (sn = 0 ∧ v = .slice none 0 0 ∧ xs = []) ∨ (0 < sn ∧ ∃ g c, v = .slice (some ⟨g, 0, none⟩) xs.length c)

set_option maxRecDepth 100000 in
set_option maxHeartbeats 1000000 in
theorem blanks_any (s : ByteArray) (w : World) (hs : s.size ≤ 2147483647) (hne : 0 < s.size) :
    Calls Try.prog 141 #[.string s] w fun e w' => e = .returned (.string (strOfNums (col (bys s)))) ∧ Below w.heap.size w w' := by
  have hmf : ∀ (fn : Fn) (first cap : Array Value) (w : World), (Instr.makeFunc fn first cap).run Try.prog w = .ok (.func fn first cap) w := fun _ _ _ _ => rfl
  have he : (s.toList == []) = false := by
    rw [beq_eq_false_iff_ne]
    intro h
    have h1 := congrArg List.length h
    rw [ByteArray.toList_eq, Array.length_toList] at h1
    have h2 : s.data.size = s.size := rfl
    rw [h2] at h1
    simp only [List.length_nil] at h1
    omega
  go_enter Try.func141, Try.ntmps141
  go_wp2
  go_loopw [5, 6, 7] (fun a b c wr => ∃ (sn i : Nat) (sm : Int) (v : Value) (xs : List Int), a = .int .i64 sn ∧ b = .int .i64 sm ∧ c = .int .i64 i ∧ BW w wr s v xs ∧ BI (bys s) xs sn sm i ∧ NilRel v xs sn ∧ -1 ≤ sm ∧ i ≤ s.size ∧ sn ≤ i ∧ sm ≤ i) (fun _ _ c _ => s.size - (intOf c).toNat)
  case atStart => exact ⟨0, 0, -1, _, [], rfl, rfl, rfl, ⟨((Below.refl _ _).alloc (Nat.le_refl _) _).alloc (by simp) _, (Below.heap_alloc _ _ _ (by simp)).trans (heap_alloc_new _ _), by rw [show w.heap.size + 1 = (w.alloc (.cells #[.string s] 9)).heap.size by simp]; exact heap_alloc_new _ _, own_nil _ _ _ _⟩, BI_start _, .inl ⟨rfl, rfl, rfl⟩, by omega, by omega, by omega, by omega⟩
  case round =>
    obtain ⟨sn, i, sm, v, xs, rfl, rfl, rfl, hW, hI, hN, hm1, hi, hsn, hsm⟩ := hrel
    have c0 := hW.c0
    have HW := Lib.hid hW
    have HI := Lib.hid hI
    have HN := Lib.hid hN
    clear hW hI hN
    by_cases hlt : i < s.size
    · have hx := bt_at s (i : Int)
      simp only [Int.toNat_natCast] at hx
      obtain ⟨x, hxe⟩ : ∃ x, bt s (i : Int) = x := ⟨_, rfl⟩
      rw [hxe] at hx
      have HX := Lib.hid hxe
      clear hxe
      by_cases hb : blankB x = true
      · have HB := Lib.hid hb
        rw [blankB_true] at hb
        by_cases hs1 : sm = -1
        · subst hs1
          rcases hb with rfl | rfl | rfl | rfl
          all_goals
            go_wp2
            go_roundw
            case rel => exact ⟨sn, i + 1, i, v, xs, rfl, rfl, by go_num, HW.out, BI_ws_first HI.out (by rw [bys_length]; exact hlt) (by rw [← bt_bys, HX.out]; exact HB.out), HN.out, by omega, by omega, by omega, by omega⟩
            case measure => simp [intOf]; omega
        · have t1 : (sm == -1) = false := by simpa using hs1
          have t2 : (sm != -1) = true := by simpa using hs1
          obtain ⟨m, hm, hm2, hm3⟩ := BI_m HI.out hs1
          subst hm
          clear hs1
          rcases hb with rfl | rfl | rfl | rfl
          all_goals
            go_wp2
            go_roundw
            case rel => exact ⟨sn, i + 1, m, v, xs, rfl, rfl, by go_num, HW.out, BI_ws_more HI.out (by rw [bys_length]; exact hlt) (by rw [← bt_bys, HX.out]; exact HB.out), HN.out, by omega, by omega, by omega, by omega⟩
            case measure => simp [intOf]; omega
      · have hb' : blankB x = false := by simpa using hb
        obtain ⟨t32, t13, t10, t9⟩ := blankB_false hb'
        have HB := Lib.hid hb'
        clear hb hb'
        by_cases hs1 : sm = -1
        · subst hs1
          go_wp2
          go_roundw
          case rel => exact ⟨sn, i + 1, -1, v, xs, rfl, rfl, by go_num, HW.out, BI_plain HI.out (by rw [bys_length]; exact hlt) (by rw [← bt_bys, HX.out]; exact HB.out), HN.out, by omega, by omega, by omega, by omega⟩
          case measure => simp [intOf]; omega
        · have t1 : (sm == -1) = false := by simpa using hs1
          have t2 : (sm != -1) = true := by simpa using hs1
          obtain ⟨m, hm, hm2, hm3⟩ := BI_m HI.out hs1
          subst hm
          clear hs1
          have hy := bt_at s (m : Int)
          simp only [Int.toNat_natCast] at hy
          obtain ⟨y, hye⟩ : ∃ y, bt s (m : Int) = y := ⟨_, rfl⟩
          rw [hye] at hy
          have HY := Lib.hid hye
          clear hye
          by_cases hone : i = m + 1 ∧ y = 32
          · obtain ⟨h1, rfl⟩ := hone
            subst h1
            have t3 : ((((m + 1 : Nat) : Int) - (m : Int)) == 1) = true := by simpa using (by omega)
            go_wp2
            go_roundw
            case rel => exact ⟨sn, m + 1 + 1, -1, v, xs, rfl, rfl, by go_num, HW.out, BI_one HI.out (by rw [bys_length]; exact hlt) (by rw [← bt_bys, HY.out]) (by rw [← bt_bys, HX.out]; exact HB.out), HN.out, by omega, by omega, by omega, by omega⟩
            case measure => simp [intOf]; omega
          · have hcase : ((i : Int) - (m : Int) = 1 ∧ (y == 32) = false) ∨ ¬ ((i : Int) - (m : Int) = 1) := by
              by_cases hd : (i : Int) - (m : Int) = 1
              · exact .inl ⟨hd, by simpa using fun e => hone ⟨by omega, e⟩⟩
              · exact .inr hd
            clear hone
            have HI2 := Lib.hid (BI_flush HI.out (by rw [bys_length]; exact hlt) (by rw [← bt_bys, HX.out]; exact HB.out))
            have hxl := BI_len HI.out
            have hms : m ≤ s.size := by omega
            rcases HN.out with ⟨rfl, rfl, rfl⟩ | ⟨hsn0, g, cc, rfl⟩
            · have hc1 := HW.out.c1
              have hf1 := HW.out.f1
              rcases hcase with ⟨hd, hy2⟩ | hd
              · go_wp2_with (go_at_call 167; refine (mk_nil _ _ _ s hs c0 hc1 hf1).mono ?_; rintro e w2 ⟨rfl, hw2⟩)
                have HW2 := Lib.hid (HW.out.made hs)
                rw [hw2] at HW2
                clear hw2 hc1 hf1 c0
                have c0 := HW2.out.c0
                have c1 := HW2.out.c1
                have f1 := HW2.out.f1
                go_wp2
                go_region_law (refine step_append_str rfl _ _ 103 9 5 rfl Try.underlying103 Try.underlying9 infoByte (w.heap.size + 2) (.slice (some ⟨wr.heap.size, 0, none⟩) 0 s.size) [] (s.extract 0 m) rfl rfl ?own ?base ?len ?_; (case own => exact HW2.out.own); (case base => exact HW2.out.lt); (case len => exact ext_small s 0 m _ hs (by first | exact Nat.zero_le _ | omega)); intro v1 w1 hown hgr hnl; obtain ⟨ys, hys⟩ : ∃ ys : List Int, ys = ([] ++ bys (s.extract 0 m)) := ⟨_, rfl⟩; rw [← hys] at hown; have HYS := Lib.hid hys; clear hys; obtain ⟨g1, cp1, rfl⟩ := own_form hown (fun e => by simpa using hnl.1 e); have HW3 := Lib.hid (HW2.out.app ⟨hgr.os, hgr.tape, hgr.output, hgr.size, hgr.block⟩ hown); have k1 := cell_of_one (HW2.out.k1 ⟨hgr.os, hgr.tape, hgr.output, hgr.size, hgr.block⟩); have kf := free_of_one (HW2.out.k1 ⟨hgr.os, hgr.tape, hgr.output, hgr.size, hgr.block⟩); clear hown hgr hnl)
                all_goals
                  generalize (w1.setCell ⟨w.heap.size + 1, 0, none⟩ (.slice (some ⟨g1, 0, none⟩) ys.length cp1)) = w4 at *
                  have c0 := HW3.out.c0
                  have c1 := HW3.out.c1
                  have f1 := HW3.out.f1
                  clear k1 kf
                  go_wp2_with (at_builtin; refine print_append_num (w0 := w4) (w.heap.size + 2) rfl _ _ 103 5 .u8 1 rfl Try.underlying103 infoByte (by decide) _ ys 32 rfl rfl ?own2 ?bel2 ?base2 ?len2 ?_; (case own2 => exact HW3.out.own); (case bel2 => exact Below.refl _ _); (case base2 => exact HW3.out.lt); (case len2 => rw [HYS.out]; exact snoc_small s _ 0 m hs (by first | exact Nat.zero_le _ | omega)); intro v3 w3 hown3 _ hgr3 _; obtain ⟨zs, hzs⟩ : ∃ zs : List Int, zs = ys ++ [32] := ⟨_, rfl⟩; rw [← hzs] at hown3; have HZS := Lib.hid hzs; obtain ⟨g3, cp3, rfl, _, _⟩ := hown3.form (by rw [hzs]; simp); clear hzs; have HW4 := Lib.hid (HW3.out.app hgr3 hown3); have k1 := cell_of_one (HW3.out.k1 hgr3); have kf := free_of_one (HW3.out.k1 hgr3); clear hown3 hgr3)
                  generalize (w3.setCell ⟨w.heap.size + 1, 0, none⟩ (.slice (some ⟨g3, 0, none⟩) zs.length cp3)) = w5 at *
                  have hz : zs = [] ++ ((bys s).drop 0).take (m - 0) ++ [32] := by rw [HZS.out, HYS.out, bys_extract]
                  have HZ := Lib.hid hz
                  have hzl : NilRel (.slice (some ⟨g3, 0, none⟩) zs.length cp3) zs i := .inr ⟨by omega, g3, cp3, rfl⟩
                  have HN2 := Lib.hid hzl
                  clear hz hzl
                  go_roundw
                  case rel => exact ⟨i, i + 1, -1, _, zs, rfl, rfl, by go_num, HW4.out, by rw [HZ.out]; exact HI2.out, HN2.out, by omega, by omega, by omega, by omega⟩
                  case measure => simp [intOf]; omega
  
              · go_wp2_with (go_at_call 167; refine (mk_nil _ _ _ s hs c0 hc1 hf1).mono ?_; rintro e w2 ⟨rfl, hw2⟩)
                have HW2 := Lib.hid (HW.out.made hs)
                rw [hw2] at HW2
                clear hw2 hc1 hf1 c0
                have c0 := HW2.out.c0
                have c1 := HW2.out.c1
                have f1 := HW2.out.f1
                go_wp2
                go_region_law (refine step_append_str rfl _ _ 103 9 5 rfl Try.underlying103 Try.underlying9 infoByte (w.heap.size + 2) (.slice (some ⟨wr.heap.size, 0, none⟩) 0 s.size) [] (s.extract 0 m) rfl rfl ?own ?base ?len ?_; (case own => exact HW2.out.own); (case base => exact HW2.out.lt); (case len => exact ext_small s 0 m _ hs (by first | exact Nat.zero_le _ | omega)); intro v1 w1 hown hgr hnl; obtain ⟨ys, hys⟩ : ∃ ys : List Int, ys = ([] ++ bys (s.extract 0 m)) := ⟨_, rfl⟩; rw [← hys] at hown; have HYS := Lib.hid hys; clear hys; obtain ⟨g1, cp1, rfl⟩ := own_form hown (fun e => by simpa using hnl.1 e); have HW3 := Lib.hid (HW2.out.app ⟨hgr.os, hgr.tape, hgr.output, hgr.size, hgr.block⟩ hown); have k1 := cell_of_one (HW2.out.k1 ⟨hgr.os, hgr.tape, hgr.output, hgr.size, hgr.block⟩); have kf := free_of_one (HW2.out.k1 ⟨hgr.os, hgr.tape, hgr.output, hgr.size, hgr.block⟩); clear hown hgr hnl)
                all_goals
                  generalize (w1.setCell ⟨w.heap.size + 1, 0, none⟩ (.slice (some ⟨g1, 0, none⟩) ys.length cp1)) = w4 at *
                  have c0 := HW3.out.c0
                  have c1 := HW3.out.c1
                  have f1 := HW3.out.f1
                  clear k1 kf
                  go_wp2_with (at_builtin; refine print_append_num (w0 := w4) (w.heap.size + 2) rfl _ _ 103 5 .u8 1 rfl Try.underlying103 infoByte (by decide) _ ys 32 rfl rfl ?own2 ?bel2 ?base2 ?len2 ?_; (case own2 => exact HW3.out.own); (case bel2 => exact Below.refl _ _); (case base2 => exact HW3.out.lt); (case len2 => rw [HYS.out]; exact snoc_small s _ 0 m hs (by first | exact Nat.zero_le _ | omega)); intro v3 w3 hown3 _ hgr3 _; obtain ⟨zs, hzs⟩ : ∃ zs : List Int, zs = ys ++ [32] := ⟨_, rfl⟩; rw [← hzs] at hown3; have HZS := Lib.hid hzs; obtain ⟨g3, cp3, rfl, _, _⟩ := hown3.form (by rw [hzs]; simp); clear hzs; have HW4 := Lib.hid (HW3.out.app hgr3 hown3); have k1 := cell_of_one (HW3.out.k1 hgr3); have kf := free_of_one (HW3.out.k1 hgr3); clear hown3 hgr3)
                  generalize (w3.setCell ⟨w.heap.size + 1, 0, none⟩ (.slice (some ⟨g3, 0, none⟩) zs.length cp3)) = w5 at *
                  have hz : zs = [] ++ ((bys s).drop 0).take (m - 0) ++ [32] := by rw [HZS.out, HYS.out, bys_extract]
                  have HZ := Lib.hid hz
                  have hzl : NilRel (.slice (some ⟨g3, 0, none⟩) zs.length cp3) zs i := .inr ⟨by omega, g3, cp3, rfl⟩
                  have HN2 := Lib.hid hzl
                  clear hz hzl
                  go_roundw
                  case rel => exact ⟨i, i + 1, -1, _, zs, rfl, rfl, by go_num, HW4.out, by rw [HZ.out]; exact HI2.out, HN2.out, by omega, by omega, by omega, by omega⟩
                  case measure => simp [intOf]; omega
  
            · have hc1 := HW.out.c1
              rcases hcase with ⟨hd, hy2⟩ | hd
              · go_wp2_with (go_at_call 167; refine (mk_some _ _ _ _ _ _ hc1).mono ?_; rintro e w2 ⟨rfl, hw2⟩)
                have HW2 := Lib.hid HW.out
                rw [hw2] at HW2
                clear hw2 hc1 c0
                have c0 := HW2.out.c0
                have c1 := HW2.out.c1
                have f1 := HW2.out.f1
                go_wp2
                go_region_law (refine step_append_str rfl _ _ 103 9 5 rfl Try.underlying103 Try.underlying9 infoByte (w.heap.size + 2) (.slice (some ⟨g, 0, none⟩) xs.length cc) xs (s.extract sn m) rfl rfl ?own ?base ?len ?_; (case own => exact HW2.out.own); (case base => exact HW2.out.lt); (case len => exact ext_small s sn m _ hs (by first | exact Nat.zero_le _ | omega)); intro v1 w1 hown hgr hnl; obtain ⟨ys, hys⟩ : ∃ ys : List Int, ys = (xs ++ bys (s.extract sn m)) := ⟨_, rfl⟩; rw [← hys] at hown; have HYS := Lib.hid hys; clear hys; obtain ⟨g1, cp1, rfl⟩ := own_form hown (fun e => by simpa using hnl.1 e); have HW3 := Lib.hid (HW2.out.app ⟨hgr.os, hgr.tape, hgr.output, hgr.size, hgr.block⟩ hown); have k1 := cell_of_one (HW2.out.k1 ⟨hgr.os, hgr.tape, hgr.output, hgr.size, hgr.block⟩); have kf := free_of_one (HW2.out.k1 ⟨hgr.os, hgr.tape, hgr.output, hgr.size, hgr.block⟩); clear hown hgr hnl)
                all_goals
                  generalize (w1.setCell ⟨w.heap.size + 1, 0, none⟩ (.slice (some ⟨g1, 0, none⟩) ys.length cp1)) = w4 at *
                  have c0 := HW3.out.c0
                  have c1 := HW3.out.c1
                  have f1 := HW3.out.f1
                  clear k1 kf
                  go_wp2_with (at_builtin; refine print_append_num (w0 := w4) (w.heap.size + 2) rfl _ _ 103 5 .u8 1 rfl Try.underlying103 infoByte (by decide) _ ys 32 rfl rfl ?own2 ?bel2 ?base2 ?len2 ?_; (case own2 => exact HW3.out.own); (case bel2 => exact Below.refl _ _); (case base2 => exact HW3.out.lt); (case len2 => rw [HYS.out]; exact snoc_small s _ sn m hs (by first | exact Nat.zero_le _ | omega)); intro v3 w3 hown3 _ hgr3 _; obtain ⟨zs, hzs⟩ : ∃ zs : List Int, zs = ys ++ [32] := ⟨_, rfl⟩; rw [← hzs] at hown3; have HZS := Lib.hid hzs; obtain ⟨g3, cp3, rfl, _, _⟩ := hown3.form (by rw [hzs]; simp); clear hzs; have HW4 := Lib.hid (HW3.out.app hgr3 hown3); have k1 := cell_of_one (HW3.out.k1 hgr3); have kf := free_of_one (HW3.out.k1 hgr3); clear hown3 hgr3)
                  generalize (w3.setCell ⟨w.heap.size + 1, 0, none⟩ (.slice (some ⟨g3, 0, none⟩) zs.length cp3)) = w5 at *
                  have hz : zs = xs ++ ((bys s).drop sn).take (m - sn) ++ [32] := by rw [HZS.out, HYS.out, bys_extract]
                  have HZ := Lib.hid hz
                  have hzl : NilRel (.slice (some ⟨g3, 0, none⟩) zs.length cp3) zs i := .inr ⟨by omega, g3, cp3, rfl⟩
                  have HN2 := Lib.hid hzl
                  clear hz hzl
                  go_roundw
                  case rel => exact ⟨i, i + 1, -1, _, zs, rfl, rfl, by go_num, HW4.out, by rw [HZ.out]; exact HI2.out, HN2.out, by omega, by omega, by omega, by omega⟩
                  case measure => simp [intOf]; omega
  
              · go_wp2_with (go_at_call 167; refine (mk_some _ _ _ _ _ _ hc1).mono ?_; rintro e w2 ⟨rfl, hw2⟩)
                have HW2 := Lib.hid HW.out
                rw [hw2] at HW2
                clear hw2 hc1 c0
                have c0 := HW2.out.c0
                have c1 := HW2.out.c1
                have f1 := HW2.out.f1
                go_wp2
                go_region_law (refine step_append_str rfl _ _ 103 9 5 rfl Try.underlying103 Try.underlying9 infoByte (w.heap.size + 2) (.slice (some ⟨g, 0, none⟩) xs.length cc) xs (s.extract sn m) rfl rfl ?own ?base ?len ?_; (case own => exact HW2.out.own); (case base => exact HW2.out.lt); (case len => exact ext_small s sn m _ hs (by first | exact Nat.zero_le _ | omega)); intro v1 w1 hown hgr hnl; obtain ⟨ys, hys⟩ : ∃ ys : List Int, ys = (xs ++ bys (s.extract sn m)) := ⟨_, rfl⟩; rw [← hys] at hown; have HYS := Lib.hid hys; clear hys; obtain ⟨g1, cp1, rfl⟩ := own_form hown (fun e => by simpa using hnl.1 e); have HW3 := Lib.hid (HW2.out.app ⟨hgr.os, hgr.tape, hgr.output, hgr.size, hgr.block⟩ hown); have k1 := cell_of_one (HW2.out.k1 ⟨hgr.os, hgr.tape, hgr.output, hgr.size, hgr.block⟩); have kf := free_of_one (HW2.out.k1 ⟨hgr.os, hgr.tape, hgr.output, hgr.size, hgr.block⟩); clear hown hgr hnl)
                all_goals
                  generalize (w1.setCell ⟨w.heap.size + 1, 0, none⟩ (.slice (some ⟨g1, 0, none⟩) ys.length cp1)) = w4 at *
                  have c0 := HW3.out.c0
                  have c1 := HW3.out.c1
                  have f1 := HW3.out.f1
                  clear k1 kf
                  go_wp2_with (at_builtin; refine print_append_num (w0 := w4) (w.heap.size + 2) rfl _ _ 103 5 .u8 1 rfl Try.underlying103 infoByte (by decide) _ ys 32 rfl rfl ?own2 ?bel2 ?base2 ?len2 ?_; (case own2 => exact HW3.out.own); (case bel2 => exact Below.refl _ _); (case base2 => exact HW3.out.lt); (case len2 => rw [HYS.out]; exact snoc_small s _ sn m hs (by first | exact Nat.zero_le _ | omega)); intro v3 w3 hown3 _ hgr3 _; obtain ⟨zs, hzs⟩ : ∃ zs : List Int, zs = ys ++ [32] := ⟨_, rfl⟩; rw [← hzs] at hown3; have HZS := Lib.hid hzs; obtain ⟨g3, cp3, rfl, _, _⟩ := hown3.form (by rw [hzs]; simp); clear hzs; have HW4 := Lib.hid (HW3.out.app hgr3 hown3); have k1 := cell_of_one (HW3.out.k1 hgr3); have kf := free_of_one (HW3.out.k1 hgr3); clear hown3 hgr3)
                  generalize (w3.setCell ⟨w.heap.size + 1, 0, none⟩ (.slice (some ⟨g3, 0, none⟩) zs.length cp3)) = w5 at *
                  have hz : zs = xs ++ ((bys s).drop sn).take (m - sn) ++ [32] := by rw [HZS.out, HYS.out, bys_extract]
                  have HZ := Lib.hid hz
                  have hzl : NilRel (.slice (some ⟨g3, 0, none⟩) zs.length cp3) zs i := .inr ⟨by omega, g3, cp3, rfl⟩
                  have HN2 := Lib.hid hzl
                  clear hz hzl
                  go_roundw
                  case rel => exact ⟨i, i + 1, -1, _, zs, rfl, rfl, by go_num, HW4.out, by rw [HZ.out]; exact HI2.out, HN2.out, by omega, by omega, by omega, by omega⟩
                  case measure => simp [intOf]; omega
  
    · obtain rfl : i = s.size := by omega
      have hlen : (bys s).length = s.size := bys_length s
      rw [← hlen] at HI
      by_cases hs1 : sm = -1
      · subst hs1
        have hend := BI_end_plain HI.out
        have HE := Lib.hid hend
        clear hend hlen
        rcases HN.out with ⟨rfl, rfl, rfl⟩ | ⟨hsn0, g, cc, rfl⟩
        · have c1 := HW.out.c1
          have hq := fun W => Lib.run_eql_slice_nil (P := Try.prog) W 103 5 none 0 0 0 0 Try.underlying103
          go_wp2
          go_ret
          exact ⟨by rw [← HE.out, List.nil_append, List.drop_zero, str_bys]; rfl, HW.out.b⟩
        · have hc1 := HW.out.c1
          have hxl := BI_len HI.out
          rw [bys_length] at hxl
          have t5 : ((sn : Int) == 0) = false := by simpa using (by omega)
          go_wp2_with (go_at_call 167; refine (mk_some _ _ _ _ _ _ hc1).mono ?_; rintro e w2 ⟨rfl, hw2⟩)
          have HW2 := Lib.hid HW.out
          rw [hw2] at HW2
          clear hw2 hc1 c0
          have c0 := HW2.out.c0
          have c1 := HW2.out.c1
          have f1 := HW2.out.f1
          have hq := fun W a n c => Lib.run_eql_slice_nil (P := Try.prog) W 103 5 a n c 0 0 Try.underlying103
          go_wp2
          go_region_law (refine step_append_str rfl _ _ 103 9 5 rfl Try.underlying103 Try.underlying9 infoByte (w.heap.size + 2) (.slice (some ⟨g, 0, none⟩) xs.length cc) xs (s.extract sn s.size) rfl rfl ?own ?base ?len ?_; (case own => exact HW2.out.own); (case base => exact HW2.out.lt); (case len => exact ext_small s sn s.size _ hs (by first | exact Nat.zero_le _ | omega)); intro v1 w1 hown hgr hnl; obtain ⟨ys, hys⟩ : ∃ ys : List Int, ys = (xs ++ bys (s.extract sn s.size)) := ⟨_, rfl⟩; rw [← hys] at hown; have HYS := Lib.hid hys; clear hys; obtain ⟨g1, cp1, rfl⟩ := own_form hown (fun e => by simpa using hnl.1 e); have HW3 := Lib.hid (HW2.out.app ⟨hgr.os, hgr.tape, hgr.output, hgr.size, hgr.block⟩ hown); have k1 := cell_of_one (HW2.out.k1 ⟨hgr.os, hgr.tape, hgr.output, hgr.size, hgr.block⟩); have kf := free_of_one (HW2.out.k1 ⟨hgr.os, hgr.tape, hgr.output, hgr.size, hgr.block⟩); clear hown hgr hnl)
          all_goals
            generalize (w1.setCell ⟨w.heap.size + 1, 0, none⟩ (.slice (some ⟨g1, 0, none⟩) ys.length cp1)) = w4 at *
            have c0 := HW3.out.c0
            have c1 := HW3.out.c1
            have f1 := HW3.out.f1
            clear k1 kf
            have hconv := own_string (P := Try.prog) Try.underlying103 Try.underlying5 Try.underlying9 HW3.out.own
            go_wp2
            go_ret
            exact ⟨by rw [← HE.out, ← take_all (bys s) sn s.size (bys_length s), ← bys_extract, ← HYS.out]; rfl, HW3.out.b⟩
      · have t1 : (sm == -1) = false := by simpa using hs1
        obtain ⟨m, hm, hm2, hm3⟩ := BI_m HI.out hs1
        subst hm
        clear hs1
        have hend := BI_end_ws HI.out
        have HE := Lib.hid hend
        have hxl := BI_len HI.out
        rw [bys_length] at hxl hm3
        clear hend hlen
        have hms : m ≤ s.size := by omega
        have hy := bt_at s (m : Int)
        simp only [Int.toNat_natCast] at hy
        obtain ⟨y, hye⟩ : ∃ y, bt s (m : Int) = y := ⟨_, rfl⟩
        rw [hye] at hy
        have HY := Lib.hid hye
        clear hye
        have hq := fun W a n c => Lib.run_eql_slice_nil (P := Try.prog) W 103 5 a n c 0 0 Try.underlying103
        rcases HN.out with ⟨rfl, rfl, rfl⟩ | ⟨hsn0, g, cc, rfl⟩
        · have hc1 := HW.out.c1
          have hf1 := HW.out.f1
          by_cases hd : (s.size : Int) - (m : Int) = 1
          · have hd2 : ((s.size : Int) - (m : Int) == 1) = true := by simpa using hd
            by_cases hy32 : y = 32
            · have hyt : (y == 32) = true := by simpa using hy32
              have HY2 := Lib.hid hy32
              clear hy32
              go_wp2
              go_ret
              exact ⟨by rw [← HE.out, whole_one s m (by omega) (HY.out.trans HY2.out)]; rfl, HW.out.b⟩
            · have hyt : (y == 32) = false := by simpa using hy32
              clear hy32
              go_wp2_with (go_at_call 167; refine (mk_nil _ _ _ s hs c0 hc1 hf1).mono ?_; rintro e w2 ⟨rfl, hw2⟩)
              have HW2 := Lib.hid (HW.out.made hs)
              rw [hw2] at HW2
              clear hw2 hc1 hf1 c0
              have c0 := HW2.out.c0
              have c1 := HW2.out.c1
              have f1 := HW2.out.f1
              go_wp2
              go_region_law (refine step_append_str rfl _ _ 103 9 5 rfl Try.underlying103 Try.underlying9 infoByte (w.heap.size + 2) (.slice (some ⟨wr.heap.size, 0, none⟩) 0 s.size) [] (s.extract 0 m) rfl rfl ?own ?base ?len ?_; (case own => exact HW2.out.own); (case base => exact HW2.out.lt); (case len => exact ext_small s 0 m _ hs (by first | exact Nat.zero_le _ | omega)); intro v1 w1 hown hgr hnl; obtain ⟨ys, hys⟩ : ∃ ys : List Int, ys = ([] ++ bys (s.extract 0 m)) := ⟨_, rfl⟩; rw [← hys] at hown; have HYS := Lib.hid hys; clear hys; obtain ⟨g1, cp1, rfl⟩ := own_form hown (fun e => by simpa using hnl.1 e); have HW3 := Lib.hid (HW2.out.app ⟨hgr.os, hgr.tape, hgr.output, hgr.size, hgr.block⟩ hown); have k1 := cell_of_one (HW2.out.k1 ⟨hgr.os, hgr.tape, hgr.output, hgr.size, hgr.block⟩); have kf := free_of_one (HW2.out.k1 ⟨hgr.os, hgr.tape, hgr.output, hgr.size, hgr.block⟩); clear hown hgr hnl)
              all_goals
                generalize (w1.setCell ⟨w.heap.size + 1, 0, none⟩ (.slice (some ⟨g1, 0, none⟩) ys.length cp1)) = w4 at *
                have c0 := HW3.out.c0
                have c1 := HW3.out.c1
                have f1 := HW3.out.f1
                clear k1 kf
                go_wp2_with (at_builtin; refine print_append_num (w0 := w4) (w.heap.size + 2) rfl _ _ 103 5 .u8 1 rfl Try.underlying103 infoByte (by decide) _ ys 32 rfl rfl ?own2 ?bel2 ?base2 ?len2 ?_; (case own2 => exact HW3.out.own); (case bel2 => exact Below.refl _ _); (case base2 => exact HW3.out.lt); (case len2 => rw [HYS.out]; exact snoc_small s _ 0 m hs (by first | exact Nat.zero_le _ | omega)); intro v3 w3 hown3 _ hgr3 _; obtain ⟨zs, hzs⟩ : ∃ zs : List Int, zs = ys ++ [32] := ⟨_, rfl⟩; rw [← hzs] at hown3; have HZS := Lib.hid hzs; obtain ⟨g3, cp3, rfl, _, _⟩ := hown3.form (by rw [hzs]; simp); clear hzs; have HW4 := Lib.hid (HW3.out.app hgr3 hown3); have k1 := cell_of_one (HW3.out.k1 hgr3); have kf := free_of_one (HW3.out.k1 hgr3); have hconv := own_string (P := Try.prog) Try.underlying103 Try.underlying5 Try.underlying9 HW4.out.own; clear hown3 hgr3)
                have hz : zs = [] ++ ((bys s).drop 0).take (m - 0) ++ [32] := by rw [HZS.out, HYS.out, bys_extract]
                go_ret
                exact ⟨by rw [← HE.out, ← hz]; rfl, HW4.out.b⟩
          · have hd2 : ((s.size : Int) - (m : Int) == 1) = false := by simpa using hd
            go_wp2_with (go_at_call 167; refine (mk_nil _ _ _ s hs c0 hc1 hf1).mono ?_; rintro e w2 ⟨rfl, hw2⟩)
            have HW2 := Lib.hid (HW.out.made hs)
            rw [hw2] at HW2
            clear hw2 hc1 hf1 c0
            have c0 := HW2.out.c0
            have c1 := HW2.out.c1
            have f1 := HW2.out.f1
            go_wp2
            go_region_law (refine step_append_str rfl _ _ 103 9 5 rfl Try.underlying103 Try.underlying9 infoByte (w.heap.size + 2) (.slice (some ⟨wr.heap.size, 0, none⟩) 0 s.size) [] (s.extract 0 m) rfl rfl ?own ?base ?len ?_; (case own => exact HW2.out.own); (case base => exact HW2.out.lt); (case len => exact ext_small s 0 m _ hs (by first | exact Nat.zero_le _ | omega)); intro v1 w1 hown hgr hnl; obtain ⟨ys, hys⟩ : ∃ ys : List Int, ys = ([] ++ bys (s.extract 0 m)) := ⟨_, rfl⟩; rw [← hys] at hown; have HYS := Lib.hid hys; clear hys; obtain ⟨g1, cp1, rfl⟩ := own_form hown (fun e => by simpa using hnl.1 e); have HW3 := Lib.hid (HW2.out.app ⟨hgr.os, hgr.tape, hgr.output, hgr.size, hgr.block⟩ hown); have k1 := cell_of_one (HW2.out.k1 ⟨hgr.os, hgr.tape, hgr.output, hgr.size, hgr.block⟩); have kf := free_of_one (HW2.out.k1 ⟨hgr.os, hgr.tape, hgr.output, hgr.size, hgr.block⟩); clear hown hgr hnl)
            all_goals
              generalize (w1.setCell ⟨w.heap.size + 1, 0, none⟩ (.slice (some ⟨g1, 0, none⟩) ys.length cp1)) = w4 at *
              have c0 := HW3.out.c0
              have c1 := HW3.out.c1
              have f1 := HW3.out.f1
              clear k1 kf
              go_wp2_with (at_builtin; refine print_append_num (w0 := w4) (w.heap.size + 2) rfl _ _ 103 5 .u8 1 rfl Try.underlying103 infoByte (by decide) _ ys 32 rfl rfl ?own2 ?bel2 ?base2 ?len2 ?_; (case own2 => exact HW3.out.own); (case bel2 => exact Below.refl _ _); (case base2 => exact HW3.out.lt); (case len2 => rw [HYS.out]; exact snoc_small s _ 0 m hs (by first | exact Nat.zero_le _ | omega)); intro v3 w3 hown3 _ hgr3 _; obtain ⟨zs, hzs⟩ : ∃ zs : List Int, zs = ys ++ [32] := ⟨_, rfl⟩; rw [← hzs] at hown3; have HZS := Lib.hid hzs; obtain ⟨g3, cp3, rfl, _, _⟩ := hown3.form (by rw [hzs]; simp); clear hzs; have HW4 := Lib.hid (HW3.out.app hgr3 hown3); have k1 := cell_of_one (HW3.out.k1 hgr3); have kf := free_of_one (HW3.out.k1 hgr3); have hconv := own_string (P := Try.prog) Try.underlying103 Try.underlying5 Try.underlying9 HW4.out.own; clear hown3 hgr3)
              have hz : zs = [] ++ ((bys s).drop 0).take (m - 0) ++ [32] := by rw [HZS.out, HYS.out, bys_extract]
              go_ret
              exact ⟨by rw [← HE.out, ← hz]; rfl, HW4.out.b⟩
        · have hc1 := HW.out.c1
          go_wp2_with (go_at_call 167; refine (mk_some _ _ _ _ _ _ hc1).mono ?_; rintro e w2 ⟨rfl, hw2⟩)
          have HW2 := Lib.hid HW.out
          rw [hw2] at HW2
          clear hw2 hc1 c0
          have c0 := HW2.out.c0
          have c1 := HW2.out.c1
          have f1 := HW2.out.f1
          go_wp2
          go_region_law (refine step_append_str rfl _ _ 103 9 5 rfl Try.underlying103 Try.underlying9 infoByte (w.heap.size + 2) (.slice (some ⟨g, 0, none⟩) xs.length cc) xs (s.extract sn m) rfl rfl ?own ?base ?len ?_; (case own => exact HW2.out.own); (case base => exact HW2.out.lt); (case len => exact ext_small s sn m _ hs (by first | exact Nat.zero_le _ | omega)); intro v1 w1 hown hgr hnl; obtain ⟨ys, hys⟩ : ∃ ys : List Int, ys = (xs ++ bys (s.extract sn m)) := ⟨_, rfl⟩; rw [← hys] at hown; have HYS := Lib.hid hys; clear hys; obtain ⟨g1, cp1, rfl⟩ := own_form hown (fun e => by simpa using hnl.1 e); have HW3 := Lib.hid (HW2.out.app ⟨hgr.os, hgr.tape, hgr.output, hgr.size, hgr.block⟩ hown); have k1 := cell_of_one (HW2.out.k1 ⟨hgr.os, hgr.tape, hgr.output, hgr.size, hgr.block⟩); have kf := free_of_one (HW2.out.k1 ⟨hgr.os, hgr.tape, hgr.output, hgr.size, hgr.block⟩); clear hown hgr hnl)
          all_goals
            generalize (w1.setCell ⟨w.heap.size + 1, 0, none⟩ (.slice (some ⟨g1, 0, none⟩) ys.length cp1)) = w4 at *
            have c0 := HW3.out.c0
            have c1 := HW3.out.c1
            have f1 := HW3.out.f1
            clear k1 kf
            go_wp2_with (at_builtin; refine print_append_num (w0 := w4) (w.heap.size + 2) rfl _ _ 103 5 .u8 1 rfl Try.underlying103 infoByte (by decide) _ ys 32 rfl rfl ?own2 ?bel2 ?base2 ?len2 ?_; (case own2 => exact HW3.out.own); (case bel2 => exact Below.refl _ _); (case base2 => exact HW3.out.lt); (case len2 => rw [HYS.out]; exact snoc_small s _ sn m hs (by first | exact Nat.zero_le _ | omega)); intro v3 w3 hown3 _ hgr3 _; obtain ⟨zs, hzs⟩ : ∃ zs : List Int, zs = ys ++ [32] := ⟨_, rfl⟩; rw [← hzs] at hown3; have HZS := Lib.hid hzs; obtain ⟨g3, cp3, rfl, _, _⟩ := hown3.form (by rw [hzs]; simp); clear hzs; have HW4 := Lib.hid (HW3.out.app hgr3 hown3); have k1 := cell_of_one (HW3.out.k1 hgr3); have kf := free_of_one (HW3.out.k1 hgr3); have hconv := own_string (P := Try.prog) Try.underlying103 Try.underlying5 Try.underlying9 HW4.out.own; clear hown3 hgr3)
            have hz : zs = xs ++ ((bys s).drop sn).take (m - sn) ++ [32] := by rw [HZS.out, HYS.out, bys_extract]
            go_ret
            exact ⟨by rw [← HE.out, ← hz]; rfl, HW4.out.b⟩

end Go.Proofs.Ytlallihdiffheaa.Hand
end
section
/- Contracts by hand: the doors impl.Blanks, impl.Quoted, and laws.inlineLives, which is true. -/
namespace Go.Proofs.Ytlallihdiffheaa.Hand
open Go.RowKit Go.Proofs.YtlallihdiffheaaW.PrintWords Go.Proofs.YtlallihdiffheaaW.PrintLast Go.Proofs.YtlallihdiffheaaW.PrintMore
open Go.Proofs.Ytlallihdiffheaa.GIn1
set_option linter.unusedVariables false

theorem toList_nil {s : ByteArray} (h : ¬ 0 < s.size) : s = ⟨#[]⟩ := by
  apply bys_inj
  apply List.eq_nil_of_length_eq_zero
  rw [bys_length]
  omega
set_option maxRecDepth 100000 in
theorem impl_blanks (s : ByteArray) (w : World) (hs : s.size ≤ 2147483647) :
    Calls Try.prog 75 #[.string s] w fun e w' => e = .returned (.string (strOfNums (col (bys s)))) ∧ Below w.heap.size w w' := by
  by_cases h0 : 0 < s.size
  · go_enter Try.func75, Try.ntmps75
    go_wp2_with (first | (go_at_call 126; go_in) | (go_at_call 141; refine (blanks_any s _ hs h0).mono ?_; rintro e w' ⟨rfl, hb⟩))
    go_ret
    exact ⟨rfl, hb⟩
  · obtain rfl := toList_nil h0
    go_enter Try.func75, Try.ntmps75
    go_wp2
    go_ret
    exact ⟨rfl, (Below.refl _ _).alloc (Nat.le_refl _) _⟩
set_option maxRecDepth 100000 in
set_option maxHeartbeats 800000 in
/-- One byte on both sides of a text that is not empty. -/
theorem surround_any (w : World) (q : Int) (g : Nat) (hg : w.cell? ⟨g, 0, none⟩ = some (.int .u8 q)) (A : Addr) (c : Nat) (xs : List Int) (h0 : 0 < xs.length) (hl : xs.length ≤ 2147483647) (hr : ReadsInt w .u8 (some A) xs.length xs) :
    Calls Try.prog 157 #[.slice (some A) xs.length c, .slice (some ⟨g, 0, none⟩) 1 1] w fun e w' => ∃ v, e = .returned v ∧ w'.ownsRow w.heap.size 5 1 v (q :: xs ++ [q]).length (nums .u8 (q :: xs ++ [q])) ∧ Below w.heap.size w w' := by
  obtain ⟨i0, hi, hzz⟩ := Option.map_eq_some_iff.1 infoByte
  simp only [Prod.mk.injEq] at hzz
  obtain ⟨hz0, hz1, hz2⟩ := hzz
  have hgl : g < w.heap.size := World.block_lt_of_cell? w _ hg
  have hold : ∀ j u, ([Value.int .u8 q] : List Value)[j]? = some u → w.cell? ((⟨g, 0, none⟩ : Addr).add j) = some u := by
    intro j u hj
    obtain rfl : j = 0 := by
      rcases j with _ | j
      · rfl
      · simp at hj
    rw [add_plain, hg]
    simpa using hj
  obtain ⟨ad, hade, hcells⟩ := hr.2.2 h0
  injection hade with hade
  subst hade
  have hnew : ∀ j u, (nums .u8 xs)[j]? = some u → w.cell? (A.add j) = some u := by
    intro j u hj
    have hjl : j < xs.length := by
      have := (List.getElem?_eq_some_iff.1 hj).1
      rwa [nums_length] at this
    rw [hcells j hjl, ← hj]
    simp [nums, List.getD_eq_getElem?_getD, hjl]
  have hone : ∀ u ∈ nums .u8 xs, u.oneCell' = true := by
    intro u hu
    obtain ⟨x, _, rfl⟩ := List.mem_map.1 hu
    rfl
  have HG := Lib.hid hg
  have HO := Lib.hid hold
  have HN := Lib.hid hnew
  clear hg hold hnew hcells hr
  go_enter Try.func157, Try.ntmps157
  go_wp2_with (first
    | (at_builtin; refine wpList_append_grows _ rfl (.tmp 5) (.tmp 6) 103 rfl 5 i0 (.int .u8 0) 1 1 Try.underlying103 hi hz0 hz1 hz2 rfl (by omega) (some ⟨g, 0, none⟩) 1 1 [.int .u8 q] rfl (fun h => by cases h) rfl (fun b hb => by cases hb; exact HO.out) A xs.length c (nums .u8 xs) rfl (by rw [nums_length, Nat.mul_one]) HN.out hone (by omega) (by simp only [maxLen]; omega) (by omega) ?_; intro v1 w1 hown1 hgr1; have HO1 := Lib.hid hown1; have HG1 := Lib.hid hgr1; clear hown1 hgr1)
    | (at_builtin; refine wpList_append_own_at _ rfl (.tmp 8) (.tmp 9) 103 rfl w.heap.size 5 i0 (.int .u8 0) 1 1 Try.underlying103 hi hz0 hz1 hz2 rfl (by omega) v1 (1 + xs.length) ([.int .u8 q] ++ nums .u8 xs) rfl HO1.out ⟨g, 0, none⟩ 1 1 [.int .u8 q] rfl rfl ?news (by simp [Value.oneCell']) (by simp only [maxLen]; omega) (by omega) HG1.out.size ?_; (case news => intro j u hj; obtain rfl : j = 0 := (by rcases j with _ | j; rfl; simp at hj); rw [add_plain, (World.cell?_of_block (HG1.out.block _ hgl (by simp))).trans HG.out]; simpa using hj); intro v2 w2 hown2 hgr2 _ _; have HO2 := Lib.hid hown2; have HG2 := Lib.hid hgr2; clear hown2 hgr2))
  go_ret
  refine ⟨_, rfl, ?_, ?_⟩
  · have := HO2.out
    have e1 : (xs ++ [q]).length + 1 = 1 + xs.length + 1 := by simp; omega
    have e2 : nums .u8 (q :: (xs ++ [q])) = [Value.int .u8 q] ++ nums .u8 xs ++ [Value.int .u8 q] := by simp [nums]
    rw [e1, e2]
    exact this
  · exact ((Below.refl w.heap.size w).grown HG1.out (Nat.le_refl _) (fun k h => by cases h)).grown HG2.out HG1.out.size (fun k hk => own_base HO1.out k hk)
theorem cell_new (w : World) (v : Value) (t : TypeId) (fr : Nat × Nat) : (w.alloc (.cells #[v] t fr)).cell? ⟨w.heap.size, 0, none⟩ = some v := by
  have h : (w.alloc (.cells #[v] t fr)).heap[w.heap.size]? = some (.cells #[v] t fr) := heap_alloc_new _ _
  simp only [World.cell?, h]
  rfl
set_option maxRecDepth 100000 in
set_option maxHeartbeats 800000 in
theorem quoted_a (w : World) :
    Calls Try.prog 76 #[.string ⟨#[97]⟩] w fun e w' => e = .returned (.string ⟨#[34, 97, 34]⟩) ∧ Below w.heap.size w w' := by
  have hb1 : bys ⟨#[97]⟩ = [97] := by decide +kernel
  have hz : (ByteArray.mk #[97]).size = 1 := rfl
  have hconv := fun W => run_bytesW (P := Try.prog) 9 103 5 ⟨#[97]⟩ Try.underlying9 Try.underlying103 Try.underlying5 W
  have hB := bytesW_below (Below.refl w.heap.size w) (Nat.le_refl _) ⟨#[97]⟩ 5
  have hsz := bytesW_size w ⟨#[97]⟩ 5
  have hge := bcap_ge w ⟨#[97]⟩ 5
  have hrd := bytesW_reads w ⟨#[97]⟩ 5 (by decide)
  rw [hz, hb1] at hrd
  rw [hz] at hge
  simp only [hz] at hconv
  have hw := hconv w
  clear hconv
  generalize bytesW w ⟨#[97]⟩ 5 = wb at *
  generalize bcap w ⟨#[97]⟩ 5 = cb at *
  have kc : ∀ n : Nat, (convert 103 103 (.slice (some ⟨wb.heap.size, 0, none⟩) 1 1)).run Try.prog ((wb.drewN n).alloc (.cells #[.int .u8 34] 5)) = .ok (.slice (some ⟨wb.heap.size, 0, none⟩) 1 1) ((wb.drewN n).alloc (.cells #[.int .u8 34] 5 (1, 2))) := fun n => Lib.run_convert_bytes_const (P := Try.prog) (wb.drewN n) 103 5 #[.int .u8 34] 1 1 Try.underlying103 Try.underlying5
  have HB := Lib.hid hB
  have HR := Lib.hid hrd
  have HZ := Lib.hid hsz
  clear hB hrd hsz hz hb1
  have h34 := textutils_zzHas.calls 3 (some ⟨w.heap.size, 0, none⟩) cb [97] 34 false wb (C_of_ints HR.out) hge (by decide +kernel)
  have H34 := Lib.hid h34
  have h39 := fun nd => textutils_zzHas.calls 3 (some ⟨w.heap.size, 0, none⟩) cb [97] 39 false (wb.drewN nd) (C_of_ints HR.out) hge (by decide +kernel)
  have H39 := Lib.hid h39
  clear h34 h39
  go_enter Try.func76, Try.ntmps76
  go_wp2_with (first
    | (go_at_call 127; go_in)
    | (go_at_call_of 155 (Value.int .u8 34); refine H34.out.mono ?_; rintro e w1 ⟨rfl, ⟨nd, rfl⟩⟩)
    | (go_at_call_of 155 (Value.int .u8 39); refine (H39.out nd).mono ?_; rintro e w2 ⟨rfl, ⟨nd2, rfl⟩⟩))
  refine (surround_any _ 34 _ ?g _ _ [97] (by decide) (by decide) ?r).mono ?_
  case g => exact cell_new _ _ _ _
  case r => exact HR.out.below ((pw_below_drewN (Below.refl _ _) (nd + nd2)).alloc (Nat.le_refl _) _)
  rintro e w3 ⟨v, rfl, hown, hb⟩
  have hown : w3.ownsRow _ 5 1 v 3 (nums .u8 [34, 97, 34]) := hown
  obtain ⟨g3, cp3, rfl, _, _⟩ := hown.form (by simp)
  have hback := own_string (P := Try.prog) Try.underlying103 Try.underlying5 Try.underlying9 hown
  have H3 := Lib.hid hb
  clear hown hb
  go_wp2
  go_ret
  refine ⟨rfl, ?_⟩
  exact below_then ((pw_below_drewN HB.out (nd + nd2)).alloc (by show w.heap.size ≤ wb.heap.size; have := HZ.out; omega) _) (by have := HZ.out; simp; omega) H3.out
theorem lives_a : strOfNums (col (bys ⟨#[97, 32, 32, 98]⟩)) = (⟨#[97, 32, 98]⟩ : ByteArray) := by decide +kernel
set_option maxRecDepth 100000 in
theorem lives_any (w : World) :
    Calls Try.prog 35 #[] w fun e w' => e = .returned (.bool true) ∧ Below w.heap.size w w' := by
  have h1 := fun w => impl_blanks (⟨#[97, 32, 32, 98]⟩) w (by decide)
  rw [lives_a] at h1
  have H1 := Lib.hid h1
  clear h1
  go_enter Try.func35, Try.ntmps35
  go_wp2_with (first | (go_at_call 75; refine (H1.out _).mono ?_; rintro e w1 ⟨rfl, hb1⟩; have HB1 := Lib.hid hb1; clear hb1) | (go_at_call 76; refine (quoted_a _).mono ?_; rintro e w2 ⟨rfl, hb2⟩; have HB2 := Lib.hid hb2; clear hb2))
  go_ret
  exact ⟨rfl, below_then HB1.out HB1.out.size HB2.out⟩
end Go.Proofs.Ytlallihdiffheaa.Hand
end
