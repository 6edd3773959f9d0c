/- commonmark.getUnderlineWidth, impl.Underline, spec.Underline and laws.FnUnderline by hand. -/
import Derived.Test.YticofikbijldiaaUnder
import Derived.Laws.IdiomStrings
namespace Go.Proofs.Yticofikbijldiaa.Hand
open Go.RowKit Go.Proofs.YticofikbijldiaaW.PrintWords Go.Proofs.YticofikbijldiaaW.PrintLast Go.Proofs.YticofikbijldiaaW.PrintMore Go.Proofs.Yticofikbijldiaa.GRu
set_option linter.unusedVariables false
set_option linter.unusedSimpArgs false

theorem runes_len (s : ByteArray) : (runes s).length ≤ s.size := by
  have := rns_length s s.size 0
  unfold runes
  omega
/-- []rune(s). -/
theorem runes_conv (s : ByteArray) (w : World) (hs : s.size ≤ 1048576) : ∃ (W2 : World) (c : Nat), (convert 9 74 (.string s)).run Try.prog w = .ok (.slice (some ⟨w.heap.size, 0, none⟩) (runes s).length c) W2 ∧ (runes s).length ≤ c ∧ (Kd.int .i32).C W2 (some ⟨w.heap.size, 0, none⟩) (runes s).length (runes s) ∧ Below w.heap.size w W2 := by
  have hl : (Conv.runesFrom s s.size 0 #[]).toList = (runes s).map (Value.int .i32) := by
    rw [runesFrom_rns]
    rfl
  have hsz : (Conv.runesFrom s s.size 0 #[]).size = (runes s).length := by
    rw [← Array.length_toList, hl, List.length_map]
  have hle := runes_len s
  have h := run_runes_of_string (P := Try.prog) w 9 74 21 s Try.underlying9 Try.underlying74 Try.underlying21 (by rw [hsz]; omega)
  rw [hsz] at h
  have hcap := grownCap_ge w (runes s).length 0 21
  refine ⟨_, _, h, hcap, ?_, below_alloc (Below.refl _ _).drew _⟩
  refine ⟨rfl, by omega, fun _ => ⟨_, rfl, fun j p hj => ⟨[.int .i32 p], rfl, rfl, fun i u hu => ?_⟩⟩⟩
  rcases i with _ | i
  · simp only [List.getElem?_cons_zero, Option.some.injEq] at hu
    subst hu
    have hjl := (List.getElem?_eq_some_iff.1 hj).1
    have hd : w.drew.heap.size = w.heap.size := rfl
    rw [show (Kd.int IntKind.i32).sz = 1 from rfl, Nat.mul_one, Nat.add_zero, addr_add0, ← hd]
    have hheap : (w.drew.alloc (.cells (Conv.runesFrom s s.size 0 #[] ++ Array.replicate (grownCap w (runes s).length 0 21 - (runes s).length) (.int .i32 0)) 21 (0, 0))).heap[w.drew.heap.size]? = some (.cells (Conv.runesFrom s s.size 0 #[] ++ Array.replicate (grownCap w (runes s).length 0 21 - (runes s).length) (.int .i32 0)) 21 (0, 0)) := heap_alloc_new _ _
    rw [cell_of_row _ _ _ _ _ _ hheap, Array.getElem?_append_left (by omega), ← Array.getElem?_toList, hl, List.getElem?_map, hj]
    rfl
  · simp at hu
theorem line_short : ∀ (s acc : List Int) (x : List Int), x ∈ linesL acc s → x.length ≤ acc.length + s.length
  | [], acc, x, h => by
    simp only [linesL, List.mem_singleton] at h
    subst h
    simp
  | b :: s, acc, x, h => by
    unfold linesL at h
    rw [List.length_cons]
    split at h
    · rcases List.mem_cons.1 h with rfl | h
      · omega
      · have := line_short s [] x h
        rw [List.length_nil] at this
        omega
    · have := line_short s _ x h
      rw [List.length_append, List.length_singleton] at this
      omega
theorem lines_byte (s : ByteArray) : ∀ l ∈ linesL [] (bys s), l.length ≤ s.size := by
  intro l hl
  have := line_short (bys s) [] l hl
  rw [bys_length, List.length_nil] at this
  omega
theorem widest_le (n : Nat) : ∀ (t : List (List Int)) (a : Nat), (∀ l ∈ t, l.length ≤ n) → a ≤ n → widest a t ≤ n
  | [], a, _, h => h
  | l :: t, a, h1, h2 => by
    rw [widest]
    refine widest_le n t _ (fun x hx => h1 x (List.mem_cons_of_mem _ hx)) ?_
    have h3 := cnt_le (runes (strOfNums l))
    have h4 := runes_len (strOfNums l)
    have h5 : (strOfNums l).size = l.length := by rw [← data_length, strOfNums_data, List.length_map]
    have h6 := h1 l List.mem_cons_self
    omega
theorem widest_step {ls : List (List Int)} {j : Nat} (h : j < ls.length) (a : Nat) : widest a (ls.drop j) = widest (max a (cnt (runes (strOfNums ls[j])))) (ls.drop (j + 1)) := by
  rw [List.drop_eq_getElem_cons h, widest]
set_option maxRecDepth 100000 in
set_option maxHeartbeats 1600000 in
theorem width_any (g c : Nat) (s : ByteArray) (m : Nat) (w : World) (hC : (Kd.int .u8).C w (some ⟨g, 0, none⟩) (bys s).length (bys s)) (hc : (bys s).length ≤ c) (hs : s.size ≤ 1048576) (hm : m ≤ 9223372036854775807) :
    Calls Try.prog 75 #[.slice (some ⟨g, 0, none⟩) (bys s).length c, .int .i64 (m : Int)] w fun e w' => e = .returned (.int .i64 ((widest m (linesL [] (bys s)) : Nat) : Int)) ∧ Below w.heap.size w w' := by
  have hz := zzLines_any g c (bys s) w hC hc (by rw [bys_length]; exact hs)
  have hbyte := lines_byte s
  have HZ := Lib.hid hz
  have HBY := Lib.hid hbyte
  clear hC hz hbyte
  generalize linesL [] (bys s) = ls at *
  go_enter Try.func75, Try.ntmps75
  go_wp2_with (go_at_call 83; refine HZ.out.mono ?_; rintro e w1 ⟨v, vs, rfl, hown, hparts, hvl, hb1⟩; obtain ⟨B, cb, rfl⟩ := own_slice hown; have HOWN := Lib.hid hown; have HP := Lib.hid hparts; have HB1 := Lib.hid hb1; clear hown hparts hb1)
  go_loopg [5, 14] vs.length (fun gk wd i0 wr => ∃ (j a : Nat), wd = .int .i64 (a : Int) ∧ i0 = .int .i64 (j : Int) ∧ gk = vs.length - j ∧ j ≤ vs.length ∧ widest a (ls.drop j) = widest 0 ls ∧ a ≤ 1048576 ∧ Below w1.heap.size w1 wr)
  case atStart => exact ⟨0, 0, rfl, rfl, rfl, Nat.zero_le _, rfl, Nat.zero_le _, Below.refl _ _⟩
  case round =>
    obtain ⟨j, a, rfl, rfl, rfl, hj, hwd, ha, hbw⟩ := hrel
    have HBW := Lib.hid hbw
    have HWD := Lib.hid hwd
    by_cases hlt : j < vs.length
    · have h1 : (0 : Int) ≤ (j : Int) := by omega
      have h2 : (j : Int) < (vs.length : Int) := by omega
      have hd : decide ((j : Int) < (vs.length : Int)) = true := decide_eq_true h2
      have hlj : j < ls.length := by rw [← HP.out.1]; exact hlt
      obtain ⟨A, cj, hv, hcj, hCj⟩ := HP.out.2 j vs[j] ls[j] (List.getElem?_eq_getElem hlt) (List.getElem?_eq_getElem hlj)
      obtain ⟨g2, cap, hB, hgl⟩ : ∃ g2 cap, Value.slice B vs.length cb = .slice (some ⟨g2, 0, none⟩) vs.length cap ∧ g2 < w1.heap.size := by
        obtain ⟨g2, cap, e1, _, _⟩ := HOWN.out.form (by omega)
        exact ⟨g2, cap, e1, own_lt HOWN.out g2 (by rw [e1]; rfl)⟩
      injection hB with hB1 _ hB2
      subst hB1 hB2
      have hx := HOWN.out.cells (g := g2) rfl j vs[j] (List.getElem?_eq_getElem hlt)
      rw [addr_add0] at hx
      have hx2 := (hbw.cell (p := ⟨g2, j, none⟩) hgl).trans hx
      rw [hv] at hx2
      have hCw := Kd.C_below (Kd.C_below hCj HB1.out) hbw
      have hconv := Kd.C_string (P := Try.prog) (c := cj) Try.underlying45 Try.underlying5 Try.underlying9 hCw
      have hsl : (strOfNums ls[j]).size ≤ 1048576 := by
        have := HBY.out ls[j] (List.getElem_mem hlj)
        have h5 : (strOfNums ls[j]).size = ls[j].length := by rw [← data_length, strOfNums_data, List.length_map]
        omega
      obtain ⟨W2, cr, hrun, hcr, hCr, hbr⟩ := runes_conv (strOfNums ls[j]) wr hsl
      have hrl := runes_len (strOfNums ls[j])
      have hcall := commonmark_runeCount.calls _ (some ⟨wr.heap.size, 0, none⟩) cr (runes (strOfNums ls[j])) _ W2 hCr hcr (count_f _ (by omega))
      have hstep := widest_step hlj a
      have hcl := cnt_le (runes (strOfNums ls[j]))
      have HCALL := Lib.hid hcall
      have HSTEP := Lib.hid hstep
      have HBR := Lib.hid hbr
      generalize strOfNums ls[j] = t at *
      generalize hq : cnt (runes t) = q at *
      generalize ls[j] = lj at *
      generalize runes t = rt at *
      have hq6 : q ≤ 1048576 := by omega
      clear hv hcj hCj hx hCw hCr hcall hstep hbr hwd hbw hq hcl hrl
      by_cases hgt : a < q
      · have hd2 : decide ((q : Int) > (a : Int)) = true := decide_eq_true (by omega)
        go_wp2_with (go_at_call 84; refine HCALL.out.mono ?_; rintro e w3 ⟨rfl, ⟨nd, rfl⟩⟩)
        go_roundg (vs.length - (j + 1))
        case measure => omega
        case rel => exact ⟨j + 1, q, rfl, by first | (rw [show wrap64 ((j : Int) + 1) = ((j + 1 : Nat) : Int) by unfold wrap64; omega]) | simp, rfl, by omega, by rw [← HWD.out, HSTEP.out, Nat.max_eq_right (Nat.le_of_lt hgt)], hq6, pw_below_drewN (below_then HBW.out HBW.out.size HBR.out) nd⟩
      · have hd2 : decide ((q : Int) > (a : Int)) = false := decide_eq_false (by omega)
        go_wp2_with (go_at_call 84; refine HCALL.out.mono ?_; rintro e w3 ⟨rfl, ⟨nd, rfl⟩⟩)
        go_roundg (vs.length - (j + 1))
        case measure => omega
        case rel => exact ⟨j + 1, a, rfl, by first | (rw [show wrap64 ((j : Int) + 1) = ((j + 1 : Nat) : Int) by unfold wrap64; omega]) | simp, rfl, by omega, by rw [← HWD.out, HSTEP.out, Nat.max_eq_left (by omega)], ha, pw_below_drewN (below_then HBW.out HBW.out.size HBR.out) nd⟩
    · obtain rfl : j = vs.length := by omega
      have hd : decide ((vs.length : Int) < (vs.length : Int)) = false := decide_eq_false (by omega)
      have hfin : widest m ls = max m a := by
        rw [widest_max, ← hwd, HP.out.1, List.drop_length]
        rfl
      have HFIN := Lib.hid hfin
      clear hwd hbw hfin
      by_cases hlt2 : a < m
      · have hd3 : decide ((a : Int) < (m : Int)) = true := decide_eq_true (by omega)
        go_wp2
        go_ret
        refine ⟨?_, below_then HB1.out HB1.out.size HBW.out⟩
        rw [HFIN.out, Nat.max_eq_left (by omega)]
        rfl
      · have hd3 : decide ((a : Int) < (m : Int)) = false := decide_eq_false (by omega)
        go_wp2
        go_ret
        refine ⟨?_, below_then HB1.out HB1.out.size HBW.out⟩
        rw [HFIN.out, Nat.max_eq_right (by omega)]
        rfl
set_option maxRecDepth 100000 in
set_option maxHeartbeats 800000 in
theorem impl_underline (s : ByteArray) (m : Nat) (w : World) (hs : s.size ≤ 1048576) (hm : m ≤ 9223372036854775807) :
    Calls Try.prog 29 #[.string s, .int .i64 (m : Int)] w fun e w' => e = .returned (.int .i64 ((widest m (linesL [] (bys s)) : Nat) : Int)) ∧ Below w.heap.size w w' := by
  have hconv := fun W => run_bytesW (P := Try.prog) 9 45 5 s Try.underlying9 Try.underlying45 Try.underlying5 W
  have hb1 : Below w.heap.size w (bytesW w s 5) := bytesW_below (Below.refl _ _) (Nat.le_refl _) _ _
  have hcall := width_any w.heap.size (bcap w s 5) s m (bytesW w s 5) (bytesW_C w s 5 (by omega)) (by rw [bys_length]; exact bcap_ge _ _ _) hs hm
  rw [bys_length] at hcall
  have HC := Lib.hid hcall
  have HB1 := Lib.hid hb1
  clear hcall hb1
  go_enter Try.func29, Try.ntmps29
  go_wp2_with (first | (go_at_call 55; go_in) | (go_at_call 75; refine HC.out.mono ?_; rintro e w' ⟨rfl, hb⟩; have HB := Lib.hid hb; clear hb))
  go_ret
  exact ⟨rfl, below_then HB1.out HB1.out.size HB.out⟩
theorem max_val (a b : Nat) : Value.int .i64 (if (a : Int) < (b : Int) then (b : Int) else (a : Int)) = .int .i64 ((max a b : Nat) : Int) := by
  congr 1
  split <;> omega
set_option maxRecDepth 100000 in
set_option maxHeartbeats 1600000 in
theorem spec_underline (s : ByteArray) (m : Nat) (w : World) (hs : s.size ≤ 1048576) (hm : m ≤ 9223372036854775807) :
    Calls Try.prog 30 #[.string s, .int .i64 (m : Int)] w fun e w' => e = .returned (.int .i64 ((widest m (linesL [] (bys s)) : Nat) : Int)) ∧ Below w.heap.size w w' := by
  obtain ⟨L, hL, hLl, hLn⟩ := slines_f s hs
  have hbyte := lines_byte s
  have hlines := fun W => spec_Lines.calls (s.size + 1) s L W hL
  have HLINES := Lib.hid hlines
  have HLL := Lib.hid hLl
  have HBY := Lib.hid hbyte
  clear hL hlines hLl hbyte
  generalize linesL [] (bys s) = ls at *
  go_enter Try.func30, Try.ntmps30
  go_wp2_with (go_at_call 56; refine (HLINES.out _).mono ?_; rintro e w1 ⟨v, rfl, hr, hb1⟩; obtain ⟨A, c, rfl, hlc, hC⟩ := Kd.R_reads hr; have HC := Lib.hid hC; have HB1 := Lib.hid hb1; clear hr hb1 hC)
  go_loopg [1, 10] L.length (fun gk wd i0 wr => ∃ (j a : Nat), wd = .int .i64 (a : Int) ∧ i0 = .int .i64 (j : Int) ∧ gk = L.length - j ∧ j ≤ L.length ∧ widest a (ls.drop j) = widest m ls ∧ a ≤ 9223372036854775807 ∧ Below w1.heap.size w1 wr)
  case atStart => exact ⟨0, m, rfl, rfl, rfl, Nat.zero_le _, rfl, hm, Below.refl _ _⟩
  case round =>
    obtain ⟨j, a, rfl, rfl, rfl, hj, hwd, ha, hbw⟩ := hrel
    have HBW := Lib.hid hbw
    have HWD := Lib.hid hwd
    have hll : ls.length = L.length := by rw [← HLL.out, List.length_map]
    by_cases hlt : j < L.length
    · have h1 : (0 : Int) ≤ (j : Int) := by omega
      have h2 : (j : Int) < (L.length : Int) := by omega
      have hd : decide ((j : Int) < (L.length : Int)) = true := decide_eq_true h2
      have hlj : j < ls.length := by rw [hll]; exact hlt
      obtain ⟨ad, rfl, hx⟩ := Kd.at_string (Kd.C_below HC.out hbw) (j : Int) h1 h2
      rw [Int.toNat_natCast] at hx
      have e : rdOf ByteArray.empty L (j : Int) = strOfNums ls[j] := by
        have e1 : rdOf ByteArray.empty L (j : Int) = L[j] := by simp [rdOf, hlt]
        have e2 : ls[j] = bys L[j] := by simp [← HLL.out]
        rw [e1, e2, str_bys]
      rw [e] at hx
      have hsl : (strOfNums ls[j]).size ≤ 1048576 := by
        have := HBY.out ls[j] (List.getElem_mem hlj)
        have h5 : (strOfNums ls[j]).size = ls[j].length := by rw [← data_length, strOfNums_data, List.length_map]
        omega
      have hrl := runes_len (strOfNums ls[j])
      have hcl := cnt_le (runes (strOfNums ls[j]))
      have hcall := runes_any (strOfNums ls[j]) wr (by omega)
      have hstep := widest_step hlj a
      have HCALL := Lib.hid hcall
      have HSTEP := Lib.hid hstep
      generalize strOfNums ls[j] = t at *
      generalize hq : cnt (runes t) = q at *
      have hq6 : q ≤ 1048576 := by omega
      clear hcall hstep hwd hbw hq hcl hrl e
      go_wp2_with (go_at_call 57; refine HCALL.out.mono ?_; rintro e w3 ⟨rfl, hb3⟩; have HB3 := Lib.hid hb3; clear hb3)
      · go_roundg (L.length - (j + 1))
        case measure => omega
        case rel => exact ⟨j + 1, q, rfl, by first | (rw [show wrap64 ((j : Int) + 1) = ((j + 1 : Nat) : Int) by unfold wrap64; omega]) | simp, rfl, by omega, by rw [← HWD.out, HSTEP.out, Nat.max_eq_right (by omega)], by omega, below_then HBW.out HBW.out.size HB3.out⟩
      · go_roundg (L.length - (j + 1))
        case measure => omega
        case rel => exact ⟨j + 1, a, rfl, by first | (rw [show wrap64 ((j : Int) + 1) = ((j + 1 : Nat) : Int) by unfold wrap64; omega]) | simp, rfl, by omega, by rw [← HWD.out, HSTEP.out, Nat.max_eq_left (by omega)], ha, below_then HBW.out HBW.out.size HB3.out⟩
    · obtain rfl : j = L.length := by omega
      have hd : decide ((L.length : Int) < (L.length : Int)) = false := decide_eq_false (by omega)
      have hfin : widest m ls = a := by
        rw [← hwd, ← hll, List.drop_length]
        rfl
      have HFIN := Lib.hid hfin
      clear hwd hbw hfin
      go_wp2
      go_ret
      refine ⟨?_, below_then HB1.out HB1.out.size HBW.out⟩
      rw [HFIN.out]
      rfl
set_option maxRecDepth 100000 in
set_option maxHeartbeats 1600000 in
theorem law_underline (s : ByteArray) (m : Int) (w : World) (hs : s.size ≤ 140737488351232) (hm : -9223372036854775808 ≤ m ∧ m ≤ 9223372036854775807) :
    Calls Try.prog 8 #[.string s, .int .i64 m] w fun e w' => e = .returned (.bool true) ∧ Below w.heap.size w w' := by
  by_cases h1 : s.size ≤ 2147483647
  · have c1 : decide ((s.size : Int) > 2147483647) = false := decide_eq_false (by omega)
    by_cases h2 : s.size ≤ 1048576
    · have c2 : decide ((s.size : Int) > 1048576) = false := decide_eq_false (by omega)
      by_cases h3 : m < 0
      · have c3 : decide (m < 0) = true := decide_eq_true h3
        go_enter Try.func8, Try.ntmps8
        go_wp2
        go_ret
        exact ⟨rfl, Below.refl _ _⟩
      · have c3 : decide (m < 0) = false := decide_eq_false h3
        obtain ⟨n, rfl⟩ : ∃ n : Nat, m = (n : Int) := ⟨m.toNat, by omega⟩
        have hn : n ≤ 9223372036854775807 := by omega
        go_enter Try.func8, Try.ntmps8
        go_wp2_with (first
          | (go_at_call 29; refine (impl_underline s n _ h2 hn).mono ?_; rintro e w1 ⟨rfl, hb1⟩; have HB1 := Lib.hid hb1; clear hb1)
          | (go_at_call 30; refine (spec_underline s n _ h2 hn).mono ?_; rintro e w2 ⟨rfl, hb2⟩; have HB2 := Lib.hid hb2; clear hb2))
        go_ret
        exact ⟨by simp, below_then HB1.out HB1.out.size HB2.out⟩
    · have c2 : decide ((s.size : Int) > 1048576) = true := decide_eq_true (by omega)
      go_enter Try.func8, Try.ntmps8
      go_wp2
      go_ret
      exact ⟨rfl, Below.refl _ _⟩
  · have c1 : decide ((s.size : Int) > 2147483647) = true := decide_eq_true (by omega)
    go_enter Try.func8, Try.ntmps8
    go_wp2
    go_ret
    exact ⟨rfl, Below.refl _ _⟩
end Go.Proofs.Yticofikbijldiaa.Hand
