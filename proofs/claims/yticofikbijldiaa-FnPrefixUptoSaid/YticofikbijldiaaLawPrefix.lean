/- impl.Prefix and laws.FnPrefix by hand: the walks. -/
import Derived.Test.YticofikbijldiaaPrefixPure
import Derived.Lib.BufferWrite
namespace Go.Proofs.Yticofikbijldiaa.Hand
open Go.RowKit Go.Proofs.YticofikbijldiaaW.PrintWords Go.Proofs.YticofikbijldiaaW.PrintLast Go.Proofs.YticofikbijldiaaW.PrintMore Go.Proofs.Yticofikbijldiaa.GPf
set_option linter.unusedVariables false
set_option linter.unusedSimpArgs false

set_option maxRecDepth 100000 in
set_option maxHeartbeats 800000 in
theorem impl_prefix (s t : ByteArray) (w : World) (hs : s.size ≤ 1048576) (ht : t.size ≤ 1048576) :
    Calls Try.prog 16 #[.string s, .string t] w fun e w' => e = .returned (.string (strOfNums (bys t ++ pl (bys t) (bys s)))) ∧ Below w.heap.size w w' := by
  have hconv := fun W => run_bytesW (P := Try.prog) 9 45 5 s Try.underlying9 Try.underlying45 Try.underlying5 W
  have hconv2 := fun W => run_bytesW (P := Try.prog) 9 45 5 t Try.underlying9 Try.underlying45 Try.underlying5 W
  have hb1 : Below w.heap.size w (bytesW w s 5) := bytesW_below (Below.refl _ _) (Nat.le_refl _) _ _
  have hb2 : Below (bytesW w s 5).heap.size (bytesW w s 5) (bytesW (bytesW w s 5) t 5) := bytesW_below (Below.refl _ _) (Nat.le_refl _) _ _
  have hf := prefix_f (bys t) (bys s) (by rw [bys_length]; exact hs) (by rw [bys_length]; exact ht)
  have hcall := textutils_PrefixLines.calls ((bys s).length + 1) (some ⟨w.heap.size, 0, none⟩) (bcap w s 5) (bys s) (some ⟨(bytesW w s 5).heap.size, 0, none⟩) (bcap (bytesW w s 5) t 5) (bys t) _ (bytesW (bytesW w s 5) t 5) (Kd.C_below (bytesW_C w s 5 (by omega)) hb2) (by rw [bys_length]; exact bcap_ge _ _ _) (bytesW_C (bytesW w s 5) t 5 (by omega)) (by rw [bys_length]; exact bcap_ge _ _ _) hf
  rw [bys_length, bys_length] at hcall
  have hB : Below w.heap.size w (bytesW (bytesW w s 5) t 5) := below_then hb1 hb1.size hb2
  have HC := Lib.hid hcall
  have HB0 := Lib.hid hB
  clear hcall hf hb1 hb2 hB
  go_enter Try.func16, Try.ntmps16
  go_wp2_with (go_at_call 44; refine HC.out.mono ?_; rintro e w' ⟨v, rfl, hr, hb⟩; have hback := own_string (P := Try.prog) Try.underlying45 Try.underlying5 Try.underlying9 (Kd.own_of_R hr); have HB := Lib.hid hb; clear hr hb)
  go_ret
  exact ⟨rfl, below_then HB0.out HB0.out.size HB.out⟩
/-- The lines so far: the first j have the prefix ahead. -/
def upTo (t : ByteArray) (L : List ByteArray) (j : Nat) : List ByteArray := (L.take j).map (t ++ ·) ++ L.drop j
theorem upTo_length (t : ByteArray) (L : List ByteArray) (j : Nat) (h : j ≤ L.length) : (upTo t L j).length = L.length := by
  simp [upTo]
  omega
theorem upTo_at (t : ByteArray) (L : List ByteArray) (j : Nat) (h : j < L.length) : rdOf ByteArray.empty (upTo t L j) (j : Int) = L[j] := by
  unfold rdOf upTo
  rw [Int.toNat_natCast, List.getD_eq_getElem?_getD, List.getElem?_append_right (by simp; omega)]
  simp [Nat.min_eq_left (Nat.le_of_lt h), h]
theorem upTo_set (t : ByteArray) (L : List ByteArray) (j : Nat) (h : j < L.length) : (upTo t L j).set j (t ++ L[j]) = upTo t L (j + 1) := by
  unfold upTo
  rw [List.set_append_right _ _ (by simp; omega), List.take_succ_eq_append_getElem h, List.map_append, List.append_assoc]
  congr 1
  rw [List.length_map, List.length_take, Nat.min_eq_left (Nat.le_of_lt h), Nat.sub_self, List.drop_eq_getElem_cons h]
  rfl
theorem upTo_end (t : ByteArray) (L : List ByteArray) : upTo t L L.length = L.map (t ++ ·) := by simp [upTo]
theorem line_small : ∀ (s acc : List Int) (x : List Int), x ∈ linesL acc s → x.length ≤ acc.length + s.length
  | [], acc, x, h => by
    simp only [linesL, List.mem_singleton] at h
    subst h
    simp
  | b :: s, acc, x, h => by
    unfold linesL at h
    rw [List.length_cons]
    split at h
    · rcases List.mem_cons.1 h with rfl | h
      · omega
      · have := line_small s [] x h
        rw [List.length_nil] at this
        omega
    · have := line_small s _ x h
      rw [List.length_append, List.length_singleton] at this
      omega
theorem law_joined {t : ByteArray} {L : List ByteArray} {wr w2 : World} {base g c k : Nat} {r : ByteArray} (hr : Kd.R Kd.string 9 wr base (fun _ => True) (.slice (some ⟨g, 0, none⟩) L.length c) (upTo t L L.length)) (hb : Below wr.heap.size wr w2) (hf : spec_Joined29.f k (L.map (t ++ ·)) = some r) :
    Calls Try.prog 17 #[.slice (some ⟨g, 0, none⟩) L.length c] w2 fun e w' => e = .returned (.string r) ∧ Below w2.heap.size w2 w' := by
  rw [upTo_end] at hr
  obtain ⟨hn, hc, hC⟩ := Kd.R_reads' hr
  have h := spec_Joined29.calls k (some ⟨g, 0, none⟩) c (L.map (t ++ ·)) r w2 (Kd.C_below hC hb) (by omega) hf
  rw [← hn] at h
  exact h
set_option maxRecDepth 100000 in
set_option maxHeartbeats 1600000 in
theorem law_prefix (s t : ByteArray) (w : World) (hs : s.size ≤ 1048576) (ht : t.size ≤ 1048576) :
    Calls Try.prog 3 #[.string s, .string t] w fun e w' => e = .returned (.bool true) ∧ Below w.heap.size w w' := by
  obtain ⟨L, hL, hLl, hLn⟩ := lines_f s hs
  have hlines := fun W => spec_Lines29.calls (s.size + 1) s L W hL
  have hjoin : (joinL ((L.map (t ++ ·)).map bys)) = bys t ++ pl (bys t) (bys s) := by
    have e : (L.map (t ++ ·)).map bys = (L.map bys).map (bys t ++ ·) := by
      rw [List.map_map, List.map_map]
      exact List.map_congr_left fun x _ => bys_append t x
    rw [e, hLl, join_lines, List.append_nil]
  have hpos : 0 < L.length := by
    obtain ⟨x, r, e⟩ := linesL_ne [] (bys s)
    have h := congrArg List.length hLl
    rw [List.length_map, e, List.length_cons] at h
    omega
  have hlen : (joinL ((L.map (t ++ ·)).map bys)).length < 140737488355328 := by
    rw [hjoin, List.length_append, bys_length]
    have h1 := pl_length (bys t) (bys s)
    rw [bys_length, bys_length] at h1
    have h2 : (1 + t.size) * s.size ≤ 1048577 * 1048576 := Nat.mul_le_mul (by omega) hs
    omega
  have hjf := join_f (L.map (t ++ ·)) (by rw [List.length_map]; exact hLn) (by rw [List.length_map]; exact hpos) hlen
  rw [hjoin] at hjf
  have hsmall : ∀ x ∈ L, x.size ≤ 1048576 := by
    intro x hx
    have h := line_small (bys s) [] (bys x) (hLl ▸ List.mem_map.2 ⟨x, hx, rfl⟩)
    rw [bys_length, bys_length, List.length_nil] at h
    omega
  have HLINES := Lib.hid hlines
  have HJF := Lib.hid hjf
  have HSM := Lib.hid hsmall
  clear hL hLl hlines hjoin hlen hjf hsmall
  have c1 : decide ((s.size : Int) > 2147483647) = false := decide_eq_false (by omega)
  have c2 : decide ((t.size : Int) > 2147483647) = false := decide_eq_false (by omega)
  go_enter Try.func3, Try.ntmps3
  go_wp2_with (go_at_call 15; refine (HLINES.out _).mono ?_; rintro e w1 ⟨v, rfl, hr, hb1⟩; obtain ⟨A, c, rfl, hlc, hC⟩ := Kd.R_reads hr; have HR := Lib.hid hr; have HB1 := Lib.hid hb1; clear hr hb1 hlc hC)
  obtain ⟨g, hg, hgb⟩ : ∃ g, A = some ⟨g, 0, none⟩ ∧ w.heap.size ≤ g := by
    have ho := Kd.own_of_R HR.out
    obtain ⟨g, cap, h1, _, _⟩ := ho.form hpos
    injection h1 with h1
    refine ⟨g, h1, own_base ho g ?_⟩
    rw [h1]
    rfl
  subst hg
  go_loopg [20] L.length (fun gk i0 wr => ∃ j : Nat, i0 = .int .i64 (j : Int) ∧ gk = L.length - j ∧ j ≤ L.length ∧ Kd.R Kd.string 9 wr w.heap.size (fun _ => True) (.slice (some ⟨g, 0, none⟩) L.length c) (upTo t L j) ∧ Below w.heap.size w wr)
  case atStart => exact ⟨0, rfl, rfl, Nat.zero_le _, HR.out, HB1.out⟩
  case round =>
    obtain ⟨j, rfl, rfl, hj, hr, hbw⟩ := hrel
    have HRJ := Lib.hid hr
    have HBW := Lib.hid hbw
    by_cases hlt : j < L.length
    · have h1 : (0 : Int) ≤ (j : Int) := by omega
      have h2 : (j : Int) < (L.length : Int) := by omega
      have hd : decide ((j : Int) < (L.length : Int)) = true := decide_eq_true h2
      obtain ⟨k0, kf⟩ := Kd.R_celln ByteArray.empty hr (j : Int) h1 h2
      rw [upTo_at t L j hlt, Int.toNat_natCast] at k0
      rw [Int.toNat_natCast] at kf
      have hput := Kd.R_putg hr (j : Int) (t ++ L[j])
      rw [Int.toNat_natCast, upTo_set t L j hlt] at hput
      have hsz := HSM.out L[j] (List.getElem_mem hlt)
      have HPUT := Lib.hid hput
      generalize L[j] = x at *
      clear hr hbw hput
      go_wp2
      go_roundg (L.length - (j + 1))
      case measure => omega
      case rel => exact ⟨j + 1, by first | (rw [show wrap64 ((j : Int) + 1) = ((j + 1 : Nat) : Int) by unfold wrap64; omega]) | simp, rfl, by omega, HPUT.out.1, HBW.out.grown HPUT.out.2 HBW.out.size (fun z hz => by have := Option.some.inj hz; omega)⟩
    · have hd : decide ((j : Int) < (L.length : Int)) = false := decide_eq_false (by omega)
      obtain rfl : j = L.length := by omega
      clear hr hbw
      go_wp2_with (first
        | (go_at_call 16; refine (impl_prefix s t _ hs ht).mono ?_; rintro e w2 ⟨rfl, hb2⟩; have HB2 := Lib.hid hb2; clear hb2)
        | (go_at_call 17; refine (law_joined HRJ.out HB2.out HJF.out).mono ?_; rintro e w3 ⟨rfl, hb3⟩; have HB3 := Lib.hid hb3; clear hb3))
      go_ret
      refine ⟨?_, below_then (below_then HBW.out HBW.out.size HB2.out) (by have := HBW.out.size; have := HB2.out.size; omega) HB3.out⟩
      simp
end Go.Proofs.Yticofikbijldiaa.Hand
