/- spec.Runes, commonmark.zzLines, commonmark.getUnderlineWidth, impl.Underline and spec.Underline by hand. -/
import Derived.Test.YticofikbijldiaaUnderPure
namespace Go.Proofs.Yticofikbijldiaa.Hand
open Go.RowKit Go.Proofs.YticofikbijldiaaW.PrintWords Go.Proofs.YticofikbijldiaaW.PrintLast Go.Proofs.YticofikbijldiaaW.PrintMore Go.Proofs.Yticofikbijldiaa.GRu
set_option linter.unusedVariables false
set_option linter.unusedSimpArgs false

set_option maxRecDepth 100000 in
theorem runes_any (s : ByteArray) (w : World) (hs : s.size ≤ 2147483647) :
    Calls Try.prog 57 #[.string s] w fun e w' => e = .returned (.int .i64 ((cnt (runes s) : Nat) : Int)) ∧ Below w.heap.size w w' := by
  go_enter Try.func57, Try.ntmps57
  go_wp2
  go_loopw [3] (fun m w' => ∃ (pos b a : Nat), w' = w.iter s pos ∧ m = .int .i64 a ∧ a + cnt (rns s b pos) = cnt (runes s) ∧ s.size ≤ pos + b ∧ a ≤ pos ∧ pos ≤ s.size + 4) (fun _ w' => s.size - w'.iterPos w.heap.size)
  case atStart => exact ⟨0, s.size, 0, rfl, rfl, by rw [Nat.zero_add]; rfl, by omega, by omega, by omega⟩
  case round =>
    obtain ⟨pos, b, a, rfl, rfl, hc, hb, ha, hpos⟩ := hrel
    have HC := Lib.hid hc
    clear hc
    by_cases hp : pos < s.size
    · have hnx : ∀ ty, (Instr.next (.pointer (some ⟨w.heap.size, 0, none⟩)) true ty).run Try.prog (w.iter s pos) = _ := fun ty => run_next_any w s pos ty hp
      obtain ⟨b', hbe, hb2, hr⟩ := rns_more s b pos hp hb
      have hw := width_pos s pos hp
      have hw4 := width_le s pos
      have HR := Lib.hid hr
      have HE := Lib.hid hbe
      clear hr hbe
      go_wp2
      · have e := bne_of _ _ (by assumption : (((Utf8.decode s pos).1 : Int) != 7) = true)
        have E := Lib.hid e
        clear e
        go_roundw
        case rel =>
          refine ⟨_, b', a + 1, rfl, by go_num, ?_, by omega, by omega, by omega⟩
          have hc := HC.out
          rw [HR.out, cnt, if_neg E.out] at hc
          omega
        case measure =>
          simp
          omega
      · have e := eq_of_bne _ _ (by assumption : (((Utf8.decode s pos).1 : Int) != 7) = false)
        have E := Lib.hid e
        clear e
        go_roundw
        case rel =>
          refine ⟨_, b', a, rfl, rfl, ?_, by omega, by omega, by omega⟩
          have hc := HC.out
          rw [HR.out, cnt, if_pos E.out] at hc
          exact hc
        case measure =>
          simp
          omega
    · have hnx : ∀ ty, (Instr.next (.pointer (some ⟨w.heap.size, 0, none⟩)) true ty).run Try.prog (w.iter s pos) = _ := fun ty => run_next_end w s pos ty hp
      go_wp2
      go_ret
      have hc := HC.out
      rw [rns_end s b pos hp] at hc
      exact ⟨by rw [← hc]; rfl, (Below.refl _ _).alloc (Nat.le_refl _) _⟩
/-- A part of a row of bytes that came in. -/
def Part (w : World) (v : Value) (l : List Int) : Prop := ∃ A c, v = .slice A l.length c ∧ l.length ≤ c ∧ (Kd.int .u8).C w A l.length l
def Parts (w : World) (vs : List Value) (ls : List (List Int)) : Prop := vs.length = ls.length ∧ ∀ (i : Nat) (v : Value) (l : List Int), vs[i]? = some v → ls[i]? = some l → Part w v l
theorem Parts.snoc {w : World} {vs : List Value} {ls : List (List Int)} {v : Value} {l : List Int} (h : Parts w vs ls) (hp : Part w v l) : Parts w (vs ++ [v]) (ls ++ [l]) := by
  refine ⟨by simp [h.1], fun i v' l' hv hl => ?_⟩
  by_cases hi : i < vs.length
  · rw [List.getElem?_append_left hi] at hv
    rw [List.getElem?_append_left (by rw [← h.1]; exact hi)] at hl
    exact h.2 i v' l' hv hl
  · have h2 := (List.getElem?_eq_some_iff.1 hv).1
    rw [List.length_append, List.length_singleton] at h2
    obtain rfl : i = vs.length := by omega
    rw [List.getElem?_append_right (Nat.le_refl _)] at hv
    rw [h.1, List.getElem?_append_right (Nat.le_refl _)] at hl
    simp at hv hl
    subst hv hl
    exact hp
theorem part_mid {w : World} {g a i : Nat} {xs : List Int} (hC : (Kd.int .u8).C w (some ⟨g, 0, none⟩) xs.length xs) (ha : a ≤ i) (hi : i ≤ xs.length) : Part w (.slice (if i = a then some ⟨g, 0, none⟩ else (some (⟨g, 0, none⟩ : Addr)).map (·.add (a * 1))) (i - a) (i - a)) ((xs.drop a).take (i - a)) := by
  have h1 := Kd.C_take hC hi
  have hl : (xs.take i).length = i := by rw [List.length_take]; omega
  have h2 := Kd.C_drop (c := i) h1 (show a ≤ (xs.take i).length by omega) (by omega)
  rw [List.drop_take] at h2
  have hl2 : ((xs.drop a).take (i - a)).length = i - a := by rw [List.length_take, List.length_drop]; omega
  exact ⟨_, i - a, by rw [hl2]; rfl, by omega, h2⟩
theorem part_end {w : World} {g c a : Nat} {xs : List Int} (hC : (Kd.int .u8).C w (some ⟨g, 0, none⟩) xs.length xs) (ha : a ≤ xs.length) (hc : xs.length ≤ c) : Part w (.slice (if c = a then some ⟨g, 0, none⟩ else (some (⟨g, 0, none⟩ : Addr)).map (·.add (a * 1))) (xs.length - a) (c - a)) (xs.drop a) := by
  have h2 := Kd.C_drop (c := c) hC ha hc
  exact ⟨_, c - a, by rw [List.length_drop]; rfl, by rw [List.length_drop]; omega, h2⟩
theorem addr_add0 (g a : Nat) : (⟨g, 0, none⟩ : Addr).add a = ⟨g, a, none⟩ := by unfold Addr.add; split <;> simp_all
theorem cellNew (w : World) (v : Value) (t : TypeId) (fr : Nat × Nat) : (w.alloc (.cells #[v] t fr)).cell? ⟨w.heap.size, 0, none⟩ = some v := by
  have h : (w.alloc (.cells #[v] t fr)).heap[w.heap.size]? = some (.cells #[v] t fr) := heap_alloc_new _ _
  simp only [World.cell?, h]
  rfl
theorem part_same {w : World} {g i : Nat} {xs : List Int} (hC : (Kd.int .u8).C w (some ⟨g, 0, none⟩) xs.length xs) (hi : i ≤ xs.length) : Part w (.slice (some ⟨g, 0, none⟩) 0 0) ((xs.drop i).take (i - i)) := by
  have h := part_mid hC (Nat.le_refl i) hi
  rw [if_pos rfl, Nat.sub_self] at h
  rw [Nat.sub_self]
  exact h
theorem part_other {w : World} {g a i : Nat} {xs : List Int} (hC : (Kd.int .u8).C w (some ⟨g, 0, none⟩) xs.length xs) (ha : a ≤ i) (hi : i ≤ xs.length) (hia : ¬ i = a) : Part w (.slice (some ⟨g, a, none⟩) (i - a) (i - a)) ((xs.drop a).take (i - a)) := by
  have h := part_mid hC ha hi
  rw [if_neg hia, Option.map_some, Nat.mul_one, addr_add0] at h
  exact h
theorem part_end0 {w : World} {g a : Nat} {xs : List Int} (hC : (Kd.int .u8).C w (some ⟨g, 0, none⟩) xs.length xs) (ha : a = xs.length) : Part w (.slice (some ⟨g, 0, none⟩) 0 0) (xs.drop a) := by
  subst ha
  have h := part_end (c := xs.length) hC (Nat.le_refl _) (Nat.le_refl _)
  rw [if_pos rfl, Nat.sub_self] at h
  exact h
theorem part_end1 {w : World} {g c a : Nat} {xs : List Int} (hC : (Kd.int .u8).C w (some ⟨g, 0, none⟩) xs.length xs) (ha : a ≤ xs.length) (hc : xs.length ≤ c) (hca : ¬ c = a) : Part w (.slice (some ⟨g, a, none⟩) (xs.length - a) (c - a)) (xs.drop a) := by
  have h := part_end hC ha hc
  rw [if_neg hca, Option.map_some, Nat.mul_one, addr_add0] at h
  exact h
theorem lines_last {xs : List Int} {a : Nat} {ls : List (List Int)} (h : linesL [] xs = ls ++ linesL ((xs.drop a).take (xs.length - a)) (xs.drop xs.length)) : linesL [] xs = ls ++ [xs.drop a] := by
  rw [h, List.drop_length, linesL, List.take_of_length_le (by rw [List.length_drop]; exact Nat.le_refl _)]
theorem lines_next {xs : List Int} {i a : Nat} {ls : List (List Int)} (hi : i < xs.length) (hx : rd xs (i : Int) = 10) (h : linesL [] xs = ls ++ linesL ((xs.drop a).take (i - a)) (xs.drop i)) : linesL [] xs = (ls ++ [(xs.drop a).take (i - a)]) ++ linesL ((xs.drop (i + 1)).take (i + 1 - (i + 1))) (xs.drop (i + 1)) := by
  have e : rd xs (i : Int) = xs[i] := by simp [rd, hi]
  rw [h, List.drop_eq_getElem_cons hi, ← e, hx, linesL, if_pos rfl, Nat.sub_self, List.append_assoc]
  rfl
theorem lines_on {xs : List Int} {i a : Nat} {ls : List (List Int)} {x : Int} (ha : a ≤ i) (hi : i < xs.length) (hx : rd xs (i : Int) = x) (hne : ¬ x = 10) (h : linesL [] xs = ls ++ linesL ((xs.drop a).take (i - a)) (xs.drop i)) : linesL [] xs = ls ++ linesL ((xs.drop a).take (i + 1 - a)) (xs.drop (i + 1)) := by
  have e : rd xs (i : Int) = xs[i] := by simp [rd, hi]
  rw [h, List.drop_eq_getElem_cons hi, linesL, if_neg (by rw [← e, hx]; exact hne), take_next xs a i ha hi]
set_option maxRecDepth 100000 in
theorem infoBytesSl : (Try.prog.info? 45).map (fun i => (i.zero, i.size, i.bytes)) = some (some (.slice none 0 0), 1, 24) := by kernel_rfl
set_option maxRecDepth 100000 in
set_option maxHeartbeats 1600000 in
theorem zzLines_any (g c : Nat) (xs : List Int) (w : World) (hC : (Kd.int .u8).C w (some ⟨g, 0, none⟩) xs.length xs) (hc : xs.length ≤ c) (hl : xs.length ≤ 1048576) :
    Calls Try.prog 83 #[.slice (some ⟨g, 0, none⟩) xs.length c] w fun e w' => ∃ v vs, e = .returned v ∧ w'.ownsRow w.heap.size 45 1 v vs.length vs ∧ Parts w vs (linesL [] xs) ∧ vs.length ≤ 1048577 ∧ Below w.heap.size w w' := by
  obtain ⟨i0, hi, hzz⟩ := Option.map_eq_some_iff.1 infoBytesSl
  simp only [Prod.mk.injEq] at hzz
  obtain ⟨hz0, hz1, hz2⟩ := hzz
  have HI := Lib.hid (And.intro hi (And.intro hz0 (And.intro hz1 hz2)))
  have HC := Lib.hid hC
  clear hC hi hz0 hz1 hz2
  go_enter Try.func83, Try.ntmps83
  go_wp2
  go_loopg [3, 4, 5] xs.length (fun gk v fr i0 wr => ∃ (a i : Nat) (vs : List Value) (ls : List (List Int)) (B : Option Addr) (cb : Nat), v = .slice B vs.length cb ∧ fr = .int .i64 (a : Int) ∧ i0 = .int .i64 (i : Int) ∧ gk = xs.length - i ∧ i ≤ xs.length ∧ a ≤ i ∧ wr.ownsRow w.heap.size 45 1 (.slice B vs.length cb) vs.length vs ∧ Parts w vs ls ∧ linesL [] xs = ls ++ linesL ((xs.drop a).take (i - a)) (xs.drop i) ∧ vs.length ≤ i ∧ Below w.heap.size w wr)
  case atStart => exact ⟨0, 0, [], [], none, 0, rfl, rfl, rfl, rfl, Nat.zero_le _, Nat.le_refl _, own_nil _ _ _ _, ⟨rfl, fun i v l h => by simp at h⟩, rfl, Nat.le_refl _, Below.refl _ _⟩
  case round =>
    obtain ⟨a, i, vs, ls, B, cb, rfl, rfl, rfl, rfl, hi, ha, hown, hparts, hlines, hvl, hbw⟩ := hrel
    have HOWN := Lib.hid hown
    have HP := Lib.hid hparts
    have HLN := Lib.hid hlines
    have HBW := Lib.hid hbw
    by_cases hlt : i < xs.length
    · have h1 : (0 : Int) ≤ (i : Int) := by omega
      have h2 : (i : Int) < (xs.length : Int) := by omega
      have hd : decide ((i : Int) < (xs.length : Int)) = true := decide_eq_true h2
      obtain ⟨ad, had, hx⟩ := Kd.at_int (Kd.C_below HC.out hbw) (i : Int) h1 h2
      obtain rfl : (⟨g, 0, none⟩ : Addr) = ad := Option.some.inj had
      rw [Int.toNat_natCast, addr_add0] at hx
      have q1 : (0 : Int) ≤ (a : Int) := by omega
      have q2 : (a : Int) ≤ (i : Int) := by omega
      have q3 : (i : Int) ≤ (c : Int) := by omega
      generalize hrd : rd xs (i : Int) = x at *
      have HRD := Lib.hid hrd
      clear hrd hown hparts hlines hbw had
      by_cases hx10 : x = 10
      · subst hx10
        by_cases hia : i = a
        · subst hia
          go_wp2_with (at_builtin; refine wpList_append_own_at _ rfl (.tmp 17) (.tmp 23) 48 rfl w.heap.size 45 i0 (.slice none 0 0) 1 24 Try.underlying48 HI.out.1 HI.out.2.1 HI.out.2.2.1 HI.out.2.2.2 rfl (by omega) (.slice B vs.length cb) vs.length vs rfl (pw_own_below HOWN.out (below_alloc (Below.refl _ _) _)) ⟨wr.heap.size, 0, none⟩ 1 1 [.slice (some ⟨g, 0, none⟩) 0 0] rfl rfl ?news (by simp [Value.oneCell']) (by simp only [maxLen]; omega) (by omega) (by rw [World.size_alloc]; have := HBW.out.size; omega) ?_; (case news => intro j u2 hj; rcases j with _ | j; (simp only [List.getElem?_cons_zero, Option.some.injEq] at hj; subst hj; exact cellNew wr _ _ _); (simp at hj)); intro v2 w2 hown2 hgr2 _ _; obtain ⟨B2, cb2, rfl⟩ := own_slice hown2; have HOWN2 := Lib.hid hown2; have HG2 := Lib.hid hgr2; clear hown2 hgr2)
          have HB2 := Lib.hid ((below_then HBW.out HBW.out.size (below_alloc (Below.refl wr.heap.size wr) (.cells #[.slice (some ⟨g, 0, none⟩) 0 0] 45 (0, 0)))).grown HG2.out (by rw [World.size_alloc]; have := HBW.out.size; omega) (fun z hz => own_base HOWN.out z hz))
          go_roundg (xs.length - (i + 1))
          case measure => omega
          case rel => exact ⟨i + 1, i + 1, vs ++ [.slice (some ⟨g, 0, none⟩) 0 0], ls ++ [(xs.drop i).take (i - i)], B2, cb2, by rw [List.length_append]; rfl, by first | (rw [show wrap64 ((i : Int) + 1) = ((i + 1 : Nat) : Int) by unfold wrap64; omega]) | simp, by first | (rw [show wrap64 ((i : Int) + 1) = ((i + 1 : Nat) : Int) by unfold wrap64; omega]) | simp, rfl, by omega, Nat.le_refl _, by rw [List.length_append]; exact HOWN2.out, HP.out.snoc (part_same HC.out hi), lines_next hlt HRD.out HLN.out, by rw [List.length_append, List.length_singleton]; omega, HB2.out⟩
        · go_wp2_with (at_builtin; refine wpList_append_own_at _ rfl (.tmp 17) (.tmp 23) 48 rfl w.heap.size 45 i0 (.slice none 0 0) 1 24 Try.underlying48 HI.out.1 HI.out.2.1 HI.out.2.2.1 HI.out.2.2.2 rfl (by omega) (.slice B vs.length cb) vs.length vs rfl (pw_own_below HOWN.out (below_alloc (Below.refl _ _) _)) ⟨wr.heap.size, 0, none⟩ 1 1 [.slice (some ⟨g, a, none⟩) (i - a) (i - a)] rfl rfl ?news (by simp [Value.oneCell']) (by simp only [maxLen]; omega) (by omega) (by rw [World.size_alloc]; have := HBW.out.size; omega) ?_; (case news => intro j u2 hj; rcases j with _ | j; (simp only [List.getElem?_cons_zero, Option.some.injEq] at hj; subst hj; exact cellNew wr _ _ _); (simp at hj)); intro v2 w2 hown2 hgr2 _ _; obtain ⟨B2, cb2, rfl⟩ := own_slice hown2; have HOWN2 := Lib.hid hown2; have HG2 := Lib.hid hgr2; clear hown2 hgr2)
          have HB2 := Lib.hid ((below_then HBW.out HBW.out.size (below_alloc (Below.refl wr.heap.size wr) (.cells #[.slice (some ⟨g, a, none⟩) (i - a) (i - a)] 45 (0, 0)))).grown HG2.out (by rw [World.size_alloc]; have := HBW.out.size; omega) (fun z hz => own_base HOWN.out z hz))
          go_roundg (xs.length - (i + 1))
          case measure => omega
          case rel => exact ⟨i + 1, i + 1, vs ++ [.slice (some ⟨g, a, none⟩) (i - a) (i - a)], ls ++ [(xs.drop a).take (i - a)], B2, cb2, by rw [List.length_append]; rfl, by first | (rw [show wrap64 ((i : Int) + 1) = ((i + 1 : Nat) : Int) by unfold wrap64; omega]) | simp, by first | (rw [show wrap64 ((i : Int) + 1) = ((i + 1 : Nat) : Int) by unfold wrap64; omega]) | simp, rfl, by omega, Nat.le_refl _, by rw [List.length_append]; exact HOWN2.out, HP.out.snoc (part_other HC.out ha hi hia), lines_next hlt HRD.out HLN.out, by rw [List.length_append, List.length_singleton]; omega, HB2.out⟩
      · have hne : (x == 10) = false := beq_eq_false_iff_ne.2 hx10
        have HNE := Lib.hid hx10
        go_wp2
        go_roundg (xs.length - (i + 1))
        case measure => omega
        case rel => exact ⟨a, i + 1, vs, ls, B, cb, rfl, rfl, by first | (rw [show wrap64 ((i : Int) + 1) = ((i + 1 : Nat) : Int) by unfold wrap64; omega]) | simp, rfl, by omega, by omega, HOWN.out, HP.out, lines_on ha hlt HRD.out HNE.out HLN.out, by omega, HBW.out⟩
    · obtain rfl : i = xs.length := by omega
      have hd : decide ((xs.length : Int) < (xs.length : Int)) = false := decide_eq_false (by omega)
      have q1 : (0 : Int) ≤ (a : Int) := by omega
      have q2 : (a : Int) ≤ (xs.length : Int) := by omega
      clear hown hparts hlines hbw
      by_cases hca : c = a
      · subst hca
        go_wp2_with (at_builtin; refine wpList_append_own_at _ rfl (.tmp 27) (.tmp 31) 48 rfl w.heap.size 45 i0 (.slice none 0 0) 1 24 Try.underlying48 HI.out.1 HI.out.2.1 HI.out.2.2.1 HI.out.2.2.2 rfl (by omega) (.slice B vs.length cb) vs.length vs rfl (pw_own_below HOWN.out (below_alloc (Below.refl _ _) _)) ⟨wr.heap.size, 0, none⟩ 1 1 [.slice (some ⟨g, 0, none⟩) 0 0] rfl rfl ?news (by simp [Value.oneCell']) (by simp only [maxLen]; omega) (by omega) (by rw [World.size_alloc]; have := HBW.out.size; omega) ?_; (case news => intro j u2 hj; rcases j with _ | j; (simp only [List.getElem?_cons_zero, Option.some.injEq] at hj; subst hj; exact cellNew wr _ _ _); (simp at hj)); intro v2 w2 hown2 hgr2 _ _; obtain ⟨B2, cb2, rfl⟩ := own_slice hown2; have HOWN2 := Lib.hid hown2; have HG2 := Lib.hid hgr2; clear hown2 hgr2)
        have HB2 := Lib.hid ((below_then HBW.out HBW.out.size (below_alloc (Below.refl wr.heap.size wr) (.cells #[.slice (some ⟨g, 0, none⟩) 0 0] 45 (0, 0)))).grown HG2.out (by rw [World.size_alloc]; have := HBW.out.size; omega) (fun z hz => own_base HOWN.out z hz))
        go_ret
        refine ⟨_, vs ++ [.slice (some ⟨g, 0, none⟩) 0 0], rfl, by rw [List.length_append]; exact HOWN2.out, ?_, by rw [List.length_append, List.length_singleton]; omega, HB2.out⟩
        rw [lines_last HLN.out]
        exact HP.out.snoc (part_end0 HC.out (by omega))
      · go_wp2_with (at_builtin; refine wpList_append_own_at _ rfl (.tmp 27) (.tmp 31) 48 rfl w.heap.size 45 i0 (.slice none 0 0) 1 24 Try.underlying48 HI.out.1 HI.out.2.1 HI.out.2.2.1 HI.out.2.2.2 rfl (by omega) (.slice B vs.length cb) vs.length vs rfl (pw_own_below HOWN.out (below_alloc (Below.refl _ _) _)) ⟨wr.heap.size, 0, none⟩ 1 1 [.slice (some ⟨g, a, none⟩) (xs.length - a) (c - a)] rfl rfl ?news (by simp [Value.oneCell']) (by simp only [maxLen]; omega) (by omega) (by rw [World.size_alloc]; have := HBW.out.size; omega) ?_; (case news => intro j u2 hj; rcases j with _ | j; (simp only [List.getElem?_cons_zero, Option.some.injEq] at hj; subst hj; exact cellNew wr _ _ _); (simp at hj)); intro v2 w2 hown2 hgr2 _ _; obtain ⟨B2, cb2, rfl⟩ := own_slice hown2; have HOWN2 := Lib.hid hown2; have HG2 := Lib.hid hgr2; clear hown2 hgr2)
        have HB2 := Lib.hid ((below_then HBW.out HBW.out.size (below_alloc (Below.refl wr.heap.size wr) (.cells #[.slice (some ⟨g, a, none⟩) (xs.length - a) (c - a)] 45 (0, 0)))).grown HG2.out (by rw [World.size_alloc]; have := HBW.out.size; omega) (fun z hz => own_base HOWN.out z hz))
        go_ret
        refine ⟨_, vs ++ [.slice (some ⟨g, a, none⟩) (xs.length - a) (c - a)], rfl, by rw [List.length_append]; exact HOWN2.out, ?_, by rw [List.length_append, List.length_singleton]; omega, HB2.out⟩
        rw [lines_last HLN.out]
        exact HP.out.snoc (part_end1 HC.out (by omega) hc hca)
end Go.Proofs.Yticofikbijldiaa.Hand
