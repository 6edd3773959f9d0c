/- Contracts by hand: how many fence characters there are at most, one behind the other (impl.FenceCount): it is runOf. -/
import Derived.Test.YticofikbijldiaaRun
import Derived.Test.YticofikbijldiaaPFnFenceCountx1
namespace Go.Proofs.Yticofikbijldiaa.Hand
open Go.RowKit Go.Proofs.YticofikbijldiaaW.PrintWords Go.Proofs.YticofikbijldiaaW.PrintLast Go.Proofs.YticofikbijldiaaW.PrintMore
set_option linter.unusedVariables false
open Go.Proofs.Yticofikbijldiaa.PFnFenceCount (textutils_findMax.f textutils_findMax.l0 textutils_findMax.calls)

/-- The greatest of some numbers. -/
def mxs (l : List Nat) : Nat := l.foldl max 0
theorem mxs_snoc (l : List Nat) (d : Nat) : mxs (l ++ [d]) = max (mxs l) d := by simp [mxs]
def cast' (l : List Nat) : List Int := l.map (fun n : Nat => (n : Int))
theorem cast_length (l : List Nat) : (cast' l).length = l.length := by simp [cast']
theorem rd_cast (l : List Nat) (j : Nat) (h : j < l.length) : rd (cast' l) (j : Int) = ((l[j]'h : Nat) : Int) := by
  simp [rd, cast', List.getElem?_eq_getElem h]
theorem findMax_loop (l : List Nat) (hl : l.length ≤ 9223372036854775806) : ∀ (d j : Nat) (k : Nat), l.length - j = d → j ≤ l.length → d < k →
    textutils_findMax.l0 k (cast' l) ((mxs (l.take j) : Nat) : Int) (cast' l) ((cast' l).length : Int) (j : Int) = some ((mxs l : Nat) : Int) := by
  intro d
  induction d with
  | zero =>
    intro j k hd hj hk
    obtain ⟨k, rfl⟩ : ∃ m, k = m + 1 := ⟨k - 1, by omega⟩
    obtain rfl : j = l.length := by omega
    simp only [textutils_findMax.l0]
    rw [if_neg (by rw [cast_length]; omega), List.take_length]
  | succ d ih =>
    intro j k hd hj hk
    obtain ⟨k, rfl⟩ : ∃ m, k = m + 1 := ⟨k - 1, by omega⟩
    have hlt : j < l.length := by omega
    have h1 : (j : Int) < ((cast' l).length : Int) := by rw [cast_length]; omega
    have h2 : wrap64 ((j : Int) + 1) = ((j + 1 : Nat) : Int) := by unfold wrap64; omega
    have hi := ih (j + 1) k (by omega) (by omega) (by omega)
    rw [List.take_succ_eq_append_getElem hlt, mxs_snoc] at hi
    simp only [textutils_findMax.l0]
    rw [if_pos h1, if_pos (by omega), if_pos h1, rd_cast l j hlt, h2]
    have hm0 : j = 0 → mxs (l.take j) = 0 := by intro e; subst e; rfl
    by_cases hj0 : (j : Int) = 0
    · rw [if_pos hj0, if_pos h1, if_neg (by omega)]
      rw [hm0 (by omega), Nat.zero_max] at hi
      exact hi
    · rw [if_neg hj0]
      by_cases hg : ((l[j] : Nat) : Int) > ((mxs (l.take j) : Nat) : Int)
      · rw [if_pos hg]
        rw [Nat.max_eq_right (by omega)] at hi
        exact hi
      · rw [if_neg hg]
        rw [Nat.max_eq_left (by omega)] at hi
        exact hi
theorem findMax_eq (l : List Nat) (hl : l.length ≤ 9223372036854775806) : textutils_findMax.f (l.length + 1) (cast' l) = some ((mxs l : Nat) : Int) := by
  have h := findMax_loop l hl l.length 0 (l.length + 1) (by omega) (by omega) (by omega)
  simpa [mxs, textutils_findMax.f] using h

theorem cast_snoc (l : List Nat) (d : Nat) : cast' l ++ [(d : Int)] = cast' (l ++ [d]) := by simp [cast']
theorem lt_of_some {w : World} {k : Nat} {x : Obj} (h : w.heap[k]? = some x) : k < w.heap.size := (Array.getElem?_eq_some_iff.1 h).1
theorem own_iterAt {w : World} {base : Nat} {e : TypeId} {size n : Nat} {v : Value} {xs : List Value} (h : w.ownsRow base e size v n xs) {k : Nat} (hk : k < base) (s : ByteArray) (pos : Nat) : (w.iterAt k s pos).ownsRow base e size v n xs :=
  own_move h (fun j hj => Lib.iterAt_other w k j s pos (by have := own_base h j hj; omega))
theorem own_cap {w : World} {base n c : Nat} {e : TypeId} {A : Option Addr} {xs : List Value} (h : w.ownsRow base e 1 (.slice A n c) n xs) : n ≤ c := by
  rcases h.2 with ⟨h1, h2⟩ | ⟨g, cap, cur, h1, _, _, _, h2, _⟩
  · injection h1 with a b c
    omega
  · injection h1 with a b c
    omega
theorem infoInt : (Try.prog.info? 3).map (fun i => (i.zero, i.size, i.bytes)) = some (some (.int .i64 0), 1, 8) := by kernel_rfl
set_option maxRecDepth 100000 in
set_option maxHeartbeats 800000 in
theorem fence_any (c : Int) (s : ByteArray) (w : World) (hs : s.size ≤ 2147483647) :
    Calls Try.prog 47 #[.int .i32 c, .string s] w fun e w' => e = .returned (.int .i64 (runOf c (runes s))) ∧ Below w.heap.size w w' := by
  go_enter Try.func47, Try.ntmps47
  go_wp2
  go_loopw [5, 6] (fun v0 n w' => ∃ (v : Value) (pos b d : Nat) (xs : List Nat), v = v0 ∧ w'.heap[w.heap.size]? = some (.stringIter s pos) ∧ Below w.heap.size w w' ∧ w'.ownsRow (w.heap.size + 1) 3 1 v (cast' xs).length (nums .i64 (cast' xs)) ∧ n = .int .i64 d ∧ ((rns s b pos).foldl (runStep c) (max (mxs xs) d, d)).1 = runOf c (runes s) ∧ s.size ≤ pos + b ∧ xs.length + d ≤ pos ∧ pos ≤ s.size + 4) (fun _ _ w' => s.size - w'.iterPos w.heap.size)
  case atStart => exact ⟨_, 0, s.size, 0, [], rfl, World.iter_heap _ _ _, (Below.refl _ _).alloc (Nat.le_refl _) _, own_nil _ _ _ _, rfl, rfl, by omega, by simp, by omega⟩
  case round =>
    obtain ⟨v, pos, b, d, xs, rfl, hit, hB, hO, rfl, hc, hb, hd, hpos⟩ := hrel
    have HC := Lib.hid hc
    have HI := Lib.hid hit
    have HO := Lib.hid hO
    clear hc hO
    have hv : ∃ A cp, v = .slice A (cast' xs).length cp := own_slice HO.out
    by_cases hp : pos < s.size
    · have hnx := fun ty => Lib.run_next_any_at (P := Try.prog) wr w.heap.size s pos ty hit hp
      obtain ⟨b', hbe, hb2, hr⟩ := rns_more s b pos hp hb
      have hw := width_pos s pos hp
      have hw4 := width_le s pos
      have HR := Lib.hid hr
      have HE := Lib.hid hbe
      have HB2 := Lib.hid (Lib.below_iterAt hB (Nat.le_refl w.heap.size) s (pos + (Utf8.decode s pos).2))
      have HI2 := Lib.hid (Lib.iterAt_heap wr w.heap.size s pos (pos + (Utf8.decode s pos).2) hit)
      have HO2 := Lib.hid (own_iterAt HO.out (Nat.lt_succ_self _) s (pos + (Utf8.decode s pos).2))
      have hxl : (xs.length : Int) ≤ 2147483651 := by omega
      clear hr hbe hB hit
      by_cases e1 : ((Utf8.decode s pos).1 : Int) = c
      · have t1 : (((Utf8.decode s pos).1 : Int) == c) = true := beq_iff_eq.2 e1
        have E1 := Lib.hid e1
        clear e1
        go_wp2
        go_roundw
        case rel =>
          refine ⟨v, _, b', d + 1, xs, rfl, HI2.out, HB2.out, HO2.out, by go_num, ?_, by omega, by omega, by omega⟩
          have hc := HC.out
          rw [HR.out, List.foldl_cons, runStep, if_pos E1.out] at hc
          rw [show max (mxs xs) (d + 1) = max (max (mxs xs) d) (d + 1) by omega]
          exact hc
        case measure =>
          rw [World.iterPos, HI2.out, World.iterPos, HI.out]
          dsimp only
          omega
      · have t1 : (((Utf8.decode s pos).1 : Int) == c) = false := beq_eq_false_iff_ne.2 e1
        have E1 := Lib.hid e1
        clear e1
        have hc2 : ((rns s b' (pos + (Utf8.decode s pos).2)).foldl (runStep c) (max (mxs xs) d, 0)).1 = runOf c (runes s) := by
          have hc := HC.out
          rw [HR.out, List.foldl_cons, runStep, if_neg E1.out] at hc
          exact hc
        have HC2 := Lib.hid hc2
        clear hc2
        by_cases e2 : d = 0
        · subst e2
          go_wp2
          go_roundw
          case rel =>
            refine ⟨v, _, b', 0, xs, rfl, HI2.out, HB2.out, HO2.out, rfl, HC2.out, by omega, by omega, by omega⟩
          case measure =>
            rw [World.iterPos, HI2.out, World.iterPos, HI.out]
            dsimp only
            omega
        · have t2 : ((d : Int) != 0) = true := by simpa using e2
          go_wp2_with (at_builtin; refine print_append_num (w0 := wr.iterAt w.heap.size s (pos + (Utf8.decode s pos).2)) (w.heap.size + 1) rfl _ _ 62 3 .i64 8 rfl Try.underlying62 infoInt (by decide) v (cast' xs) (d : Int) rfl rfl HO2.out (Below.refl _ _) ?hb ?hl ?_; (case hb => exact (lt_of_some HI2.out)); (case hl => rw [cast_length]; omega); intro v1 w1 hown hBw hgr _)
          have hn : v.ownBlock = none ∨ True := .inr trivial
          have hI1 : w1.heap[w.heap.size]? = some (.stringIter s (pos + (Utf8.decode s pos).2)) := (hgr.block _ (lt_of_some HI2.out) (fun e => by have := own_base HO2.out _ e.symm; omega)).trans HI2.out
          have hB1 : Below w.heap.size w w1 := HB2.out.grown hgr (Nat.le_of_lt (lt_of_some HI2.out)) (fun k hk => Nat.le_of_succ_le (own_base HO2.out k hk))
          have HI1 := Lib.hid hI1
          have HB1 := Lib.hid hB1
          have HO1 := Lib.hid hown
          clear hI1 hB1 hown hBw hgr hn
          go_wp2
          go_roundw
          case rel =>
            refine ⟨v1, _, b', 0, xs ++ [d], rfl, HI1.out, HB1.out, ?_, rfl, ?_, by omega, by simp; omega, by omega⟩
            · have := HO1.out
              rw [cast_snoc] at this
              exact this
            · rw [mxs_snoc, Nat.max_zero]
              exact HC2.out
          case measure =>
            rw [World.iterPos, HI1.out, World.iterPos, HI.out]
            dsimp only
            omega
    · have hnx := fun ty => Lib.run_next_end_at (P := Try.prog) wr w.heap.size s pos ty hit hp
      have hc := HC.out
      rw [rns_end s b pos hp] at hc
      have HC1 := Lib.hid hc
      clear hc
      have hxl : (xs.length : Int) ≤ 2147483651 := by omega
      have HB2 := Lib.hid hB
      clear hB hit
      by_cases e2 : d = 0
      · subst e2
        obtain ⟨A, cp, rfl⟩ := hv
        obtain ⟨A', cp', e, hre⟩ := own_reads HO.out
        injection e with e1 e2 e3
        subst e1
        subst e3
        have hcap := own_cap HO.out
        go_wp2_with (go_at_call 71; refine (textutils_findMax.calls (xs.length + 1) _ _ (cast' xs) _ _ (Kd.C_of_reads (d := (0 : Int)) (h1 := fun _ => rfl) hre) hcap (findMax_eq xs (by omega))).mono ?_; rintro e w' ⟨rfl, ⟨nd, rfl⟩⟩)
        go_ret
        refine ⟨by rw [← HC1.out]; simp, pw_below_drewN HB2.out nd⟩
      · have t2 : ((d : Int) != 0) = true := by simpa using e2
        have hlt := lt_of_some HI.out
        go_wp2_with (at_builtin; refine print_append_num (w0 := wr) (w.heap.size + 1) rfl _ _ 62 3 .i64 8 rfl Try.underlying62 infoInt (by decide) v (cast' xs) (d : Int) rfl rfl HO.out (Below.refl _ _) ?hb ?hl ?_; (case hb => exact hlt); (case hl => rw [cast_length]; omega); intro v1 w1 hown hBw hgr _)
        have hB1 : Below w.heap.size w w1 := HB2.out.grown hgr (Nat.le_of_lt hlt) (fun k hk => Nat.le_of_succ_le (own_base HO.out k hk))
        have HB1 := Lib.hid hB1
        rw [cast_snoc] at hown
        have hcap0 : ∃ A cp, v1 = .slice A (cast' (xs ++ [d])).length cp := own_slice hown
        obtain ⟨A, cp, rfl⟩ := hcap0
        obtain ⟨A', cp', e, hre⟩ := own_reads hown
        injection e with e1 e2 e3
        subst e1
        subst e3
        have hcap := own_cap hown
        clear hB1 hBw hgr hown
        go_wp2_with (go_at_call 71; refine (textutils_findMax.calls ((xs ++ [d]).length + 1) _ _ (cast' (xs ++ [d])) _ _ (Kd.C_of_reads (d := (0 : Int)) (h1 := fun _ => rfl) hre) hcap (findMax_eq (xs ++ [d]) (by simp; omega))).mono ?_; rintro e w' ⟨rfl, ⟨nd, rfl⟩⟩)
        go_ret
        refine ⟨by rw [← HC1.out, mxs_snoc]; rfl, pw_below_drewN HB1.out nd⟩
end Go.Proofs.Yticofikbijldiaa.Hand
