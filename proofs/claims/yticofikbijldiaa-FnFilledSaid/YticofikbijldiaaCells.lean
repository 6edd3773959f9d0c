/- Contracts by hand: impl.cellsOf (texts as bytes), table.isEmptyRow, impl.EmptyRow. -/
import Derived.Test.YticofikbijldiaaBytes
import Derived.Test.YticofikbijldiaaOpen
import Derived.OneCell
namespace Go.Proofs.Yticofikbijldiaa.Hand
open Go.RowKit Go.Proofs.YticofikbijldiaaW.PrintWords Go.Proofs.YticofikbijldiaaW.PrintLast Go.Proofs.YticofikbijldiaaW.PrintMore
set_option linter.unusedVariables false

/-- A value that is a row of a text's bytes, in a block of its own kind. -/
def BRow (w : World) (v : Value) (s : ByteArray) : Prop :=
  ∃ k cap cur fr, v = .slice (some ⟨k, 0, none⟩) s.size cap ∧ s.size ≤ cap ∧ w.heap[k]? = some (.cells cur 5 fr) ∧ ∀ i, i < s.size → cur[i]? = some (.int .u8 ((bys s).getD i 0))
theorem BRow.below {w w1 : World} {v : Value} {s : ByteArray} (h : BRow w v s) (hb : Below w.heap.size w w1) : BRow w1 v s := by
  obtain ⟨k, cap, cur, fr, rfl, h1, h2, h3⟩ := h
  exact ⟨k, cap, cur, fr, rfl, h1, (hb.block k (lt_of_block h2)).trans h2, h3⟩
theorem BRow.grown {w w1 : World} {v u : Value} {s : ByteArray} {base n : Nat} {xs : List Value} (h : BRow w v s) (ho : w.ownsRow base 45 1 u n xs) (hg : w.grownBy w1 u.ownBlock) : BRow w1 v s := by
  obtain ⟨k, cap, cur, fr, rfl, h1, h2, h3⟩ := h
  refine ⟨k, cap, cur, fr, rfl, h1, (hg.block k (lt_of_block h2) (fun e => ?_)).trans h2, h3⟩
  obtain ⟨cells, hc⟩ := own_typed ho k e.symm
  rw [h2] at hc
  injection hc with hc
  injection hc with _ ht
  exact absurd ht (by decide)
theorem BRow.one {w : World} {v : Value} {s : ByteArray} (h : BRow w v s) : v.oneCell' = true := by
  obtain ⟨k, cap, cur, fr, rfl, _⟩ := h
  rfl
theorem bytesW_BRow (w : World) (s : ByteArray) : BRow (bytesW w s 5) (.slice (some ⟨w.heap.size, 0, none⟩) s.size (bcap w s 5)) s := by
  refine ⟨_, _, _, _, rfl, bcap_ge _ _ _, bytesW_heap w s 5, fun i hi => ?_⟩
  have h := bytesW_cell w s 5 i hi
  simp only [World.cell?, bytesW_heap] at h
  exact h
/-- Values that are rows of texts' bytes, one by one. -/
def BRows (w : World) (vs : List Value) (ss : List ByteArray) : Prop := vs.length = ss.length ∧ ∀ (i : Nat) (v : Value) (s : ByteArray), vs[i]? = some v → ss[i]? = some s → BRow w v s
theorem BRows.nil (w : World) : BRows w [] [] := ⟨rfl, fun i v s h => by simp at h⟩
theorem BRows.mono {w w1 : World} {vs : List Value} {ss : List ByteArray} (h : BRows w vs ss) (hm : ∀ v s, BRow w v s → BRow w1 v s) : BRows w1 vs ss := ⟨h.1, fun i v s hv hs => hm v s (h.2 i v s hv hs)⟩
theorem BRows.snoc {w : World} {vs : List Value} {ss : List ByteArray} {v : Value} {s : ByteArray} (h : BRows w vs ss) (hv : BRow w v s) : BRows w (vs ++ [v]) (ss ++ [s]) := by
  refine ⟨by simp [h.1], fun i u t hu ht => ?_⟩
  have hl := h.1
  by_cases hi : i < vs.length
  · rw [List.getElem?_append_left hi] at hu
    rw [List.getElem?_append_left (by omega)] at ht
    exact h.2 i u t hu ht
  · rw [List.getElem?_append_right (by omega)] at hu
    rw [List.getElem?_append_right (by omega)] at ht
    obtain rfl : i = vs.length := by
      have := (List.getElem?_eq_some_iff.1 hu).1
      simp at this
      omega
    simp [hl] at hu ht
    subst hu ht
    exact hv
theorem infoBytes : (Try.prog.info? 45).map (fun i => (i.zero, i.size, i.bytes)) = some (some (.slice none 0 0), 1, 24) := by kernel_rfl
/-- A row of texts that came in: its cells. -/
def StrRow (w : World) (A : Option Addr) (ss : List ByteArray) : Prop := 0 < ss.length → ∃ ad, A = some ad ∧ ∀ j s, ss[j]? = some s → w.cell? (ad.add j) = some (.string s)
theorem strRow_of {w : World} {A : Option Addr} {ss : List ByteArray} (h : Kd.string.C w A ss.length ss) : StrRow w A ss := by
  intro h0
  obtain ⟨ad, e, hc⟩ := h.2.2 h0
  refine ⟨ad, e, fun j s hj => ?_⟩
  obtain ⟨c, _, hk, hcell⟩ := hc j s hj
  have hk' : c = [.string s] := hk
  subst hk'
  have h1 : Kd.string.sz = 1 := rfl
  have := hcell 0 (.string s) rfl
  rwa [h1, Nat.mul_one, Nat.add_zero] at this

set_option maxRecDepth 100000 in
set_option maxHeartbeats 800000 in
theorem cellsOf_any (A : Option Addr) (c : Nat) (ss : List ByteArray) (w : World) (hl : ss.length ≤ 2147483647) (hr : StrRow w A ss) :
    Calls Try.prog 46 #[.slice A ss.length c] w fun e w' => ∃ v vs, e = .returned v ∧ w'.ownsRow w.heap.size 45 1 v ss.length vs ∧ BRows w' vs ss ∧ Below w.heap.size w w' := by
  have hconv := fun (s : ByteArray) W => run_bytesW (P := Try.prog) 9 45 5 s Try.underlying9 Try.underlying45 Try.underlying5 W
  have HR := Lib.hid hr
  clear hr
  go_enter Try.func46, Try.ntmps46
  go_wp2
  go_loopw [3, 8] (fun v0 k0 wr => ∃ (v : Value) (k : Nat) (vs : List Value), v = v0 ∧ k0 = .int .i64 k ∧ k ≤ ss.length ∧ wr.ownsRow w.heap.size 45 1 v k vs ∧ BRows wr vs (ss.take k) ∧ Below w.heap.size w wr) (fun _ k0 _ => ss.length - (intOf k0).toNat)
  case atStart => exact ⟨_, 0, [], rfl, rfl, Nat.zero_le _, own_nil _ _ _ _, by rw [List.take_zero]; exact BRows.nil _, Below.refl _ _⟩
  case round =>
    obtain ⟨v, k, vs, rfl, rfl, hk, hO, hV, hB⟩ := hrel
    have HO := Lib.hid hO
    have HV := Lib.hid hV
    have HB := Lib.hid hB
    clear hO hV hB
    by_cases hlt : k < ss.length
    · obtain ⟨ad, rfl, hcells⟩ := HR.out (by omega)
      obtain ⟨s, hs⟩ : ∃ s, ss[k]? = some s := ⟨_, List.getElem?_eq_getElem hlt⟩
      have hc0 := hcells k s hs
      have hc : wr.cell? (ad.add k) = some (.string s) := (HB.out.cell (p := ad.add k) (World.block_lt_of_cell? w _ hc0)).trans hc0
      have HS := Lib.hid hs
      clear hs hc0
      have hvl : vs.length = k := by have := HO.out.1; omega
      have HVL := Lib.hid hvl
      clear hvl
      go_wp2_with (at_builtin; refine print_append (w0 := bytesW wr s 5) w.heap.size rfl _ _ 48 45 (.slice none 0 0) 24 rfl Try.underlying48 infoBytes rfl (by decide) v vs (.slice (some ⟨wr.heap.size, 0, none⟩) s.size (bcap wr s 5)) rfl rfl rfl ?own ?bel ?base ?len ?_; (case own => rw [HVL.out]; exact pw_own_below HO.out (bytesW_below (Below.refl _ _) (Nat.le_refl _) _ _)); (case bel => exact Below.refl _ _); (case base => rw [bytesW_size]; exact Nat.le_succ_of_le HB.out.size); (case len => rw [HVL.out]; omega); intro v1 w1 hown hb1 hg1 _; have HO1 := Lib.hid hown; have HG1 := Lib.hid hg1; clear hown hb1 hg1)
      have hV1 : BRows w1 (vs ++ [.slice (some ⟨wr.heap.size, 0, none⟩) s.size (bcap wr s 5)]) (ss.take (k + 1)) := by
        have hts : ss.take (k + 1) = ss.take k ++ [s] := by rw [List.take_add_one, HS.out]; rfl
        rw [hts]
        have hbw := bytesW_below (Below.refl wr.heap.size wr) (Nat.le_refl _) s 5
        exact (BRows.snoc (HV.out.mono fun _ _ h => h.below hbw) (bytesW_BRow wr s)).mono fun _ _ h => h.grown (pw_own_below HO.out hbw) HG1.out
      have HV1 := Lib.hid hV1
      have HB1 := Lib.hid ((bytesW_below HB.out HB.out.size s 5).grown HG1.out (by rw [bytesW_size]; exact Nat.le_succ_of_le HB.out.size) (fun k hk => own_base HO.out k hk))
      clear hV1
      go_wp2
      go_roundw
      case rel => exact ⟨v1, k + 1, _, rfl, by go_num, hlt, by have := HO1.out; rwa [List.length_append, HVL.out] at this, HV1.out, HB1.out⟩
      case measure => simp [intOf]; omega
    · obtain rfl : k = ss.length := by omega
      go_wp2
      go_ret
      exact ⟨_, vs, rfl, HO.out, by have := HV.out; rwa [List.take_length] at this, HB.out⟩

def emptyB (ss : List ByteArray) : Bool := ss.all (fun s => s.size == 0)
theorem emptyB_snoc (l : List ByteArray) (s : ByteArray) : emptyB (l ++ [s]) = (emptyB l && (s.size == 0)) := by simp only [emptyB, List.all_append, List.all_cons, List.all_nil, Bool.and_true]
set_option maxRecDepth 100000 in
set_option maxHeartbeats 800000 in
theorem isEmpty_any (v : Value) (vs : List Value) (ss : List ByteArray) (base : Nat) (w : World) (hl : ss.length ≤ 2147483647) (hz : ∀ s ∈ ss, s.size ≤ 9223372036854775807) (hO : w.ownsRow base 45 1 v ss.length vs) (hV : BRows w vs ss) :
    Calls Try.prog 70 #[v] w fun e w' => e = .returned (.bool (emptyB ss)) ∧ Below w.heap.size w w' := by
  obtain ⟨A, cp, rfl⟩ := own_slice hO
  have hcell : ∀ k u, vs[k]? = some u → ∃ g, A = some ⟨g, 0, none⟩ ∧ w.cell? ((⟨g, 0, none⟩ : Addr).add k) = some u := by
    intro k u hk
    have hkl := (List.getElem?_eq_some_iff.1 hk).1
    have h1 := hO.1
    obtain ⟨g, cap, he, _, _⟩ := hO.form (by omega)
    injection he with he
    subst he
    exact ⟨g, rfl, hO.cells (g := g) rfl k u hk⟩
  have HC := Lib.hid hcell
  have HV := Lib.hid hV
  have HZ := Lib.hid hz
  clear hcell hV hz hO
  go_enter Try.func70, Try.ntmps70
  go_wp2
  go_loopw [7] (fun k0 wr => ∃ k : Nat, k0 = .int .i64 k ∧ k ≤ ss.length ∧ wr = w ∧ emptyB (ss.take k) = true) (fun k0 _ => ss.length - (intOf k0).toNat)
  case atStart => exact ⟨0, rfl, Nat.zero_le _, rfl, by simp [emptyB]⟩
  case round =>
    obtain ⟨k, rfl, hk, rfl, he⟩ := hrel
    have HE := Lib.hid he
    clear he
    by_cases hlt : k < ss.length
    · obtain ⟨s, hs⟩ : ∃ s, ss[k]? = some s := ⟨_, List.getElem?_eq_getElem hlt⟩
      have hvl : k < vs.length := by rw [HV.out.1]; exact hlt
      obtain ⟨u, hu⟩ : ∃ u, vs[k]? = some u := ⟨_, List.getElem?_eq_getElem hvl⟩
      obtain ⟨g, rfl, hc⟩ := HC.out k u hu
      rw [add_plain] at hc
      obtain ⟨k2, cap2, cur2, fr2, rfl, _, _, _⟩ := HV.out.2 k u s hu hs
      have hsz := HZ.out s (List.mem_of_getElem? hs)
      have hts : ss.take (k + 1) = ss.take k ++ [s] := by rw [List.take_add_one, hs]; rfl
      have HT := Lib.hid hts
      have HS := Lib.hid hs
      clear hu hs hvl hts
      by_cases h0 : s.size = 0
      · have t0 : decide (0 < s.size) = false := decide_eq_false (by omega)
        have t1 : decide ((s.size : Int) > 0) = false := decide_eq_false (by omega)
        have H0 := Lib.hid h0
        clear h0
        go_wp2
        go_roundw
        case rel => exact ⟨k + 1, by go_num, hlt, trivial, by rw [HT.out, emptyB_snoc, HE.out, H0.out]; rfl⟩
        case measure => simp [intOf]; omega
      · have t0 : 0 < s.size := by omega
        clear h0
        go_wp2
        go_ret
        have hf : emptyB ss = false := by
          cases hb : emptyB ss with
          | false => rfl
          | true =>
            have h5 : (s.size == 0) = true := List.all_eq_true.1 hb s (List.mem_of_getElem? HS.out)
            have h6 : s.size = 0 := beq_iff_eq.1 h5
            omega
        exact ⟨by rw [hf]; rfl, Below.refl _ _⟩
    · obtain rfl : k = ss.length := by omega
      have he := HE.out
      rw [List.take_length] at he
      have HE2 := Lib.hid he
      clear he
      go_wp2
      go_ret
      exact ⟨by rw [HE2.out]; rfl, Below.refl _ _⟩
set_option maxRecDepth 100000 in
theorem impl_emptyRow (A : Option Addr) (c : Nat) (ss : List ByteArray) (w : World) (hl : ss.length ≤ 2147483647) (hz : ∀ s ∈ ss, s.size ≤ 9223372036854775807) (hr : StrRow w A ss) :
    Calls Try.prog 19 #[.slice A ss.length c] w fun e w' => e = .returned (.bool (emptyB ss)) ∧ Below w.heap.size w w' := by
  have HR := Lib.hid hr
  have HZ := Lib.hid hz
  clear hr hz
  go_enter Try.func19, Try.ntmps19
  go_wp2_with (first
    | (go_at_call 46; refine (cellsOf_any _ _ ss _ hl HR.out).mono ?_; rintro e w1 ⟨v, vs, rfl, hown, hv, hb⟩; have HO := Lib.hid hown; have HV := Lib.hid hv; have HB := Lib.hid hb; clear hown hv hb)
    | (go_at_call 45; go_in)
    | (go_at_call 70; refine (isEmpty_any _ _ ss _ _ hl HZ.out HO.out HV.out).mono ?_; rintro e w2 ⟨rfl, hb2⟩; have HB2 := Lib.hid hb2; clear hb2))
  go_ret
  exact ⟨rfl, below_then HB.out HB.out.size HB2.out⟩
end Go.Proofs.Yticofikbijldiaa.Hand
