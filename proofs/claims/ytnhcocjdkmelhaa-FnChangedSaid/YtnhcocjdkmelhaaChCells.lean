/- Contracts by hand: impl.cellsOf (texts as bytes), impl.bytesOf (rows of texts as rows of rows of bytes). -/
import Derived.Test.YtnhcocjdkmelhaaBytes
import Derived.Test.YtnhcocjdkmelhaaOpen
import Derived.OneCell
namespace Go.Proofs.Ytnhcocjdkmelhaa.Hand
open Go.RowKit Go.Proofs.YtnhcocjdkmelhaaW.PrintWords Go.Proofs.YtnhcocjdkmelhaaW.PrintLast Go.Proofs.YtnhcocjdkmelhaaW.PrintMore
set_option linter.unusedVariables false

/-- A value that is a row of a text's bytes, in a block of its own kind. -/
def BRow (w : World) (v : Value) (s : ByteArray) : Prop :=
  ∃ k cap cur fr, v = .slice (some ⟨k, 0, none⟩) s.size cap ∧ s.size ≤ cap ∧ w.heap[k]? = some (.cells cur 5 fr) ∧ ∀ i, i < s.size → cur[i]? = some (.int .u8 ((bys s).getD i 0))
theorem BRow.below {w w1 : World} {v : Value} {s : ByteArray} (h : BRow w v s) (hb : Below w.heap.size w w1) : BRow w1 v s := by
  obtain ⟨k, cap, cur, fr, rfl, h1, h2, h3⟩ := h
  exact ⟨k, cap, cur, fr, rfl, h1, (hb.block k (lt_of_block h2)).trans h2, h3⟩
theorem BRow.grown {w w1 : World} {v u : Value} {s : ByteArray} {base n : Nat} {xs : List Value} (h : BRow w v s) (ho : w.ownsRow base 46 1 u n xs) (hg : w.grownBy w1 u.ownBlock) : BRow w1 v s := by
  obtain ⟨k, cap, cur, fr, rfl, h1, h2, h3⟩ := h
  refine ⟨k, cap, cur, fr, rfl, h1, (hg.block k (lt_of_block h2) (fun e => ?_)).trans h2, h3⟩
  obtain ⟨cells, hc⟩ := own_typed ho k e.symm
  rw [h2] at hc
  injection hc with hc
  injection hc with _ ht
  exact absurd ht (by decide)
theorem BRow.one {w : World} {v : Value} {s : ByteArray} (h : BRow w v s) : v.oneCell' = true := by
  obtain ⟨k, cap, cur, fr, rfl, _⟩ := h
  rfl
theorem bytesW_BRow (w : World) (s : ByteArray) : BRow (bytesW w s 5) (.slice (some ⟨w.heap.size, 0, none⟩) s.size (bcap w s 5)) s := by
  refine ⟨_, _, _, _, rfl, bcap_ge _ _ _, bytesW_heap w s 5, fun i hi => ?_⟩
  have h := bytesW_cell w s 5 i hi
  simp only [World.cell?, bytesW_heap] at h
  exact h
/-- Values that are rows of texts' bytes, one by one. -/
def BRows (w : World) (vs : List Value) (ss : List ByteArray) : Prop := vs.length = ss.length ∧ ∀ (i : Nat) (v : Value) (s : ByteArray), vs[i]? = some v → ss[i]? = some s → BRow w v s
theorem BRows.nil (w : World) : BRows w [] [] := ⟨rfl, fun i v s h => by simp at h⟩
theorem BRows.mono {w w1 : World} {vs : List Value} {ss : List ByteArray} (h : BRows w vs ss) (hm : ∀ v s, BRow w v s → BRow w1 v s) : BRows w1 vs ss := ⟨h.1, fun i v s hv hs => hm v s (h.2 i v s hv hs)⟩
theorem BRows.snoc {w : World} {vs : List Value} {ss : List ByteArray} {v : Value} {s : ByteArray} (h : BRows w vs ss) (hv : BRow w v s) : BRows w (vs ++ [v]) (ss ++ [s]) := by
  refine ⟨by simp [h.1], fun i u t hu ht => ?_⟩
  have hl := h.1
  by_cases hi : i < vs.length
  · rw [List.getElem?_append_left hi] at hu
    rw [List.getElem?_append_left (by omega)] at ht
    exact h.2 i u t hu ht
  · rw [List.getElem?_append_right (by omega)] at hu
    rw [List.getElem?_append_right (by omega)] at ht
    obtain rfl : i = vs.length := by
      have := (List.getElem?_eq_some_iff.1 hu).1
      simp at this
      omega
    simp [hl] at hu ht
    subst hu ht
    exact hv
theorem infoBytes : (Try.prog.info? 46).map (fun i => (i.zero, i.size, i.bytes)) = some (some (.slice none 0 0), 1, 24) := by kernel_rfl
/-- A row of texts that came in: its cells. -/
def StrRow (w : World) (A : Option Addr) (ss : List ByteArray) : Prop := 0 < ss.length → ∃ ad, A = some ad ∧ ∀ j s, ss[j]? = some s → w.cell? (ad.add j) = some (.string s)
theorem strRow_of {w : World} {A : Option Addr} {ss : List ByteArray} (h : Kd.string.C w A ss.length ss) : StrRow w A ss := by
  intro h0
  obtain ⟨ad, e, hc⟩ := h.2.2 h0
  refine ⟨ad, e, fun j s hj => ?_⟩
  obtain ⟨c, _, hk, hcell⟩ := hc j s hj
  have hk' : c = [.string s] := hk
  subst hk'
  have h1 : Kd.string.sz = 1 := rfl
  have := hcell 0 (.string s) rfl
  rwa [h1, Nat.mul_one, Nat.add_zero] at this

set_option maxRecDepth 100000 in
set_option maxHeartbeats 800000 in
theorem cellsOf_any (A : Option Addr) (c : Nat) (ss : List ByteArray) (w : World) (hl : ss.length ≤ 2147483647) (hr : StrRow w A ss) :
    Calls Try.prog 29 #[.slice A ss.length c] w fun e w' => ∃ v vs, e = .returned v ∧ w'.ownsRow w.heap.size 46 1 v ss.length vs ∧ BRows w' vs ss ∧ Below w.heap.size w w' := by
  have hconv := fun (s : ByteArray) W => run_bytesW (P := Try.prog) 9 46 5 s Try.underlying9 Try.underlying46 Try.underlying5 W
  have HR := Lib.hid hr
  clear hr
  go_enter Try.func29, Try.ntmps29
  go_wp2
  go_loopw [3, 8] (fun v0 k0 wr => ∃ (v : Value) (k : Nat) (vs : List Value), v = v0 ∧ k0 = .int .i64 k ∧ k ≤ ss.length ∧ wr.ownsRow w.heap.size 46 1 v k vs ∧ BRows wr vs (ss.take k) ∧ Below w.heap.size w wr) (fun _ k0 _ => ss.length - (intOf k0).toNat)
  case atStart => exact ⟨_, 0, [], rfl, rfl, Nat.zero_le _, own_nil _ _ _ _, by rw [List.take_zero]; exact BRows.nil _, Below.refl _ _⟩
  case round =>
    obtain ⟨v, k, vs, rfl, rfl, hk, hO, hV, hB⟩ := hrel
    have HO := Lib.hid hO
    have HV := Lib.hid hV
    have HB := Lib.hid hB
    clear hO hV hB
    by_cases hlt : k < ss.length
    · obtain ⟨ad, rfl, hcells⟩ := HR.out (by omega)
      obtain ⟨s, hs⟩ : ∃ s, ss[k]? = some s := ⟨_, List.getElem?_eq_getElem hlt⟩
      have hc0 := hcells k s hs
      have hc : wr.cell? (ad.add k) = some (.string s) := (HB.out.cell (p := ad.add k) (World.block_lt_of_cell? w _ hc0)).trans hc0
      have HS := Lib.hid hs
      clear hs hc0
      have hvl : vs.length = k := by have := HO.out.1; omega
      have HVL := Lib.hid hvl
      clear hvl
      go_wp2_with (at_builtin; refine print_append (w0 := bytesW wr s 5) w.heap.size rfl _ _ 50 46 (.slice none 0 0) 24 rfl Try.underlying50 infoBytes rfl (by decide) v vs (.slice (some ⟨wr.heap.size, 0, none⟩) s.size (bcap wr s 5)) rfl rfl rfl ?own ?bel ?base ?len ?_; (case own => rw [HVL.out]; exact pw_own_below HO.out (bytesW_below (Below.refl _ _) (Nat.le_refl _) _ _)); (case bel => exact Below.refl _ _); (case base => rw [bytesW_size]; exact Nat.le_succ_of_le HB.out.size); (case len => rw [HVL.out]; omega); intro v1 w1 hown hb1 hg1 _; have HO1 := Lib.hid hown; have HG1 := Lib.hid hg1; clear hown hb1 hg1)
      have hV1 : BRows w1 (vs ++ [.slice (some ⟨wr.heap.size, 0, none⟩) s.size (bcap wr s 5)]) (ss.take (k + 1)) := by
        have hts : ss.take (k + 1) = ss.take k ++ [s] := by rw [List.take_add_one, HS.out]; rfl
        rw [hts]
        have hbw := bytesW_below (Below.refl wr.heap.size wr) (Nat.le_refl _) s 5
        exact (BRows.snoc (HV.out.mono fun _ _ h => h.below hbw) (bytesW_BRow wr s)).mono fun _ _ h => h.grown (pw_own_below HO.out hbw) HG1.out
      have HV1 := Lib.hid hV1
      have HB1 := Lib.hid ((bytesW_below HB.out HB.out.size s 5).grown HG1.out (by rw [bytesW_size]; exact Nat.le_succ_of_le HB.out.size) (fun k hk => own_base HO.out k hk))
      clear hV1
      go_wp2
      go_roundw
      case rel => exact ⟨v1, k + 1, _, rfl, by go_num, hlt, by have := HO1.out; rwa [List.length_append, HVL.out] at this, HV1.out, HB1.out⟩
      case measure => simp [intOf]; omega
    · obtain rfl : k = ss.length := by omega
      go_wp2
      go_ret
      exact ⟨_, vs, rfl, HO.out, by have := HV.out; rwa [List.take_length] at this, HB.out⟩

theorem infoRows : (Try.prog.info? 50).map (fun i => (i.zero, i.size, i.bytes)) = some (some (.slice none 0 0), 1, 24) := by kernel_rfl
/-- A value that is a row of rows of bytes, in a block of its own kind. -/
def CellRow (w : World) (v : Value) (ss : List ByteArray) : Prop := ∃ base vs, w.ownsRow base 46 1 v ss.length vs ∧ BRows w vs ss
theorem CellRow.below {w w1 : World} {v : Value} {ss : List ByteArray} (h : CellRow w v ss) (hb : Below w.heap.size w w1) : CellRow w1 v ss := by
  obtain ⟨base, vs, h1, h2⟩ := h
  exact ⟨base, vs, pw_own_below h1 hb, h2.mono fun _ _ h => h.below hb⟩
theorem BRow.other {w w1 : World} {v : Value} {s : ByteArray} {row : Option Nat} (h : BRow w v s) (hg : w.grownBy w1 row) (ht : ∀ g, row = some g → ∀ cells t fr, w.heap[g]? = some (.cells cells t fr) → t ≠ 5) : BRow w1 v s := by
  obtain ⟨k, cap, cur, fr, rfl, h1, h2, h3⟩ := h
  refine ⟨k, cap, cur, fr, rfl, h1, (hg.block k (lt_of_block h2) (fun e => ?_)).trans h2, h3⟩
  exact ht k e.symm _ _ _ h2 rfl
theorem CellRow.grown {w w1 : World} {v u : Value} {ss : List ByteArray} {base n : Nat} {xs : List Value} (h : CellRow w v ss) (ho : w.ownsRow base 50 1 u n xs) (hg : w.grownBy w1 u.ownBlock) : CellRow w1 v ss := by
  obtain ⟨b, vs, h1, h2⟩ := h
  refine ⟨b, vs, own_other h1 hg ?_, h2.mono fun _ _ h => h.other hg fun g hg' cells t fr hh => ?_⟩
  · cases hv : v.ownBlock with
    | none => exact .inl rfl
    | some k =>
      refine .inr fun e => ?_
      obtain ⟨c1, e1⟩ := own_typed h1 k hv
      obtain ⟨c2, e2⟩ := own_typed ho k e.symm
      rw [e1] at e2
      injection e2 with e2
      injection e2 with _ e2
      exact absurd e2 (by decide)
  · obtain ⟨c2, e2⟩ := own_typed ho g hg'
    rw [hh] at e2
    injection e2 with e2
    injection e2 with _ e2
    rw [e2]
    decide
theorem CellRow.lt {w : World} {v : Value} {ss : List ByteArray} (h : CellRow w v ss) (k : Nat) (hk : v.ownBlock = some k) : k < w.heap.size := by
  obtain ⟨b, vs, h1, h2⟩ := h
  exact own_lt h1 k hk
theorem CellRow.one {w : World} {v : Value} {ss : List ByteArray} (h : CellRow w v ss) : v.oneCell' = true := by
  obtain ⟨b, vs, h1, h2⟩ := h
  obtain ⟨A, c, rfl⟩ := own_slice h1
  rfl
/-- No two of the values share a block. -/
def ApartV (vs : List Value) : Prop := ∀ (i j : Nat) (u v : Value) (b : Nat), i < j → vs[i]? = some u → vs[j]? = some v → u.ownBlock = some b → v.ownBlock = some b → False
/-- The values' blocks are new. -/
def NewV (N : Nat) (vs : List Value) : Prop := ∀ u ∈ vs, ∀ k, u.ownBlock = some k → N ≤ k
/-- Values that are rows of rows of bytes, one by one. -/
def CellRows (w : World) (vs : List Value) (sss : List (List ByteArray)) : Prop := vs.length = sss.length ∧ ∀ (i : Nat) (v : Value) (ss : List ByteArray), vs[i]? = some v → sss[i]? = some ss → CellRow w v ss
theorem CellRows.nil (w : World) : CellRows w [] [] := ⟨rfl, fun i v s h => by simp at h⟩
theorem CellRows.mono {w w1 : World} {vs : List Value} {ss : List (List ByteArray)} (h : CellRows w vs ss) (hm : ∀ v s, CellRow w v s → CellRow w1 v s) : CellRows w1 vs ss := ⟨h.1, fun i v s hv hs => hm v s (h.2 i v s hv hs)⟩
theorem CellRows.snoc {w : World} {vs : List Value} {ss : List (List ByteArray)} {v : Value} {s : List ByteArray} (h : CellRows w vs ss) (hv : CellRow w v s) : CellRows w (vs ++ [v]) (ss ++ [s]) := by
  refine ⟨by simp [h.1], fun i u t hu ht => ?_⟩
  have hl := h.1
  by_cases hi : i < vs.length
  · rw [List.getElem?_append_left hi] at hu
    rw [List.getElem?_append_left (by omega)] at ht
    exact h.2 i u t hu ht
  · rw [List.getElem?_append_right (by omega)] at hu
    rw [List.getElem?_append_right (by omega)] at ht
    obtain rfl : i = vs.length := by
      have := (List.getElem?_eq_some_iff.1 hu).1
      simp at this
      omega
    simp [hl] at hu ht
    subst hu ht
    exact hv
theorem CellRows.get {w : World} {vs : List Value} {ss : List (List ByteArray)} (h : CellRows w vs ss) {i : Nat} {u : Value} (hu : vs[i]? = some u) : ∃ s, ss[i]? = some s ∧ CellRow w u s := by
  have hi := (List.getElem?_eq_some_iff.1 hu).1
  have hl := h.1
  exact ⟨_, List.getElem?_eq_getElem (by omega), h.2 i u _ hu (List.getElem?_eq_getElem (by omega))⟩
theorem ApartV.snoc {vs : List Value} {v : Value} {N : Nat} (h : ApartV vs) (hlt : ∀ u ∈ vs, ∀ k, u.ownBlock = some k → k < N) (hge : ∀ k, v.ownBlock = some k → N ≤ k) : ApartV (vs ++ [v]) := by
  intro i j u x b hij hu hx hub hxb
  have hjl := (List.getElem?_eq_some_iff.1 hx).1
  rw [List.length_append, List.length_singleton] at hjl
  have hil : i < vs.length := by omega
  rw [List.getElem?_append_left hil] at hu
  by_cases hj : j < vs.length
  · rw [List.getElem?_append_left hj] at hx
    exact h i j u x b hij hu hx hub hxb
  · obtain rfl : j = vs.length := by omega
    rw [List.getElem?_append_right (Nat.le_refl _)] at hx
    simp at hx
    subst hx
    have h1 := hlt u (List.mem_of_getElem? hu) b hub
    have h2 := hge b hxb
    omega
/-- Rows of texts that came in. -/
def StrRows (w : World) (A : Option Addr) (sss : List (List ByteArray)) : Prop := 0 < sss.length → ∃ ad, A = some ad ∧ ∀ j ss, sss[j]? = some ss → ∃ A' c', w.cell? (ad.add j) = some (.slice A' ss.length c') ∧ StrRow w A' ss
theorem strRows_of {w : World} {A : Option Addr} {e : Nat} {sss : List (List ByteArray)} (h : (Kd.slice e Kd.string).C w A sss.length sss) : StrRows w A sss := by
  intro h0
  obtain ⟨ad, he, hc⟩ := h.2.2 h0
  refine ⟨ad, he, fun j s hj => ?_⟩
  obtain ⟨c, _, hk, hcell⟩ := hc j s hj
  obtain ⟨A', c', rfl, hl, hC⟩ := hk
  refine ⟨A', c', ?_, strRow_of hC⟩
  have := hcell 0 _ rfl
  have h1 : (Kd.slice e Kd.string).sz = 1 := rfl
  rwa [h1, Nat.mul_one, Nat.add_zero] at this
theorem StrRow.below {w w1 : World} {A : Option Addr} {ss : List ByteArray} (h : StrRow w A ss) (hb : Below w.heap.size w w1) : StrRow w1 A ss := by
  intro h0
  obtain ⟨ad, e, hc⟩ := h h0
  exact ⟨ad, e, fun j s hj => pw_cell_below hb (hc j s hj)⟩

set_option maxRecDepth 100000 in
set_option maxHeartbeats 800000 in
theorem bytesOf_any (A : Option Addr) (c : Nat) (sss : List (List ByteArray)) (w : World) (hl : sss.length ≤ 2147483647) (hll : ∀ ss ∈ sss, ss.length ≤ 2147483647) (hr : StrRows w A sss) :
    Calls Try.prog 21 #[.slice A sss.length c] w fun e w' => ∃ v vs, e = .returned v ∧ w'.ownsRow w.heap.size 50 1 v sss.length vs ∧ CellRows w' vs sss ∧ (ApartV vs ∧ NewV w.heap.size vs) ∧ Below w.heap.size w w' := by
  have HR := Lib.hid hr
  have HL := Lib.hid hll
  clear hr hll
  go_enter Try.func21, Try.ntmps21
  go_wp2
  go_loopw [3, 8] (fun v0 k0 wr => ∃ (v : Value) (k : Nat) (vs : List Value), v = v0 ∧ k0 = .int .i64 k ∧ k ≤ sss.length ∧ wr.ownsRow w.heap.size 50 1 v k vs ∧ (CellRows wr vs (sss.take k) ∧ ApartV vs ∧ NewV w.heap.size vs) ∧ Below w.heap.size w wr) (fun _ k0 _ => sss.length - (intOf k0).toNat)
  case atStart => exact ⟨_, 0, [], rfl, rfl, Nat.zero_le _, own_nil _ _ _ _, ⟨by rw [List.take_zero]; exact CellRows.nil _, fun i j u v b _ h => by simp at h, fun u hu => by cases hu⟩, Below.refl _ _⟩
  case round =>
    obtain ⟨v, k, vs, rfl, rfl, hk, hO, hV, hB⟩ := hrel
    have HO := Lib.hid hO
    have HV := Lib.hid hV
    have HB := Lib.hid hB
    clear hO hV hB
    by_cases hlt : k < sss.length
    · obtain ⟨ad, rfl, hcells⟩ := HR.out (by omega)
      obtain ⟨ss, hs⟩ : ∃ s, sss[k]? = some s := ⟨_, List.getElem?_eq_getElem hlt⟩
      obtain ⟨A', c', hc0, hS0⟩ := hcells k ss hs
      have hc : wr.cell? (ad.add k) = some (.slice A' ss.length c') := (HB.out.cell (p := ad.add k) (World.block_lt_of_cell? w _ hc0)).trans hc0
      have HS0 := Lib.hid (hS0.below HB.out)
      have hssl := HL.out ss (List.mem_of_getElem? hs)
      have HS := Lib.hid hs
      clear hs hc0 hS0 hcells
      have hvl : vs.length = k := by have := HO.out.1; omega
      have HVL := Lib.hid hvl
      clear hvl
      go_wp2_with (first
        | (go_at_call 29; refine (cellsOf_any _ _ ss _ hssl HS0.out).mono ?_; rintro e w1 ⟨v1, vs1, rfl, hown, hv, hb⟩; obtain ⟨A1, c1, rfl⟩ := own_slice hown; have HO1 := Lib.hid hown; have HV1 := Lib.hid hv; have HB1 := Lib.hid hb; clear hown hv hb)
        | (at_builtin; refine print_append (w0 := w1) w.heap.size rfl _ _ 41 50 (.slice none 0 0) 24 rfl Try.underlying41 infoRows rfl (by decide) v vs (.slice A1 ss.length c1) rfl rfl rfl ?own ?bel ?base ?len ?_; (case own => rw [HVL.out]; exact pw_own_below HO.out HB1.out); (case bel => exact Below.refl _ _); (case base => exact Nat.le_trans HB.out.size HB1.out.size); (case len => rw [HVL.out]; omega); intro v2 w2 hown hb1 hg1 _; have HO2 := Lib.hid hown; have HG2 := Lib.hid hg1; clear hown hb1 hg1))
      have hV2 : CellRows w2 (vs ++ [.slice A1 ss.length c1]) (sss.take (k + 1)) := by
        have hts : sss.take (k + 1) = sss.take k ++ [ss] := by rw [List.take_add_one, HS.out]; rfl
        rw [hts]
        exact (CellRows.snoc (HV.out.1.mono fun _ _ h => h.below HB1.out) ⟨_, _, HO1.out, HV1.out⟩).mono fun _ _ h => h.grown (pw_own_below HO.out HB1.out) HG2.out
      have hA2 : ApartV (vs ++ [.slice A1 ss.length c1]) := HV.out.2.1.snoc (fun u hu b hb => by
        obtain ⟨i, hi⟩ := List.mem_iff_getElem?.1 hu
        obtain ⟨s, _, hcr⟩ := HV.out.1.get hi
        exact hcr.lt b hb) (fun b hb => own_base HO1.out b hb)
      have hN2 : NewV w.heap.size (vs ++ [.slice A1 ss.length c1]) := by
        intro u hu k hk
        rcases List.mem_append.1 hu with hu | hu
        · exact HV.out.2.2 u hu k hk
        · obtain rfl := List.mem_singleton.1 hu
          exact Nat.le_trans HB.out.size (own_base HO1.out k hk)
      have HV2 := Lib.hid (And.intro hV2 (And.intro hA2 hN2))
      have HB2 := Lib.hid ((below_then HB.out HB.out.size HB1.out).grown HG2.out (Nat.le_trans HB.out.size HB1.out.size) (fun k hk => own_base HO.out k hk))
      clear hV2 hA2 hN2
      go_wp2
      go_roundw
      case rel => exact ⟨v2, k + 1, _, rfl, by go_num, hlt, by have := HO2.out; rwa [List.length_append, HVL.out] at this, HV2.out, HB2.out⟩
      case measure => simp [intOf]; omega
    · obtain rfl : k = sss.length := by omega
      go_wp2
      go_ret
      exact ⟨_, vs, rfl, HO.out, by have := HV.out.1; rwa [List.take_length] at this, HV.out.2, HB.out⟩
end Go.Proofs.Ytnhcocjdkmelhaa.Hand
