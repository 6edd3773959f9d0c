/- impl.NoFirst by hand, over impl.textsOf as it was printed (In2). -/
import Derived.Test.YticofikbijldiaaFirst
import Derived.Test.YticofikbijldiaaGIn2x1
namespace Go.Proofs.Yticofikbijldiaa.Hand
open Go.RowKit Go.Proofs.YticofikbijldiaaW.PrintWords Go.Proofs.YticofikbijldiaaW.PrintLast Go.Proofs.YticofikbijldiaaW.PrintMore
set_option linter.unusedVariables false

theorem reads_own {α : Type} {d : Kd α} (hd : d.sz = 1) {w : World} {base : Nat} {e : TypeId} {v : Value} {vs : List Value} {xs : List α} (hn : xs.length ≤ 9223372036854775807) (h : w.ownsRow base e 1 v xs.length vs) (hk : ∀ (i : Nat) (u : Value) (x : α), vs[i]? = some u → xs[i]? = some x → d.K w x [u]) :
    ∃ A c, v = .slice A xs.length c ∧ xs.length ≤ c ∧ d.C w A xs.length xs := by
  obtain ⟨A, c, rfl⟩ := own_slice h
  have hl := h.1
  rw [Nat.mul_one] at hl
  refine ⟨A, c, rfl, ?_, rfl, hn, fun h0 => ?_⟩
  · rcases h.2 with ⟨hv, hz⟩ | ⟨g, cap, cur, hv, _, _, hc, _⟩
    · omega
    · injection hv with _ _ hv
      omega
  · obtain ⟨g, cap, he, _, _⟩ := h.form h0
    injection he with he _ _
    subst he
    refine ⟨_, rfl, fun j p hj => ?_⟩
    have hjl := (List.getElem?_eq_some_iff.1 hj).1
    obtain ⟨u, hu⟩ : ∃ u, vs[j]? = some u := ⟨_, List.getElem?_eq_getElem (by omega)⟩
    refine ⟨[u], by rw [hd]; rfl, hk j u p hu hj, fun i x hx => ?_⟩
    rw [hd]
    cases i with
    | zero =>
      obtain rfl : u = x := by simpa using hx
      rw [Nat.mul_one, Nat.add_zero]
      exact h.cells (g := g) rfl j u hu
    | succ i => simp at hx
theorem BRow.K {w : World} {v : Value} {s : ByteArray} (h : BRow w v s) (hs : s.size ≤ 9223372036854775807) : (Kd.slice 5 (Kd.int .u8)).K w (bys s) [v] := by
  obtain ⟨k, cap, cur, fr, rfl, h1, h2, h3⟩ := h
  refine ⟨some ⟨k, 0, none⟩, cap, by rw [bys_length], by rw [bys_length]; exact h1, rfl, by rw [bys_length]; exact hs, fun _ => ⟨_, rfl, fun j p hj => ?_⟩⟩
  have hjl := (List.getElem?_eq_some_iff.1 hj).1
  rw [bys_length] at hjl
  refine ⟨[.int .u8 p], rfl, rfl, fun i x hx => ?_⟩
  cases i with
  | zero =>
    obtain rfl : Value.int .u8 p = x := by simpa using hx
    have h4 := h3 j hjl
    rw [List.getD_eq_getElem?_getD, hj, Option.getD_some] at h4
    rw [add_plain]
    have hz : (Kd.int .u8).sz = 1 := rfl
    rw [hz, Nat.mul_one, Nat.add_zero]
    simp only [World.cell?, h2]
    exact h4
  | succ i => simp at hx
theorem CellRow.K {w : World} {v : Value} {ss : List ByteArray} (h : CellRow w v ss) (hl : ss.length ≤ 2147483647) (hs : ∀ s ∈ ss, s.size ≤ 9223372036854775807) : (Kd.slice 45 (Kd.slice 5 (Kd.int .u8))).K w (ss.map bys) [v] := by
  obtain ⟨base, vs, h1, h2⟩ := h
  obtain ⟨A, c, rfl, hc, hC⟩ := reads_own (d := Kd.slice 5 (Kd.int .u8)) rfl (xs := ss.map bys) (by rw [List.length_map]; omega) (by rw [List.length_map]; exact h1) (fun i u x hu hx => by
    rw [List.getElem?_map, Option.map_eq_some_iff] at hx
    obtain ⟨s, hs', rfl⟩ := hx
    exact (h2.2 i u s hu hs').K (hs s (List.mem_of_getElem? hs')))
  exact ⟨A, c, rfl, hc, hC⟩
theorem CellRows.C {w : World} {base : Nat} {v : Value} {vs : List Value} {sss : List (List ByteArray)} (h : CellRows w vs sss) (ho : w.ownsRow base 48 1 v sss.length vs) (hl : sss.length ≤ 2147483647) (hll : ∀ ss ∈ sss, ss.length ≤ 2147483647 ∧ ∀ s ∈ ss, s.size ≤ 9223372036854775807) :
    ∃ A c, v = .slice A (sss.map (·.map bys)).length c ∧ (sss.map (·.map bys)).length ≤ c ∧ (Kd.slice 45 (Kd.slice 5 (Kd.int .u8))).C w A (sss.map (·.map bys)).length (sss.map (·.map bys)) :=
  reads_own rfl (by rw [List.length_map]; omega) (by rw [List.length_map]; exact ho) (fun i u x hu hx => by
    rw [List.getElem?_map, Option.map_eq_some_iff] at hx
    obtain ⟨s, hs', rfl⟩ := hx
    have := hll s (List.mem_of_getElem? hs')
    exact (h.2 i u s hu hs').K this.1 this.2)
open Go.Proofs.Yticofikbijldiaa.GIn2 in
theorem texts_loop1 (x3 : List (List ByteArray)) (x9 : List (List (List Int))) (x10 x11 : Int) (ss : List ByteArray) (hl : ss.length ≤ 2147483647) (h3 : x3.length ≤ 2147483647) (m : Nat) :
    ∀ (d i k : Nat), ss.length - i = d → i ≤ ss.length → k = m + d → impl_textsOf.l1 (k + 1) x3 (ss.take i) x9 x10 x11 (ss.map bys) ((ss.map bys).length : Int) (i : Int) = impl_textsOf.l0 m (x3 ++ [ss]) x9 x10 (wrap64 (x11 + 1)) := by
  intro d
  induction d with
  | zero =>
    intro i k hd hi hk
    obtain rfl : i = ss.length := by omega
    obtain rfl : k = m := by omega
    simp only [impl_textsOf.l1]
    rw [if_neg (by rw [List.length_map]; omega), if_pos (by omega), List.take_length]
  | succ d ih =>
    intro i k hd hi hk
    obtain ⟨k, rfl⟩ : ∃ q, k = q + 1 := ⟨k - 1, by omega⟩
    have hil : i < ss.length := by omega
    have hrd : rd_L1 (ss.map bys) (i : Int) = bys (ss[i]) := by
      simp [rd_L1, hil]
    have htk : ss.take i ++ [strOfNums (rd_L1 (ss.map bys) (i : Int))] = ss.take (i + 1) := by
      rw [hrd, str_bys, List.take_add_one, List.getElem?_eq_getElem hil]
      rfl
    have hw : wrap64 ((i : Int) + 1) = ((i + 1 : Nat) : Int) := by
      unfold wrap64
      omega
    have hsl : (ss.take i).length < 8796093022208 := by rw [List.length_take]; omega
    rw [impl_textsOf.l1]
    rw [if_pos (by rw [List.length_map]; omega), if_pos (by omega), if_pos (by rw [List.length_map]; omega), if_pos hsl, htk, hw]
    exact ih (i + 1) k (by omega) (by omega) (by omega)
open Go.Proofs.Yticofikbijldiaa.GIn2 in
theorem texts_loop0 (sss : List (List ByteArray)) (hl : sss.length ≤ 2147483647) (hll : ∀ ss ∈ sss, ss.length ≤ 2147483647) :
    ∀ (d i : Nat), sss.length - i = d → i ≤ sss.length → ∃ k, impl_textsOf.l0 k (sss.take i) (sss.map (·.map bys)) ((sss.map (·.map bys)).length : Int) (i : Int) = some sss := by
  intro d
  induction d with
  | zero =>
    intro i hd hi
    obtain rfl : i = sss.length := by omega
    refine ⟨1, ?_⟩
    simp only [impl_textsOf.l0]
    rw [if_neg (by rw [List.length_map]; omega), List.take_length]
  | succ d ih =>
    intro i hd hi
    have hil : i < sss.length := by omega
    obtain ⟨k, hk⟩ := ih (i + 1) (by omega) (by omega)
    have hrd : rd_L2 (sss.map (·.map bys)) (i : Int) = (sss[i]).map bys := by
      simp [rd_L2, hil]
    have hw : wrap64 ((i : Int) + 1) = ((i + 1 : Nat) : Int) := by
      unfold wrap64
      omega
    refine ⟨(k + (sss[i]).length + 1) + 1, ?_⟩
    rw [impl_textsOf.l0, if_pos (by rw [List.length_map]; omega), if_pos (by omega), if_pos (by rw [List.length_map]; omega), hrd]
    have := texts_loop1 (sss.take i) (sss.map (·.map bys)) ((sss.map (·.map bys)).length : Int) (i : Int) sss[i] (hll _ (List.getElem_mem hil)) (by rw [List.length_take]; omega) k (sss[i]).length 0 (k + (sss[i]).length) (by omega) (by omega) rfl
    rw [List.take_zero] at this
    refine this.trans ?_
    rw [hw, show sss.take i ++ [sss[i]] = sss.take (i + 1) by rw [List.take_add_one, List.getElem?_eq_getElem hil]; rfl]
    exact hk
open Go.Proofs.Yticofikbijldiaa.GIn2 in
theorem texts_plain (sss : List (List ByteArray)) (hl : sss.length ≤ 2147483647) (hll : ∀ ss ∈ sss, ss.length ≤ 2147483647) : ∃ k, impl_textsOf.f k (sss.map (·.map bys)) = some sss := by
  obtain ⟨k, h⟩ := texts_loop0 sss hl hll sss.length 0 (by omega) (by omega)
  exact ⟨k, h⟩
/-- What a row must be to be let in. -/
def fitR (sss : List (List ByteArray)) : Prop := sss.length ≤ 2147483647 ∧ ∀ ss ∈ sss, ss.length ≤ 2147483647 ∧ ∀ s ∈ ss, s.size ≤ 2147483647
theorem noFirst_mem (sss : List (List ByteArray)) (ss : List ByteArray) (h : ss ∈ noFirst sss) : ss ∈ sss := by
  cases sss with
  | nil => exact h
  | cons a t =>
    simp only [noFirst] at h
    split at h
    · exact List.mem_cons_of_mem _ h
    · exact h
theorem noFirst_length (sss : List (List ByteArray)) : (noFirst sss).length ≤ sss.length := by
  cases sss with
  | nil => exact Nat.le_refl _
  | cons a t =>
    simp only [noFirst]
    split
    · simp
    · exact Nat.le_refl _
set_option maxRecDepth 100000 in
set_option maxHeartbeats 800000 in
theorem impl_noFirst (A : Option Addr) (c : Nat) (sss : List (List ByteArray)) (w : World) (hf : fitR sss) (hr : StrRows w A sss) :
    Calls Try.prog 31 #[.slice A sss.length c] w fun e w' => ∃ v, e = .returned v ∧ Kd.S (Kd.slice 9 Kd.string) 22 w' w.heap.size (fun _ => True) v (noFirst sss) ∧ Below w.heap.size w w' := by
  have HR := Lib.hid hr
  have HF := Lib.hid hf
  have h63 : ∀ ss ∈ sss, ss.length ≤ 2147483647 ∧ ∀ s ∈ ss, s.size ≤ 9223372036854775807 := fun ss hm => ⟨(hf.2 ss hm).1, fun s hs => Nat.le_trans ((hf.2 ss hm).2 s hs) (by decide)⟩
  have H63 := Lib.hid h63
  have hz1 : (noFirst sss).length ≤ 2147483647 := Nat.le_trans (noFirst_length _) hf.1
  have hz2 : ∀ ss ∈ noFirst sss, ss.length ≤ 2147483647 ∧ ∀ s ∈ ss, s.size ≤ 9223372036854775807 := fun ss hm => h63 ss (noFirst_mem _ _ hm)
  have HRF := Lib.hid (fun v vs base w => removeFirst_any v vs sss base w hf.1 h63)
  generalize noFirst sss = zss at *
  obtain ⟨kt, hkt⟩ := texts_plain zss hz1 (fun ss hm => (hz2 ss hm).1)
  obtain ⟨yss, hy⟩ : ∃ y : List (List (List Int)), y = zss.map (·.map bys) := ⟨_, rfl⟩
  have HY := Lib.hid (fun w base v vs (h : CellRows w vs zss) (ho : w.ownsRow base 48 1 v zss.length vs) => h.C ho hz1 hz2)
  rw [← hy] at hkt HY
  have HK := Lib.hid hkt
  clear hr hf h63 hkt hz1 hz2 hy
  go_enter Try.func31, Try.ntmps31
  go_wp2_with (first
    | (go_at_call 54; refine (bytesOf_any _ _ sss _ HF.out.1 (fun ss hm => (HF.out.2 ss hm).1) HR.out).mono ?_; rintro e w1 ⟨v1, vs1, rfl, hown, hv, _, hb⟩; have HO1 := Lib.hid hown; have HV1 := Lib.hid hv; have HB1 := Lib.hid hb; clear hown hv hb)
    | (go_at_call 58; go_in)
    | (go_at_call 76; refine (HRF.out _ vs1 _ _ HO1.out HV1.out).mono ?_; rintro e w2 ⟨v2, vs2, rfl, hown, hv, hb⟩; obtain ⟨A2, c2, rfl, hc2, hC2⟩ := HY.out _ _ _ _ hv hown; have HC2 := Lib.hid hC2; have HCC := Lib.hid hc2; have HB2 := Lib.hid hb; clear hown hv hb hc2 hC2)
    | (go_at_call 52; refine (GIn2.impl_textsOf.calls kt A2 c2 yss zss w2 HC2.out HCC.out HK.out).mono ?_; rintro e w3 ⟨v3, rfl, hs, hb⟩; have HS := Lib.hid hs; have HB3 := Lib.hid hb; clear hs hb))
  go_ret
  have hb12 : Below w.heap.size w w2 := ⟨HB2.out.os.trans HB1.out.os, HB2.out.tape.trans HB1.out.tape, HB2.out.output.trans HB1.out.output, Nat.le_trans HB1.out.size HB2.out.size, fun k hk => (HB2.out.block k hk).trans (HB1.out.block k hk)⟩
  exact ⟨v3, rfl, Kd.S_lower HS.out hb12.size, below_then hb12 hb12.size HB3.out⟩
end Go.Proofs.Yticofikbijldiaa.Hand
