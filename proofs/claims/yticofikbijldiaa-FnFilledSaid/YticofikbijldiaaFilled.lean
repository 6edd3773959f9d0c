/- impl.Filled by hand, over impl.textsOf as it was printed (In2). -/
import Derived.Test.YticofikbijldiaaFillUp
import Derived.Test.YticofikbijldiaaNoFirst
namespace Go.Proofs.Yticofikbijldiaa.Hand
open Go.RowKit Go.Proofs.YticofikbijldiaaW.PrintWords Go.Proofs.YticofikbijldiaaW.PrintLast Go.Proofs.YticofikbijldiaaW.PrintMore
set_option linter.unusedVariables false

set_option maxRecDepth 100000 in
set_option maxHeartbeats 800000 in
theorem fillUp_all (v : Value) (vs : List Value) (sss : List (List ByteArray)) (c : Int) (base : Nat) (w : World) (hl : sss.length ≤ 2147483647) (hll : ∀ ss ∈ sss, ss.length ≤ 2147483647) (hc : -1000 ≤ c ∧ c ≤ 1000)
    (hO : w.ownsRow base 48 1 v sss.length vs) (hV : CellRows w vs sss) (hA : ApartV vs ∧ NewV base vs) :
    Calls Try.prog 74 #[v, .int .i64 c] w fun e w' => ∃ v' vs', e = .returned v' ∧ w'.ownsRow base 48 1 v' (sss.map (fillRow c)).length vs' ∧ CellRows w' vs' (sss.map (fillRow c)) ∧ Below base w w' := by
  rcases Nat.eq_zero_or_pos sss.length with h0 | h0
  · obtain rfl := List.eq_nil_of_length_eq_zero h0
    obtain ⟨A, cp, rfl⟩ := own_slice hO
    have HO := Lib.hid hO
    have HV := Lib.hid hV
    clear hO hV hA hll hc hl h0
    go_enter Try.func74, Try.ntmps74
    go_wp2
    go_loopw [10] (fun k0 wr => k0 = .int .i64 0 ∧ wr = w) (fun k0 _ => 0)
    case atStart => exact ⟨rfl, rfl⟩
    case round =>
      obtain ⟨rfl, rfl⟩ := hrel
      go_wp2
      go_ret
      exact ⟨_, vs, rfl, HO.out, HV.out, Below.refl _ _⟩
  · obtain ⟨g, cap, rfl, hg, hgl⟩ := hO.form h0
    refine (fillUp_any g sss.length cap vs sss c base w rfl hl hll hc ⟨hO, hV, hA.1, hA.2⟩).mono ?_
    rintro e w' ⟨vs', rfl, hR, hB⟩
    exact ⟨_, vs', rfl, by rw [List.length_map]; exact hR.own, hR.rows, hB⟩
theorem fillRow_length (c : Int) (ss : List ByteArray) (h : ss.length ≤ 2147483647) (hc : c ≤ 1000) : (fillRow c ss).length ≤ 2147483647 := by
  unfold fillRow
  rw [List.length_append, List.length_replicate]
  omega
theorem fillRow_size (c : Int) (ss : List ByteArray) (h : ∀ s ∈ ss, s.size ≤ 9223372036854775807) : ∀ s ∈ fillRow c ss, s.size ≤ 9223372036854775807 := by
  intro s hs
  rcases List.mem_append.1 hs with hs | hs
  · exact h s hs
  · rw [(List.mem_replicate.1 hs).2]
    decide
set_option maxRecDepth 100000 in
set_option maxHeartbeats 800000 in
theorem impl_filled (A : Option Addr) (cp : Nat) (sss : List (List ByteArray)) (c : Int) (w : World) (hf : fitR sss) (hc : -1000 ≤ c ∧ c ≤ 1000) (hr : StrRows w A sss) :
    Calls Try.prog 28 #[.slice A sss.length cp, .int .i64 c] w fun e w' => ∃ v, e = .returned v ∧ Kd.S (Kd.slice 9 Kd.string) 22 w' w.heap.size (fun _ => True) v (sss.map (fillRow c)) ∧ Below w.heap.size w w' := by
  have HR := Lib.hid hr
  have HF := Lib.hid hf
  have h63 : ∀ ss ∈ sss, ss.length ≤ 2147483647 ∧ ∀ s ∈ ss, s.size ≤ 9223372036854775807 := fun ss hm => ⟨(hf.2 ss hm).1, fun s hs => Nat.le_trans ((hf.2 ss hm).2 s hs) (by decide)⟩
  have hz1 : (sss.map (fillRow c)).length ≤ 2147483647 := by rw [List.length_map]; exact hf.1
  have hz2 : ∀ ss ∈ sss.map (fillRow c), ss.length ≤ 2147483647 ∧ ∀ s ∈ ss, s.size ≤ 9223372036854775807 := fun ss hm => by
    obtain ⟨s, hs, rfl⟩ := List.mem_map.1 hm
    exact ⟨fillRow_length c s (h63 s hs).1 hc.2, fillRow_size c s (h63 s hs).2⟩
  have HRF := Lib.hid (fun v vs base w => fillUp_all v vs sss c base w hf.1 (fun ss hm => (h63 ss hm).1) hc)
  generalize sss.map (fillRow c) = zss at *
  obtain ⟨kt, hkt⟩ := texts_plain zss hz1 (fun ss hm => (hz2 ss hm).1)
  obtain ⟨yss, hy⟩ : ∃ y : List (List (List Int)), y = zss.map (·.map bys) := ⟨_, rfl⟩
  have HY := Lib.hid (fun w base v vs (h : CellRows w vs zss) (ho : w.ownsRow base 48 1 v zss.length vs) => h.C ho hz1 hz2)
  rw [← hy] at hkt HY
  have HK := Lib.hid hkt
  clear hr hf h63 hkt hz1 hz2 hy hc
  go_enter Try.func28, Try.ntmps28
  go_wp2_with (first
    | (go_at_call 54; refine (bytesOf_any _ _ sss _ HF.out.1 (fun ss hm => (HF.out.2 ss hm).1) HR.out).mono ?_; rintro e w1 ⟨v1, vs1, rfl, hown, hv, hap, hb⟩; have HO1 := Lib.hid hown; have HV1 := Lib.hid hv; have HA1 := Lib.hid hap; have HB1 := Lib.hid hb; clear hown hv hb hap)
    | (go_at_call 53; go_in)
    | (go_at_call 74; refine (HRF.out _ vs1 _ _ HO1.out HV1.out HA1.out).mono ?_; rintro e w2 ⟨v2, vs2, rfl, hown, hv, hb⟩; obtain ⟨A2, c2, rfl, hc2, hC2⟩ := HY.out _ _ _ _ hv hown; have HC2 := Lib.hid hC2; have HCC := Lib.hid hc2; have HB2 := Lib.hid hb; clear hown hv hb hc2 hC2)
    | (go_at_call 52; refine (GIn2.impl_textsOf.calls kt A2 c2 yss zss w2 HC2.out HCC.out HK.out).mono ?_; rintro e w3 ⟨v3, rfl, hs, hb⟩; have HS := Lib.hid hs; have HB3 := Lib.hid hb; clear hs hb))
  go_ret
  have hb12 : Below w.heap.size w w2 := ⟨HB2.out.os.trans HB1.out.os, HB2.out.tape.trans HB1.out.tape, HB2.out.output.trans HB1.out.output, Nat.le_trans HB1.out.size HB2.out.size, fun k hk => (HB2.out.block k hk).trans (HB1.out.block k hk)⟩
  exact ⟨v3, rfl, Kd.S_lower HS.out hb12.size, below_then hb12 hb12.size HB3.out⟩
end Go.Proofs.Yticofikbijldiaa.Hand
