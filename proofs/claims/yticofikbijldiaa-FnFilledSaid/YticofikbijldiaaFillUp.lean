/- table.fillUpRows by hand: each row gets empty cells behind, up to the columns. -/
import Derived.Test.YticofikbijldiaaFill
import Derived.Lib.SlBytesConst
namespace Go.Proofs.Yticofikbijldiaa.Hand
open Go.RowKit Go.Proofs.YticofikbijldiaaW.PrintWords Go.Proofs.YticofikbijldiaaW.PrintLast Go.Proofs.YticofikbijldiaaW.PrintMore
set_option linter.unusedVariables false

def fillRow (c : Int) (ss : List ByteArray) : List ByteArray := ss ++ List.replicate (c - ss.length).toNat ByteArray.empty
theorem BRow_empty (w : World) : BRow (w.alloc (.cells #[] 5)) (.slice (some ⟨w.heap.size, 0, none⟩) 0 0) ByteArray.empty :=
  ⟨w.heap.size, 0, #[], (0, 0), rfl, Nat.le_refl _, heap_alloc_new w _, fun i hi => absurd hi (Nat.not_lt_zero _)⟩
theorem RS.below {base : Nat} {W W2 : World} {g n cap : Nat} {vs : List Value} {sss : List (List ByteArray)} (h : RS base W g n cap vs sss) (hb : Below W.heap.size W W2) : RS base W2 g n cap vs sss :=
  ⟨pw_own_below h.own hb, h.rows.mono fun _ _ hh => hh.below hb, h.apart, h.new⟩
theorem RS.own1 {base : Nat} {W w1 : World} {g n cap i m : Nat} {vs ws : List Value} {sss : List (List ByteArray)} {u : Value} (h : RS base W g n cap vs sss) (hO : W.ownsRow base 45 1 u m ws) (hg : W.grownBy w1 u.ownBlock) (hu : vs[i]? = some u) :
    w1.cell? ⟨g, i, none⟩ = some u ∧ w1.frozen? ⟨g, i, none⟩ = false := by
  have hgR : w1.ownsRow base 48 1 (.slice (some ⟨g, 0, none⟩) n cap) n vs := own_other h.own hg (.inr fun e => by
    obtain ⟨c1, e1⟩ := own_typed h.own g rfl
    obtain ⟨c2, e2⟩ := own_typed hO g (e.symm.trans rfl)
    rw [e1] at e2
    injection e2 with e2
    injection e2 with _ e2
    exact absurd e2 (by decide))
  have := hgR.cells (g := g) rfl i u hu
  rw [add_plain] at this
  exact ⟨this, hgR.frozenAt i⟩
theorem below_fill {base : Nat} {w W W2 w1 : World} {row : Option Nat} {g i : Nat} {v : Value} (h1 : Below base w W) (h2 : Below W.heap.size W W2) (hle : base ≤ W.heap.size) (h3 : W2.grownBy w1 row) (h4 : ∀ k, row = some k → base ≤ k) (h5 : base ≤ g) : Below base w (w1.setCell ⟨g, i, none⟩ v) := by
  have h6 := Lib.grownBy_setCell w1 g i v
  refine ⟨h6.os.trans (h3.os.trans (h2.os.trans h1.os)), h6.tape.trans (h3.tape.trans (h2.tape.trans h1.tape)), h6.output.trans (h3.output.trans (h2.output.trans h1.output)), Nat.le_trans h1.size (Nat.le_trans h2.size (Nat.le_trans h3.size h6.size)), fun k hk => ?_⟩
  have e1 := h1.block k hk
  have e2 := h2.block k (by omega)
  have e3 := h3.block k (by have := h2.size; omega) (fun e => by have := h4 k e.symm; omega)
  have e4 := h6.block k (by have := h2.size; have := h3.size; omega) (fun e => by injection e with e; omega)
  exact e4.trans (e3.trans (e2.trans e1))
theorem set_self {α : Type} {l : List α} {i : Nat} {x : α} (h : l[i]? = some x) : l.set i x = l := by
  apply List.ext_getElem?
  intro k
  rw [List.getElem?_set]
  by_cases hk : i = k
  · subst hk
    rw [if_pos rfl, if_pos (List.getElem?_eq_some_iff.1 h).1, h]
  · rw [if_neg hk]
set_option maxRecDepth 100000 in
set_option maxHeartbeats 1600000 in
theorem fillUp_any (g n cap : Nat) (vs : List Value) (sss : List (List ByteArray)) (c : Int) (base : Nat) (w : World) (hn : n = sss.length) (hl : sss.length ≤ 2147483647) (hll : ∀ ss ∈ sss, ss.length ≤ 2147483647) (hc : -1000 ≤ c ∧ c ≤ 1000)
    (hR : RS base w g n cap vs sss) :
    Calls Try.prog 74 #[.slice (some ⟨g, 0, none⟩) n cap, .int .i64 c] w fun e w' => ∃ vs', e = .returned (.slice (some ⟨g, 0, none⟩) n cap) ∧ RS base w' g n cap vs' (sss.map (fillRow c)) ∧ Below base w w' := by
  have HR := Lib.hid hR
  have HL := Lib.hid hll
  have HN := Lib.hid hn
  have HC := Lib.hid hc
  have hnl : n ≤ 2147483647 := by omega
  clear hR hll hn hl hc
  go_enter Try.func74, Try.ntmps74
  go_wp2
  go_loopw [10] (fun k0 wr => ∃ (i : Nat) (vs : List Value), k0 = .int .i64 i ∧ i ≤ n ∧ RS base wr g n cap vs ((sss.take i).map (fillRow c) ++ sss.drop i) ∧ Below base w wr) (fun k0 _ => n - (intOf k0).toNat)
  case atStart => exact ⟨0, vs, rfl, Nat.zero_le _, HR.out, Below.refl _ _⟩
  case round =>
    obtain ⟨i, vs1, rfl, hi, hR, hB⟩ := hrel
    have HR1 := Lib.hid hR
    have HB1 := Lib.hid hB
    clear hR hB
    by_cases hlt : i < n
    · obtain ⟨cur, hcur⟩ : ∃ x, x = (sss.take i).map (fillRow c) ++ sss.drop i := ⟨_, rfl⟩
      rw [← hcur] at HR1
      obtain ⟨ss, hs⟩ : ∃ s, sss[i]? = some s := ⟨_, List.getElem?_eq_getElem (by have := HN.out; omega)⟩
      have hcs : cur[i]? = some ss := by
        rw [hcur, List.getElem?_append_right (by simp; omega)]
        simp
        rw [show i - min i sss.length = 0 by have := HN.out; omega]
        exact hs
      obtain ⟨u, hu⟩ : ∃ u, vs1[i]? = some u := ⟨_, List.getElem?_eq_getElem (by have := HR1.out.own.1; omega)⟩
      obtain ⟨b0, ws0, hO0, hB0⟩ := HR1.out.rows.2 i u ss hu hcs
      have hcell : wr.cell? ⟨g, i, none⟩ = some u := by
        have := HR1.out.own.cells (g := g) rfl i u hu
        rwa [add_plain] at this
      obtain ⟨A0, c0, rfl⟩ := own_slice hO0
      have hsl := HL.out ss (List.mem_of_getElem? hs)
      have HCur := Lib.hid hcur
      have HS := Lib.hid hs
      have HCS := Lib.hid hcs
      have HU := Lib.hid hu
      clear hcur hs hcs hu hO0 hB0
      go_wp2
      generalize hM : wrap64 (c - (ss.length : Int)) = M
      have HM := Lib.hid hM
      clear hM
      have hM31 : M ≤ 1000 ∧ -2147484647 ≤ M := by
        have h1 := HM.out
        have h2 := HC.out
        have h3 : wrap64 (c - (ss.length : Int)) = c - (ss.length : Int) := by
          clear h1 HM
          unfold wrap64
          omega
        rw [h3] at h1
        clear h3 HM
        omega
      go_loopw [20] (fun k0 wi => ∃ (j : Nat) (vs : List Value), k0 = .int .i64 j ∧ (j : Int) ≤ max 0 M ∧ RS base wi g n cap vs (cur.set i (ss ++ List.replicate j ByteArray.empty)) ∧ Below base w wi) (fun k0 _ => M.toNat - (intOf k0).toNat)
      case atStart => exact ⟨0, vs1, rfl, by omega, by rw [List.replicate_zero, List.append_nil, set_self HCS.out]; exact HR1.out, HB1.out⟩
      case round =>
        obtain ⟨j, vs2, rfl, hj, hR, hB⟩ := hrel
        have HR2 := Lib.hid hR
        have HB2 := Lib.hid hB
        clear hR hB
        by_cases hjm : (j : Int) < M
        · obtain ⟨cur2, hc2⟩ : ∃ x, x = cur.set i (ss ++ List.replicate j ByteArray.empty) := ⟨_, rfl⟩
          rw [← hc2] at HR2
          have hil : i < cur.length := (List.getElem?_eq_some_iff.1 HCS.out).1
          obtain ⟨s2, hs2⟩ : ∃ x, x = ss ++ List.replicate j ByteArray.empty := ⟨_, rfl⟩
          have hcs2 : cur2[i]? = some s2 := by rw [hc2, List.getElem?_set, if_pos rfl, if_pos hil, hs2]
          have hs2l : s2.length = ss.length + j := by rw [hs2]; simp
          have hs3 : cur.set i (ss ++ List.replicate (j + 1) ByteArray.empty) = cur2.set i (s2 ++ [ByteArray.empty]) := by
            rw [hc2, List.set_set, hs2, List.append_assoc, List.replicate_succ']
          obtain ⟨u2, hu2⟩ : ∃ u, vs2[i]? = some u := ⟨_, List.getElem?_eq_getElem (by have := HR2.out.own.1; omega)⟩
          obtain ⟨ws, hO2, hBR⟩ := (HR2.out.rows.2 i u2 s2 hu2 hcs2).rebase (fun k hk => HR2.out.new u2 (List.mem_of_getElem? hu2) k hk)
          have hcell2 : wr.cell? ⟨g, i, none⟩ = some u2 := by
            have := HR2.out.own.cells (g := g) rfl i u2 hu2
            rwa [add_plain] at this
          obtain ⟨A2, c2, rfl⟩ := own_slice hO2
          have hwl : ws.length = s2.length := by have := hO2.1; omega
          have hfit : (s2.length + 1) * 24 ≤ 140737488355328 := by omega
          have HS3 := Lib.hid hs3
          have HCS2 := Lib.hid hcs2
          have HU2 := Lib.hid hu2
          have HO2 := Lib.hid hO2
          have HBR := Lib.hid hBR
          have HWL := Lib.hid hwl
          have HFit := Lib.hid hfit
          clear hc2 hs2 hcs2 hs2l hs3 hu2 hO2 hBR hwl hfit hil
          obtain ⟨W2, hW2⟩ : ∃ W, W = wr.alloc (.cells #[] 5 (0, 1)) := ⟨_, rfl⟩
          have hconv : (convert 45 45 (.slice (some ⟨wr.heap.size, 0, none⟩) 0 0)).run Try.prog (wr.alloc (.cells #[] 5)) = .ok (.slice (some ⟨wr.heap.size, 0, none⟩) 0 0) W2 := by
            rw [hW2]
            exact Lib.run_convert_bytes_const (P := Try.prog) wr 45 5 #[] 0 0 Try.underlying45 Try.underlying5
          have HBW := Lib.hid (show Below wr.heap.size wr W2 by rw [hW2]; exact below_alloc (Below.refl _ _) _)
          have HW2 := Lib.hid hW2
          clear hW2
          go_wp2_with (at_builtin; refine print_append (w0 := W2) base rfl _ _ 48 45 (.slice none 0 0) 24 rfl Try.underlying48 infoBytes rfl (by decide) (.slice A2 s2.length c2) ws (.slice (some ⟨wr.heap.size, 0, none⟩) 0 0) rfl rfl rfl ?own ?bel ?base ?len ?_; (case own => rw [HWL.out]; exact pw_own_below HO2.out HBW.out); (case bel => exact Below.refl _ _); (case base => exact Nat.le_trans (Nat.le_of_lt (Nat.lt_of_le_of_lt (own_base HR2.out.own g rfl) (own_lt HR2.out.own g rfl))) HBW.out.size); (case len => rw [HWL.out]; exact HFit.out); intro v1 w1 hown hb1 hg1 hv1; obtain ⟨A3, c3, rfl⟩ := own_slice hown; obtain ⟨hst1, hst2⟩ := (HR2.out.below HBW.out).own1 (pw_own_below HO2.out HBW.out) hg1 HU2.out; have HO3 := Lib.hid hown; have HG3 := Lib.hid hg1; have HV3 := Lib.hid hv1; clear hown hb1 hg1 hv1)
          have hx : BRow W2 (.slice (some ⟨wr.heap.size, 0, none⟩) 0 0) ByteArray.empty := by
            rw [HW2.out]
            exact ⟨wr.heap.size, 0, #[], (0, 1), rfl, Nat.le_refl _, heap_alloc_new wr _, fun i hi => absurd hi (Nat.not_lt_zero _)⟩
          have hO3 := HO3.out
          simp only [List.length_append, List.length_singleton] at hO3
          refine ⟨⟨j + 1, vs2.set i (.slice A3 (ws.length + 1) c3), by go_num, by omega, ?_, ?_⟩, by simp [intOf]; omega⟩
          · rw [HS3.out]
            exact (HR2.out.below HBW.out).step HU2.out HCS2.out (pw_own_below HO2.out HBW.out) (HBR.out.mono fun _ _ h => h.below HBW.out) hx (by rw [← HWL.out]; exact hO3) HG3.out (by have h := HV3.out; simp only [List.length_append, List.length_singleton] at h; exact h)
          · exact below_fill HB2.out HBW.out (Nat.le_of_lt (Nat.lt_of_le_of_lt (own_base HR2.out.own g rfl) (own_lt HR2.out.own g rfl))) HG3.out (fun k hk => own_base HO2.out k hk) (own_base HR2.out.own g rfl)
        · have hjM : j = M.toNat := by omega
          have hMr : M.toNat = (c - ss.length).toNat := by
            have h1 := HM.out
            have h2 := HC.out
            have h3 : wrap64 (c - (ss.length : Int)) = c - (ss.length : Int) := by
              clear h1 HM
              unfold wrap64
              omega
            rw [← h1, h3]
          have hnx : cur.set i (ss ++ List.replicate j ByteArray.empty) = (sss.take (i + 1)).map (fillRow c) ++ sss.drop (i + 1) := by
            rw [HCur.out, hjM, hMr, List.take_add_one, HS.out, List.map_append, List.set_append_right _ _ (by simp; omega)]
            have hlen : (List.map (fillRow c) (List.take i sss)).length = i := by have := HN.out; simp; omega
            rw [hlen, Nat.sub_self, List.drop_eq_getElem_cons (show i < sss.length by have := HN.out; omega), List.set_cons_zero]
            simp [fillRow]
          have HNX := Lib.hid hnx
          clear hnx hMr hjM
          go_wp2
          go_roundw
          case rel => exact ⟨i + 1, vs2, by go_num, hlt, by rw [← HNX.out]; exact HR2.out, HB2.out⟩
          case measure => simp [intOf]; omega
    · obtain rfl : i = n := by omega
      go_wp2
      go_ret
      refine ⟨vs1, rfl, ?_, HB1.out⟩
      have := HR1.out
      rwa [HN.out, List.take_length, List.drop_length, List.append_nil, ← HN.out] at this
end Go.Proofs.Yticofikbijldiaa.Hand
