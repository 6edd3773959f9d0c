/- bytes.Repeat of one blank, by hand. -/
import Derived.Test.YticofikbijldiaaItemShelf
import Derived.Test.YticofikbijldiaaBytes
import Derived.Test.YticofikbijldiaaMakeCap
import Derived.Lib.SlBuf
import Derived.Lib.MakeNoZero
import Derived.Laws.Externs
import Derived.Deep.LoopGhost
import Derived.Deep.RegionLaw
namespace Go.Proofs.Yticofikbijldiaa.Hand
open Go.RowKit Go.Lib Go.Proofs.YticofikbijldiaaW.PrintWords Go.Proofs.YticofikbijldiaaW.PrintLast Go.Proofs.YticofikbijldiaaW.PrintMore
set_option linter.unusedVariables false

/-- 'copy' as a step of a region that draws, where its run is known. -/
theorem step_copy_run {P : Program} {ops : Array Oper} {o : Oper} {a : Act} {w : World} {K : Act → World → Prop} {Q : Exit → Act → World → Prop} {E : Prop} (hg : o.guard = none) (s x : Operand) (t u : TypeId)
    (ho : o.op = .call { callee := .builtin .copy, args := #[s, x], argTypes := #[t, u] }) (vs vx : Value) (hs : a.eval s = vs) (hx : a.eval x = vx) {v' : Value} {w' : World}
    (hrun : (Builtin.copy_ #[t, u] o.type #[vs, vx]).run P w = .ok v' w') (hK : K (a.put o.dst v') w') :
    if Region.wanted o (yielded ops a.tmps) = true then Oper.wp P o a w K Q else E := by
  have hw : Region.wanted o (yielded ops a.tmps) = true := by simp [Region.wanted, hg]
  rw [if_pos hw]
  unfold Oper.wp
  simp [execOp, ho, resolve, invoke, builtin, hs, hx, hrun, Result.andThen]
  exact hK
theorem Buf_drew {w0 wr : World} {h N : Nat} {acc : List UInt8} (hb : Lib.Buf w0 wr h N acc) : Lib.Buf w0 wr.drew h N acc := ⟨hb.below.drew, hb.there, hb.free, hb.holds, hb.fits⟩
/-- 'copy(b[bp:], b[:m])' of a row that is filled up to bp. -/
theorem copy_own {P : Program} (w0 wr : World) (h N m c : Nat) (acc : List UInt8) (t ty e : TypeId) (hu : P.underlying t = some (.slice e)) (hs : (P.info? e).map (·.size) = some 1)
    (hb : Lib.Buf w0 wr h N acc) (hm : m ≤ acc.length) (k : Nat) (hk : k = Nat.min m (N - acc.length)) :
    ∃ wr', (Builtin.copy_ #[t, t] ty #[.slice (some ⟨h, acc.length, none⟩) (N - acc.length) (N - acc.length), .slice (some ⟨h, 0, none⟩) m c]).run P wr = .ok (.int .i64 (k : Int)) wr' ∧ Lib.Buf w0 wr' h N (acc ++ acc.take k) := by
  have hkm : k ≤ acc.length := by rw [hk]; exact Nat.le_trans (Nat.min_le_left _ _) hm
  have hkN : k ≤ N - acc.length := by rw [hk]; exact Nat.min_le_right _ _
  have hf := hb.fits
  obtain ⟨l, hl⟩ : ∃ l, l = acc.take k := ⟨_, rfl⟩
  have hll : l.length = k := by rw [hl, List.length_take]; omega
  have hr := run_copy_cells (P := P) wr t t ty e h acc.length (N - acc.length) (N - acc.length) ⟨h, 0, none⟩ m c (l.map fun x => Value.int .u8 (x.toNat : Int)) hu hs (by rw [List.length_map, hll, hk])
    (fun j u hj => by
      rw [List.getElem?_map] at hj
      obtain ⟨x, hx, rfl⟩ := Option.map_eq_some_iff.1 hj
      have h2 : (⟨h, 0, none⟩ : Addr).add j = ⟨h, j, none⟩ := by unfold Addr.add; split <;> simp_all
      rw [h2]
      refine hb.holds j x ?_
      rw [hl, List.getElem?_take] at hx
      split at hx
      · exact hx
      · exact absurd hx (by simp))
    (fun j hj => by rw [List.length_map, hll] at hj; exact hb.there _ (by omega)) (fun j hj => by rw [List.length_map, hll] at hj; exact hb.free _ (by omega))
    (fun u hu' => by obtain ⟨x, _, rfl⟩ := List.mem_map.1 hu'; rfl)
  rw [List.length_map, hll] at hr
  refine ⟨_, hr, ?_⟩
  rw [← hl]
  have hin := World.cell?_setCells_in h (l.map fun x => Value.int .u8 (x.toNat : Int)) acc.length wr (fun j hj => by rw [List.length_map, hll] at hj; exact hb.there _ (by omega))
  have hout := World.cell?_setCells_out h (l.map fun x => Value.int .u8 (x.toNat : Int)) acc.length wr
  refine ⟨?_, ?_, ?_, ?_, by rw [List.length_append]; omega⟩
  · exact below_setCells h (Nat.le_refl _) _ _ hb.below
  · intro j hj
    by_cases h1 : acc.length ≤ j ∧ j < acc.length + l.length
    · obtain ⟨d, rfl⟩ : ∃ d, j = acc.length + d := ⟨j - acc.length, by omega⟩
      rw [hin d (by rw [List.length_map]; omega)]
      rfl
    · rw [hout ⟨h, j, none⟩ (fun _ _ => by rw [List.length_map]; show j < _ ∨ _ ≤ j; omega)]
      exact hb.there j hj
  · intro j hj
    rw [World.frozen?_setCells]
    exact hb.free j hj
  · intro j x hx
    by_cases h1 : j < acc.length
    · rw [List.getElem?_append_left h1] at hx
      rw [hout ⟨h, j, none⟩ (fun _ _ => Or.inl h1)]
      exact hb.holds j x hx
    · rw [List.getElem?_append_right (by omega)] at hx
      obtain ⟨d, rfl⟩ : ∃ d, j = acc.length + d := ⟨j - acc.length, by omega⟩
      rw [Nat.add_sub_cancel_left] at hx
      have hd : d < l.length := (List.getElem?_eq_some_iff.1 hx).1
      rw [hin d (by rw [List.length_map]; exact hd)]
      simp [List.getElem_map, (List.getElem?_eq_some_iff.1 hx).2]

set_option maxRecDepth 100000 in
theorem repeat_none (A : Option Addr) (c : Nat) (w : World) : Calls Try.prog 89 #[.slice A 1 c, .int .i64 0] w fun e w' => e = .returned (.slice (some ⟨w.heap.size, 0, none⟩) 0 0) ∧ w' = w.alloc (.cells #[] 5) := by
  go_enter Try.func89, Try.ntmps89
  go_wp2
  go_ret
  exact ⟨rfl, rfl⟩
theorem infoU8 : (Try.prog.info? 5).map (·.size) = some 1 := by kernel_rfl
set_option maxRecDepth 100000 in
theorem repeat_pos (g c n : Nat) (hn1 : 1 ≤ n) (hn : n ≤ 256) (w : World) (hg : w.cell? ⟨g, 0, none⟩ = some (.int .u8 32)) :
    Calls Try.prog 89 #[.slice (some ⟨g, 0, none⟩) 1 c, .int .i64 (n : Int)] w fun e w' => e = .returned (.slice (some ⟨w.heap.size, 0, none⟩) n n) ∧ Lib.Buf w w' w.heap.size n (List.replicate n 32) := by
  have hmul : Calls Try.prog 91 #[.int .u64 1, .int .u64 (n : Int)] w fun e w' => e = .returned (.tuple #[.int .u64 0, .int .u64 (n : Int)]) ∧ w' = w := by
    refine (bits_Mul 1 n (by omega) (by omega) w).mono ?_
    rintro e w' ⟨rfl, rfl⟩
    refine ⟨?_, rfl⟩
    rw [show 1 * n / 18446744073709551616 = 0 by omega, show 1 * n % 18446744073709551616 = n by omega]
    rfl
  obtain ⟨cs, hrunM, hle, _⟩ := Lib.run_makeNoZero (P := Try.prog) w #[3] 45 5 Try.underlying45 n (by omega)
  have hcall : (callFunc 92 #[.int .i64 (n : Int)]).run Try.prog w = .ok (.value (.slice (some ⟨w.heap.size, 0, none⟩) n cs.size)) ((w.alloc (.cells cs 5)).drewN 2) := by
    rw [run_callFunc_extern Try.func92 (by kernel_rfl) (by kernel_rfl) (by kernel_rfl) (e := Extern.BytealgMakeNoZero.makeNoZero #[3] #[45]) (by kernel_rfl), hrunM]
    rfl
  clear hrunM
  have B0 := Lib.Buf.start w cs 5 n 2 hle
  have hv : Lib.HoldsBytes w (.slice (some ⟨g, 0, none⟩) 1 c) [32] := ⟨some ⟨g, 0, none⟩, c, rfl, fun h => absurd h (by simp), fun a ha j x hx => by
    rcases j with _ | j
    · obtain rfl : a = ⟨g, 0, none⟩ := (Option.some.inj ha).symm
      obtain rfl : (32 : UInt8) = x := by simpa using hx
      exact hg
    · simp at hx⟩
  obtain ⟨w1, hr1, B1⟩ := Lib.copy_part (P := Try.prog) w _ w.heap.size n [] [32] (.slice (some ⟨g, 0, none⟩) 1 c) 45 3 5 Try.underlying45 infoU8 (Nat.le_refl _) B0 hv (by simp; omega)
  rw [List.length_nil, Lib.tailV_zero] at hr1
  rw [List.nil_append] at B1
  have i0 : (0 : Int) ≤ (n : Int) := by omega
  have i1 : (n : Int) ≤ (cs.size : Int) := by omega
  have q0 : ((n : Int) == 0) = false := beq_eq_false_iff_ne.2 (by omega)
  have q1 : decide ((n : Int) < 0) = false := decide_eq_false (by omega)
  have q2 : decide (9223372036854775807 < (n : Int)) = false := decide_eq_false (by omega)
  have q3 : decide (8192 < (n : Int)) = false := decide_eq_false (by omega)
  have HB1 := Lib.hid B1
  clear B1 B0 hv
  go_enter Try.func89, Try.ntmps89
  go_wp2_with (first
    | (go_at_call 91; refine hmul.mono ?_; rintro e w' ⟨rfl, hw⟩; rw [hw]; clear hw)
    | (at_builtin; refine Lib.wpList_copy_run _ rfl _ _ 45 45 rfl _ _ rfl rfl hr1 ?_))
  go_loopg [10] (n - 1) (fun gk v wr => ∃ bp : Nat, v = .int .i64 (bp : Int) ∧ gk = n - bp ∧ 1 ≤ bp ∧ bp ≤ n ∧ Aside0 (Lib.Buf w wr w.heap.size n (List.replicate bp 32)))
  case atStart => exact ⟨1, rfl, rfl, Nat.le_refl _, hn1, ⟨HB1.out⟩⟩
  case round =>
    obtain ⟨bp, rfl, rfl, hb1, hbn, hB⟩ := hrel
    have HB := Lib.hid hB.out
    clear hB
    by_cases hlt : bp < n
    · have l1 : (List.replicate bp (32 : UInt8)).length = bp := List.length_replicate
      obtain ⟨k, hk⟩ : ∃ k, k = Nat.min bp (n - bp) := ⟨_, rfl⟩
      obtain ⟨w2, hr2, B2⟩ := copy_own (P := Try.prog) w wr.drew w.heap.size n bp n (List.replicate bp 32) 45 3 5 Try.underlying45 infoU8 (Buf_drew HB.out) (by rw [l1]; exact Nat.le_refl _) k (by rw [l1]; exact hk)
      rw [l1] at hr2
      have e2 : List.replicate bp (32 : UInt8) ++ (List.replicate bp 32).take k = List.replicate (bp + k) 32 := by
        rw [List.take_replicate, List.replicate_append_replicate]
        congr 1
        have : k ≤ bp := by rw [hk]; exact Nat.min_le_left _ _
        omega
      rw [e2] at B2
      have hk1 : 1 ≤ k := by rw [hk]; exact Nat.le_min.2 ⟨hb1, by omega⟩
      have hk2 : k ≤ n - bp := by rw [hk]; exact Nat.min_le_right _ _
      have HB2 := Lib.hid B2
      clear B2 e2 l1 hk
      have d1 : decide ((bp : Int) < (n : Int)) = true := decide_eq_true (by omega)
      have s0 : (0 : Int) ≤ (bp : Int) := by omega
      have s1 : (bp : Int) ≤ (n : Int) := by omega
      have hmin : min (bp : Int) (n : Int) = (bp : Int) := by omega
      have hne : ¬ n = bp := by omega
      have hw : wrap64 ((bp : Int) + (k : Int)) = ((bp + k : Nat) : Int) := by unfold wrap64; omega
      have addr1 : (⟨w.heap.size, 0, none⟩ : Addr).add bp = ⟨w.heap.size, bp, none⟩ := by unfold Addr.add; split <;> simp_all
      have hsl : ∀ W, (Instr.slice 45 (.slice (some ⟨w.heap.size, 0, none⟩) n n) (some (.int .i64 (bp : Int))) none none).run Try.prog W = .ok (.slice (some ⟨w.heap.size, bp, none⟩) (n - bp) (n - bp)) W := fun W => by
        have := Lib.run_slice_tailV (P := Try.prog) W 45 5 Try.underlying45 Try.sizeOf5 w.heap.size n bp (by omega)
        rw [this]
        unfold Lib.tailV
        rw [if_neg hne]
      go_wp2
      go_region_law (refine step_copy_run rfl (.tmp 70) (.tmp 73) 45 45 rfl (.slice (some ⟨w.heap.size, bp, none⟩) (n - bp) (n - bp)) (.slice (some ⟨w.heap.size, 0, none⟩) bp n) (by simp [Act.eval, Act.put]) (by simp [Act.eval, Act.put]) hr2 ?_)
      all_goals
        go_wp2
        go_roundg (n - (bp + k))
        case measure => omega
        case rel => exact ⟨bp + k, by first | rfl | (rw [hw]) | (congr 1; done) | (congr 1; exact hw) | (congr 1; simp [IntKind.wrap, IntKind.bits, IntKind.signed]; omega), rfl, by omega, by omega, ⟨HB2.out⟩⟩
    · obtain rfl : bp = n := by omega
      go_wp2
      go_ret
      exact ⟨rfl, HB.out⟩
end Go.Proofs.Yticofikbijldiaa.Hand
