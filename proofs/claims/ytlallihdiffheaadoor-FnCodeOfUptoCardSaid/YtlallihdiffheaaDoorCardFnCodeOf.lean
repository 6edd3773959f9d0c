/- A code's text is all texts in it, one behind the other; its language is that of its class. Where the texts are together of bulk at most 1048576. -/
import Derived.Test.YtlallihdiffheaaDoorTie
import Derived.Test.YtlallihdiffheaaDoorCards
import Derived.Test.YtlallihdiffheaaDoorLawCode
import Derived.Test.YtlallihdiffheaaDoorOpenBulk
import Derived.LaidMore
import Derived.Lay
import Derived.SevenTiedAt
import Derived.Stop.Joined
import Derived.Deep.DeepHandedRow
import Derived.Deep.DeepWitnessRowRef
import Derived.JoinedCond
import Derived.WalkKit
import Derived.ProofKit
import Derived.OpenShut
import Derived.ShutString
import Derived.ChangeOld
import Derived.Below
import Derived.SizedLaws
namespace Go.Proofs.YtlallihdiffheaaDoor.fnCodeOf
open Go.ChangeShapes Go.WideShapes Go.ChangeAt Go.RowKit
open Go.ChangeMaps (open_string shut_string)
open Go.Proofs.YtlallihdiffheaaDoorW.PrintWords
set_option linter.unusedVariables false
theorem own : ownKnob Tryd.prog.godebug = none := by kernel_rfl
theorem laidOut : laidOutB Tryd.prog = true := by kernel_rfl
theorem sum_join : ∀ l : List ByteArray, (l.map Hand.wS).sum = (Hand.joinL l).length + l.length
  | [] => rfl
  | x :: l => by
    have h := sum_join l
    have e : Hand.joinL (x :: l) = x.data.toList ++ Hand.joinL l := by simp [Hand.joinL]
    have h9 : x.data.toList.length = x.size := Array.length_toList ..
    rw [List.map_cons, List.sum_cons, h, e, List.length_append, List.length_cons, h9, Hand.wS]
    omega
/-- What the bound gives. -/
theorem two_small {H : Type} {d0 d1 : DataW H} {l : List ByteArray} {s : ByteArray} (hk : Rows.uptoSmall H ([d0, d1] ++ []) = true) (h0 : Hand.wL Hand.wS l ≤ Rows.uptoBulk d0) (h1 : d1 = .lit (.string s.data.toList)) : l.length ≤ 1048576 ∧ (Hand.joinL l).length ≤ 1048576 ∧ s.size ≤ 1048576 := by
  have h := of_decide_eq_true hk
  simp only [List.append_nil, Rows.uptoBulkAll, h1, Rows.uptoBulk, Array.length_toList] at h
  have h2 := sum_join l
  unfold Hand.wL at h0
  have h3 : s.data.size = s.size := rfl
  omega
theorem laid_met (os : Os) : laidMet Tryd.prog Rows.fnCodeOfUptoRow.laid (((World.laidAll Tryd.prog os Rows.fnCodeOfUptoRow.laid).forCall (fun _ _ => 0) ⟨#[], #[.slice none 0 0, .string ByteArray.empty], []⟩).memory) :=
  laidMet_laidAll _ (by kernel_rfl) (by kernel_rfl)
theorem reads (os : Os) {H : Type} (enc : TypeId × Value → H) : ∃ places, DataW.whole enc Tryd.prog ((World.laidAll Tryd.prog os Rows.fnCodeOfUptoRow.laid).forCall (fun _ _ => 0) ⟨#[], #[.slice none 0 0, .string ByteArray.empty], []⟩).memory Tryd.f4.params.toList Rows.fnCodeOfSpec.vars false #[Value.slice none 0 0, Value.string ByteArray.empty].toList 8 = some ([.nil, .lit (.string [])], [], places) :=
  ⟨[], by kernel_rfl⟩
set_option maxRecDepth 100000 in
theorem lifted (os : Os) (started : os.Started) (H : Type) (enc : TypeId × Value → H) (F : Stop.Interp) :
    ReturnsInHanded {} Tryd.checked os 4 .any ((Rows.OpenSpec.upto Rows.fnCodeOfSpec).preRow enc Tryd.prog Tryd.f4 Rows.fnCodeOfUptoRow.domain false Rows.fnCodeOfUptoRow.laid) (((Rows.OpenSpec.upto Rows.fnCodeOfSpec).at F).post enc Tryd.prog Tryd.f4 false true false false) := by
  obtain ⟨places, hx⟩ := reads os enc
  refine returnsInHanded_of_row (C := Tryd.checked) (s := Rows.OpenSpec.upto Rows.fnCodeOfSpec) own started (by kernel_rfl) Tryd.func4
    (witness_row_atRef (enc := enc) (C := Tryd.checked) false (World.laidAll Tryd.prog os Rows.fnCodeOfUptoRow.laid) #[.slice none 0 0, .string ByteArray.empty] (World.laidAll_os _ _ _) (by kernel_rfl) (by kernel_rfl) (by kernel_rfl)
      (OpenSpec.preRow_of_cond 8 hx (by kernel_rfl) (fun k hk => by cases hk; kernel_rfl) (by kernel_rfl) (laid_met os))) ?_
  intro W base args ds gs before hval0 hW _ hcond _ hL _ _
  have hval : ∀ (j : Nat) t v, Tryd.f4.params[j]? = some t → args[j]? = some v → Value.okWide Tryd.prog W .any base t v := hval0
  have hk := hcond _ rfl
  have hW' := hW
  obtain ⟨p, q, hA0, hV, rfl, hfz, hnd⟩ := hW
  have hA : DataW.TrodAll enc Tryd.prog W 0 (fun _ => true) true Tryd.f4.params.toList args.toList ds p := hA0
  rw [Tryd.params4] at hA hval
  obtain ⟨v0, vs0, d0, ds0, p0, q0, hargs, rfl, rfl, h0, r0⟩ := trodAll_cons hA
  obtain ⟨v1, vs1, d1, ds1, p1, q1, rfl, rfl, rfl, h1, r1⟩ := trodAll_cons r0
  obtain ⟨rfl, rfl, rfl⟩ := trodAll_nil r1
  obtain rfl : args = #[v0, v1] := by cases args; simp_all
  obtain ⟨rfl, rfl⟩ := trodVars_none hV
  obtain ⟨a0, len0, cap0, rfl⟩ := okWide_slice Tryd.underlying32 (hval 0 32 v0 rfl rfl)
  have k0 := h0
  have lt0 : ∀ x ∈ p0, x.block < W.heap.size := by obtain ⟨m, hm⟩ := k0; exact DataW.trod_lt m _ _ _ hm
  obtain ⟨l0, rfl, c0, C0, w0⟩ := Hand.open_strsB Tryd.underlying32 (by kernel_rfl) Tryd.underlying9 h0
  obtain ⟨a1, rfl, e1, rfl, y1⟩ := open_string Tryd.underlying9 (hval 1 9 v1 rfl rfl) h1
  obtain ⟨s0, s1, s2⟩ := two_small hk w0 e1
  subst e1
  clear hA0 hval0 hk
  refine (Hand.law_code l0 a1 W a0 cap0 C0 c0 s0 s1 s2).mono fun e W' ⟨he, bel⟩ => ?_
  subst he
  exact ⟨_, rfl, _, _, _, [], _, [], hW', trodAll_mk1 (shut_bool Tryd.underlying4 _), (trodAll_cons_mk (Below.trod laidOut (by kernel_rfl) (of_decide_eq_true (by kernel_rfl)) k0 bel lt0) (trodAll_cons_mk (shut_string Tryd.underlying9 y1) trodAll_mk0)), rfl, bel.frame _, fun h => by cases h⟩
theorem over : Rows.fnCodeOfUptoRow.holds Tryd.pinned (Rows.OpenSpec.upto Rows.fnCodeOfSpec) :=
  OpenClaim.holds_of_cond 4 Tryd.f4 rfl rfl rfl rfl rfl rfl rfl ⟨rfl, rfl, rfl, rfl, rfl⟩ rfl rfl rfl rfl rfl (by kernel_rfl) Tryd.func4 (by kernel_rfl)
    (of_decide_eq_true (by kernel_rfl)) (by unfold Func.isWrapper; first | (rw [if_pos (by decide +kernel)]; kernel_rfl) | (rw [if_neg (by decide +kernel)]; exact ⟨rfl, rfl⟩))
    (fun os started H enc _ F => by rw [OpenClaim.pre_eq_preRow]; exact lifted os started H enc F)
theorem proved : Rows.FnCodeOfUptoSaid := over
theorem plain (f : FuncId) (fn : Func) (hf : Tryd.pinned.checked.prog.funcNamed "pub-ligature/laws.FnCodeOf" = some f) (hfn : Tryd.pinned.checked.prog.funcs[f]? = some fn) :
    false = Tryd.pinned.checked.prog.looks [] ∧ ∀ (j : Nat) t, fn.params[j]? = some t → Tryd.pinned.checked.prog.wantsStandIn t = false := by
  obtain rfl : f = 4 := Option.some.inj ((show Tryd.prog.funcNamed "pub-ligature/laws.FnCodeOf" = some 4 by kernel_rfl).symm.trans hf) |>.symm
  obtain rfl : fn = Tryd.f4 := (Option.some.inj (Tryd.func4.symm.trans hfn)).symm
  refine ⟨by kernel_rfl, fun j t ht => ?_⟩
  rw [Tryd.params4] at ht
  have hm : t ∈ [32, 9] := by simpa using Array.mem_of_getElem? ht
  have hall : ([32, 9].all fun u => !Tryd.prog.wantsStandIn u) = true := by kernel_rfl
  exact (show Tryd.prog.wantsStandIn t = false by simpa using List.all_eq_true.1 hall t hm)
theorem card_holds : Rows.FnCodeOfUptoCardSaid :=
  Claim7.holds_tied_plain_at .later [] _ _ _ _ proved (fun _ h => by cases h) (by kernel_rfl) (fun _ h => by cases h) fnCodeOfUpto_row_tie rfl ⟨rfl, rfl⟩ (by kernel_rfl) rfl plain (by kernel_rfl)
#print axioms card_holds
end Go.Proofs.YtlallihdiffheaaDoor.fnCodeOf
namespace Go.Proofs.YtlallihdiffheaaDoor
/-- The card, under a short name, for the claim. -/
theorem fnCodeOf_card : Rows.FnCodeOfUptoCardSaid := fnCodeOf.card_holds
end Go.Proofs.YtlallihdiffheaaDoor
