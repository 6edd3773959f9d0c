import Derived.Test.YtlallihdiffheaaDoorZMvTrim
import Derived.Test.YtlallihdiffheaaDoorTable
import Derived.Test.YtlallihdiffheaaDoorRows
import Derived.Lib.LaidU8T
import Derived.PinnedBridge
import Derived.Lay
import Derived.Test.YtlallihdiffheaaDoorTie
import Derived.Test.YtlallihdiffheaaDoorCards
import Derived.Test.YtlallihdiffheaaDoorZLawList
import Derived.Test.YtlallihdiffheaaDoorOpenBulk
import Derived.LaidMore
import Derived.SevenTiedAt
import Derived.Stop.Joined
import Derived.Deep.DeepHandedRow
import Derived.Deep.DeepWitnessRowRef
import Derived.JoinedCond
import Derived.WalkKit
import Derived.ProofKit
import Derived.OpenShut
import Derived.ShutString
import Derived.ChangeOld
import Derived.Below
import Derived.SizedLaws
section
/- The tables that a row lists for strings.TrimSpace: from the row's cell 'laid' to what the contracts ask of the world. -/
namespace Go.Proofs.YtlallihdiffheaaDoor.Hand
open Go.Shelf Go.Proofs Go.Lib

def u8_ren : Go.Shelf.Ren := ⟨fun n => n, fun | 5 => 5 | 119 => 99 | 138 => 146 | 139 => 147 | n => n, fun | 3 => 3 | 4 => 4 | n => n⟩
theorem u8_types : U8Types Tryd.prog u8_ren where
  t5 := by kernel_rfl
  t119 := by kernel_rfl
  t138 := by kernel_rfl
  t139 := by kernel_rfl
theorem u8_extra : U8Extra Tryd.prog u8_ren where
  n3 := by kernel_rfl
  n4 := by kernel_rfl
  y3 := by kernel_rfl
  y4 := by kernel_rfl
  c5 := by kernel_rfl
  c119 := by kernel_rfl
  c138 := by kernel_rfl
theorem white_extra : WhiteExtra Tryd.prog lays199_ren where
  n6 := by kernel_rfl
  y6 := by kernel_rfl
  c3 := by kernel_rfl
  c49 := by kernel_rfl
  c193 := by kernel_rfl
  c194 := by kernel_rfl
  c196 := by kernel_rfl
  c198 := by kernel_rfl
theorem accept_eq : (Rows.laid_unicode_utf8_acceptRanges : DataW Unit) = acceptData := by kernel_rfl
theorem white_eq : (Rows.laid_unicode_White_Space : DataW Unit) = whiteData := by kernel_rfl
theorem first_eq : Rows.laid_unicode_utf8_first = firstData := Pinned.utf8First_eq
theorem list_tab {W : World} (h : laidMet Tryd.prog Rows.fnListTwiceUptoRow.laid W) : TabL W := by
  have h3 : VarReads Tryd.prog W "unicode/utf8.first" firstData := laidMet.reads h (by rw [← first_eq]; exact .tail _ (.tail _ (.tail _ (.head _))))
  have h4 : VarReads Tryd.prog W "unicode/utf8.acceptRanges" acceptData := laidMet.reads h (by rw [← accept_eq]; exact .head _)
  have h6 : VarReads Tryd.prog W "unicode.White_Space" whiteData := laidMet.reads h (by rw [← white_eq]; exact .tail _ (.head _))
  refine ⟨?_, utf8Tabs_of_readsT u8_types u8_extra h3 h4, whiteTab_of_reads lays199 white_extra h6⟩
  obtain ⟨ps, hlv, _⟩ := h
  exact tabIs_at (P := Tryd.prog) (g := (Tryd.prog.globalNamed "strings.asciiSpace").getD 0) (by kernel_rfl) (by kernel_rfl) Tryd.underlying99 Tryd.underlying5 (by kernel_rfl) (by kernel_rfl) 2 _ ps hlv (by kernel_rfl)
#print axioms list_tab
end Go.Proofs.YtlallihdiffheaaDoor.Hand
end
section
/- Lists put right twice are as put right once. Where what it reads is of bulk at most 1048576. -/
namespace Go.Proofs.YtlallihdiffheaaDoor.fnListTwice
open Go.ChangeShapes Go.WideShapes Go.ChangeAt Go.RowKit
open Go.ChangeMaps (open_string shut_string)
open Go.Proofs.YtlallihdiffheaaDoorW.PrintWords
set_option linter.unusedVariables false
theorem own : ownKnob Tryd.prog.godebug = none := by kernel_rfl
theorem laidOut : laidOutB Tryd.prog = true := by kernel_rfl
/-- What the bound gives. -/
theorem small {H : Type} {d0 : DataW H} {x : GT.S25} (hk : Rows.uptoSmall H ([d0] ++ []) = true) (h0 : Hand.wN x ≤ Rows.uptoBulk d0) : Hand.wN x ≤ 1048576 := by
  have h := of_decide_eq_true hk
  simp only [List.append_nil, Rows.uptoBulkAll] at h
  omega
theorem laid_met (os : Os) : laidMet Tryd.prog Rows.fnListTwiceUptoRow.laid (((World.laidAll Tryd.prog os Rows.fnListTwiceUptoRow.laid).forCall (fun _ _ => 0) ⟨#[], #[.agg #[.int .i64 0, .string ByteArray.empty, .string ByteArray.empty, .slice none 0 0, .slice none 0 0]], []⟩).memory) :=
  laidMet_laidAll _ (by kernel_rfl) (by kernel_rfl)
theorem reads (os : Os) {H : Type} (enc : TypeId × Value → H) : ∃ places, DataW.whole enc Tryd.prog ((World.laidAll Tryd.prog os Rows.fnListTwiceUptoRow.laid).forCall (fun _ _ => 0) ⟨#[], #[.agg #[.int .i64 0, .string ByteArray.empty, .string ByteArray.empty, .slice none 0 0, .slice none 0 0]], []⟩).memory Tryd.f5.params.toList Rows.fnListTwiceSpec.vars false #[Value.agg #[.int .i64 0, .string ByteArray.empty, .string ByteArray.empty, .slice none 0 0, .slice none 0 0]].toList 8 = some ([.agg [.lit (.int .i64 0), .lit (.string []), .lit (.string []), .nil, .nil]], [], places) :=
  ⟨[], by kernel_rfl⟩
set_option maxRecDepth 100000 in
theorem lifted (os : Os) (started : os.Started) (H : Type) (enc : TypeId × Value → H) (F : Stop.Interp) :
    ReturnsInHanded {} Tryd.checked os 5 .any ((Rows.OpenSpec.upto Rows.fnListTwiceSpec).preRow enc Tryd.prog Tryd.f5 Rows.fnListTwiceUptoRow.domain false Rows.fnListTwiceUptoRow.laid) (((Rows.OpenSpec.upto Rows.fnListTwiceSpec).at F).post enc Tryd.prog Tryd.f5 false true false false) := by
  obtain ⟨places, hx⟩ := reads os enc
  refine returnsInHanded_of_row (C := Tryd.checked) (s := Rows.OpenSpec.upto Rows.fnListTwiceSpec) own started (by kernel_rfl) Tryd.func5
    (witness_row_atRef (enc := enc) (C := Tryd.checked) false (World.laidAll Tryd.prog os Rows.fnListTwiceUptoRow.laid) #[.agg #[.int .i64 0, .string ByteArray.empty, .string ByteArray.empty, .slice none 0 0, .slice none 0 0]] (World.laidAll_os _ _ _) (by kernel_rfl) (by kernel_rfl) (by kernel_rfl)
      (OpenSpec.preRow_of_cond 8 hx (by kernel_rfl) (fun k hk => by cases hk; kernel_rfl) (by kernel_rfl) (laid_met os))) ?_
  intro W base args ds gs before hval0 hW _ hcond _ hL _ _
  have hval : ∀ (j : Nat) t v, Tryd.f5.params[j]? = some t → args[j]? = some v → Value.okWide Tryd.prog W .any base t v := hval0
  have hk := hcond _ rfl
  have hW' := hW
  obtain ⟨p, q, hA0, hV, rfl, hfz, hnd⟩ := hW
  have hA : DataW.TrodAll enc Tryd.prog W 0 (fun _ => true) true Tryd.f5.params.toList args.toList ds p := hA0
  rw [Tryd.params5] at hA hval
  obtain ⟨v0, vs0, d0, ds0, p0, q0, hargs, rfl, rfl, h0, r0⟩ := trodAll_cons hA
  obtain ⟨rfl, rfl, rfl⟩ := trodAll_nil r0
  obtain rfl : args = #[v0] := by cases args; simp_all
  obtain ⟨rfl, rfl⟩ := trodVars_none hV
  obtain ⟨cs0, rfl, _⟩ := okWide_struct Tryd.underlying25 (hval 0 25 v0 rfl rfl)
  have k0 := h0
  have lt0 : ∀ x ∈ p0, x.block < W.heap.size := by obtain ⟨m, hm⟩ := k0; exact DataW.trod_lt m _ _ _ hm
  obtain ⟨y, A3, A4, c3, c4, rfl, C3, l3, C4, l4, w0⟩ := Hand.open_nodeB h0
  have hs := small hk w0
  have hT : Hand.TabL W := Hand.list_tab hL
  clear hA0 hval0 hk
  refine (Dom.law_list y hs W A3 A4 c3 c4 C3 l3 C4 l4 hT).mono fun e W' ⟨he, bel⟩ => ?_
  subst he
  exact ⟨_, rfl, _, _, _, [], _, [], hW', trodAll_mk1 (shut_bool Tryd.underlying4 _), (trodAll_cons_mk (Below.trod laidOut (by kernel_rfl) (of_decide_eq_true (by kernel_rfl)) k0 bel lt0) trodAll_mk0), rfl, bel.frame _, fun h => by cases h⟩
theorem over : Rows.fnListTwiceUptoRow.holds Tryd.pinned (Rows.OpenSpec.upto Rows.fnListTwiceSpec) :=
  OpenClaim.holds_of_cond 5 Tryd.f5 rfl rfl rfl rfl rfl rfl rfl ⟨rfl, rfl, rfl, rfl, rfl⟩ rfl rfl rfl rfl rfl (by kernel_rfl) Tryd.func5 (by kernel_rfl)
    (of_decide_eq_true (by kernel_rfl)) (by unfold Func.isWrapper; first | (rw [if_pos (by decide +kernel)]; kernel_rfl) | (rw [if_neg (by decide +kernel)]; exact ⟨rfl, rfl⟩))
    (fun os started H enc _ F => by rw [OpenClaim.pre_eq_preRow]; exact lifted os started H enc F)
theorem proved : Rows.FnListTwiceUptoSaid := over
theorem plain (f : FuncId) (fn : Func) (hf : Tryd.pinned.checked.prog.funcNamed "pub-ligature/laws.FnListTwice" = some f) (hfn : Tryd.pinned.checked.prog.funcs[f]? = some fn) :
    false = Tryd.pinned.checked.prog.looks [] ∧ ∀ (j : Nat) t, fn.params[j]? = some t → Tryd.pinned.checked.prog.wantsStandIn t = false := by
  obtain rfl : f = 5 := Option.some.inj ((show Tryd.prog.funcNamed "pub-ligature/laws.FnListTwice" = some 5 by kernel_rfl).symm.trans hf) |>.symm
  obtain rfl : fn = Tryd.f5 := (Option.some.inj (Tryd.func5.symm.trans hfn)).symm
  refine ⟨by kernel_rfl, fun j t ht => ?_⟩
  rw [Tryd.params5] at ht
  have hm : t ∈ [25] := by simpa using Array.mem_of_getElem? ht
  have hall : ([25].all fun u => !Tryd.prog.wantsStandIn u) = true := by kernel_rfl
  exact (show Tryd.prog.wantsStandIn t = false by simpa using List.all_eq_true.1 hall t hm)
theorem card_holds : Rows.FnListTwiceUptoCardSaid :=
  Claim7.holds_tied_plain_at .later [] _ _ _ _ proved (fun _ h => by cases h) (by kernel_rfl) (fun _ h => by cases h) fnListTwiceUpto_row_tie rfl ⟨rfl, rfl⟩ (by kernel_rfl) rfl plain (by kernel_rfl)
#print axioms card_holds
end Go.Proofs.YtlallihdiffheaaDoor.fnListTwice
namespace Go.Proofs.YtlallihdiffheaaDoor
/-- The card, under a short name, for the claim. -/
theorem fnListTwice_card : Rows.FnListTwiceUptoCardSaid := fnListTwice.card_holds
end Go.Proofs.YtlallihdiffheaaDoor
end
