/- The tied card FnQuery: a query of names and values of letters and digits stays as it is. The listed table net/url.table holds what the program's text lays. -/
import Derived.Test.YtnhcocjdkmelhaaDoorTie
import Derived.Test.YtnhcocjdkmelhaaDoorCards
import Derived.LaidMore
import Derived.Lay
import Derived.SevenTiedAt
import Derived.Stop.Joined
import Derived.Test.YtnhcocjdkmelhaaDoorPureFnQuery
import Derived.Test.YtnhcocjdkmelhaaDoorOpenAttr
import Derived.WalkKit
import Derived.ProofKit
import Derived.OpenShut
import Derived.ShutString
import Derived.ChangeOld
import Derived.Below
import Derived.SizedLaws
namespace Go.Proofs.YtnhcocjdkmelhaaDoor.fnQuery
open Go.ChangeShapes Go.WideShapes Go.ChangeAt Go.RowKit
open Go.ChangeMaps (open_string shut_string)
open Go.Proofs.YtnhcocjdkmelhaaDoorW.PrintWords
set_option linter.unusedVariables false
theorem own : ownKnob Tryd.prog.godebug = none := by kernel_rfl
theorem laidOut : laidOutB Tryd.prog = true := by kernel_rfl
set_option maxRecDepth 100000 in
theorem lifted (os : Os) (started : os.Started) (H : Type) (enc : TypeId × Value → H) :
    ReturnsInHanded {} Tryd.checked os 6 .any (fun w args => (Rows.fnQuerySpec.pre enc Tryd.prog Tryd.f6 Rows.fnQueryRow.domain false w args ∧ laidMetH Tryd.prog Rows.fnQueryRow.laid w) ∧ sizedMet enc Tryd.prog Tryd.f6 (OpenSpec.ofChange Rows.fnQuerySpec) false w args) (Rows.fnQuerySpec.post enc Tryd.prog Tryd.f6 false true false false) := by
  refine returnsInHanded_of_change_and (C := Tryd.checked) (X := fun w _ => laidMetH Tryd.prog Rows.fnQueryRow.laid w) (fun _ _ _ hh h => h.of_heap hh) own started (by kernel_rfl) Tryd.func6
    (ChangeSpec.witness_shaped (enc := enc) (C := Tryd.checked) (os := os) (X := fun w _ => laidMetH Tryd.prog Rows.fnQueryRow.laid w) false (World.laidAll Tryd.prog os Rows.fnQueryRow.laid) #[.slice none 0 0] 8 (World.laidAll_os _ _ _)
      (World.shaped_of_ZipB (by kernel_rfl) (by kernel_rfl)) (by kernel_rfl) (by kernel_rfl) (by kernel_rfl)
      (by rw [MakeChecks.laidMetH_plain _ _ _ (by kernel_rfl)]; exact laidMet_laidAll _ (by kernel_rfl) (by kernel_rfl))) ?_
  intro W base args ds gs before hval0 hW hcnd hsz0 hlaid _
  have hsz : (DataW.weightsEach Tryd.prog (Tryd.f6.params.toList ++ Rows.fnQuerySpec.plain.varTypes Tryd.prog) (ds ++ gs)).all (· ≤ reachBytes) = true := hsz0
  have hval : ∀ (j : Nat) t v, Tryd.f6.params[j]? = some t → args[j]? = some v → Value.okWide Tryd.prog W .any base t v := hval0
  have hW' := hW
  obtain ⟨p, q, hA0, hV, rfl, hfz, hnd⟩ := hW
  have hA : DataW.TrodAll enc Tryd.prog W 0 (fun _ => true) true Tryd.f6.params.toList args.toList ds p := hA0
  rw [Tryd.params6] at hA hval hsz
  obtain ⟨v0, vs0, d0, ds0, p0, q0, hargs, rfl, rfl, h0, r0⟩ := trodAll_cons hA
  obtain ⟨rfl, rfl, rfl⟩ := trodAll_nil r0
  obtain rfl : args = #[v0] := by cases args; simp_all
  obtain ⟨rfl, rfl⟩ := trodVars_none hV
  obtain ⟨a0, len0, cap0, rfl⟩ := okWide_slice Tryd.underlying29 (hval 0 29 v0 rfl rfl)
  have k0 := h0
  have lt0 : ∀ x ∈ p0, x.block < W.heap.size := by obtain ⟨m, hm⟩ := k0; exact DataW.trod_lt m _ _ _ hm
  obtain ⟨l0, rfl, c0, C0⟩ := Hand.open_row (d := Go.Proofs.YtnhcocjdkmelhaaDoor.GFnQuery.k32) Tryd.underlying29 (by kernel_rfl) (Hand.opens_attr) h0
  clear hA0 hval0 hsz0 hsz
  have hTAB : Hand.TabB W := by
    rw [MakeChecks.laidMetH_plain _ _ _ (by kernel_rfl)] at hlaid
    obtain ⟨ps, hlv, _⟩ := hlaid
    exact Hand.tabIs_at (P := Tryd.prog) (g := (Tryd.prog.globalNamed "net/url.table").getD 0) (by kernel_rfl) (by kernel_rfl) Tryd.underlying98 Tryd.underlying86 (by kernel_rfl) (by kernel_rfl) 0 _ ps hlv (by kernel_rfl)
  clear hlaid
  refine (Pure.FnQuery_walk (W := W) a0 cap0 l0 C0 c0 hTAB).mono fun e W' ⟨he, bel⟩ => ?_
  subst he
  exact ⟨_, rfl, _, _, _, [], _, [], hW', trodAll_mk1 (shut_bool Tryd.underlying4 _), (trodAll_cons_mk (Below.trod laidOut (by kernel_rfl) (of_decide_eq_true (by kernel_rfl)) k0 bel lt0) trodAll_mk0), rfl, bel.frame _, fun h => by cases h⟩
theorem over : Rows.fnQueryRow.holds Tryd.pinned (OpenSpec.ofChange Rows.fnQuerySpec) :=
  OpenClaim.holds_of_wide 6 Tryd.f6 rfl rfl rfl rfl rfl rfl rfl ⟨rfl, rfl, rfl, rfl, rfl⟩ rfl rfl rfl rfl rfl (by kernel_rfl) Tryd.func6 (by kernel_rfl)
    (of_decide_eq_true (by kernel_rfl)) (by unfold Func.isWrapper; first | (rw [if_pos (by decide +kernel)]; kernel_rfl) | (rw [if_neg (by decide +kernel)]; exact ⟨rfl, rfl⟩))
    (fun os started H enc _ => lifted os started H enc)
theorem card_holds : Rows.FnQueryCardSaid :=
  Claim7.holds_tied_plain_at .later [] [.data] true (true, "b5e35cead2ebcf9d868036cfc2f2c18007341be5c8d8cac90705128da13dc149") false over (fun _ h => by cases h) (by kernel_rfl) (fun _ h => by cases h) fnQuery_row_tie rfl ⟨rfl, rfl⟩ (by kernel_rfl) rfl
    (fun f fn hf hfn => by
      obtain rfl : f = 6 := Option.some.inj ((show Tryd.prog.funcNamed "pub-ligature/laws.FnQuery" = some 6 by kernel_rfl).symm.trans hf) |>.symm
      obtain rfl : fn = Tryd.f6 := (Option.some.inj (Tryd.func6.symm.trans hfn)).symm
      exact ⟨by kernel_rfl, fun j t ht => by
        rw [Tryd.params6] at ht
        have hm : t ∈ [29] := by simpa using Array.mem_of_getElem? ht
        have hall : ([29].all fun u => !Tryd.prog.wantsStandIn u) = true := by kernel_rfl
        exact (show Tryd.prog.wantsStandIn t = false by simpa using List.all_eq_true.1 hall t hm)⟩)
    (by kernel_rfl)
#print axioms card_holds
end Go.Proofs.YtnhcocjdkmelhaaDoor.fnQuery
namespace Go.Proofs.YtnhcocjdkmelhaaDoor
/-- The card, under a short name, for the claim. -/
theorem fnQuery_card : Rows.FnQueryCardSaid := fnQuery.card_holds
end Go.Proofs.YtnhcocjdkmelhaaDoor
