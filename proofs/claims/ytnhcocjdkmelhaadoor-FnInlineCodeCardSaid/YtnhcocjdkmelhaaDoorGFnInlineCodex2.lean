-- made by a program of this session, after the kit's print
import Derived.Test.YtnhcocjdkmelhaaDoorGFnInlineCodex0
import Derived.Test.YtnhcocjdkmelhaaDoorGFnInlineCodex1
import Derived.Test.YtnhcocjdkmelhaaDoorGivFnInlineCode
namespace Go.Proofs.YtnhcocjdkmelhaaDoor.GFnInlineCode
open Go.RowKit Go.Proofs.YtnhcocjdkmelhaaDoorW.PrintWords Go.Proofs.YtnhcocjdkmelhaaDoorW.PrintLast Go.Proofs.YtnhcocjdkmelhaaDoorW.PrintMore
attribute [local go_sem] max2_int min2_int max_two min_two max_three min_three max_four min_four   -- for this text's walks alone
set_option linter.unusedVariables false
set_option linter.unusedSimpArgs false

/-! ### laws_FnInlineCode: function 5 -/
def laws_FnInlineCode.f (k : Nat) (a0 : ByteArray) : Option (Bool) := if (a0.size : Int) > 2147483647 then (some true) else ((laws_inlineASCII.f k a0).bind fun t135 => ((impl_InlineCode.f k t135).bind fun t136 => ((laws_inlineTrim.f k t135).bind fun t137 => ((spec_OneSpace.f k t137).bind fun t138 => (some (t136.toList == t138.toList))))))
theorem laws_FnInlineCode.mono : ∀ a0 k, LeO (laws_FnInlineCode.f k a0) (laws_FnInlineCode.f (k + 1) a0) := by
  intro a0 k
  unfold laws_FnInlineCode.f
  repeat' first
      | (with_reducible exact impl_InlineCode.mono _ _)
      | (with_reducible exact laws_inlineASCII.mono _ _)
      | (with_reducible exact laws_inlineTrim.mono _ _)
      | (with_reducible exact spec_OneSpace.mono _ _)
      | (with_reducible exact LeO.refl _)
      | (with_reducible exact LeO.none _)
      | (with_reducible refine LeO.ite ?_ ?_)
      | (with_reducible refine LeO.bind ?_ (fun _ => ?_))
      | exact impl_InlineCode.mono _ _
      | exact laws_inlineASCII.mono _ _
      | exact laws_inlineTrim.mono _ _
      | exact spec_OneSpace.mono _ _
      | exact LeO.none _
      | refine LeO.ite ?_ ?_
      | refine LeO.bind ?_ (fun _ => ?_)
set_option maxHeartbeats 8000000 in
set_option maxRecDepth 100000 in
theorem laws_FnInlineCode.calls (k : Nat) (a0 : ByteArray) (r : Bool) (w : World) (h : laws_FnInlineCode.f k a0 = some r) (hT0 : Hand.TabB w) :
    Calls Tryd.prog 5 #[.string a0] w fun e w' => e = .returned (.bool r) ∧ Below w.heap.size w w' := by
  have HT0 := Aside0.mk hT0
  clear hT0
  have HB := Aside0.mk (Below.refl w.heap.size w)
  have H : (if (a0.size : Int) > 2147483647 then (some true) else ((laws_inlineASCII.f k a0).bind fun t135 => ((impl_InlineCode.f k t135).bind fun t136 => ((laws_inlineTrim.f k t135).bind fun t137 => ((spec_OneSpace.f k t137).bind fun t138 => (some (t136.toList == t138.toList))))))) = some r := h
  clear h
  by_cases c2 : (a0.size : Int) > 2147483647
  · rw [if_pos c2] at H
    have c2b0 : decide (2147483647 < (a0.size : Int)) = true := decide_eq_true c2
    have c2b1 : decide (2147483647 < a0.size) = true := decide_eq_true (by omega)
    clear c2
    obtain rfl := Option.some.inj H
    go_enter Tryd.func5, Tryd.ntmps5
    go_wp2
    go_ret
    exact ⟨by first | rfl | (simp [errW_none, errW_some] <;> rfl) | (simp [*, errW_none, errW_some] <;> rfl), by repeat (first | (with_reducible first | exact HB.out | apply below_alloc | apply pw_below_drewN | apply below_drew1) | exact HB.out)⟩
  · rw [if_neg c2] at H
    have c2b0 : decide (2147483647 < (a0.size : Int)) = false := decide_eq_false c2
    have c2b1 : decide (2147483647 < a0.size) = false := decide_eq_false (by omega)
    clear c2
    replace H := Option.bind_eq_some_iff.mp H
    obtain ⟨t135, A30, H⟩ := H
    replace H : ((impl_InlineCode.f k t135).bind fun t136 => ((laws_inlineTrim.f k t135).bind fun t137 => ((spec_OneSpace.f k t137).bind fun t138 => (some (t136.toList == t138.toList))))) = some r := H
    have A3 := Aside0.mk A30
    clear A30
    replace H := Option.bind_eq_some_iff.mp H
    obtain ⟨t136, A40, H⟩ := H
    replace H : ((laws_inlineTrim.f k t135).bind fun t137 => ((spec_OneSpace.f k t137).bind fun t138 => (some (t136.toList == t138.toList)))) = some r := H
    have A4 := Aside0.mk A40
    clear A40
    replace H := Option.bind_eq_some_iff.mp H
    obtain ⟨t137, A50, H⟩ := H
    replace H : ((spec_OneSpace.f k t137).bind fun t138 => (some (t136.toList == t138.toList))) = some r := H
    have A5 := Aside0.mk A50
    clear A50
    replace H := Option.bind_eq_some_iff.mp H
    obtain ⟨t138, A60, H⟩ := H
    replace H : (some (t136.toList == t138.toList)) = some r := H
    have A6 := Aside0.mk A60
    clear A60
    obtain rfl := Option.some.inj H
    go_enter Tryd.func5, Tryd.ntmps5
    go_wp2_with (first | ((with_reducible refine gate_callee (f := 7) rfl ?_); refine goesL_ (some 7) rfl rfl Tryd.func7 (by kernel_rfl) rfl #[.string a0] rfl (by (try simp only [List.map_toArray, List.map_cons, List.map_nil]); first | done | rfl | (simp only [List.length_drop, List.length_take]; rfl)) ?_; (with_reducible refine (laws_inlineASCII.calls k a0 t135 _ A3.out).mono ?_); rintro e w7 ⟨rfl, hb⟩; refine ⟨_, rfl, ?_⟩; have n0_ := Aside0.mk (below_step (by repeat (first | (with_reducible first | exact HB.out | apply below_alloc | apply pw_below_drewN | apply below_drew1) | exact HB.out)) hb); clear HB; have HB := n0_; clear n0_; (try clear hb); (try clear hb2); (try clear hk); (try clear hi)) | ((with_reducible refine gate_callee (f := 14) rfl ?_); refine goesL_ (some 9) rfl rfl Tryd.func14 (by kernel_rfl) rfl #[.string t135] rfl (by (try simp only [List.map_toArray, List.map_cons, List.map_nil]); first | done | rfl | (simp only [List.length_drop, List.length_take]; rfl)) ?_; (with_reducible refine (impl_InlineCode.calls k t135 t136 _ A4.out ?sideT).mono ?_); (case sideT => exact Hand.tabB_below HT0.out (by repeat (first | (with_reducible first | exact HB.out | apply below_alloc | apply pw_below_drewN | apply below_drew1) | exact HB.out))); rintro e w8 ⟨rfl, hb⟩; refine ⟨_, rfl, ?_⟩; have n0_ := Aside0.mk (below_step (by repeat (first | (with_reducible first | exact HB.out | apply below_alloc | apply pw_below_drewN | apply below_drew1) | exact HB.out)) hb); clear HB; have HB := n0_; clear n0_; (try clear hb); (try clear hb2); (try clear hk); (try clear hi)) | ((with_reducible refine gate_callee (f := 16) rfl ?_); refine goesL_ (some 11) rfl rfl Tryd.func16 (by kernel_rfl) rfl #[.string t135] rfl (by (try simp only [List.map_toArray, List.map_cons, List.map_nil]); first | done | rfl | (simp only [List.length_drop, List.length_take]; rfl)) ?_; (with_reducible refine (laws_inlineTrim.calls k t135 t137 _ A5.out).mono ?_); rintro e w' ⟨rfl, ⟨nd, rfl⟩⟩; refine ⟨_, rfl, ?_⟩) | ((with_reducible refine gate_callee (f := 15) rfl ?_); refine goesL_ (some 12) rfl rfl Tryd.func15 (by kernel_rfl) rfl #[.string t137] rfl (by (try simp only [List.map_toArray, List.map_cons, List.map_nil]); first | done | rfl | (simp only [List.length_drop, List.length_take]; rfl)) ?_; (with_reducible refine (spec_OneSpace.calls k t137 t138 _ A6.out).mono ?_); rintro e w9 ⟨rfl, hb⟩; refine ⟨_, rfl, ?_⟩; have n0_ := Aside0.mk (below_step (by repeat (first | (with_reducible first | exact HB.out | apply below_alloc | apply pw_below_drewN | apply below_drew1) | exact HB.out)) hb); clear HB; have HB := n0_; clear n0_; (try clear hb); (try clear hb2); (try clear hk); (try clear hi)))
    go_ret
    exact ⟨by first | rfl | (simp [errW_none, errW_some] <;> rfl) | (simp [*, errW_none, errW_some] <;> rfl), by repeat (first | (with_reducible first | exact HB.out | apply below_alloc | apply pw_below_drewN | apply below_drew1) | exact HB.out)⟩

/-- THE ONE PURE STATEMENT of laws_FnInlineCode: yours. -/
def laws_FnInlineCode.Pure : Prop := ∀ (a0 : ByteArray), a0.size ≤ 140737488351232 → ∃ k, laws_FnInlineCode.f k a0 = some true
end Go.Proofs.YtnhcocjdkmelhaaDoor.GFnInlineCode
