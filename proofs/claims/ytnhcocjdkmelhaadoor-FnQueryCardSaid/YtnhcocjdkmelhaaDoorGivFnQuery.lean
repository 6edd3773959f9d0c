/- What FnQuery's printed walk is given: zzSplit at "&", decodeAndEncode at letters and digits, strings.Join, laws.inlineLives. -/
import Derived.Test.YtnhcocjdkmelhaaDoorQuerySplit
namespace Go.Proofs.YtnhcocjdkmelhaaDoor.GFnQuery
open Go.RowKit Go.Proofs.YtnhcocjdkmelhaaDoorW.PrintWords Go.Proofs.YtnhcocjdkmelhaaDoorW.PrintLast Go.Proofs.YtnhcocjdkmelhaaDoorW.PrintMore
set_option linter.unusedVariables false

def laws_inlineLives.f : Option Bool := some true
theorem laws_inlineLives.calls (r : Bool) (w : World) (h : laws_inlineLives.f = some r) :
    Calls Tryd.prog 10 #[] w fun e w' => e = .returned (.bool r) ∧ Below w.heap.size w w' := by
  obtain rfl := Option.some.inj h
  exact Hand.lives_any w
def converter_zzSplit.f (a0 a1 : ByteArray) : Option (List ByteArray) := if a0.size ≤ 100000 ∧ a1 = ⟨#[38]⟩ then some (Hand.splitB a0) else none
theorem converter_zzSplit.calls (a0 a1 : ByteArray) (r : List ByteArray) (w : World) (h : converter_zzSplit.f a0 a1 = some r) :
    Calls Tryd.prog 40 #[.string a0, .string a1] w fun e w' => ∃ v0_ : Value, e = .returned (v0_) ∧ Kd.R Kd.string 9 w' w.heap.size (fun _ => True) v0_ r ∧ Below w.heap.size w w' := by
  unfold converter_zzSplit.f at h
  split at h
  · rename_i hc
    obtain ⟨hs, rfl⟩ := hc
    obtain rfl := Option.some.inj h
    exact Hand.split_any a0 hs w
  · cases h
def converter_decodeAndEncode.f (a0 : ByteArray) : Option ByteArray := if a0.size ≤ 1000 ∧ (Hand.bys a0).all Hand.alI = true then some a0 else none
theorem converter_decodeAndEncode.calls (a0 : ByteArray) (r : ByteArray) (w : World) (h : converter_decodeAndEncode.f a0 = some r) (hT : Hand.TabB w) :
    Calls Tryd.prog 42 #[.string a0] w fun e w' => e = .returned (.string r) ∧ Below w.heap.size w w' := by
  unfold converter_decodeAndEncode.f at h
  split at h
  · rename_i hc
    obtain rfl := Option.some.inj h
    refine Hand.decode_any a0 hc.1 (fun i hi => ?_) w hT
    rw [Hand.bt_bys]
    have hl := Hand.bys_length a0
    rw [show (Hand.bys a0).getD i 0 = (Hand.bys a0)[i]'(by omega) from by simp [show i < (Hand.bys a0).length by omega]]
    exact List.all_eq_true.1 hc.2 _ (List.getElem_mem _)
  · cases h
def strings_Join.f (l0 : List ByteArray) (a1 : ByteArray) : Option ByteArray :=
  if l0.length ≤ 100000 ∧ (Lib.join (l0.map (·.data.toList)) a1.data.toList).length ≤ 140737488355328 then some ⟨(Lib.join (l0.map (·.data.toList)) a1.data.toList).toArray⟩ else none
theorem strings_Join.calls (A0 : Option Addr) (c0 : Nat) (l0 : List ByteArray) (a1 : ByteArray) (r : ByteArray) (w : World) (hr0 : Kd.C Kd.string w A0 l0.length l0) (hc0 : l0.length ≤ c0) (h : strings_Join.f l0 a1 = some r) :
    Calls Tryd.prog 43 #[.slice A0 l0.length c0, .string a1] w fun e w' => e = .returned (.string r) ∧ Below w.heap.size w w' := by
  unfold strings_Join.f at h
  split at h
  · rename_i hc
    obtain rfl := Option.some.inj h
    by_cases h0 : l0.length = 0
    · obtain rfl := List.eq_nil_of_length_eq_zero h0
      refine (Hand.strings_Join_none A0 c0 a1 w).mono ?_
      rintro e w' ⟨rfl, rfl⟩
      exact ⟨rfl, Below.refl _ _⟩
    · obtain ⟨ad, rfl, hx⟩ := Kd.at_string hr0 (0 : Int) (by omega) (by omega)
      obtain ⟨b, o, sp⟩ := ad
      have hlt := World.block_lt_of_cell? w _ hx
      have hsp : sp = none := by
        cases sp with
        | none => rfl
        | some k =>
          simp only [Int.toNat_zero, World.cell?, Addr.add] at hx
          split at hx <;> simp at hx
      subst hsp
      refine Hand.strings_Join b o c0 l0 a1 w (fun j x hj => ?_) hlt (by omega) hc0 hc.2
      have hjl := (List.getElem?_eq_some_iff.1 hj).1
      obtain ⟨ad, e, hx2⟩ := Kd.at_string hr0 (j : Int) (by omega) (by omega)
      obtain rfl := Option.some.inj e
      rw [Int.toNat_natCast, Hand.add_flat] at hx2
      rw [hx2]
      have : rdOf ByteArray.empty l0 (j : Int) = x := by
        have h2 := (List.getElem?_eq_some_iff.1 hj).2
        simp [rdOf, hjl, h2]
      rw [this]
  · cases h
end Go.Proofs.YtnhcocjdkmelhaaDoor.GFnQuery
