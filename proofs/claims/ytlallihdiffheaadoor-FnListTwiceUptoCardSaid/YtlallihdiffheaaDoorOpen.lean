/- Arguments that are read: slices of strings, slices of slices, whatever the depth, as the printed texts read them. No program in sight. -/
import Derived.Test.YtlallihdiffheaaDoorWMore
import Derived.ChangeArms
import Derived.ChangeSlices
import Derived.SliceStrings
import Derived.DataReads
import Derived.SizedLaws
namespace Go.Proofs.YtlallihdiffheaaDoor.Hand
open Go.RowKit Go.Proofs.YtlallihdiffheaaDoorW.PrintWords Go.ChangeShapes Go.WideShapes
set_option linter.unusedVariables false

section
variable {H : Type} {enc : TypeId × Value → H} {P : Program} {w : World} {base : Nat} {spare : Nat → Bool} {held : Bool}
/-- Whatever can be read at a type reads as the kind d. -/
def Opens (enc : TypeId × Value → H) (P : Program) (w : World) (base : Nat) (spare : Nat → Bool) (held : Bool) {α : Type} (d : Kd α) (t : TypeId) : Prop :=
  ∀ (fuel : Nat) (cs : List Value) (x : DataW H × List MemPlace), DataW.trod enc P w base spare held fuel t cs = some x → ∃ a : α, d.K w a cs
theorem add_add (a : Addr) (i j : Nat) : (a.add i).add j = a.add (i + j) := by
  obtain ⟨b, o, p⟩ := a
  by_cases hi : i = 0 <;> by_cases hj : j = 0 <;> simp [Addr.add, hi, hj, Nat.add_assoc]
theorem opens_slice {α : Type} {d : Kd α} {t e : TypeId} (ht : P.underlying t = some (.slice e)) (hc : P.cellsOf e = d.sz) (he : Opens enc P w base spare held d e) : Opens enc P w base spare held (Kd.slice e d) t := by
  intro fuel cs x h
  rcases DataW.trod_slice ht h with ⟨rfl, _⟩ | ⟨a, len, cap, elems, rest, n, rfl, rfl, rfl, hb, hl, hm, hlen, hel, _, _⟩
  · exact ⟨[], none, 0, rfl, Nat.le_refl _, rfl, by simp, fun h => absurd h (by simp)⟩
  · have each : ∀ i, i < len → ∃ y : α, ∃ c : List Value, c.length = d.sz ∧ d.K w y c ∧ ∀ j u, c[j]? = some u → w.cell? (a.add (i * d.sz + j)) = some u := by
      intro i hi
      have h1 := hel i hi
      rw [List.getElem?_eq_getElem (by omega)] at h1
      obtain ⟨c, hcs, hct⟩ := Option.bind_eq_some_iff.1 h1
      obtain ⟨y, hy⟩ := he _ _ _ hct
      have h2 := World.cells?_some hcs
      refine ⟨y, c, d.K_len hy, hy, fun j u hj => ?_⟩
      have hjl := (List.getElem?_eq_some_iff.1 hj).1
      rw [← add_add, ← hc, h2.2.2 j (by omega), hj]
    refine ⟨List.ofFn (fun i : Fin len => Classical.choose (each i.1 i.2)), some a, cap, by rw [List.length_ofFn], by rw [List.length_ofFn]; exact hl, rfl, ?_, fun _ => ⟨a, rfl, fun j p hj => ?_⟩⟩
    · rw [List.length_ofFn]
      simp only [maxLen] at hm
      omega
    · have hjl : j < len := by
        have := (List.getElem?_eq_some_iff.1 hj).1
        rwa [List.length_ofFn] at this
      have hp : Classical.choose (each j hjl) = p := by
        have h1 := (List.getElem?_eq_some_iff.1 hj).2
        rwa [List.getElem_ofFn] at h1
      have hs := Classical.choose_spec (each j hjl)
      rw [hp] at hs
      exact hs
theorem opens_string {t : TypeId} (ht : P.underlying t = some .string) : Opens enc P w base spare held Kd.string t := by
  intro fuel cs x h
  cases fuel with
  | zero => simp [DataW.trod] at h
  | succ n =>
    unfold DataW.trod at h
    rw [ht] at h
    split at h <;> simp_all
    exact ⟨_, rfl⟩
theorem opens_int {t : TypeId} {k : IntKind} (ht : P.underlying t = some (.int k)) : Opens enc P w base spare held (Kd.int k) t := by
  intro fuel cs x h
  cases fuel with
  | zero => simp [DataW.trod] at h
  | succ n =>
    unfold DataW.trod at h
    rw [ht] at h
    split at h <;> simp_all
    exact ⟨_, rfl⟩
/-- A slice that came in, as the printed texts read it. -/
theorem open_row {α : Type} {d : Kd α} {t e : TypeId} (ht : P.underlying t = some (.slice e)) (hc : P.cellsOf e = d.sz) (he : Opens enc P w base spare held d e) {A : Option Addr} {n c : Nat} {x : DataW H} {ps : List MemPlace}
    (h : DataW.Trod enc P w base spare held t (.slice A n c) x ps) : ∃ xs : List α, xs.length = n ∧ xs.length ≤ c ∧ d.C w A xs.length xs := by
  obtain ⟨fuel, hf⟩ := h
  obtain ⟨xs, A', c', hcs, hl, hC⟩ := opens_slice ht hc he _ _ _ hf
  simp only [Value.cells] at hcs
  injection hcs with hcs _
  injection hcs with h1 h2 h3
  subst h1 h3
  exact ⟨xs, h2.symm, hl, hC⟩
end
end Go.Proofs.YtlallihdiffheaaDoor.Hand
