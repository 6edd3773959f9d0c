import Derived.Test.YtlallihdiffheaaWMore
import Derived.ChangeArms
import Derived.ChangeSlices
import Derived.SliceStrings
import Derived.DataReads
import Derived.SizedLaws
import Derived.Test.YtlallihdiffheaaZGTx0
section
/- Arguments that are read: slices of strings, slices of slices, whatever the depth, as the printed texts read them. No program in sight. -/
namespace Go.Proofs.Ytlallihdiffheaa.Hand
open Go.RowKit Go.Proofs.YtlallihdiffheaaW.PrintWords Go.ChangeShapes Go.WideShapes
set_option linter.unusedVariables false

section
variable {H : Type} {enc : TypeId × Value → H} {P : Program} {w : World} {base : Nat} {spare : Nat → Bool} {held : Bool}
/-- Whatever can be read at a type reads as the kind d. -/
def Opens (enc : TypeId × Value → H) (P : Program) (w : World) (base : Nat) (spare : Nat → Bool) (held : Bool) {α : Type} (d : Kd α) (t : TypeId) : Prop :=
  ∀ (fuel : Nat) (cs : List Value) (x : DataW H × List MemPlace), DataW.trod enc P w base spare held fuel t cs = some x → ∃ a : α, d.K w a cs
theorem add_add (a : Addr) (i j : Nat) : (a.add i).add j = a.add (i + j) := by
  obtain ⟨b, o, p⟩ := a
  by_cases hi : i = 0 <;> by_cases hj : j = 0 <;> simp [Addr.add, hi, hj, Nat.add_assoc]
theorem opens_slice {α : Type} {d : Kd α} {t e : TypeId} (ht : P.underlying t = some (.slice e)) (hc : P.cellsOf e = d.sz) (he : Opens enc P w base spare held d e) : Opens enc P w base spare held (Kd.slice e d) t := by
  intro fuel cs x h
  rcases DataW.trod_slice ht h with ⟨rfl, _⟩ | ⟨a, len, cap, elems, rest, n, rfl, rfl, rfl, hb, hl, hm, hlen, hel, _, _⟩
  · exact ⟨[], none, 0, rfl, Nat.le_refl _, rfl, by simp, fun h => absurd h (by simp)⟩
  · have each : ∀ i, i < len → ∃ y : α, ∃ c : List Value, c.length = d.sz ∧ d.K w y c ∧ ∀ j u, c[j]? = some u → w.cell? (a.add (i * d.sz + j)) = some u := by
      intro i hi
      have h1 := hel i hi
      rw [List.getElem?_eq_getElem (by omega)] at h1
      obtain ⟨c, hcs, hct⟩ := Option.bind_eq_some_iff.1 h1
      obtain ⟨y, hy⟩ := he _ _ _ hct
      have h2 := World.cells?_some hcs
      refine ⟨y, c, d.K_len hy, hy, fun j u hj => ?_⟩
      have hjl := (List.getElem?_eq_some_iff.1 hj).1
      rw [← add_add, ← hc, h2.2.2 j (by omega), hj]
    refine ⟨List.ofFn (fun i : Fin len => Classical.choose (each i.1 i.2)), some a, cap, by rw [List.length_ofFn], by rw [List.length_ofFn]; exact hl, rfl, ?_, fun _ => ⟨a, rfl, fun j p hj => ?_⟩⟩
    · rw [List.length_ofFn]
      simp only [maxLen] at hm
      omega
    · have hjl : j < len := by
        have := (List.getElem?_eq_some_iff.1 hj).1
        rwa [List.length_ofFn] at this
      have hp : Classical.choose (each j hjl) = p := by
        have h1 := (List.getElem?_eq_some_iff.1 hj).2
        rwa [List.getElem_ofFn] at h1
      have hs := Classical.choose_spec (each j hjl)
      rw [hp] at hs
      exact hs
theorem opens_string {t : TypeId} (ht : P.underlying t = some .string) : Opens enc P w base spare held Kd.string t := by
  intro fuel cs x h
  cases fuel with
  | zero => simp [DataW.trod] at h
  | succ n =>
    unfold DataW.trod at h
    rw [ht] at h
    split at h <;> simp_all
    exact ⟨_, rfl⟩
theorem opens_int {t : TypeId} {k : IntKind} (ht : P.underlying t = some (.int k)) : Opens enc P w base spare held (Kd.int k) t := by
  intro fuel cs x h
  cases fuel with
  | zero => simp [DataW.trod] at h
  | succ n =>
    unfold DataW.trod at h
    rw [ht] at h
    split at h <;> simp_all
    exact ⟨_, rfl⟩
end
end Go.Proofs.Ytlallihdiffheaa.Hand
end
section
/- An argument that is a tree (impl.Node), as the printed texts read it. -/
namespace Go.Proofs.Ytlallihdiffheaa.Hand
open Go.RowKit Go.Proofs.YtlallihdiffheaaW.PrintWords Go.Proofs.Ytlallihdiffheaa.GT Go.ChangeShapes Go.WideShapes
set_option linter.unusedVariables false

section
variable {H : Type} {enc : TypeId × Value → H} {w : World} {base : Nat} {spare : Nat → Bool} {held : Bool}
/-- As 'Opens', so many steps deep. -/
def OpensAt (enc : TypeId × Value → H) (P : Program) (w : World) (base : Nat) (spare : Nat → Bool) (held : Bool) {α : Type} (n : Nat) (d : Kd α) (t : TypeId) : Prop :=
  ∀ (fuel : Nat), fuel ≤ n → ∀ (cs : List Value) (x : DataW H × List MemPlace), DataW.trod enc P w base spare held fuel t cs = some x → ∃ a : α, d.K w a cs
theorem opensAt_slice {P : Program} {α : Type} {d : Kd α} {t e : TypeId} {n : Nat} (ht : P.underlying t = some (.slice e)) (hc : P.cellsOf e = d.sz) (he : OpensAt enc P w base spare held n d e) : OpensAt enc P w base spare held (n + 1) (Kd.slice e d) t := by
  intro fuel hfu cs x h
  rcases DataW.trod_slice ht h with ⟨rfl, _⟩ | ⟨a, len, cap, elems, rest, m, rfl, rfl, rfl, hb, hl, hm, hlen, hel, _, _⟩
  · exact ⟨[], none, 0, rfl, Nat.le_refl _, rfl, by simp, fun h => absurd h (by simp)⟩
  · have each : ∀ i, i < len → ∃ y : α, ∃ c : List Value, c.length = d.sz ∧ d.K w y c ∧ ∀ j u, c[j]? = some u → w.cell? (a.add (i * d.sz + j)) = some u := by
      intro i hi
      have h1 := hel i hi
      rw [List.getElem?_eq_getElem (by omega)] at h1
      obtain ⟨c, hcs, hct⟩ := Option.bind_eq_some_iff.1 h1
      obtain ⟨y, hy⟩ := he _ (by omega) _ _ hct
      have h2 := World.cells?_some hcs
      refine ⟨y, c, d.K_len hy, hy, fun j u hj => ?_⟩
      have hjl := (List.getElem?_eq_some_iff.1 hj).1
      rw [← add_add, ← hc, h2.2.2 j (by omega), hj]
    refine ⟨List.ofFn (fun i : Fin len => Classical.choose (each i.1 i.2)), some a, cap, by rw [List.length_ofFn], by rw [List.length_ofFn]; exact hl, rfl, ?_, fun _ => ⟨a, rfl, fun j p hj => ?_⟩⟩
    · rw [List.length_ofFn]
      simp only [maxLen] at hm
      omega
    · have hjl : j < len := by
        have := (List.getElem?_eq_some_iff.1 hj).1
        rwa [List.length_ofFn] at this
      have hp : Classical.choose (each j hjl) = p := by
        have h1 := (List.getElem?_eq_some_iff.1 hj).2
        rwa [List.getElem_ofFn] at h1
      have hs := Classical.choose_spec (each j hjl)
      rw [hp] at hs
      exact hs
set_option maxRecDepth 100000 in
theorem opens_attr : Opens enc Try.prog w base spare held k34 34 := by
  intro fuel cs x h
  obtain ⟨xs, m, rfl, rfl, hl, hlen, hf⟩ := DataW.trod_struct Try.underlying34 h
  have hl : cs.length = 2 := hl
  have f0 := hf 0 _ rfl
  have f1 := hf 1 _ rfl
  match xs, hlen, cs, hl with
  | [x0, x1], _, [c0, c1], _ =>
    obtain ⟨a0, h0⟩ := opens_string Try.underlying9 _ _ _ f0
    obtain ⟨a1, h1⟩ := opens_string Try.underlying9 _ _ _ f1
    obtain rfl : c0 = .string a0 := by injection h0
    obtain rfl : c1 = .string a1 := by injection h1
    exact ⟨⟨a0, a1⟩, k34_mk w ⟨a0, a1⟩⟩
set_option maxRecDepth 100000 in
theorem opens_node : ∀ n, OpensAt enc Try.prog w base spare held n k25 25
  | 0 => fun fuel hf cs x h => by
    obtain rfl : fuel = 0 := by omega
    simp [DataW.trod] at h
  | n + 1 => fun fuel hfu cs x h => by
    obtain ⟨xs, m, rfl, rfl, hl, hlen, hf⟩ := DataW.trod_struct Try.underlying25 h
    have hl : cs.length = 5 := hl
    have f0 := hf 0 _ rfl
    have f1 := hf 1 _ rfl
    have f2 := hf 2 _ rfl
    have f3 := hf 3 _ rfl
    have f4 := hf 4 _ rfl
    match xs, hlen, cs, hl with
    | [x0, x1, x2, x3, x4], _, [c0, c1, c2, c3, c4], _ =>
      obtain ⟨a0, h0⟩ := opens_int Try.underlying3 _ _ _ f0
      obtain ⟨a1, h1⟩ := opens_string Try.underlying9 _ _ _ f1
      obtain ⟨a2, h2⟩ := opens_string Try.underlying9 _ _ _ f2
      obtain ⟨a3, A3, e3, h3, l3, C3⟩ := opens_slice Try.underlying22 (by kernel_rfl) opens_attr _ _ _ f3
      obtain ⟨a4, A4, e4, h4, l4, C4⟩ := opensAt_slice Try.underlying23 (by kernel_rfl) (opens_node n) m (by omega) _ _ f4
      obtain rfl : c0 = .int .i64 a0 := by injection h0
      obtain rfl : c1 = .string a1 := by injection h1
      obtain rfl : c2 = .string a2 := by injection h2
      obtain rfl : c3 = .slice A3 a3.length e3 := by injection h3
      obtain rfl : c4 = .slice A4 a4.length e4 := by injection h4
      exact ⟨⟨a0, a1, a2, a3, a4⟩, k25_mk w ⟨a0, a1, a2, a3, a4⟩ l3 C3 l4 C4⟩
/-- A tree that came in. -/
theorem open_node {cs : Array Value} {x : DataW H} {ps : List MemPlace} (h : DataW.Trod enc Try.prog w base spare held 25 (.agg cs) x ps) :
    ∃ (y : S25) (A3 A4 : Option Addr) (c3 c4 : Nat), cs = #[.int .i64 y.f0, .string y.f1, .string y.f2, .slice A3 y.f3.length c3, .slice A4 y.f4.length c4] ∧ k34.C w A3 y.f3.length y.f3 ∧ y.f3.length ≤ c3 ∧ k25.C w A4 y.f4.length y.f4 ∧ y.f4.length ≤ c4 := by
  obtain ⟨fuel, hf⟩ := h
  obtain ⟨y, hy⟩ := opens_node fuel fuel (Nat.le_refl _) _ _ hf
  obtain ⟨A3, c3, A4, c4, he, l3, g3, l4, g4⟩ := k25_open hy
  refine ⟨y, A3, A4, c3, c4, ?_, g3, l3, g4, l4⟩
  have : cs.toList = _ := he
  rw [← Array.toArray_toList (xs := cs), this]
end
end Go.Proofs.Ytlallihdiffheaa.Hand
end
