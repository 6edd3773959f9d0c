/- dom.NodeName by hand (out of the texts of isFakeSpan). -/
import Derived.Test.YtlallihdiffheaaDoorSmall
import Derived.Test.YtlallihdiffheaaDoorGuard
import Derived.Lib.BufferWrite
import Derived.Laws.EntriesVeiled
namespace Go.Proofs.YtlallihdiffheaaDoor.Hand
open Go.RowKit Go.Proofs.YtlallihdiffheaaDoorW.PrintWords Go.Proofs.YtlallihdiffheaaDoorW.PrintLast Go.Proofs.YtlallihdiffheaaDoorW.PrintMore Go.Proofs.YtlallihdiffheaaDoor.GT
set_option linter.unusedVariables false
set_option linter.unusedSimpArgs false

def spanB : ByteArray := ⟨#[115, 112, 97, 110]⟩
def divB : ByteArray := ⟨#[100, 105, 118]⟩
theorem span_div : divB ≠ spanB := by decide
def nameOf (p : Pay) : ByteArray := if p.type = 3 then p.data else if p.type = 1 then ⟨#[35, 116, 101, 120, 116]⟩ else if p.type = 4 then ⟨#[35, 99, 111, 109, 109, 101, 110, 116]⟩ else ⟨#[35, 100, 111, 99, 117, 109, 101, 110, 116]⟩
theorem span_of {s : ByteArray} (h : (!s.toList == [115, 112, 97, 110]) = false) : s = spanB := by
  have h1 : s.toList = [115, 112, 97, 110] := by simpa using h
  have h2 : spanB.toList = [115, 112, 97, 110] := by decide +kernel
  have h3 := h1.trans h2.symm
  rw [ByteArray.toList_eq, ByteArray.toList_eq] at h3
  exact ByteArray.ext (Array.toList_inj.1 h3)
theorem nameOf_span {p : Pay} (h : nameOf p = spanB) : p.type = 3 ∧ p.data = spanB := by
  unfold nameOf at h
  split at h
  · exact ⟨by assumption, h⟩
  · split at h
    · exact absurd h (by decide)
    · split at h
      · exact absurd h (by decide)
      · exact absurd h (by decide)
theorem neat_type {n : Nat} {p : Pay} {k r : F Pay} (h : Neat (.node n p k r)) : p.type = 1 ∨ p.type = 4 ∨ p.type = 3 ∨ p.type = 2 := by
  rcases h.1 with ⟨h, _⟩ | ⟨h, _⟩ | h | h
  · exact .inl h
  · exact .inr (.inl h)
  · exact .inr (.inr (.inl h))
  · exact .inr (.inr (.inr h))
set_option maxRecDepth 100000 in
theorem nodeName_any {w : World} {H : NMap} (hw : Holds w H) {b : Nat} {par f l v x : Option Nat} {q : Pay} (hb : H b = some ⟨par, f, l, v, x, q⟩) (ht : q.type = 1 ∨ q.type = 4 ∨ q.type = 3 ∨ q.type = 2) :
    Calls Tryd.prog 58 #[.pointer (some ⟨b, 0, none⟩)] w fun e w' => e = .returned (.string (nameOf q)) ∧ Below w.heap.size w w' := by
  obtain ⟨n0, n1, n2, n3, n4, n5, n6, n7, n9⟩ := hw.opened hb
  clear n0 n1 n2 n3 n4 n6 n9
  have hq : ∃ s, s = nameOf q := ⟨_, rfl⟩
  obtain ⟨s, hs⟩ := hq
  rcases ht with ht | ht | ht | ht
  · have e : nameOf q = ⟨#[35, 116, 101, 120, 116]⟩ := by simp [nameOf, ht]
    rw [e]
    rw [ht] at n5
    clear e ht hb hs
    go_enter Tryd.func58, Tryd.ntmps58
    go_wp2
    go_ret
    exact ⟨rfl, Below.refl _ _⟩
  · have e : nameOf q = ⟨#[35, 99, 111, 109, 109, 101, 110, 116]⟩ := by simp [nameOf, ht]
    rw [e]
    rw [ht] at n5
    clear e ht hb hs
    go_enter Tryd.func58, Tryd.ntmps58
    go_wp2
    go_ret
    exact ⟨rfl, Below.refl _ _⟩
  · have e : nameOf q = q.data := by simp [nameOf, ht]
    rw [e]
    rw [ht] at n5
    clear e ht hb hs
    go_enter Tryd.func58, Tryd.ntmps58
    go_wp2
    go_ret
    exact ⟨rfl, Below.refl _ _⟩
  · have e : nameOf q = ⟨#[35, 100, 111, 99, 117, 109, 101, 110, 116]⟩ := by simp [nameOf, ht]
    rw [e]
    rw [ht] at n5
    clear e ht hb hs
    go_enter Tryd.func58, Tryd.ntmps58
    go_wp2
    go_ret
    exact ⟨rfl, Below.refl _ _⟩
theorem ite_some {c : Prop} [Decidable c] {a b : Option Bool} (ha : ∃ r, a = some r) (hb : ∃ r, b = some r) : ∃ r, (if c then a else b) = some r := by
  by_cases h : c
  · rw [if_pos h]; exact ha
  · rw [if_neg h]; exact hb
theorem Holds.grown {w w' : World} {H : NMap} (h : Holds w H) {fl : Nat} {c : Array Value} {t : TypeId} {z : Nat × Nat} (hf : w.heap[fl]? = some (.cells c t z)) (h1 : t ≠ 81) (h2 : t ≠ 83) (hg : w.grownBy w' (some fl)) : Holds w' H := by
  have key : ∀ (k : Nat) (c' : Array Value) (t' : TypeId) (z' : Nat × Nat), w.heap[k]? = some (.cells c' t' z') → t ≠ t' → w'.heap[k]? = w.heap[k]? := by
    intro k c' t' z' hk ht
    refine hg.block k (Array.getElem?_eq_some_iff.1 hk).1 (fun e => ?_)
    have e := Option.some.inj e
    rw [e, hf] at hk
    injection hk with hk
    injection hk with _ hk
    exact ht hk
  exact ⟨fun b r hr => (key _ _ _ _ (h.node b r hr) h1).trans (h.node b r hr), fun b r hr => (h.attrs b r hr).keep fun g hg2 => by
    obtain ⟨c', hc'⟩ := (h.attrs b r hr).block hg2
    exact key _ _ _ _ hc' h2⟩
theorem grownRow {w w1 w2 : World} {fl : Nat} (h : Below w.heap.size w w1) (g : w1.grownBy w2 (some fl)) : w.grownBy w2 (some fl) :=
  ⟨g.os.trans h.os, g.tape.trans h.tape, g.output.trans h.output, Nat.le_trans h.size g.size, fun k hk hne => (g.block k (Nat.lt_of_lt_of_le hk h.size) hne).trans (h.block k hk)⟩
end Go.Proofs.YtlallihdiffheaaDoor.Hand
