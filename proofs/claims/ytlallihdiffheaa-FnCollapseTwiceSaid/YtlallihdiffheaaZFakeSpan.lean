/- domutils.isFakeSpan by hand: it tells spans alone, and turns no node. -/
import Derived.Test.YtlallihdiffheaaZSmall
import Derived.Test.YtlallihdiffheaaZGBkx1
import Derived.Test.YtlallihdiffheaaZGuard
import Derived.Lib.BufferWrite
import Derived.Laws.EntriesVeiled
namespace Go.Proofs.Ytlallihdiffheaa.Hand
open Go.RowKit Go.Proofs.YtlallihdiffheaaW.PrintWords Go.Proofs.YtlallihdiffheaaW.PrintLast Go.Proofs.YtlallihdiffheaaW.PrintMore Go.Proofs.Ytlallihdiffheaa.GT Go.Proofs.Ytlallihdiffheaa.GBk
set_option linter.unusedVariables false
set_option linter.unusedSimpArgs false

def nameOf (p : Pay) : ByteArray := if p.type = 3 then p.data else if p.type = 1 then ⟨#[35, 116, 101, 120, 116]⟩ else if p.type = 4 then ⟨#[35, 99, 111, 109, 109, 101, 110, 116]⟩ else ⟨#[35, 100, 111, 99, 117, 109, 101, 110, 116]⟩
set_option maxRecDepth 100000 in
theorem nodeName_any {w : World} {H : NMap} (hw : Holds w H) {b : Nat} {par f l v x : Option Nat} {q : Pay} (hb : H b = some ⟨par, f, l, v, x, q⟩) (ht : q.type = 1 ∨ q.type = 4 ∨ q.type = 3 ∨ q.type = 2) :
    Calls Try.prog 105 #[.pointer (some ⟨b, 0, none⟩)] w fun e w' => e = .returned (.string (nameOf q)) ∧ Below w.heap.size w w' := by
  obtain ⟨n0, n1, n2, n3, n4, n5, n6, n7, n9⟩ := hw.opened hb
  clear n0 n1 n2 n3 n4 n6 n9
  have hq : ∃ s, s = nameOf q := ⟨_, rfl⟩
  obtain ⟨s, hs⟩ := hq
  rcases ht with ht | ht | ht | ht
  · have e : nameOf q = ⟨#[35, 116, 101, 120, 116]⟩ := by simp [nameOf, ht]
    rw [e]
    rw [ht] at n5
    clear e ht hb hs
    go_enter Try.func105, Try.ntmps105
    go_wp2
    go_ret
    exact ⟨rfl, Below.refl _ _⟩
  · have e : nameOf q = ⟨#[35, 99, 111, 109, 109, 101, 110, 116]⟩ := by simp [nameOf, ht]
    rw [e]
    rw [ht] at n5
    clear e ht hb hs
    go_enter Try.func105, Try.ntmps105
    go_wp2
    go_ret
    exact ⟨rfl, Below.refl _ _⟩
  · have e : nameOf q = q.data := by simp [nameOf, ht]
    rw [e]
    rw [ht] at n5
    clear e ht hb hs
    go_enter Try.func105, Try.ntmps105
    go_wp2
    go_ret
    exact ⟨rfl, Below.refl _ _⟩
  · have e : nameOf q = ⟨#[35, 100, 111, 99, 117, 109, 101, 110, 116]⟩ := by simp [nameOf, ht]
    rw [e]
    rw [ht] at n5
    clear e ht hb hs
    go_enter Try.func105, Try.ntmps105
    go_wp2
    go_ret
    exact ⟨rfl, Below.refl _ _⟩
/-- The nodes stay where a block of another kind turns. -/
theorem Holds.grown {w w' : World} {H : NMap} (h : Holds w H) {fl : Nat} {c : Array Value} {t : TypeId} {z : Nat × Nat} (hf : w.heap[fl]? = some (.cells c t z)) (h1 : t ≠ 115) (h2 : t ≠ 117) (hg : w.grownBy w' (some fl)) : Holds w' H := by
  have key : ∀ (k : Nat) (c' : Array Value) (t' : TypeId) (z' : Nat × Nat), w.heap[k]? = some (.cells c' t' z') → t ≠ t' → w'.heap[k]? = w.heap[k]? := by
    intro k c' t' z' hk ht
    refine hg.block k (Array.getElem?_eq_some_iff.1 hk).1 (fun e => ?_)
    have e := Option.some.inj e
    rw [e, hf] at hk
    injection hk with hk
    injection hk with _ hk
    exact ht hk
  exact ⟨fun b r hr => (key _ _ _ _ (h.node b r hr) h1).trans (h.node b r hr), fun b r hr => (h.attrs b r hr).keep fun g hg2 => by
    obtain ⟨c', hc'⟩ := (h.attrs b r hr).block hg2
    exact key _ _ _ _ hc' h2⟩
end Go.Proofs.Ytlallihdiffheaa.Hand
