/- What FnDomNeighbor's printed walk is given: contracts. -/
import Derived.Test.YtlallihdiffheaaImplNear
import Derived.Test.YtlallihdiffheaaGood
namespace Go.Proofs.Ytlallihdiffheaa.GT
open Go.RowKit Go.Proofs.YtlallihdiffheaaW.PrintWords Go.Proofs.YtlallihdiffheaaW.PrintLast Go.Proofs.YtlallihdiffheaaW.PrintMore Go.Proofs.Ytlallihdiffheaa.Hand
set_option linter.unusedVariables false

def laws_living29.f : Option Bool := some true
theorem laws_living29.calls (r : Bool) (w : World) (h : laws_living29.f = some r) :
    Calls Try.prog 22 #[] w fun e w' => e = .returned (.bool r) ∧ Below w.heap.size w w' := by
  obtain rfl := Option.some.inj h
  exact Dom.living_any w
/-- Right, and not large. -/
def goodC (x : Nd) : Bool := goodB x && decide (sizeB x ≤ 300)
theorem goodC_mk {n : Nat} {x : Nd} (h : Tn n x) (hn : n ≤ 300) (h0 : x.f0 = 0 ∨ x.f0 = 3) : goodC x = true := by
  unfold goodC sizeB
  rw [goodB_mk h hn h0, tn_tnB 300 x n h hn]
  simpa using hn
theorem goodC_tn {x : Nd} (h : goodC x = true) : ∃ n, n ≤ 300 ∧ Tn n x ∧ (x.f0 = 0 ∨ x.f0 = 3) := by
  unfold goodC at h
  rw [Bool.and_eq_true, decide_eq_true_eq] at h
  obtain ⟨h1, h2⟩ := h
  unfold goodB at h1
  simp only [Bool.and_eq_true, Bool.or_eq_true, decide_eq_true_eq] at h1
  obtain ⟨n, hn⟩ := Option.isSome_iff_exists.1 h1.1
  unfold sizeB at h2
  rw [hn] at h2
  exact ⟨n, h2, tnB_tn 300 x n hn, h1.2⟩
def impl_Neighbor.f (a0_0 : Int) (a0_1 : ByteArray) (a0_2 : ByteArray) (l0_3 : List S34) (l0_4 : List S25) (l1 : List Int) (a2 : Int) : Option (List Int × Bool) :=
  if goodC ⟨a0_0, a0_1, a0_2, l0_3, l0_4⟩ = true then (Dom.kindOf a2).map (fun t => ((Dom.nearAt t ⟨a0_0, a0_1, a0_2, l0_3, l0_4⟩ l1).getD [], (Dom.nearAt t ⟨a0_0, a0_1, a0_2, l0_3, l0_4⟩ l1).isSome)) else none
theorem impl_Neighbor.calls (a0_0 : Int) (a0_1 : ByteArray) (a0_2 : ByteArray) (A0_3 : Option Addr) (c0_3 : Nat) (l0_3 : List S34) (A0_4 : Option Addr) (c0_4 : Nat) (l0_4 : List S25) (A1 : Option Addr) (c1 : Nat) (l1 : List Int) (a2 : Int) (r1 : List Int) (r2 : Bool) (w : World)
    (hr0_3 : Kd.C k34 w A0_3 l0_3.length l0_3) (hc0_3 : l0_3.length ≤ c0_3) (hr0_4 : Kd.C k25 w A0_4 l0_4.length l0_4) (hc0_4 : l0_4.length ≤ c0_4) (hr1 : Kd.C (Kd.int .i64) w A1 l1.length l1) (hc1 : l1.length ≤ c1) (h : impl_Neighbor.f a0_0 a0_1 a0_2 l0_3 l0_4 l1 a2 = some (r1, r2)) :
    Calls Try.prog 29 #[.agg #[.int .i64 a0_0, .string a0_1, .string a0_2, .slice A0_3 l0_3.length c0_3, .slice A0_4 l0_4.length c0_4], .slice A1 l1.length c1, .int .i64 a2] w fun e w' => ∃ v0_ : Value, e = .returned (.tuple #[v0_, .bool r2]) ∧ Kd.R (Kd.int .i64) 3 w' w.heap.size (fun _ => True) v0_ r1 ∧ Below w.heap.size w w' := by
  unfold impl_Neighbor.f at h
  split at h
  · rename_i hg
    obtain ⟨n, hn, hx, h0⟩ := goodC_tn hg
    obtain ⟨t, hk, ht⟩ := Option.map_eq_some_iff.1 h
    simp only [Prod.mk.injEq] at ht
    obtain ⟨rfl, rfl⟩ := ht
    exact Dom.implNeighbor_any hn hx h0 w A0_3 A0_4 A1 c0_3 c0_4 c1 hr0_3 hc0_3 hr0_4 hc0_4 l1 hr1 a2 t hk
  · cases h
end Go.Proofs.Ytlallihdiffheaa.GT
