/- What FnChanged's printed walk is given: impl.Changed, laws.changes29. -/
import Derived.Test.YtnhcocjdkmelhaaChImpl
namespace Go.Proofs.Ytnhcocjdkmelhaa.Hand
open Go.RowKit Go.Proofs.YtnhcocjdkmelhaaW.PrintWords Go.Proofs.YtnhcocjdkmelhaaW.PrintLast Go.Proofs.YtnhcocjdkmelhaaW.PrintMore
set_option linter.unusedVariables false
theorem find_block {vs : List Value} (h : ApartV vs) {i k : Nat} {u : Value} (hu : vs[i]? = some u) (hk : u.ownBlock = some k) : vs.findIdx (fun u => u.ownBlock == some k) = i := by
  obtain ⟨hi, he⟩ := List.getElem?_eq_some_iff.1 hu
  rw [List.findIdx_eq hi]
  refine ⟨by rw [he, hk]; exact beq_self_eq_true _, fun j hj => ?_⟩
  cases hb : ((vs[j]'(by omega)).ownBlock == some k) with
  | false => rfl
  | true => exact (h j i _ u k hj (List.getElem?_eq_getElem (by omega)) hu (by simpa using hb) hk).elim
theorem RT.S {w : World} {base : Nat} {v : Value} {vs : List Value} {sss : List (List ByteArray)} (h : RS29 base w v vs sss) : Kd.S (Kd.slice 9 Kd.string) 28 w base (fun _ => True) v sss := by
  have hl := h.own.1
  rw [Nat.mul_one] at hl
  refine ⟨fun k => vs.findIdx (fun u => u.ownBlock == some k), fun _ _ => trivial, vs, ?_, ?_, fun j p hj => ?_⟩
  · rw [List.length_zipIdx]
    exact h.own
  · rw [List.length_zipIdx]
    exact h.own.1
  · rw [List.getElem?_zipIdx, Option.map_eq_some_iff] at hj
    obtain ⟨ss, hs, rfl⟩ := hj
    have hjl := (List.getElem?_eq_some_iff.1 hs).1
    obtain ⟨u, hu⟩ : ∃ u, vs[j]? = some u := ⟨_, List.getElem?_eq_getElem (by omega)⟩
    obtain ⟨ws, h1, h2⟩ := h.rows j u ss hu hs
    have hc : (vs.drop (j * 1)).take 1 = [u] := by
      rw [Nat.mul_one]
      obtain ⟨hj2, he⟩ := List.getElem?_eq_some_iff.1 hu
      rw [List.drop_eq_getElem_cons hj2, he]
      rfl
    have ht := own_type_ne h1 h.own (by decide)
    have hw : ws = ss.map Value.string := h2.strs (by have := h1.1; omega)
    refine ⟨u, hc, fun k hk => ⟨⟨trivial, fun e => ?_⟩, ?_⟩, ws, h1, ?_⟩
    · rcases ht with ht | ht
      · rw [hk] at ht
        cases ht
      · exact ht (hk.trans e)
    · rw [Nat.zero_add]
      exact find_block h.apart hu hk
    · rw [hw]
      exact Kd.reps_scalar ss
end Go.Proofs.Ytnhcocjdkmelhaa.Hand
namespace Go.Proofs.Ytnhcocjdkmelhaa.GCh
open Go.RowKit Go.Proofs.YtnhcocjdkmelhaaW.PrintWords Go.Proofs.YtnhcocjdkmelhaaW.PrintLast Go.Proofs.YtnhcocjdkmelhaaW.PrintMore
set_option linter.unusedVariables false
def fitS (ss : List ByteArray) : Bool := decide (ss.length ≤ 2147483647) && ss.all (fun s => decide (s.size ≤ 2147483647))
def fitQ (l : List (List ByteArray)) : Bool := decide (l.length ≤ 2147483647) && l.all fitS
theorem fitQ_R {l : List (List ByteArray)} (h : fitQ l = true) : Hand.fitR l := by
  simp only [fitQ, fitS, Bool.and_eq_true, decide_eq_true_eq, List.all_eq_true] at h
  exact h
def fitC (c : Hand.Ch) : Bool := decide ((0 ≤ c.f0 ∧ c.f0 ≤ 100) ∧ (0 ≤ c.f1 ∧ c.f1 ≤ 100) ∧ c.f2.size ≤ 2147483647)
def fitL (l : List Hand.Ch) : Bool := decide (l.length ≤ 2147483647) && l.all fitC
theorem fitL_few {l : List Hand.Ch} (h : fitL l = true) : l.length ≤ 2147483647 ∧ Hand.fewL l := by
  simp only [fitL, fitC, Bool.and_eq_true, decide_eq_true_eq, List.all_eq_true] at h
  exact h
def impl_Changed.f (l0 : List (List ByteArray)) (l1 : List S36) : Option (List (List ByteArray)) := if fitQ l0 = true ∧ fitL l1 = true then some ((l1.map Hand.tri).foldl Hand.chg l0) else none
def laws_changes29.f (l0 : List (List ByteArray)) (l1 : List S36) : Option (List (List ByteArray)) := if fitQ l0 = true ∧ fitL l1 = true then some ((l1.map Hand.tri).foldl Hand.chg l0) else none
theorem impl_Changed.calls (A0 : Option Addr) (c0 : Nat) (l0 : List (List ByteArray)) (A1 : Option Addr) (c1 : Nat) (l1 : List S36) (r : List (List ByteArray)) (w : World) (hr0 : Kd.C (Kd.slice 9 Kd.string) w A0 l0.length l0) (hc0 : l0.length ≤ c0) (hr1 : Kd.C k36 w A1 l1.length l1) (hc1 : l1.length ≤ c1) (h : impl_Changed.f l0 l1 = some r) :
    Calls Try.prog 9 #[.slice A0 l0.length c0, .slice A1 l1.length c1] w fun e w' => ∃ v0_ : Value, e = .returned (v0_) ∧ Kd.S (Kd.slice 9 Kd.string) 28 w' w.heap.size (fun _ => True) v0_ r ∧ Below w.heap.size w w' := by
  unfold impl_Changed.f at h
  split at h
  · rename_i hs
    obtain rfl := Option.some.inj h
    obtain ⟨h1, h2⟩ := fitL_few hs.2
    exact Hand.impl_changed A0 c0 l0 A1 c1 l1 w (fitQ_R hs.1) h1 h2 (Hand.strRows_of hr0) hr1 hc1
  · exact absurd h (by simp)
theorem laws_changes29.calls (A0 : Option Addr) (c0 : Nat) (l0 : List (List ByteArray)) (A1 : Option Addr) (c1 : Nat) (l1 : List S36) (r : List (List ByteArray)) (w : World) (hr0 : Kd.C (Kd.slice 9 Kd.string) w A0 l0.length l0) (hc0 : l0.length ≤ c0) (hr1 : Kd.C k36 w A1 l1.length l1) (hc1 : l1.length ≤ c1) (h : laws_changes29.f l0 l1 = some r) :
    Calls Try.prog 10 #[.slice A0 l0.length c0, .slice A1 l1.length c1] w fun e w' => ∃ v0_ : Value, e = .returned (v0_) ∧ Kd.S (Kd.slice 9 Kd.string) 28 w' w.heap.size (fun _ => True) v0_ r ∧ Below w.heap.size w w' := by
  unfold laws_changes29.f at h
  split at h
  · rename_i hs
    obtain rfl := Option.some.inj h
    obtain ⟨h1, h2⟩ := fitL_few hs.2
    have hf := fitQ_R hs.1
    refine (Hand.changes29_any A0 c0 l0 A1 c1 l1 w hf.1 (fun ss hs => (hf.2 ss hs).1) (Hand.strRows_of hr0) h1 (fun c hc => ⟨(h2 c hc).1, (h2 c hc).2.1⟩) hr1).mono ?_
    rintro e w' ⟨v, vs, rfl, hr, hb⟩
    exact ⟨v, rfl, hr.S, hb⟩
  · exact absurd h (by simp)
end Go.Proofs.Ytnhcocjdkmelhaa.GCh
