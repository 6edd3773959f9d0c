/- What the closure of impl.named says of a node. -/
import Derived.Test.YtlallihdiffheaaZFakeSpan
import Derived.Deep.LoopGhost
namespace Go.Proofs.Ytlallihdiffheaa.Hand
open Go.RowKit Go.Proofs.YtlallihdiffheaaW.PrintWords Go.Proofs.YtlallihdiffheaaW.PrintLast Go.Proofs.YtlallihdiffheaaW.PrintMore Go.Proofs.Ytlallihdiffheaa.GT
set_option linter.unusedVariables false
set_option linter.unusedSimpArgs false

/-- An element of one of some names. -/
def isNm (ns : List ByteArray) (q : Pay) : Bool := decide (q.type = 3) && ns.any (fun x => q.data.toList == x.toList)
def boxNs (A : Option Addr) (n c : Nat) : Obj := .cells #[.slice A n c] 54 (0, 0)
theorem any_take {ns : List ByteArray} {d : List UInt8} {j : Nat} (h : (ns.take j).any (fun x => d == x.toList) = false) (hj : j < ns.length) (hn : ((rdOf ByteArray.empty ns (j : Int)).toList == d) = false) : (ns.take (j + 1)).any (fun x => d == x.toList) = false := by
  have e : rdOf ByteArray.empty ns (j : Int) = ns[j] := by simp [rdOf, hj]
  rw [e] at hn
  rw [List.take_succ_eq_append_getElem hj, List.any_append, h, Bool.false_or, List.any_cons, List.any_nil, Bool.or_false]
  rw [beq_eq_false_iff_ne] at hn ⊢
  exact fun h => hn h.symm
theorem any_hit {ns : List ByteArray} {d : List UInt8} {j : Nat} (hj : j < ns.length) (hn : ((rdOf ByteArray.empty ns (j : Int)).toList == d) = true) : ns.any (fun x => d == x.toList) = true := by
  have e : rdOf ByteArray.empty ns (j : Int) = ns[j] := by simp [rdOf, hj]
  rw [e] at hn
  rw [List.any_eq_true]
  refine ⟨ns[j], List.getElem_mem hj, ?_⟩
  rw [beq_iff_eq] at hn ⊢
  exact hn.symm
set_option maxRecDepth 100000 in
set_option maxHeartbeats 1600000 in
theorem named_other (ns : List ByteArray) (hns : ns.length ≤ 1000) {w : World} {H : NMap} (hw : Holds w H) {b : Nat} {par f l v x : Option Nat} {q : Pay} (hb : H b = some ⟨par, f, l, v, x, q⟩) (z : Int) (hz : z = 1 ∨ z = 4 ∨ z = 2) (ht : q.type = z) {bx : Nat} {A : Option Addr} {c : Nat} (hbx : w.cell? ⟨bx, 0, none⟩ = some (.slice A ns.length c)) (hC : Kd.C Kd.string w A ns.length ns) (hc : ns.length ≤ c) :
    Calls Try.prog 137 #[.pointer (some ⟨b, 0, none⟩), .pointer (some ⟨bx, 0, none⟩)] w fun e w' => e = .returned (.bool (isNm ns q)) ∧ Below w.heap.size w w' := by
  obtain ⟨n0, n1, n2, n3, n4, n5, n6, n7, n9⟩ := hw.opened hb
  have hres : isNm ns q = false := by
    unfold isNm
    rw [ht]
    rcases hz with rfl | rfl | rfl <;> rfl
  rw [hres]
  rw [ht] at n5
  have HC := Lib.hid hC
  clear n0 n1 n2 n3 n4 n6 n7 n9 hb hw ht hres hC
  rcases hz with rfl | rfl | rfl <;> (
    go_enter Try.func137, Try.ntmps137
    go_wp2
    go_loopg [8] ns.length (fun gk i0 wr => ∃ j : Nat, i0 = .int .i64 (j : Int) ∧ gk = ns.length - j ∧ j ≤ ns.length ∧ wr = w)
    case atStart => exact ⟨0, rfl, rfl, Nat.zero_le _, rfl⟩
    case round =>
      obtain ⟨j, rfl, rfl, hj, rfl⟩ := hrel
      by_cases hlt : j < ns.length
      · have h1 : (0 : Int) ≤ (j : Int) := by omega
        have h2 : (j : Int) < (ns.length : Int) := by omega
        obtain ⟨ad, rfl, hx⟩ := Kd.at_string HC.out (j : Int) h1 h2
        rw [Int.toNat_natCast] at hx
        have hd : decide ((j : Int) < (ns.length : Int)) = true := decide_eq_true h2
        go_wp2
        go_roundg (ns.length - (j + 1))
        case measure => omega
        case rel => exact ⟨j + 1, by first | (rw [show wrap64 ((j : Int) + 1) = ((j + 1 : Nat) : Int) by unfold wrap64; omega]) | simp, rfl, by omega, rfl⟩
      · have hd : decide ((j : Int) < (ns.length : Int)) = false := decide_eq_false (by omega)
        go_wp2
        go_ret
        exact ⟨rfl, Below.refl _ _⟩)
set_option maxRecDepth 100000 in
set_option maxHeartbeats 1600000 in
theorem named_elem (ns : List ByteArray) (hns : ns.length ≤ 1000) {w : World} {H : NMap} (hw : Holds w H) {b : Nat} {par f l v x : Option Nat} {q : Pay} (hb : H b = some ⟨par, f, l, v, x, q⟩) (ht : q.type = 3) {bx : Nat} {A : Option Addr} {c : Nat} (hbx : w.cell? ⟨bx, 0, none⟩ = some (.slice A ns.length c)) (hC : Kd.C Kd.string w A ns.length ns) (hc : ns.length ≤ c) :
    Calls Try.prog 137 #[.pointer (some ⟨b, 0, none⟩), .pointer (some ⟨bx, 0, none⟩)] w fun e w' => e = .returned (.bool (isNm ns q)) ∧ Below w.heap.size w w' := by
  have hname : nameOf q = q.data := by simp [nameOf, ht]
  have hres : isNm ns q = ns.any (fun x => q.data.toList == x.toList) := by
    unfold isNm
    rw [ht]
    rfl
  rw [hres]
  have hN : ∀ w1, Below w.heap.size w w1 → Calls Try.prog 105 #[.pointer (some ⟨b, 0, none⟩)] w1 fun e w' => e = .returned (.string q.data) ∧ Below w1.heap.size w1 w' := fun w1 hb1 => by
    have h := nodeName_any (hw.below hb1) hb (.inr (.inr (.inl ht)))
    rw [hname] at h
    exact h
  have h5 : ∀ w1, Below w.heap.size w w1 → w1.cell? ⟨b, 5, none⟩ = some (.int .u32 3) := fun w1 hb1 => by
    have h := ((hw.below hb1).opened hb).2.2.2.2.2.1
    rw [ht] at h
    exact h
  have HN := Lib.hid hN
  have H5 := Lib.hid h5
  have HC := Lib.hid hC
  generalize hqd : q.data = d at *
  clear hname hres hN h5 hC hb hw ht hqd
  go_enter Try.func137, Try.ntmps137
  go_wp2
  go_loopg [8] ns.length (fun gk i0 wr => ∃ j : Nat, i0 = .int .i64 (j : Int) ∧ gk = ns.length - j ∧ j ≤ ns.length ∧ (ns.take j).any (fun x => d.toList == x.toList) = false ∧ Below w.heap.size w wr)
  case atStart => exact ⟨0, rfl, rfl, Nat.zero_le _, rfl, Below.refl _ _⟩
  case round =>
    obtain ⟨j, rfl, rfl, hj, hany, hbw⟩ := hrel
    have HBW := Lib.hid hbw
    have HANY := Lib.hid hany
    by_cases hlt : j < ns.length
    · have h1 : (0 : Int) ≤ (j : Int) := by omega
      have h2 : (j : Int) < (ns.length : Int) := by omega
      obtain ⟨ad, rfl, hx⟩ := Kd.at_string (Kd.C_below HC.out hbw) (j : Int) h1 h2
      rw [Int.toNat_natCast] at hx
      have hd : decide ((j : Int) < (ns.length : Int)) = true := decide_eq_true h2
      have n5 := H5.out wr hbw
      clear hany hbw
      generalize hrd : rdOf ByteArray.empty ns (j : Int) = s at *
      have HRD := Lib.hid hrd
      clear hrd
      go_wp2_with (go_at_call 105; refine (HN.out wr HBW.out).mono ?_; rintro e w1 ⟨rfl, hb1⟩; have HB1 := Lib.hid hb1; clear hb1)
      · have hh : (d.toList == s.toList) = true := by assumption
        go_ret
        refine ⟨?_, below_then HBW.out HBW.out.size HB1.out⟩
        rw [any_hit (d := d.toList) hlt (by rw [HRD.out, beq_iff_eq]; rw [beq_iff_eq] at hh; exact hh.symm)]
        rfl
      · have hh : (d.toList == s.toList) = false := by assumption
        simp only [hh]
        go_roundg (ns.length - (j + 1))
        case measure => omega
        case rel =>
          refine ⟨j + 1, by first | (rw [show wrap64 ((j : Int) + 1) = ((j + 1 : Nat) : Int) by unfold wrap64; omega]) | simp, rfl, by omega, any_take HANY.out hlt ?_, below_then HBW.out HBW.out.size HB1.out⟩
          rw [HRD.out, beq_eq_false_iff_ne]
          rw [beq_eq_false_iff_ne] at hh
          exact fun h => hh h.symm
    · have hd : decide ((j : Int) < (ns.length : Int)) = false := decide_eq_false (by omega)
      clear hany hbw
      go_wp2
      go_ret
      refine ⟨?_, HBW.out⟩
      have h := HANY.out
      rw [List.take_of_length_le (by omega)] at h
      rw [h]
      rfl
theorem named_any (ns : List ByteArray) (hns : ns.length ≤ 1000) {w : World} {H : NMap} (hw : Holds w H) {b : Nat} {par f l v x : Option Nat} {q : Pay} (hb : H b = some ⟨par, f, l, v, x, q⟩) (ht : q.type = 1 ∨ q.type = 4 ∨ q.type = 3 ∨ q.type = 2) {bx : Nat} {A : Option Addr} {c : Nat} (hbx : w.cell? ⟨bx, 0, none⟩ = some (.slice A ns.length c)) (hC : Kd.C Kd.string w A ns.length ns) (hc : ns.length ≤ c) :
    Calls Try.prog 137 #[.pointer (some ⟨b, 0, none⟩), .pointer (some ⟨bx, 0, none⟩)] w fun e w' => e = .returned (.bool (isNm ns q)) ∧ Below w.heap.size w w' := by
  rcases ht with ht | ht | ht | ht
  · exact named_other ns hns hw hb 1 (.inl rfl) ht hbx hC hc
  · exact named_other ns hns hw hb 4 (.inr (.inl rfl)) ht hbx hC hc
  · exact named_elem ns hns hw hb ht hbx hC hc
  · exact named_other ns hns hw hb 2 (.inr (.inr rfl)) ht hbx hC hc
end Go.Proofs.Ytlallihdiffheaa.Hand
