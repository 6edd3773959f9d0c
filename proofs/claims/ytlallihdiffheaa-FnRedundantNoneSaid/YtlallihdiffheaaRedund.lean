/- impl.named's closure, what is asked of two nodes by it, and domutils.hasSameTypeAncestor, where no such node stands above. dom.AllNodes and domutils.RemoveRedundant by hand: where no such node stands within another one, nothing is taken out. dom.AllNodes, domutils.RemoveRedundant and impl.Redundant by hand: where no such node stands within another one, nothing is taken out. -/
import Derived.Test.YtlallihdiffheaaSmall
import Derived.Test.YtlallihdiffheaaFakeSpan
import Derived.Test.YtlallihdiffheaaMergeTexts
import Derived.Test.YtlallihdiffheaaLives
namespace Go.Proofs.Ytlallihdiffheaa.Hand
open Go.RowKit Go.Proofs.YtlallihdiffheaaW.PrintWords Go.Proofs.YtlallihdiffheaaW.PrintLast Go.Proofs.YtlallihdiffheaaW.PrintMore Go.Proofs.Ytlallihdiffheaa.GT
set_option linter.unusedVariables false
set_option linter.unusedSimpArgs false

/-- An element of one of some names. -/
def isNm (ns : List ByteArray) (q : Pay) : Bool := decide (q.type = 3) && ns.any (fun x => q.data.toList == x.toList)
def boxNs (A : Option Addr) (n c : Nat) : Obj := .cells #[.slice A n c] 54 (0, 0)
def isObj (bx : Nat) : Obj := .cells #[.func (.func 137) #[] #[.pointer (some ⟨bx, 0, none⟩)]] 95 (0, 0)
theorem any_take {ns : List ByteArray} {d : List UInt8} {j : Nat} (h : (ns.take j).any (fun x => d == x.toList) = false) (hj : j < ns.length) (hn : ((rdOf ByteArray.empty ns (j : Int)).toList == d) = false) : (ns.take (j + 1)).any (fun x => d == x.toList) = false := by
  have e : rdOf ByteArray.empty ns (j : Int) = ns[j] := by simp [rdOf, hj]
  rw [e] at hn
  rw [List.take_succ_eq_append_getElem hj, List.any_append, h, Bool.false_or, List.any_cons, List.any_nil, Bool.or_false]
  rw [beq_eq_false_iff_ne] at hn ⊢
  exact fun h => hn h.symm
theorem any_hit {ns : List ByteArray} {d : List UInt8} {j : Nat} (hj : j < ns.length) (hn : ((rdOf ByteArray.empty ns (j : Int)).toList == d) = true) : ns.any (fun x => d == x.toList) = true := by
  have e : rdOf ByteArray.empty ns (j : Int) = ns[j] := by simp [rdOf, hj]
  rw [e] at hn
  rw [List.any_eq_true]
  refine ⟨ns[j], List.getElem_mem hj, ?_⟩
  rw [beq_iff_eq] at hn ⊢
  exact hn.symm
set_option maxRecDepth 100000 in
set_option maxHeartbeats 1600000 in
theorem named_other (ns : List ByteArray) (hns : ns.length ≤ 1000) {w : World} {H : NMap} (hw : Holds w H) {b : Nat} {par f l v x : Option Nat} {q : Pay} (hb : H b = some ⟨par, f, l, v, x, q⟩) (z : Int) (hz : z = 1 ∨ z = 4 ∨ z = 2) (ht : q.type = z) {bx : Nat} {A : Option Addr} {c : Nat} (hbx : w.cell? ⟨bx, 0, none⟩ = some (.slice A ns.length c)) (hC : Kd.C Kd.string w A ns.length ns) (hc : ns.length ≤ c) :
    Calls Try.prog 137 #[.pointer (some ⟨b, 0, none⟩), .pointer (some ⟨bx, 0, none⟩)] w fun e w' => e = .returned (.bool (isNm ns q)) ∧ Below w.heap.size w w' := by
  obtain ⟨n0, n1, n2, n3, n4, n5, n6, n7, n9⟩ := hw.opened hb
  have hres : isNm ns q = false := by
    unfold isNm
    rw [ht]
    rcases hz with rfl | rfl | rfl <;> rfl
  rw [hres]
  rw [ht] at n5
  have HC := Lib.hid hC
  clear n0 n1 n2 n3 n4 n6 n7 n9 hb hw ht hres hC
  rcases hz with rfl | rfl | rfl <;> (
    go_enter Try.func137, Try.ntmps137
    go_wp2
    go_loopg [8] ns.length (fun gk i0 wr => ∃ j : Nat, i0 = .int .i64 (j : Int) ∧ gk = ns.length - j ∧ j ≤ ns.length ∧ wr = w)
    case atStart => exact ⟨0, rfl, rfl, Nat.zero_le _, rfl⟩
    case round =>
      obtain ⟨j, rfl, rfl, hj, rfl⟩ := hrel
      by_cases hlt : j < ns.length
      · have h1 : (0 : Int) ≤ (j : Int) := by omega
        have h2 : (j : Int) < (ns.length : Int) := by omega
        obtain ⟨ad, rfl, hx⟩ := Kd.at_string HC.out (j : Int) h1 h2
        rw [Int.toNat_natCast] at hx
        have hd : decide ((j : Int) < (ns.length : Int)) = true := decide_eq_true h2
        go_wp2
        go_roundg (ns.length - (j + 1))
        case measure => omega
        case rel => exact ⟨j + 1, by first | (rw [show wrap64 ((j : Int) + 1) = ((j + 1 : Nat) : Int) by unfold wrap64; omega]) | simp, rfl, by omega, rfl⟩
      · have hd : decide ((j : Int) < (ns.length : Int)) = false := decide_eq_false (by omega)
        go_wp2
        go_ret
        exact ⟨rfl, Below.refl _ _⟩)
set_option maxRecDepth 100000 in
set_option maxHeartbeats 1600000 in
theorem named_elem (ns : List ByteArray) (hns : ns.length ≤ 1000) {w : World} {H : NMap} (hw : Holds w H) {b : Nat} {par f l v x : Option Nat} {q : Pay} (hb : H b = some ⟨par, f, l, v, x, q⟩) (ht : q.type = 3) {bx : Nat} {A : Option Addr} {c : Nat} (hbx : w.cell? ⟨bx, 0, none⟩ = some (.slice A ns.length c)) (hC : Kd.C Kd.string w A ns.length ns) (hc : ns.length ≤ c) :
    Calls Try.prog 137 #[.pointer (some ⟨b, 0, none⟩), .pointer (some ⟨bx, 0, none⟩)] w fun e w' => e = .returned (.bool (isNm ns q)) ∧ Below w.heap.size w w' := by
  have hname : nameOf q = q.data := by simp [nameOf, ht]
  have hres : isNm ns q = ns.any (fun x => q.data.toList == x.toList) := by
    unfold isNm
    rw [ht]
    rfl
  rw [hres]
  have hN : ∀ w1, Below w.heap.size w w1 → Calls Try.prog 105 #[.pointer (some ⟨b, 0, none⟩)] w1 fun e w' => e = .returned (.string q.data) ∧ Below w1.heap.size w1 w' := fun w1 hb1 => by
    have h := nodeName_any (hw.below hb1) hb (.inr (.inr (.inl ht)))
    rw [hname] at h
    exact h
  have h5 : ∀ w1, Below w.heap.size w w1 → w1.cell? ⟨b, 5, none⟩ = some (.int .u32 3) := fun w1 hb1 => by
    have h := ((hw.below hb1).opened hb).2.2.2.2.2.1
    rw [ht] at h
    exact h
  have HN := Lib.hid hN
  have H5 := Lib.hid h5
  have HC := Lib.hid hC
  generalize hqd : q.data = d at *
  clear hname hres hN h5 hC hb hw ht hqd
  go_enter Try.func137, Try.ntmps137
  go_wp2
  go_loopg [8] ns.length (fun gk i0 wr => ∃ j : Nat, i0 = .int .i64 (j : Int) ∧ gk = ns.length - j ∧ j ≤ ns.length ∧ (ns.take j).any (fun x => d.toList == x.toList) = false ∧ Below w.heap.size w wr)
  case atStart => exact ⟨0, rfl, rfl, Nat.zero_le _, rfl, Below.refl _ _⟩
  case round =>
    obtain ⟨j, rfl, rfl, hj, hany, hbw⟩ := hrel
    have HBW := Lib.hid hbw
    have HANY := Lib.hid hany
    by_cases hlt : j < ns.length
    · have h1 : (0 : Int) ≤ (j : Int) := by omega
      have h2 : (j : Int) < (ns.length : Int) := by omega
      obtain ⟨ad, rfl, hx⟩ := Kd.at_string (Kd.C_below HC.out hbw) (j : Int) h1 h2
      rw [Int.toNat_natCast] at hx
      have hd : decide ((j : Int) < (ns.length : Int)) = true := decide_eq_true h2
      have n5 := H5.out wr hbw
      clear hany hbw
      generalize hrd : rdOf ByteArray.empty ns (j : Int) = s at *
      have HRD := Lib.hid hrd
      clear hrd
      go_wp2_with (go_at_call 105; refine (HN.out wr HBW.out).mono ?_; rintro e w1 ⟨rfl, hb1⟩; have HB1 := Lib.hid hb1; clear hb1)
      · have hh : (d.toList == s.toList) = true := by assumption
        go_ret
        refine ⟨?_, below_then HBW.out HBW.out.size HB1.out⟩
        rw [any_hit (d := d.toList) hlt (by rw [HRD.out, beq_iff_eq]; rw [beq_iff_eq] at hh; exact hh.symm)]
        rfl
      · have hh : (d.toList == s.toList) = false := by assumption
        simp only [hh]
        go_roundg (ns.length - (j + 1))
        case measure => omega
        case rel =>
          refine ⟨j + 1, by first | (rw [show wrap64 ((j : Int) + 1) = ((j + 1 : Nat) : Int) by unfold wrap64; omega]) | simp, rfl, by omega, any_take HANY.out hlt ?_, below_then HBW.out HBW.out.size HB1.out⟩
          rw [HRD.out, beq_eq_false_iff_ne]
          rw [beq_eq_false_iff_ne] at hh
          exact fun h => hh h.symm
    · have hd : decide ((j : Int) < (ns.length : Int)) = false := decide_eq_false (by omega)
      clear hany hbw
      go_wp2
      go_ret
      refine ⟨?_, HBW.out⟩
      have h := HANY.out
      rw [List.take_of_length_le (by omega)] at h
      rw [h]
      rfl
theorem named_any (ns : List ByteArray) (hns : ns.length ≤ 1000) {w : World} {H : NMap} (hw : Holds w H) {b : Nat} {par f l v x : Option Nat} {q : Pay} (hb : H b = some ⟨par, f, l, v, x, q⟩) (ht : q.type = 1 ∨ q.type = 4 ∨ q.type = 3 ∨ q.type = 2) {bx : Nat} {A : Option Addr} {c : Nat} (hbx : w.cell? ⟨bx, 0, none⟩ = some (.slice A ns.length c)) (hC : Kd.C Kd.string w A ns.length ns) (hc : ns.length ≤ c) :
    Calls Try.prog 137 #[.pointer (some ⟨b, 0, none⟩), .pointer (some ⟨bx, 0, none⟩)] w fun e w' => e = .returned (.bool (isNm ns q)) ∧ Below w.heap.size w w' := by
  rcases ht with ht | ht | ht | ht
  · exact named_other ns hns hw hb 1 (.inl rfl) ht hbx hC hc
  · exact named_other ns hns hw hb 4 (.inr (.inl rfl)) ht hbx hC hc
  · exact named_elem ns hns hw hb ht hbx hC hc
  · exact named_other ns hns hw hb 2 (.inr (.inr rfl)) ht hbx hC hc
/-- Nodes without such ones above: as far as the root. -/
def Up (H : NMap) (ns : List ByteArray) : Nat → Option Nat → Prop
  | 0, p => p = none
  | d + 1, p => ∃ b r, p = some b ∧ H b = some r ∧ (r.pay.type = 1 ∨ r.pay.type = 4 ∨ r.pay.type = 3 ∨ r.pay.type = 2) ∧ isNm ns r.pay = false ∧ Up H ns d r.parent
/-- What the closures lie in. -/
structure Asks (w : World) (ns : List ByteArray) (ci bx : Nat) (A : Option Addr) (c : Nat) : Prop where
  is : w.heap[ci]? = some (isObj bx)
  box : w.heap[bx]? = some (boxNs A ns.length c)
  row : Kd.C Kd.string w A ns.length ns
  cap : ns.length ≤ c
  few : ns.length ≤ 1000
theorem Asks.below {w w' : World} {ns : List ByteArray} {ci bx : Nat} {A : Option Addr} {c : Nat} (h : Asks w ns ci bx A c) (hb : Below w.heap.size w w') : Asks w' ns ci bx A c :=
  ⟨(hb.block ci (Array.getElem?_eq_some_iff.1 h.is).1).trans h.is, (hb.block bx (Array.getElem?_eq_some_iff.1 h.box).1).trans h.box, Kd.C_below h.row hb, h.cap, h.few⟩
set_option maxRecDepth 100000 in
set_option maxHeartbeats 1600000 in
/-- Both are such nodes. -/
theorem both_any {w : World} {ns : List ByteArray} {ci bx : Nat} {A : Option Addr} {c : Nat} (hq : Asks w ns ci bx A c) {H : NMap} (hw : Holds w H) {a b : Nat} {ra rb : NRec} (ha : H a = some ra) (hb : H b = some rb) (ta : ra.pay.type = 1 ∨ ra.pay.type = 4 ∨ ra.pay.type = 3 ∨ ra.pay.type = 2) (tb : rb.pay.type = 1 ∨ rb.pay.type = 4 ∨ rb.pay.type = 3 ∨ rb.pay.type = 2) :
    Calls Try.prog 91 #[.pointer (some ⟨a, 0, none⟩), .pointer (some ⟨b, 0, none⟩), .pointer (some ⟨ci, 0, none⟩)] w fun e w' => e = .returned (.bool (isNm ns ra.pay && isNm ns rb.pay)) ∧ Below w.heap.size w w' := by
  have hent : ∀ (a : Nat) (W : World), (callFunc 137 #[.pointer (some ⟨a, 0, none⟩), .pointer (some ⟨bx, 0, none⟩)]).run Try.prog W = .ok (.enter 137 #[.pointer (some ⟨a, 0, none⟩), .pointer (some ⟨bx, 0, none⟩)]) W :=
    fun a W => enters Try.func137 (by rfl) (by rfl) _ _
  have h1 := named_any ns hq.few hw (b := a) (par := ra.parent) (f := ra.first) (l := ra.last) (v := ra.prev) (x := ra.next) (q := ra.pay) ha ta (out_cell hq.box 0).1 hq.row hq.cap
  have h2 : ∀ w1, Below w.heap.size w w1 → Calls Try.prog 137 #[.pointer (some ⟨b, 0, none⟩), .pointer (some ⟨bx, 0, none⟩)] w1 fun e w' => e = .returned (.bool (isNm ns rb.pay)) ∧ Below w1.heap.size w1 w' := fun w1 hb1 =>
    named_any ns hq.few (hw.below hb1) (par := rb.parent) (f := rb.first) (l := rb.last) (v := rb.prev) (x := rb.next) (q := rb.pay) hb tb (out_cell (hq.below hb1).box 0).1 (hq.below hb1).row hq.cap
  have h3 : ∀ w1, Below w.heap.size w w1 → w1.cell? ⟨ci, 0, none⟩ = some (.func (.func 137) #[] #[.pointer (some ⟨bx, 0, none⟩)]) := fun w1 hb1 => (out_cell (hq.below hb1).is 0).1
  have i0 := h3 w (Below.refl _ _)
  have H1 := Lib.hid h1
  have H2 := Lib.hid h2
  have H3 := Lib.hid h3
  generalize isNm ns ra.pay = r1 at *
  generalize isNm ns rb.pay = r2 at *
  clear h1 h2 h3 hq hw ha hb ta tb
  cases r1 with
  | true =>
    go_enter Try.func91, Try.ntmps91
    go_wp2_with (first
      | (go_at_call_of 137 (Value.pointer (some ⟨a, 0, none⟩)); refine H1.out.mono ?_; rintro e w1 ⟨rfl, hb1⟩; have i1 := H3.out w1 hb1; have HB1 := Lib.hid hb1; clear hb1)
      | (go_at_call_of 137 (Value.pointer (some ⟨b, 0, none⟩)); refine (H2.out w1 HB1.out).mono ?_; rintro e w2 ⟨rfl, hb2⟩; have HB2 := Lib.hid hb2; clear hb2))
    go_ret
    exact ⟨rfl, below_then HB1.out HB1.out.size HB2.out⟩
  | false =>
    go_enter Try.func91, Try.ntmps91
    go_wp2_with (first
      | (go_at_call_of 137 (Value.pointer (some ⟨a, 0, none⟩)); refine H1.out.mono ?_; rintro e w1 ⟨rfl, hb1⟩; have i1 := H3.out w1 hb1; have HB1 := Lib.hid hb1; clear hb1))
    go_ret
    exact ⟨rfl, HB1.out⟩
def askV (ci : Nat) : Value := .func (.func 91) #[] #[.pointer (some ⟨ci, 0, none⟩)]
set_option maxRecDepth 100000 in
set_option maxHeartbeats 1600000 in
/-- No such node stands above: it says no. -/
theorem above_any {w : World} {ns : List ByteArray} {ci bx : Nat} {A : Option Addr} {c : Nat} (hq : Asks w ns ci bx A c) {H : NMap} (hw : Holds w H) {n : Nat} {rn : NRec} (hn : H n = some rn) (tn : rn.pay.type = 1 ∨ rn.pay.type = 4 ∨ rn.pay.type = 3 ∨ rn.pay.type = 2) (hup : isNm ns rn.pay = true → ∃ d, Up H ns d rn.parent) :
    Calls Try.prog 138 #[.pointer (some ⟨n, 0, none⟩), .func (.func 91) #[] #[.pointer (some ⟨ci, 0, none⟩)]] w fun e w' => e = .returned (.bool false) ∧ Below w.heap.size w w' := by
  have hent : ∀ (a b : Nat) (W : World), (callFunc 91 #[.pointer (some ⟨a, 0, none⟩), .pointer (some ⟨b, 0, none⟩), .pointer (some ⟨ci, 0, none⟩)]).run Try.prog W = .ok (.enter 91 #[.pointer (some ⟨a, 0, none⟩), .pointer (some ⟨b, 0, none⟩), .pointer (some ⟨ci, 0, none⟩)]) W :=
    fun a b W => enters Try.func91 (by rfl) (by rfl) _ _
  have hboth : ∀ w1, Below w.heap.size w w1 → ∀ (b : Nat) (rb : NRec), H b = some rb → (rb.pay.type = 1 ∨ rb.pay.type = 4 ∨ rb.pay.type = 3 ∨ rb.pay.type = 2) → Calls Try.prog 91 #[.pointer (some ⟨n, 0, none⟩), .pointer (some ⟨b, 0, none⟩), .pointer (some ⟨ci, 0, none⟩)] w1 fun e w' => e = .returned (.bool (isNm ns rn.pay && isNm ns rb.pay)) ∧ Below w1.heap.size w1 w' := fun w1 hb1 b rb hb tb => both_any (hq.below hb1) (hw.below hb1) hn hb tn tb
  have hself := hboth w (Below.refl _ _) n rn hn tn
  have hpar : ∀ w1, Below w.heap.size w w1 → ∀ (b : Nat) (rb : NRec), H b = some rb → w1.cell? ⟨b, 0, none⟩ = some (ptrV rb.parent) := fun w1 hb1 b rb hb => (hw.below hb1).cell hb 0
  cases hnm : isNm ns rn.pay with
  | false =>
    rw [hnm] at hself
    have HSELF := Lib.hid hself
    clear hself hboth hpar hup hnm hw hn tn hq
    go_enter Try.func138, Try.ntmps138
    go_wp2_with (refine HSELF.out.mono ?_; rintro e w1 ⟨rfl, hb1⟩; have HB1 := Lib.hid hb1; clear hb1)
    go_ret
    exact ⟨rfl, HB1.out⟩
  | true =>
    obtain ⟨d, hd⟩ := hup hnm
    rw [hnm] at hself hboth
    have HSELF := Lib.hid hself
    have HBOTH := Lib.hid hboth
    have HPAR := Lib.hid hpar
    have HD := Lib.hid hd
    have HNN := Lib.hid hn
    clear hself hboth hpar hup hnm hw hn tn hq hd
    obtain ⟨u, hu⟩ := ptrV_form rn.parent
    have HU := Lib.hid hu
    clear hu
    go_enter Try.func138, Try.ntmps138
    go_wp2_with (refine HSELF.out.mono ?_; rintro e w1 ⟨rfl, hb1⟩; have p0 := HPAR.out w1 hb1 n rn HNN.out; rw [HU.out] at p0; have HB1 := Lib.hid hb1; clear hb1)
    go_loopg [5] d (fun gk c0 wr => ∃ p, c0 = ptrV p ∧ Up H ns gk p ∧ Below w.heap.size w wr)
    case atStart => exact ⟨_, HU.out.symm, HD.out, HB1.out⟩
    case round =>
      obtain ⟨p, rfl, hup, hbw⟩ := hrel
      cases gk with
      | zero =>
        obtain rfl : p = none := hup
        simp only [show ptrV none = .pointer none from rfl]
        have HBW := Lib.hid hbw
        clear hbw
        go_wp2
        go_ret
        exact ⟨rfl, HBW.out⟩
      | succ d =>
        obtain ⟨b, rb, rfl, hb, tb, hnb, hup2⟩ := hup
        simp only [show ptrV (some b) = .pointer (some ⟨b, 0, none⟩) from rfl]
        have hc := HBOTH.out wr hbw b rb hb tb
        rw [hnb] at hc
        obtain ⟨u2, hu2⟩ := ptrV_form rb.parent
        have HCC := Lib.hid hc
        have HBW := Lib.hid hbw
        have HBB := Lib.hid hb
        have HUP := Lib.hid hup2
        have HU2 := Lib.hid hu2
        clear hc hbw hb tb hnb hup2 hu2
        go_wp2_with (refine HCC.out.mono ?_; rintro e w2 ⟨rfl, hb2⟩; have p1 := HPAR.out w2 (below_then HBW.out HBW.out.size hb2) b rb HBB.out; rw [HU2.out] at p1; have HB2 := Lib.hid hb2; clear hb2)
        go_roundg d
        case measure => omega
        case rel => exact ⟨rb.parent, HU2.out.symm, HUP.out, below_then HBW.out HBW.out.size HB2.out⟩
end Go.Proofs.Ytlallihdiffheaa.Hand
namespace Go.Proofs.Ytlallihdiffheaa.Hand
open Go.RowKit Go.Proofs.YtlallihdiffheaaW.PrintWords Go.Proofs.YtlallihdiffheaaW.PrintLast Go.Proofs.YtlallihdiffheaaW.PrintMore Go.Proofs.Ytlallihdiffheaa.GT
set_option linter.unusedVariables false
set_option linter.unusedSimpArgs false

theorem infoNodePtr : (Try.prog.info? 70).map (fun i => (i.zero, i.size, i.bytes)) = some (some (.pointer none), 1, 8) := by kernel_rfl
def ptrs (l : List Nat) : List Value := l.map fun b => .pointer (some ⟨b, 0, none⟩)
def finObj (B : Nat) : Obj := .cells #[.func (.func 150) #[] #[.pointer (some ⟨B, 0, none⟩), .pointer (some ⟨B + 1, 0, none⟩)]] 68 (0, 0)
/-- The row of nodes so far. -/
def An (W0 w : World) (l : List Nat) : Prop := ∃ v, w.heap[W0.heap.size]? = some (.cells #[v] 77 (0, 0)) ∧ w.ownsRow (W0.heap.size + 2) 70 1 v l.length (ptrs l) ∧ w.heap[W0.heap.size + 1]? = some (finObj W0.heap.size) ∧ Below W0.heap.size W0 w ∧ W0.heap.size + 2 ≤ w.heap.size
def AllP (W0 : World) (H : NMap) (k : F Pay) : Prop := ∀ (n : Nat) (p : Pay) (par prev next : Option Nat) (w : World) (l : List Nat), Sits H par prev next (.node n p k .nil) → An W0 w l → l.length + k.blocks.length + 1 ≤ 1000000 →
  Calls Try.prog 150 #[.pointer (some ⟨n, 0, none⟩), .pointer (some ⟨W0.heap.size, 0, none⟩), .pointer (some ⟨W0.heap.size + 1, 0, none⟩)] w fun e w' => e = .returned (.tuple #[]) ∧ An W0 w' (l ++ n :: k.blocks)
/-- One more node in the row. -/
theorem an_push {W0 w w2 : World} {l : List Nat} {n : Nat} {v v2 : Value} (hbel : Below W0.heap.size W0 w) (hsz : W0.heap.size + 2 ≤ w.heap.size) (hown : w.ownsRow (W0.heap.size + 2) 70 1 v l.length (ptrs l)) (hfi : w.heap[W0.heap.size + 1]? = some (finObj W0.heap.size)) (hv : w.heap[W0.heap.size]? = some (.cells #[v] 77 (0, 0)))
    (h2 : w2.ownsRow (W0.heap.size + 2) 70 1 v2 (l.length + 1) (ptrs l ++ [.pointer (some ⟨n, 0, none⟩)])) (hg : (w.alloc (.cells #[.pointer (some ⟨n, 0, none⟩)] 70 (0, 0))).grownBy w2 v.ownBlock) :
    w2.heap[W0.heap.size]? = some (.cells #[v] 77 (0, 0)) ∧ An W0 (w2.setCell ⟨W0.heap.size, 0, none⟩ v2) (l ++ [n]) := by
  have hne : ∀ z, z < W0.heap.size + 2 → some z ≠ v.ownBlock := fun z hz e => by have := own_base hown z e.symm; omega
  have ha : Below w.heap.size w (w.alloc (.cells #[.pointer (some ⟨n, 0, none⟩)] 70 (0, 0))) := below_alloc (Below.refl _ _) _
  have hsa : (w.alloc (.cells #[.pointer (some ⟨n, 0, none⟩)] 70 (0, 0))).heap.size = w.heap.size + 1 := World.size_alloc _ _
  have e1 : w2.heap[W0.heap.size]? = some (.cells #[v] 77 (0, 0)) := (hg.block _ (by omega) (hne _ (by omega))).trans ((ha.block _ (by omega)).trans hv)
  have e2 : w2.heap[W0.heap.size + 1]? = some (finObj W0.heap.size) := (hg.block _ (by omega) (hne _ (by omega))).trans ((ha.block _ (by omega)).trans hfi)
  have e3 : (w2.setCell ⟨W0.heap.size, 0, none⟩ v2).heap[W0.heap.size]? = some (.cells #[v2] 77 (0, 0)) := Lib.heap_setCell_same e1 v2
  have hg2 := hg.size
  refine ⟨e1, v2, e3, ?_, (Below.heap_setCell _ _ _ _ (by show W0.heap.size + 1 ≠ W0.heap.size; omega)).trans e2, ?_, by rw [World.size_setCell]; omega⟩
  · have h3 := ownsRow_setCell_below h2 (a := ⟨W0.heap.size, 0, none⟩) (by show W0.heap.size < _; omega) v2
    have e4 : ptrs (l ++ [n]) = ptrs l ++ [.pointer (some ⟨n, 0, none⟩)] := by simp [ptrs]
    rw [e4, List.length_append]
    exact h3
  · exact ((below_then hbel (by omega) ha).grown hg (by omega) (fun z hz => by have := own_base hown z hz; omega)).setCell (by show _ ≤ W0.heap.size; omega) _
set_option maxRecDepth 100000 in
set_option maxHeartbeats 1600000 in
theorem all_step (W0 : World) (H : NMap) (hw : Holds W0 H) (k : F Pay) (hall : AllK (AllP W0 H) k) : AllP W0 H k := by
  intro n p par prev next w l hs han hl
  have hent : ∀ (a : Nat) (W : World), (callFunc 150 #[.pointer (some ⟨a, 0, none⟩), .pointer (some ⟨W0.heap.size, 0, none⟩), .pointer (some ⟨W0.heap.size + 1, 0, none⟩)]).run Try.prog W = .ok (.enter 150 #[.pointer (some ⟨a, 0, none⟩), .pointer (some ⟨W0.heap.size, 0, none⟩), .pointer (some ⟨W0.heap.size + 1, 0, none⟩)]) W :=
    fun a W => enters Try.func150 (by rfl) (by rfl) _ _
  obtain ⟨i0, hi, hzz⟩ := Option.map_eq_some_iff.1 infoNodePtr
  simp only [Prod.mk.injEq] at hzz
  obtain ⟨hz0, hz1, hz2⟩ := hzz
  obtain ⟨u, hu⟩ := ptrV_form (k.headOr none)
  have hnl := hw.lt hs.1
  have hcell : ∀ w1 l1, An W0 w1 l1 → w1.cell? ⟨n, 1, none⟩ = some (.pointer u) := fun w1 l1 h => by
    obtain ⟨_, _, _, _, hb, _⟩ := h
    have h1 := (hw.opened hs.1).2.1
    rw [hu] at h1
    exact (hb.cell (p := ⟨n, 1, none⟩) hnl).trans h1
  obtain ⟨v, hv, hown, hfi, hbel, hsz⟩ := han
  obtain ⟨c0, cf0⟩ := out_cell hv 0
  simp only [List.getElem?_toArray, List.getElem?_cons_succ, List.getElem?_cons_zero] at c0
  obtain ⟨B, hB⟩ : ∃ B, B = W0.heap.size := ⟨_, rfl⟩
  have HCELL := Lib.hid hcell
  have HU := Lib.hid hu
  have HW := Lib.hid hw
  have HS := Lib.hid hs
  have HL := Lib.hid hl
  have HV := Lib.hid hv
  have HOWN := Lib.hid hown
  have HFI := Lib.hid hfi
  have HBEL := Lib.hid hbel
  have HSZ := Lib.hid hsz
  have HA := Lib.hid hall
  have HI := Lib.hid (And.intro hi (And.intro hz0 (And.intro hz1 hz2)))
  clear hcell hu hw hs hl hv hown hfi hbel hsz hall hi hz0 hz1 hz2
  go_enter Try.func150, Try.ntmps150
  go_wp2_with (at_builtin; refine wpList_append_own_at _ rfl (.tmp 5) (.tmp 7) 77 rfl (W0.heap.size + 2) 70 i0 (.pointer none) 1 8 Try.underlying77 HI.out.1 HI.out.2.1 HI.out.2.2.1 HI.out.2.2.2 rfl (by omega) v l.length (ptrs l) rfl (pw_own_below HOWN.out (below_alloc (Below.refl _ _) _)) ⟨w.heap.size, 0, none⟩ 1 1 [.pointer (some ⟨n, 0, none⟩)] rfl rfl ?news (by simp [Value.oneCell']) (by simp only [maxLen]; have := HL.out; omega) (by have := HL.out; omega) (by rw [World.size_alloc]; have := HSZ.out; omega) ?_; (case news => intro j u2 hj; rcases j with _ | j; (simp only [List.getElem?_cons_zero, Option.some.injEq] at hj; subst hj; exact cell_new w _ _ _); (simp at hj)); intro v2 w2 hown2 hgr2 _ _; obtain ⟨A2, c2, rfl⟩ := own_slice hown2; obtain ⟨hv2, hAN⟩ := an_push HBEL.out HSZ.out HOWN.out HFI.out HV.out hown2 hgr2; obtain ⟨d0, df0⟩ := out_cell hv2 0; simp only [List.getElem?_toArray, List.getElem?_cons_succ, List.getElem?_cons_zero] at d0; have n1 := HCELL.out _ _ hAN; have HAN := Lib.hid hAN; clear hown2 hgr2 hv2 hAN)
  have hAN := HAN.out
  generalize (w2.setCell ⟨W0.heap.size, 0, none⟩ (.slice A2 (l.length + 1) c2)) = W2 at *
  go_loopg [4] k.len (fun gk c0 wr => ∃ (k0 rest : F Pay), c0 = ptrV (rest.headOr none) ∧ gk = rest.len ∧ k = k0.app rest ∧ An W0 wr (l ++ n :: k0.blocks))
  case atStart => exact ⟨.nil, k, HU.out.symm, rfl, rfl, hAN⟩
  case round =>
    obtain ⟨k0, rest, rfl, rfl, hk, han⟩ := hrel
    have hfi1 : wr.heap[W0.heap.size + 1]? = some (finObj W0.heap.size) := by obtain ⟨_, _, _, h, _⟩ := han; exact h
    obtain ⟨f0, -⟩ := out_cell hfi1 0
    simp only [List.getElem?_toArray, List.getElem?_cons_succ, List.getElem?_cons_zero] at f0
    rcases headOr_cases rest with hg | ⟨c, q, ck, r, hg⟩
    · subst hg
      simp only [show ptrV ((F.nil : F Pay).headOr none) = .pointer none from rfl]
      have HAN2 := Lib.hid han
      have HK := Lib.hid hk
      clear hk han hfi1 hAN
      go_wp2
      go_end0
      refine ⟨rfl, ?_⟩
      have h := HAN2.out
      have e := HK.out
      rw [F.app_nil] at e
      rw [e]
      exact h
    · subst hg
      simp only [show ptrV ((F.node c q ck r).headOr none) = .pointer (some ⟨c, 0, none⟩) from rfl]
      have hss := HS.out.2.1
      rw [hk] at hss
      obtain ⟨hsd, hc, hck, hsr⟩ := (sits_app H k0 _ _ _ _).1 hss
      have hac := allK_app (AllP W0 H) k0 _ (hk ▸ HA.out)
      obtain ⟨u4, hu4⟩ := ptrV_form (r.headOr none)
      have hcl := HW.out.lt hc
      have hnext := (HW.out.opened hc).2.2.2.2.1
      rw [hu4] at hnext
      have hrec := hac.1 c q (some n) (k0.lastOr none) (r.headOr none) wr (l ++ n :: k0.blocks) ⟨hc, hck, trivial⟩ han (by
        have h := HL.out
        rw [hk, F.blocks_app] at h
        simp only [F.blocks, List.length_append, List.length_cons] at h ⊢
        omega)
      have HREC := Lib.hid hrec
      have HU4 := Lib.hid hu4
      have HK := Lib.hid hk
      have HNX := Lib.hid hnext
      clear hss hsd hc hck hsr hac hu4 hrec hk hnext han hfi1 hAN
      go_wp2_with (refine HREC.out.mono ?_; rintro e w3 ⟨rfl, hk3⟩; have c4 := (hk3.elim (fun v h => h.2.2.2.1.cell (p := ⟨c, 4, none⟩) hcl)).trans HNX.out; have HK3 := Lib.hid hk3; clear hk3)
      go_roundg r.len
      case measure => simp [F.len]
      case rel =>
        refine ⟨k0.app (.node c q ck .nil), r, HU4.out.symm, rfl, ?_, ?_⟩
        · rw [F.app_assoc]
          exact HK.out
        · have h := HK3.out
          rw [F.blocks_app]
          simp only [F.blocks, List.append_nil]
          rw [List.append_assoc, List.cons_append] at h
          exact h
theorem all_any (W0 : World) (H : NMap) (hw : Holds W0 H) : ∀ k : F Pay, AllP W0 H k ∧ AllK (AllP W0 H) k
  | .nil => ⟨all_step W0 H hw .nil trivial, trivial⟩
  | .node b p k r => by
    have h : AllK (AllP W0 H) (.node b p k r) := ⟨(all_any W0 H hw k).1, (all_any W0 H hw r).2⟩
    exact ⟨all_step W0 H hw _ h, h⟩
end Go.Proofs.Ytlallihdiffheaa.Hand
namespace Go.Proofs.Ytlallihdiffheaa.Hand
open Go.RowKit Go.Proofs.YtlallihdiffheaaW.PrintWords Go.Proofs.YtlallihdiffheaaW.PrintLast Go.Proofs.YtlallihdiffheaaW.PrintMore Go.Proofs.Ytlallihdiffheaa.GT
set_option linter.unusedVariables false
set_option linter.unusedSimpArgs false

theorem results_slice {P : Program} {fn : Func} {p : Tmp} {ty e : TypeId} (h : fn.results = #[.cell p ty]) (tmps : Array Value) (w : World) (g : Nat) (A : Option Addr) (n c : Nat)
    (hp : tmps.getD p undef = .pointer (some ⟨g, 0, none⟩)) (hc : w.cell? ⟨g, 0, none⟩ = some (.slice A n c)) (hu : P.underlying ty = some (.slice e)) :
    (results fn tmps).run P w = .ok (.slice A n c) w := by
  have hp' : tmps[p]?.getD undef = .pointer (some ⟨g, 0, none⟩) := by simpa using hp
  have hagg : (isAgg ty).run P w = .ok false w := by
    unfold isAgg
    rw [Sem.run_bind, run_underlying hu w]
    rfl
  simp [results, h, hp', asAddr, loadVar, Sem.run_bind, hagg, hc]
set_option maxRecDepth 100000 in
set_option maxHeartbeats 1600000 in
theorem allNodes_any (k : F Pay) (n : Nat) (p : Pay) (H : NMap) (w : World) (hw : Holds w H) (hs : Sits H none none none (.node n p k .nil)) (hl : k.blocks.length ≤ 900000) :
    Calls Try.prog 106 #[.pointer (some ⟨n, 0, none⟩)] w fun e w' => ∃ A c, e = .returned (.slice A (n :: k.blocks).length c) ∧ w'.ownsRow (w.heap.size + 2) 70 1 (.slice A (n :: k.blocks).length c) (n :: k.blocks).length (ptrs (n :: k.blocks)) ∧ Below w.heap.size w w' := by
  have hent : ∀ (a : Nat) (W : World), (callFunc 150 #[.pointer (some ⟨a, 0, none⟩), .pointer (some ⟨w.heap.size, 0, none⟩), .pointer (some ⟨w.heap.size + 1, 0, none⟩)]).run Try.prog W = .ok (.enter 150 #[.pointer (some ⟨a, 0, none⟩), .pointer (some ⟨w.heap.size, 0, none⟩), .pointer (some ⟨w.heap.size + 1, 0, none⟩)]) W :=
    fun a W => enters Try.func150 (by rfl) (by rfl) _ _
  have han : An w ((w.alloc (.cells #[.slice none 0 0] 77 (0, 0))).alloc (finObj w.heap.size)) [] := by
    refine ⟨.slice none 0 0, ?_, own_nil _ _ _ _, ?_, below_alloc (below_alloc (Below.refl _ _) _) _, by rw [World.size_alloc, World.size_alloc]; omega⟩
    · rw [Below.heap_alloc _ _ _ (by rw [World.size_alloc]; omega)]
      exact heap_alloc_new _ _
    · rw [← World.size_alloc w (.cells #[.slice none 0 0] 77 (0, 0))]
      exact heap_alloc_new _ _
  have hcall := (all_any w H hw k).1 n p none none none _ [] hs han (by simp only [List.length_nil]; omega)
  have HCALL := Lib.hid hcall
  clear hcall han hw hs
  go_enter Try.func106, Try.ntmps106
  go_wp2_with (refine HCALL.out.mono ?_; rintro e w3 ⟨rfl, v3, hv3, hown3, hfi3, hb3, hs3⟩; obtain ⟨A3, c3, rfl⟩ := own_slice hown3; obtain ⟨d0, df0⟩ := out_cell hv3 0; simp only [List.getElem?_toArray, List.getElem?_cons_succ, List.getElem?_cons_zero] at d0; have HV3 := Lib.hid hv3; have HOWN3 := Lib.hid hown3; have HB3 := Lib.hid hb3; clear hv3 hown3 hfi3 hb3)
  refine bodyPost_ret (results_slice rfl _ _ w.heap.size A3 (k.blocks.length + 1) c3 rfl (out_cell (Lib.heap_setCell_same HV3.out _) 0).1 Try.underlying77) rfl ?_
  refine ⟨A3, c3, rfl, ?_, ?_⟩
  · exact ownsRow_setCell_below HOWN3.out (a := ⟨w.heap.size, 0, none⟩) (by show w.heap.size < _; omega) _
  · exact HB3.out.setCell (Nat.le_refl _) _
/-- Trees in which none of such elements stands within another one. -/
inductive NW (ns : List ByteArray) : Bool → S25 → Prop
  | mk (i : Bool) (q0 : Int) (q1 q2 : ByteArray) (kids : List S25) (h1 : (decide (q0 = 0) && ns.any (fun x => q1.toList == x.toList)) = true → i = false) (h2 : ∀ y ∈ kids, NW ns (i || (decide (q0 = 0) && ns.any (fun x => q1.toList == x.toList))) y) : NW ns i ⟨q0, q1, q2, [], kids⟩
theorem NW.inv {ns : List ByteArray} {i : Bool} {q0 : Int} {q1 q2 : ByteArray} {kids : List S25} (h : NW ns i ⟨q0, q1, q2, [], kids⟩) : ((decide (q0 = 0) && ns.any (fun x => q1.toList == x.toList)) = true → i = false) ∧ ∀ y ∈ kids, NW ns (i || (decide (q0 = 0) && ns.any (fun x => q1.toList == x.toList))) y := by
  cases h with
  | mk _ _ _ _ _ h1 h2 => exact ⟨h1, h2⟩
/-- What a node's tree says of the node. -/
theorem nm_form (ns : List ByteArray) {p : Pay} {k r : F Pay} {b : Nat} (hn : Neat (.node b p k r)) (hp : Plain (.node b p k r)) : ∃ q0 q1 q2, nodeOf p (erase k) = ⟨q0, q1, q2, [], erase k⟩ ∧ (decide (q0 = 0) && ns.any (fun x => q1.toList == x.toList)) = isNm ns p := by
  obtain ⟨hn1, hn2, hn3⟩ := hn
  rcases hp.1 with ht | ⟨ht, ha⟩ | ht
  · have hk : k = .nil := by rcases hn1 with ⟨_, h⟩ | ⟨h, _⟩ | h | h <;> first | assumption | omega
    subst hk
    refine ⟨1, ⟨#[]⟩, p.data, by simp [nodeOf, ht, erase], ?_⟩
    unfold isNm
    rw [ht]
    rfl
  · refine ⟨0, p.data, ⟨#[]⟩, by simp [nodeOf, ht, ha], ?_⟩
    unfold isNm
    rw [ht]
    rfl
  · have hk : k = .nil := by rcases hn1 with ⟨h, _⟩ | ⟨_, h⟩ | h | h <;> first | assumption | omega
    subst hk
    refine ⟨2, ⟨#[]⟩, p.data, by simp [nodeOf, ht, erase], ?_⟩
    unfold isNm
    rw [ht]
    rfl
def Fine (H : NMap) (ns : List ByteArray) (c : Nat) : Prop := ∃ r, H c = some r ∧ (r.pay.type = 1 ∨ r.pay.type = 4 ∨ r.pay.type = 3 ∨ r.pay.type = 2) ∧ (isNm ns r.pay = true → ∃ d, Up H ns d r.parent)
theorem fine_all (H : NMap) (ns : List ByteArray) : ∀ (f : F Pay) (i : Bool) (par prev next : Option Nat), Neat f → Plain f → Sits H par prev next f → (∀ y ∈ erase f, NW ns i y) → (i = false → ∃ d, Up H ns d par) → ∀ c ∈ f.blocks, Fine H ns c
  | .nil, i, par, prev, next, _, _, _, _, _, c, hc => by cases hc
  | .node b p k r, i, par, prev, next, hn, hp, hs, hy, hup, c, hc => by
    obtain ⟨q0, q1, q2, e1, e2⟩ := nm_form ns hn hp
    have h0 := hy (nodeOf p (erase k)) List.mem_cons_self
    rw [e1] at h0
    obtain ⟨h1, h2⟩ := h0.inv
    rw [e2] at h1 h2
    have hrec : Fine H ns b := ⟨_, hs.1, neat_type hn, fun h => hup (h1 h)⟩
    simp only [F.blocks, List.mem_cons, List.mem_append] at hc
    rcases hc with rfl | hc | hc
    · exact hrec
    · refine fine_all H ns k (i || isNm ns p) (some b) _ _ hn.2.1 hp.2.1 hs.2.1 h2 (fun hi => ?_) c hc
      rw [Bool.or_eq_false_iff] at hi
      obtain ⟨d, hd⟩ := hup hi.1
      exact ⟨d + 1, b, _, rfl, hs.1, neat_type hn, hi.2, hd⟩
    · exact fine_all H ns r i par _ _ hn.2.2 hp.2.2 hs.2.2 (fun y hy2 => hy y (List.mem_cons_of_mem _ hy2)) hup c hc
set_option maxRecDepth 100000 in
set_option maxHeartbeats 1600000 in
theorem removeRed_any {w : World} {ns : List ByteArray} {ci bx : Nat} {A : Option Addr} {c : Nat} (hq : Asks w ns ci bx A c) (k : F Pay) (n : Nat) (p : Pay) (H : NMap) (hw : Holds w H) (hs : Sits H none none none (.node n p k .nil)) (hl : k.blocks.length ≤ 900000) (hf : ∀ c ∈ n :: k.blocks, Fine H ns c) :
    Calls Try.prog 90 #[.pointer (some ⟨n, 0, none⟩), .func (.func 91) #[] #[.pointer (some ⟨ci, 0, none⟩)]] w fun e w' => e = .returned (.tuple #[]) ∧ Below w.heap.size w w' := by
  have HALL := Lib.hid (allNodes_any k n p H w hw hs hl)
  have habove : ∀ w1, Below w.heap.size w w1 → ∀ x ∈ n :: k.blocks, Calls Try.prog 138 #[.pointer (some ⟨x, 0, none⟩), .func (.func 91) #[] #[.pointer (some ⟨ci, 0, none⟩)]] w1 fun e w' => e = .returned (.bool false) ∧ Below w1.heap.size w1 w' := fun w1 hb x hx => by
    obtain ⟨r, h1, h2, h3⟩ := hf x hx
    exact above_any (hq.below hb) (hw.below hb) h1 h2 h3
  have HAB := Lib.hid habove
  have hlen : (n :: k.blocks).length ≤ 1000000 := by rw [List.length_cons]; omega
  have hpos : 0 < (n :: k.blocks).length := by rw [List.length_cons]; omega
  clear habove hf hw hs hq hl
  generalize n :: k.blocks = l at *
  go_enter Try.func90, Try.ntmps90
  go_wp2_with (go_at_call 106; refine HALL.out.mono ?_; rintro e w1 ⟨A1, c1, rfl, hown, hb1⟩; have HOWN := Lib.hid hown; have HB1 := Lib.hid hb1; clear hown hb1)
  obtain ⟨g, cap, hv, hgl, hcells⟩ : ∃ g cap, Value.slice A1 l.length c1 = .slice (some ⟨g, 0, none⟩) l.length cap ∧ g < w1.heap.size ∧ ∀ (j x : Nat), l[j]? = some x → w1.cell? ((⟨g, 0, none⟩ : Addr).add j) = some (.pointer (some ⟨x, 0, none⟩)) := by
    obtain ⟨g, cap, h1, h2, h3⟩ := HOWN.out.form hpos
    refine ⟨g, cap, h1, own_lt HOWN.out g (by rw [h1]; rfl), fun j x hj => ?_⟩
    have h4 := HOWN.out
    rw [h1] at h4
    exact h4.cells (g := g) rfl j _ (by simp [ptrs, hj])
  injection hv with hv1 _ hv2
  subst hv1 hv2
  have HCELLS := Lib.hid hcells
  clear hcells
  go_loopg [9] l.length (fun gk i0 wr => ∃ j : Nat, i0 = .int .i64 (j : Int) ∧ gk = l.length - j ∧ j ≤ l.length ∧ Below w1.heap.size w1 wr)
  case atStart => exact ⟨0, rfl, rfl, Nat.zero_le _, Below.refl _ _⟩
  case round =>
    obtain ⟨j, rfl, rfl, hj, hbw⟩ := hrel
    have HBW := Lib.hid hbw
    by_cases hlt : j < l.length
    · have h1 : (0 : Int) ≤ (j : Int) := by omega
      have h2 : (j : Int) < (l.length : Int) := by omega
      have hd : decide ((j : Int) < (l.length : Int)) = true := decide_eq_true h2
      obtain ⟨x, hx⟩ : ∃ x, l[j]? = some x := ⟨_, List.getElem?_eq_getElem hlt⟩
      have hcx := (hbw.cell (p := (⟨g, 0, none⟩ : Addr).add j) (by rw [show ((⟨g, 0, none⟩ : Addr).add j).block = g by unfold Addr.add; split <;> rfl]; exact hgl)).trans (HCELLS.out j x hx)
      have hmem : x ∈ l := List.mem_of_getElem? hx
      have HAX := Lib.hid (HAB.out wr (below_then HB1.out HB1.out.size hbw) x hmem)
      rw [show (⟨g, 0, none⟩ : Addr).add j = ⟨g, j, none⟩ by unfold Addr.add; split <;> simp_all] at hcx
      clear hbw hx hmem
      go_wp2_with (go_at_call 138; refine HAX.out.mono ?_; rintro e w2 ⟨rfl, hb2⟩; have HB2 := Lib.hid hb2; clear hb2)
      go_roundg (l.length - (j + 1))
      case measure => omega
      case rel => exact ⟨j + 1, by first | (rw [show wrap64 ((j : Int) + 1) = ((j + 1 : Nat) : Int) by unfold wrap64; omega]) | simp, rfl, by omega, below_then HBW.out HBW.out.size HB2.out⟩
    · have hd : decide ((j : Int) < (l.length : Int)) = false := decide_eq_false (by omega)
      clear hbw
      go_wp2
      go_end0
      exact ⟨rfl, below_then HB1.out HB1.out.size HBW.out⟩
set_option maxRecDepth 100000 in
set_option maxHeartbeats 800000 in
theorem red_do (n : Nat) (hn60 : n ≤ 60) (x : S25) (hx : Sm n x) (W0 : World) {ns : List ByteArray} {ci bx : Nat} {A : Option Addr} {c : Nat} (hq : Asks W0 ns ci bx A c) (hnw : NW ns false x) : DoSpec 89 #[.pointer (some ⟨ci, 0, none⟩)] W0 x (fun y => y = x) := by
  intro w L b p k hB hL hs ht hn hd hf
  obtain ⟨h1, h2, h3⟩ := sm_node hx ht hn
  have hfine : ∀ c ∈ b :: k.blocks, Fine L ns c := fun c hc => fine_all L ns (.node b p k .nil) false none none none hn h3 hs (fun y hy => by
    have hy : y ∈ [nodeOf p (erase k)] := hy
    rw [List.mem_singleton] at hy
    rw [hy, ht]
    exact hnw) (fun _ => ⟨0, rfl⟩) c (by simpa [F.blocks] using hc)
  have hl : k.blocks.length ≤ 900000 := by
    simp only [F.blocks, List.length_cons, List.length_append, List.length_nil] at h1
    omega
  have HCALL := Lib.hid (removeRed_any (hq.below hB) k b p L hL hs hl hfine)
  have HH := Lib.hid (And.intro hL (And.intro hs (And.intro ht (And.intro h1 h3))))
  clear hB hL hs ht hn hd hf h1 h2 h3 hq hfine hl
  show Calls Try.prog 89 #[.pointer (some ⟨b, 0, none⟩), .pointer (some ⟨ci, 0, none⟩)] w _
  go_enter Try.func89, Try.ntmps89
  go_wp2_with (go_at_call 90; refine HCALL.out.mono ?_; rintro e w3 ⟨rfl, hb⟩; have HB3 := Lib.hid hb; clear hb)
  go_end0
  obtain ⟨hL, hs, ht, h1, h3⟩ := HH.out
  exact ⟨rfl, x, p, k, L, rfl, hL.below HB3.out, hs, ht, h3, by omega, Stays.of_below HB3.out⟩
set_option maxRecDepth 100000 in
set_option maxHeartbeats 1600000 in
theorem redundant_any (n : Nat) (hn60 : n ≤ 60) (x : S25) (hx : Sm n x) (w : World) (A3 A4 A : Option Addr) (c3 c4 c : Nat) (ns : List ByteArray) (hnw : NW ns false x) (h3 : k34.C w A3 x.f3.length x.f3) (l3 : x.f3.length ≤ c3) (h4 : k25.C w A4 x.f4.length x.f4) (l4 : x.f4.length ≤ c4) (hN : Kd.C Kd.string w A ns.length ns) (lN : ns.length ≤ c) (few : ns.length ≤ 1000) :
    Calls Try.prog 44 #[.agg #[.int .i64 x.f0, .string x.f1, .string x.f2, .slice A3 x.f3.length c3, .slice A4 x.f4.length c4], .slice A ns.length c] w (ToldPost x w) := by
  obtain ⟨W4, hW4⟩ : ∃ W4, W4 = ((((w.alloc (.cells #[.int .i64 x.f0, .string x.f1, .string x.f2, .slice A3 x.f3.length c3, .slice A4 x.f4.length c4] 25 (0, 0))).alloc (.cells #[.int .i64 0, .string ⟨#[]⟩, .string ⟨#[]⟩, .slice none 0 0, .slice none 0 0] 25 (0, 0))).alloc (boxNs A ns.length c)).alloc (isObj (w.heap.size + 1 + 1))) := ⟨_, rfl⟩
  have hB4 : Below w.heap.size w W4 := by
    rw [hW4]
    exact below_alloc (below_alloc (below_alloc (below_alloc (Below.refl _ _) _) _) _) _
  have hsz : W4.heap.size = w.heap.size + 1 + 1 + 1 + 1 := by rw [hW4]; simp only [World.size_alloc]
  have b1 : W4.heap[w.heap.size + 1]? = some (.cells #[.int .i64 0, .string ⟨#[]⟩, .string ⟨#[]⟩, .slice none 0 0, .slice none 0 0] 25 (0, 0)) := by
    rw [hW4, Below.heap_alloc _ _ _ (by simp only [World.size_alloc]; omega), Below.heap_alloc _ _ _ (by simp only [World.size_alloc]; omega), ← World.size_alloc w]
    exact heap_alloc_new _ _
  have b2 : W4.heap[w.heap.size + 1 + 1]? = some (boxNs A ns.length c) := by
    rw [hW4, Below.heap_alloc _ _ _ (by simp only [World.size_alloc]; omega), ← World.size_alloc w, ← World.size_alloc (w.alloc _)]
    exact heap_alloc_new _ _
  have b3 : W4.heap[w.heap.size + 1 + 1 + 1]? = some (isObj (w.heap.size + 1 + 1)) := by
    have e : w.heap.size + 1 + 1 + 1 = (((w.alloc (.cells #[.int .i64 x.f0, .string x.f1, .string x.f2, .slice A3 x.f3.length c3, .slice A4 x.f4.length c4] 25 (0, 0))).alloc (.cells #[.int .i64 0, .string ⟨#[]⟩, .string ⟨#[]⟩, .slice none 0 0, .slice none 0 0] 25 (0, 0))).alloc (boxNs A ns.length c)).heap.size := by simp only [World.size_alloc]
    rw [hW4, e]
    exact heap_alloc_new _ _
  have hq : Asks W4 ns (w.heap.size + 1 + 1 + 1) (w.heap.size + 1 + 1) A c := ⟨b3, b2, Kd.C_below hN hB4, lN, few⟩
  have hcall := behind_any 89 #[.pointer (some ⟨w.heap.size + 1 + 1 + 1, 0, none⟩)] W4 x (fun y => y = x) hx.wf A3 A4 c3 c4 (fun v W => enters Try.func89 (by rfl) (by rfl) _ _) (red_do n hn60 x hx W4 hq hnw) (Kd.C_below h3 hB4) l3 (Kd.C_below h4 hB4) l4
  have hafter : ∀ w1 : World, Below W4.heap.size W4 w1 → w1.heap[w.heap.size + 1]? = some (.cells #[.int .i64 0, .string ⟨#[]⟩, .string ⟨#[]⟩, .slice none 0 0, .slice none 0 0] 25 (0, 0)) ∧ Below w.heap.size w w1 ∧ w.heap.size + 4 ≤ w1.heap.size := fun w1 hb => ⟨(hb.block _ (by omega)).trans b1, below_then hB4 (by omega) hb, by have := hb.size; omega⟩
  have HCALL := Lib.hid hcall
  have HAFT := Lib.hid hafter
  have HSZ := Lib.hid hsz
  have HW4 := Lib.hid hW4
  clear hB4 hsz b1 b2 b3 hq hcall hafter h3 h4 hN hW4
  go_enter Try.func44, Try.ntmps44
  go_wp2_with (first | (go_at_call 88; go_in) | (go_at_call 73; have e4 := HW4.out; simp only [boxNs, isObj] at e4; rw [← e4]; refine HCALL.out.mono ?_; rintro e w1 ⟨y, rfl, A5, c5, A6, c6, rfl, htl, hb⟩; obtain ⟨hr1, hB1, hs1⟩ := HAFT.out w1 hb; obtain ⟨r0, f0⟩ := out_cell hr1 0; obtain ⟨r1, f1⟩ := out_cell hr1 1; obtain ⟨r2, f2⟩ := out_cell hr1 2; obtain ⟨r3, f3⟩ := out_cell hr1 3; obtain ⟨r4, f4⟩ := out_cell hr1 4; simp only [List.getElem?_toArray, List.getElem?_cons_succ, List.getElem?_cons_zero] at r0 r1 r2 r3 r4; have HR1 := Lib.hid hr1; have HB1 := Lib.hid hB1; have HTL := Lib.hid htl; clear e4 hr1 hB1 htl hb))
  obtain ⟨e4, hg, hsz2⟩ := put5 (.int .i64 y.f0) (.string y.f1) (.string y.f2) (.slice A5 y.f3.length c5) (.slice A6 y.f4.length c6) HR1.out
  refine bodyPost_ret (results_cell_row rfl _ _ (w.heap.size + 1) 25 #[.int .i64 y.f0, .string y.f1, .string y.f2, .slice A5 y.f3.length c5, .slice A6 y.f4.length c6] (0, 0) _ rfl e4 Try.underlying25 rfl (by kernel_rfl)) rfl ?_
  refine ⟨A5, c5, A6, c6, rfl, fun W hW => HTL.out W fun z hz1 hz2 => ?_, HB1.out.grown hg HB1.out.size (fun z hz => by have := Option.some.inj hz; omega)⟩
  have h7 := HSZ.out
  rw [hW z (by omega) (by omega)]
  exact hg.block z hz2 (fun e => by have := Option.some.inj e; omega)
end Go.Proofs.Ytlallihdiffheaa.Hand
