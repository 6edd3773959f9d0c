import Derived.Test.YtlallihdiffheaaZFakeSpan
import Derived.Deep.LoopGhost
import Derived.Test.YtlallihdiffheaaZEnds
section
/- What the closure of impl.named says of a node. -/
namespace Go.Proofs.Ytlallihdiffheaa.Hand
open Go.RowKit Go.Proofs.YtlallihdiffheaaW.PrintWords Go.Proofs.YtlallihdiffheaaW.PrintLast Go.Proofs.YtlallihdiffheaaW.PrintMore Go.Proofs.Ytlallihdiffheaa.GT
set_option linter.unusedVariables false
set_option linter.unusedSimpArgs false

/-- An element of one of some names. -/
def isNm (ns : List ByteArray) (q : Pay) : Bool := decide (q.type = 3) && ns.any (fun x => q.data.toList == x.toList)
def boxNs (A : Option Addr) (n c : Nat) : Obj := .cells #[.slice A n c] 54 (0, 0)
theorem any_take {ns : List ByteArray} {d : List UInt8} {j : Nat} (h : (ns.take j).any (fun x => d == x.toList) = false) (hj : j < ns.length) (hn : ((rdOf ByteArray.empty ns (j : Int)).toList == d) = false) : (ns.take (j + 1)).any (fun x => d == x.toList) = false := by
  have e : rdOf ByteArray.empty ns (j : Int) = ns[j] := by simp [rdOf, hj]
  rw [e] at hn
  rw [List.take_succ_eq_append_getElem hj, List.any_append, h, Bool.false_or, List.any_cons, List.any_nil, Bool.or_false]
  rw [beq_eq_false_iff_ne] at hn ⊢
  exact fun h => hn h.symm
theorem any_hit {ns : List ByteArray} {d : List UInt8} {j : Nat} (hj : j < ns.length) (hn : ((rdOf ByteArray.empty ns (j : Int)).toList == d) = true) : ns.any (fun x => d == x.toList) = true := by
  have e : rdOf ByteArray.empty ns (j : Int) = ns[j] := by simp [rdOf, hj]
  rw [e] at hn
  rw [List.any_eq_true]
  refine ⟨ns[j], List.getElem_mem hj, ?_⟩
  rw [beq_iff_eq] at hn ⊢
  exact hn.symm
set_option maxRecDepth 100000 in
set_option maxHeartbeats 1600000 in
theorem named_other (ns : List ByteArray) (hns : ns.length ≤ 1000) {w : World} {H : NMap} (hw : Holds w H) {b : Nat} {par f l v x : Option Nat} {q : Pay} (hb : H b = some ⟨par, f, l, v, x, q⟩) (z : Int) (hz : z = 1 ∨ z = 4 ∨ z = 2) (ht : q.type = z) {bx : Nat} {A : Option Addr} {c : Nat} (hbx : w.cell? ⟨bx, 0, none⟩ = some (.slice A ns.length c)) (hC : Kd.C Kd.string w A ns.length ns) (hc : ns.length ≤ c) :
    Calls Try.prog 137 #[.pointer (some ⟨b, 0, none⟩), .pointer (some ⟨bx, 0, none⟩)] w fun e w' => e = .returned (.bool (isNm ns q)) ∧ Below w.heap.size w w' := by
  obtain ⟨n0, n1, n2, n3, n4, n5, n6, n7, n9⟩ := hw.opened hb
  have hres : isNm ns q = false := by
    unfold isNm
    rw [ht]
    rcases hz with rfl | rfl | rfl <;> rfl
  rw [hres]
  rw [ht] at n5
  have HC := Lib.hid hC
  clear n0 n1 n2 n3 n4 n6 n7 n9 hb hw ht hres hC
  rcases hz with rfl | rfl | rfl <;> (
    go_enter Try.func137, Try.ntmps137
    go_wp2
    go_loopg [8] ns.length (fun gk i0 wr => ∃ j : Nat, i0 = .int .i64 (j : Int) ∧ gk = ns.length - j ∧ j ≤ ns.length ∧ wr = w)
    case atStart => exact ⟨0, rfl, rfl, Nat.zero_le _, rfl⟩
    case round =>
      obtain ⟨j, rfl, rfl, hj, rfl⟩ := hrel
      by_cases hlt : j < ns.length
      · have h1 : (0 : Int) ≤ (j : Int) := by omega
        have h2 : (j : Int) < (ns.length : Int) := by omega
        obtain ⟨ad, rfl, hx⟩ := Kd.at_string HC.out (j : Int) h1 h2
        rw [Int.toNat_natCast] at hx
        have hd : decide ((j : Int) < (ns.length : Int)) = true := decide_eq_true h2
        go_wp2
        go_roundg (ns.length - (j + 1))
        case measure => omega
        case rel => exact ⟨j + 1, by first | (rw [show wrap64 ((j : Int) + 1) = ((j + 1 : Nat) : Int) by unfold wrap64; omega]) | simp, rfl, by omega, rfl⟩
      · have hd : decide ((j : Int) < (ns.length : Int)) = false := decide_eq_false (by omega)
        go_wp2
        go_ret
        exact ⟨rfl, Below.refl _ _⟩)
set_option maxRecDepth 100000 in
set_option maxHeartbeats 1600000 in
theorem named_elem (ns : List ByteArray) (hns : ns.length ≤ 1000) {w : World} {H : NMap} (hw : Holds w H) {b : Nat} {par f l v x : Option Nat} {q : Pay} (hb : H b = some ⟨par, f, l, v, x, q⟩) (ht : q.type = 3) {bx : Nat} {A : Option Addr} {c : Nat} (hbx : w.cell? ⟨bx, 0, none⟩ = some (.slice A ns.length c)) (hC : Kd.C Kd.string w A ns.length ns) (hc : ns.length ≤ c) :
    Calls Try.prog 137 #[.pointer (some ⟨b, 0, none⟩), .pointer (some ⟨bx, 0, none⟩)] w fun e w' => e = .returned (.bool (isNm ns q)) ∧ Below w.heap.size w w' := by
  have hname : nameOf q = q.data := by simp [nameOf, ht]
  have hres : isNm ns q = ns.any (fun x => q.data.toList == x.toList) := by
    unfold isNm
    rw [ht]
    rfl
  rw [hres]
  have hN : ∀ w1, Below w.heap.size w w1 → Calls Try.prog 105 #[.pointer (some ⟨b, 0, none⟩)] w1 fun e w' => e = .returned (.string q.data) ∧ Below w1.heap.size w1 w' := fun w1 hb1 => by
    have h := nodeName_any (hw.below hb1) hb (.inr (.inr (.inl ht)))
    rw [hname] at h
    exact h
  have h5 : ∀ w1, Below w.heap.size w w1 → w1.cell? ⟨b, 5, none⟩ = some (.int .u32 3) := fun w1 hb1 => by
    have h := ((hw.below hb1).opened hb).2.2.2.2.2.1
    rw [ht] at h
    exact h
  have HN := Lib.hid hN
  have H5 := Lib.hid h5
  have HC := Lib.hid hC
  generalize hqd : q.data = d at *
  clear hname hres hN h5 hC hb hw ht hqd
  go_enter Try.func137, Try.ntmps137
  go_wp2
  go_loopg [8] ns.length (fun gk i0 wr => ∃ j : Nat, i0 = .int .i64 (j : Int) ∧ gk = ns.length - j ∧ j ≤ ns.length ∧ (ns.take j).any (fun x => d.toList == x.toList) = false ∧ Below w.heap.size w wr)
  case atStart => exact ⟨0, rfl, rfl, Nat.zero_le _, rfl, Below.refl _ _⟩
  case round =>
    obtain ⟨j, rfl, rfl, hj, hany, hbw⟩ := hrel
    have HBW := Lib.hid hbw
    have HANY := Lib.hid hany
    by_cases hlt : j < ns.length
    · have h1 : (0 : Int) ≤ (j : Int) := by omega
      have h2 : (j : Int) < (ns.length : Int) := by omega
      obtain ⟨ad, rfl, hx⟩ := Kd.at_string (Kd.C_below HC.out hbw) (j : Int) h1 h2
      rw [Int.toNat_natCast] at hx
      have hd : decide ((j : Int) < (ns.length : Int)) = true := decide_eq_true h2
      have n5 := H5.out wr hbw
      clear hany hbw
      generalize hrd : rdOf ByteArray.empty ns (j : Int) = s at *
      have HRD := Lib.hid hrd
      clear hrd
      go_wp2_with (go_at_call 105; refine (HN.out wr HBW.out).mono ?_; rintro e w1 ⟨rfl, hb1⟩; have HB1 := Lib.hid hb1; clear hb1)
      · have hh : (d.toList == s.toList) = true := by assumption
        go_ret
        refine ⟨?_, below_then HBW.out HBW.out.size HB1.out⟩
        rw [any_hit (d := d.toList) hlt (by rw [HRD.out, beq_iff_eq]; rw [beq_iff_eq] at hh; exact hh.symm)]
        rfl
      · have hh : (d.toList == s.toList) = false := by assumption
        simp only [hh]
        go_roundg (ns.length - (j + 1))
        case measure => omega
        case rel =>
          refine ⟨j + 1, by first | (rw [show wrap64 ((j : Int) + 1) = ((j + 1 : Nat) : Int) by unfold wrap64; omega]) | simp, rfl, by omega, any_take HANY.out hlt ?_, below_then HBW.out HBW.out.size HB1.out⟩
          rw [HRD.out, beq_eq_false_iff_ne]
          rw [beq_eq_false_iff_ne] at hh
          exact fun h => hh h.symm
    · have hd : decide ((j : Int) < (ns.length : Int)) = false := decide_eq_false (by omega)
      clear hany hbw
      go_wp2
      go_ret
      refine ⟨?_, HBW.out⟩
      have h := HANY.out
      rw [List.take_of_length_le (by omega)] at h
      rw [h]
      rfl
theorem named_any (ns : List ByteArray) (hns : ns.length ≤ 1000) {w : World} {H : NMap} (hw : Holds w H) {b : Nat} {par f l v x : Option Nat} {q : Pay} (hb : H b = some ⟨par, f, l, v, x, q⟩) (ht : q.type = 1 ∨ q.type = 4 ∨ q.type = 3 ∨ q.type = 2) {bx : Nat} {A : Option Addr} {c : Nat} (hbx : w.cell? ⟨bx, 0, none⟩ = some (.slice A ns.length c)) (hC : Kd.C Kd.string w A ns.length ns) (hc : ns.length ≤ c) :
    Calls Try.prog 137 #[.pointer (some ⟨b, 0, none⟩), .pointer (some ⟨bx, 0, none⟩)] w fun e w' => e = .returned (.bool (isNm ns q)) ∧ Below w.heap.size w w' := by
  rcases ht with ht | ht | ht | ht
  · exact named_other ns hns hw hb 1 (.inl rfl) ht hbx hC hc
  · exact named_other ns hns hw hb 4 (.inr (.inl rfl)) ht hbx hC hc
  · exact named_elem ns hns hw hb ht hbx hC hc
  · exact named_other ns hns hw hb 2 (.inr (.inr rfl)) ht hbx hC hc
end Go.Proofs.Ytlallihdiffheaa.Hand
end
section
/- domutils.getFirstChildNode, getLastChildNode, getPrevTextNode, getNextTextNode by hand: they end, change nothing, and tell a node, or none; a text, those that look for one. -/
namespace Go.Proofs.Ytlallihdiffheaa.Dom
open Go.RowKit Go.Proofs.YtlallihdiffheaaW.PrintWords Go.Proofs.YtlallihdiffheaaW.PrintLast Go.Proofs.YtlallihdiffheaaW.PrintMore Go.Proofs.Ytlallihdiffheaa.GT Go.Proofs.Ytlallihdiffheaa.Hand
set_option linter.unusedVariables false
set_option linter.unusedSimpArgs false
set_option linter.unusedSectionVars false

def PtrAt (b : Nat) (p : Pay) (k : F Pay) (o : Option (Nat × List Int)) : Prop := ∀ t, o = some t → ∃ q ck, subF b p k t.2 = some (t.1, q, ck)
def WayO (e fwd : Bool) (b : Nat) (p : Pay) (k : F Pay) (o : Option (Nat × List Int)) (g : Nat) : Prop := ∀ t, o = some t → ∃ n, g = n + 1 ∧ Ends e fwd b p k t.2 n
theorem way_step {e fwd : Bool} {b : Nat} {p : Pay} {k : F Pay} {ds : List Int} {n : Nat} (h : Ends e fwd b p k ds n) {d : Nat} {dq : Pay} {dk : F Pay} (hs : subF b p k ds = some (d, dq, dk)) : ∃ g, g < n + 1 ∧ WayO e fwd b p k (nearK (some e) fwd e b p k ds dk) g := by
  have hn : nearO (some e) fwd e b p k ds = nearK (some e) fwd e b p k ds dk := by unfold nearO; rw [hs]
  cases h with
  | stop _ _ h =>
    rw [hn] at h
    exact ⟨0, by omega, fun t ht => by rw [h] at ht; cases ht⟩
  | go _ m t h h2 =>
    rw [hn] at h
    refine ⟨m + 1, by omega, fun t' ht => ?_⟩
    rw [h] at ht
    obtain rfl := Option.some.inj ht
    exact ⟨m, rfl, h2⟩
theorem way_start {e fwd : Bool} {b : Nat} {p : Pay} {k : F Pay} {o : Option (Nat × List Int)} {n : Nat} (h : EndsO e fwd b p k o n) : WayO e fwd b p k o (n + 1) := fun t ht => ⟨n, rfl, h t ht⟩
theorem neat_type {c : Nat} {q : Pay} {ck : F Pay} (h : Neat (.node c q ck .nil)) : q.type = 1 ∨ q.type = 4 ∨ q.type = 3 ∨ q.type = 2 := by
  rcases h.1 with h | h | h | h
  · exact .inl h.1
  · exact .inr (.inl h.1)
  · exact .inr (.inr (.inl h))
  · exact .inr (.inr (.inr h))
theorem ptr_near {H : NMap} {b : Nat} {p : Pay} {k : F Pay} (hs : Sits H none none none (.node b p k .nil)) (hn : Neat (.node b p k .nil)) (ch : Option Bool) (fwd e : Bool) {js : List Int} {c : Nat} {q : Pay} {ck : F Pay} (hsub : subF b p k js = some (c, q, ck)) : PtrAt b p k (nearK ch fwd e b p k js ck) :=
  fun t ht => near_sub hs hn (x := nodeOf p (erase k)) rfl ch fwd e hsub ht
theorem ptr_first {b : Nat} {p : Pay} {k : F Pay} {js : List Int} {c : Nat} {q : Pay} {ck : F Pay} (hsub : subF b p k js = some (c, q, ck)) : PtrAt b p k (((rowK false ck 0).head?).map (fun t => (t.1, js ++ [(t.2 : Int)]))) := by
  intro t ht
  cases ck with
  | nil => cases ht
  | node d dq dk r =>
    obtain rfl : (d, js ++ [(0 : Int)]) = t := by
      have h2 : some (d, js ++ [(0 : Int)]) = some t := by simpa [rowK] using ht
      exact Option.some.inj h2
    exact ⟨dq, dk, sub_step hsub (a := .nil) rfl⟩
theorem ptr_last {b : Nat} {p : Pay} {k : F Pay} {js : List Int} {c : Nat} {q : Pay} {ck : F Pay} (hsub : subF b p k js = some (c, q, ck)) : PtrAt b p k (((rowK false ck 0).getLast?).map (fun t => (t.1, js ++ [(t.2 : Int)]))) := by
  intro t ht
  rcases snoc_cases ck with rfl | ⟨a, d, dq, dk, rfl⟩
  · cases ht
  · obtain rfl : (d, js ++ [(a.len : Int)]) = t := by
      rw [rowK_app] at ht
      have h2 : some (d, js ++ [(a.len : Int)]) = some t := by simpa [rowK] using ht
      exact Option.some.inj h2
    exact ⟨dq, dk, sub_step hsub rfl⟩
theorem fst_first (js : List Int) (ck : F Pay) : (((rowK false ck 0).head?).map (fun t => (t.1, js ++ [(t.2 : Int)]))).map Prod.fst = ck.headOr none := by
  rw [Option.map_map]
  exact rowK_head ck 0
theorem fst_last (js : List Int) (ck : F Pay) : (((rowK false ck 0).getLast?).map (fun t => (t.1, js ++ [(t.2 : Int)]))).map Prod.fst = ck.lastOr none := by
  rw [Option.map_map]
  exact rowK_last ck 0
/-- The closure's answer at any node. -/
def MatchC (bx : Nat) (w : World) (b : Nat) (p : Pay) (k : F Pay) : Prop := ∀ w1, Below w.heap.size w w1 → ∀ (js : List Int) (c : Nat) (q : Pay) (ck : F Pay), subF b p k js = some (c, q, ck) → Calls Try.prog 137 #[.pointer (some ⟨c, 0, none⟩), .pointer (some ⟨bx, 0, none⟩)] w1 fun e w' => ∃ r, e = .returned (.bool r) ∧ Below w1.heap.size w1 w'
set_option maxRecDepth 100000 in
set_option maxHeartbeats 1600000 in
theorem firstChild_any {w : World} {H : NMap} {b : Nat} {p : Pay} {k : F Pay} (hw : Holds w H) (hs : Sits H none none none (.node b p k .nil)) (hn : Neat (.node b p k .nil)) {js : List Int} {c : Nat} {q : Pay} {ck : F Pay} (hsub : subF b p k js = some (c, q, ck)) {bx : Nat} (hm : MatchC bx w b p k) :
    Calls Try.prog 145 #[.pointer (some ⟨c, 0, none⟩), .func (.func 137) #[] #[.pointer (some ⟨bx, 0, none⟩)]] w fun e w' => ∃ o, e = .returned (ptrV o) ∧ Below w.heap.size w w' := by
  have hent : ∀ (a : Nat) (W : World), (callFunc 137 #[.pointer (some ⟨a, 0, none⟩), .pointer (some ⟨bx, 0, none⟩)]).run Try.prog W = .ok (.enter 137 #[.pointer (some ⟨a, 0, none⟩), .pointer (some ⟨bx, 0, none⟩)]) W :=
    fun a W => enters Try.func137 (by rfl) (by rfl) _ _
  obtain ⟨par, prev, next, hL, -, -, -⟩ := lies hs hn _ js c q ck rfl hsub
  have n1 := (hw.opened hL.here).2.1
  obtain ⟨N, hN⟩ := ends_first hsub
  have hP := ptr_first hsub
  have hF := fst_first js ck
  generalize ((rowK false ck 0).head?).map (fun t => (t.1, js ++ [(t.2 : Int)])) = o0 at hN hP hF
  rw [← hF] at n1
  obtain ⟨u, hu⟩ := ptrV_form (o0.map Prod.fst)
  have HU := Lib.hid hu
  rw [hu] at n1
  have HN := Lib.hid hN
  have HP := Lib.hid hP
  have HW := Lib.hid hw
  have HS := Lib.hid hs
  have HNE := Lib.hid hn
  have HM := Lib.hid hm
  clear hN hP hF hL hw hs hn hm hsub hu
  go_enter Try.func145, Try.ntmps145
  go_wp2
  go_loopg [5] (N + 1) (fun gk c0 wr => ∃ o, c0 = ptrV (o.map Prod.fst) ∧ PtrAt b p k o ∧ WayO false true b p k o gk ∧ Below w.heap.size w wr)
  case atStart => exact ⟨o0, HU.out.symm, HP.out, way_start HN.out, Below.refl _ _⟩
  case round =>
    obtain ⟨o, rfl, hP, hW, hb⟩ := hrel
    have HB := Lib.hid hb
    cases o with
    | none =>
      simp only [Option.map_none, show ptrV none = .pointer none from rfl]
      clear hb hP hW
      go_wp2
      go_ret
      exact ⟨none, rfl, HB.out⟩
    | some t =>
      obtain ⟨d, ds⟩ := t
      obtain ⟨dq, dk, hds⟩ := hP _ rfl
      obtain ⟨n, rfl, hE⟩ := hW _ rfl
      obtain ⟨dpar, dprev, dnext, hDL, hdn, -, -⟩ := lies HS.out HNE.out _ ds d dq dk rfl hds
      have hnm := nodeName_any (HW.out.below hb) hDL.here (neat_type hdn)
      have hnx := fun (w2 : World) (hb2 : Below w.heap.size w w2) => GetNextNeighborNode_any (HW.out.below hb2) HS.out HNE.out hds
      obtain ⟨g, hg, hway⟩ := way_step hE hds
      have hptr := ptr_near HS.out HNE.out (some false) true false hds
      generalize nearK (some false) true false b p k ds dk = o' at hnx hway hptr
      obtain ⟨u', hu'⟩ := ptrV_form (o'.map Prod.fst)
      have HU2 := Lib.hid hu'
      rw [hu'] at hnx
      have HNX := Lib.hid hnx
      have HWAY := Lib.hid hway
      have HPTR := Lib.hid hptr
      have HDS := Lib.hid hds
      simp only [Option.map_some, show ptrV (some d) = .pointer (some ⟨d, 0, none⟩) from rfl]
      generalize nameOf dq = nm at hnm
      have HNM := Lib.hid hnm
      clear hb hP hW hDL hdn hnm hnx hway hptr hds hu' hE
      cases hsp : (nm.toList == [115, 112, 97, 110]) with
      | true =>
        go_wp2_with (first
          | (go_at_call 105; refine HNM.out.mono ?_; rintro e w2 ⟨rfl, hb2⟩; have HB2 := Lib.hid hb2; clear hb2)
          | (go_at_call 109; refine (HNX.out w2 (below_then HB.out HB.out.size HB2.out)).mono ?_; rintro e w3 ⟨rfl, hb3⟩; have HB3 := Lib.hid hb3; clear hb3))
        go_roundg g
        case measure => omega
        case rel => exact ⟨o', HU2.out.symm, HPTR.out, HWAY.out, below_then (below_then HB.out HB.out.size HB2.out) (Nat.le_trans HB.out.size HB2.out.size) HB3.out⟩
      | false =>
        go_wp2_with (first
          | (go_at_call 105; refine HNM.out.mono ?_; rintro e w2 ⟨rfl, hb2⟩; have HB2 := Lib.hid hb2; clear hb2)
          | (go_at_call 137; refine (HM.out w2 (below_then HB.out HB.out.size HB2.out) ds d dq dk HDS.out).mono ?_; rintro e w3 ⟨r, rfl, hb3⟩; have HB3 := Lib.hid hb3; clear hb3; cases r))
        all_goals (
          go_ret
          first | exact ⟨some d, rfl, below_then (below_then HB.out HB.out.size HB2.out) (Nat.le_trans HB.out.size HB2.out.size) HB3.out⟩ | exact ⟨none, rfl, below_then (below_then HB.out HB.out.size HB2.out) (Nat.le_trans HB.out.size HB2.out.size) HB3.out⟩)
set_option maxRecDepth 100000 in
set_option maxHeartbeats 1600000 in
theorem lastChild_any {w : World} {H : NMap} {b : Nat} {p : Pay} {k : F Pay} (hw : Holds w H) (hs : Sits H none none none (.node b p k .nil)) (hn : Neat (.node b p k .nil)) {js : List Int} {c : Nat} {q : Pay} {ck : F Pay} (hsub : subF b p k js = some (c, q, ck)) {bx : Nat} (hm : MatchC bx w b p k) :
    Calls Try.prog 147 #[.pointer (some ⟨c, 0, none⟩), .func (.func 137) #[] #[.pointer (some ⟨bx, 0, none⟩)]] w fun e w' => ∃ o, e = .returned (ptrV o) ∧ Below w.heap.size w w' := by
  have hent : ∀ (a : Nat) (W : World), (callFunc 137 #[.pointer (some ⟨a, 0, none⟩), .pointer (some ⟨bx, 0, none⟩)]).run Try.prog W = .ok (.enter 137 #[.pointer (some ⟨a, 0, none⟩), .pointer (some ⟨bx, 0, none⟩)]) W :=
    fun a W => enters Try.func137 (by rfl) (by rfl) _ _
  obtain ⟨par, prev, next, hL, -, -, -⟩ := lies hs hn _ js c q ck rfl hsub
  have n1 := (hw.opened hL.here).2.2.1
  obtain ⟨N, hN⟩ := ends_last hsub
  have hP := ptr_last hsub
  have hF := fst_last js ck
  generalize ((rowK false ck 0).getLast?).map (fun t => (t.1, js ++ [(t.2 : Int)])) = o0 at hN hP hF
  rw [← hF] at n1
  obtain ⟨u, hu⟩ := ptrV_form (o0.map Prod.fst)
  have HU := Lib.hid hu
  rw [hu] at n1
  have HN := Lib.hid hN
  have HP := Lib.hid hP
  have HW := Lib.hid hw
  have HS := Lib.hid hs
  have HNE := Lib.hid hn
  have HM := Lib.hid hm
  clear hN hP hF hL hw hs hn hm hsub hu
  go_enter Try.func147, Try.ntmps147
  go_wp2
  go_loopg [5] (N + 1) (fun gk c0 wr => ∃ o, c0 = ptrV (o.map Prod.fst) ∧ PtrAt b p k o ∧ WayO false false b p k o gk ∧ Below w.heap.size w wr)
  case atStart => exact ⟨o0, HU.out.symm, HP.out, way_start HN.out, Below.refl _ _⟩
  case round =>
    obtain ⟨o, rfl, hP, hW, hb⟩ := hrel
    have HB := Lib.hid hb
    cases o with
    | none =>
      simp only [Option.map_none, show ptrV none = .pointer none from rfl]
      clear hb hP hW
      go_wp2
      go_ret
      exact ⟨none, rfl, HB.out⟩
    | some t =>
      obtain ⟨d, ds⟩ := t
      obtain ⟨dq, dk, hds⟩ := hP _ rfl
      obtain ⟨n, rfl, hE⟩ := hW _ rfl
      obtain ⟨dpar, dprev, dnext, hDL, hdn, -, -⟩ := lies HS.out HNE.out _ ds d dq dk rfl hds
      have hnm := nodeName_any (HW.out.below hb) hDL.here (neat_type hdn)
      have hnx := fun (w2 : World) (hb2 : Below w.heap.size w w2) => GetPrevNeighborNode_any (HW.out.below hb2) HS.out HNE.out hds
      obtain ⟨g, hg, hway⟩ := way_step hE hds
      have hptr := ptr_near HS.out HNE.out (some false) false false hds
      generalize nearK (some false) false false b p k ds dk = o' at hnx hway hptr
      obtain ⟨u', hu'⟩ := ptrV_form (o'.map Prod.fst)
      have HU2 := Lib.hid hu'
      rw [hu'] at hnx
      have HNX := Lib.hid hnx
      have HWAY := Lib.hid hway
      have HPTR := Lib.hid hptr
      have HDS := Lib.hid hds
      simp only [Option.map_some, show ptrV (some d) = .pointer (some ⟨d, 0, none⟩) from rfl]
      generalize nameOf dq = nm at hnm
      have HNM := Lib.hid hnm
      clear hb hP hW hDL hdn hnm hnx hway hptr hds hu' hE
      cases hsp : (nm.toList == [115, 112, 97, 110]) with
      | true =>
        go_wp2_with (first
          | (go_at_call 105; refine HNM.out.mono ?_; rintro e w2 ⟨rfl, hb2⟩; have HB2 := Lib.hid hb2; clear hb2)
          | (go_at_call 113; refine (HNX.out w2 (below_then HB.out HB.out.size HB2.out)).mono ?_; rintro e w3 ⟨rfl, hb3⟩; have HB3 := Lib.hid hb3; clear hb3))
        go_roundg g
        case measure => omega
        case rel => exact ⟨o', HU2.out.symm, HPTR.out, HWAY.out, below_then (below_then HB.out HB.out.size HB2.out) (Nat.le_trans HB.out.size HB2.out.size) HB3.out⟩
      | false =>
        go_wp2_with (first
          | (go_at_call 105; refine HNM.out.mono ?_; rintro e w2 ⟨rfl, hb2⟩; have HB2 := Lib.hid hb2; clear hb2)
          | (go_at_call 137; refine (HM.out w2 (below_then HB.out HB.out.size HB2.out) ds d dq dk HDS.out).mono ?_; rintro e w3 ⟨r, rfl, hb3⟩; have HB3 := Lib.hid hb3; clear hb3; cases r))
        all_goals (
          go_ret
          first | exact ⟨some d, rfl, below_then (below_then HB.out HB.out.size HB2.out) (Nat.le_trans HB.out.size HB2.out.size) HB3.out⟩ | exact ⟨none, rfl, below_then (below_then HB.out HB.out.size HB2.out) (Nat.le_trans HB.out.size HB2.out.size) HB3.out⟩)
set_option maxRecDepth 100000 in
set_option maxHeartbeats 1600000 in
theorem prevText_any {w : World} {H : NMap} {b : Nat} {p : Pay} {k : F Pay} (hw : Holds w H) (hs : Sits H none none none (.node b p k .nil)) (hn : Neat (.node b p k .nil)) {js : List Int} {c : Nat} {q : Pay} {ck : F Pay} (hsub : subF b p k js = some (c, q, ck)) :
    Calls Try.prog 146 #[.pointer (some ⟨c, 0, none⟩)] w fun e w' => ∃ o, e = .returned (ptrV o) ∧ (∀ d, o = some d → ∃ ds dq dk, subF b p k ds = some (d, dq, dk) ∧ dq.type = 1) ∧ Below w.heap.size w w' := by
  obtain ⟨N, hN⟩ := ends_follow false b p k _ js c q ck rfl hsub
  have hnear : nearK none false false b p k js ck = followK false false b p k js := rfl
  have hP := ptr_near hs hn none false false hsub
  have hcall := GetPrevNeighborNodeExcludingOwnChild_any hw hs hn hsub
  rw [hnear] at hP hcall
  generalize followK false false b p k js = o0 at hN hP hcall
  obtain ⟨u, hu⟩ := ptrV_form (o0.map Prod.fst)
  have HU := Lib.hid hu
  rw [hu] at hcall
  have HC := Lib.hid hcall
  have HN := Lib.hid hN
  have HP := Lib.hid hP
  have HW := Lib.hid hw
  have HS := Lib.hid hs
  have HNE := Lib.hid hn
  clear hN hP hw hs hn hsub hcall hnear hu
  go_enter Try.func146, Try.ntmps146
  go_wp2_with (go_at_call 115; refine HC.out.mono ?_; rintro e w1 ⟨rfl, hb1⟩; have HB1 := Lib.hid hb1; clear hb1)
  go_loopg [3] (N + 1) (fun gk c0 wr => ∃ o, c0 = ptrV (o.map Prod.fst) ∧ PtrAt b p k o ∧ WayO false false b p k o gk ∧ Below w.heap.size w wr)
  case atStart => exact ⟨o0, HU.out.symm, HP.out, way_start HN.out, HB1.out⟩
  case round =>
    obtain ⟨o, rfl, hP, hW, hb⟩ := hrel
    have HB := Lib.hid hb
    cases o with
    | none =>
      simp only [Option.map_none, show ptrV none = .pointer none from rfl]
      clear hb hP hW
      go_wp2
      go_ret
      exact ⟨none, rfl, (fun d hd => by cases hd), HB.out⟩
    | some t =>
      obtain ⟨d, ds⟩ := t
      obtain ⟨dq, dk, hds⟩ := hP _ rfl
      obtain ⟨n, rfl, hE⟩ := hW _ rfl
      obtain ⟨dpar, dprev, dnext, hDL, hdn, -, -⟩ := lies HS.out HNE.out _ ds d dq dk rfl hds
      have hnm := nodeName_any (HW.out.below hb) hDL.here (neat_type hdn)
      have hnx := fun (w2 : World) (hb2 : Below w.heap.size w w2) => GetPrevNeighborNode_any (HW.out.below hb2) HS.out HNE.out hds
      obtain ⟨g, hg, hway⟩ := way_step hE hds
      have hptr := ptr_near HS.out HNE.out (some false) false false hds
      generalize nearK (some false) false false b p k ds dk = o' at hnx hway hptr
      obtain ⟨u', hu'⟩ := ptrV_form (o'.map Prod.fst)
      have HU2 := Lib.hid hu'
      rw [hu'] at hnx
      have HNX := Lib.hid hnx
      have HWAY := Lib.hid hway
      have HPTR := Lib.hid hptr
      have HDS := Lib.hid hds
      have n5 := (HW.out.below hb).opened hDL.here |>.2.2.2.2.2.1
      by_cases ht1 : dq.type = 1
      · rw [ht1] at n5
        simp only [Option.map_some, show ptrV (some d) = .pointer (some ⟨d, 0, none⟩) from rfl]
        have HT1 := Lib.hid ht1
        clear hb hP hW hDL hdn hnm hnx hway hptr hds hu' hE ht1
        go_wp2
        go_ret
        exact ⟨some d, rfl, (fun d' hd' => by obtain rfl := Option.some.inj hd'; first | exact ⟨ds, dq, dk, HDS.out, HT1.out⟩ | exact ⟨ds, dq, ⟨dk, HDS.out⟩, HT1.out⟩), HB.out⟩
      have ht5 : ((dq.type : Int) == 1) = false := by simpa using ht1
      have ht6 : decide ((dq.type : Int) = 1) = false := decide_eq_false ht1
      generalize dq.type = ty at n5 ht5 ht6
      clear ht1
      simp only [Option.map_some, show ptrV (some d) = .pointer (some ⟨d, 0, none⟩) from rfl]
      generalize nameOf dq = nm at hnm
      have HNM := Lib.hid hnm
      clear hb hP hW hDL hdn hnm hnx hway hptr hds hu' hE
      cases hsp : (nm.toList == [115, 112, 97, 110]) with
      | true =>
        go_wp2_with (first
          | (go_at_call 105; refine HNM.out.mono ?_; rintro e w2 ⟨rfl, hb2⟩; have HB2 := Lib.hid hb2; clear hb2)
          | (go_at_call 113; refine (HNX.out w2 (below_then HB.out HB.out.size HB2.out)).mono ?_; rintro e w3 ⟨rfl, hb3⟩; have HB3 := Lib.hid hb3; clear hb3))
        go_roundg g
        case measure => omega
        case rel => exact ⟨o', HU2.out.symm, HPTR.out, HWAY.out, below_then (below_then HB.out HB.out.size HB2.out) (Nat.le_trans HB.out.size HB2.out.size) HB3.out⟩
      | false =>
        go_wp2_with (first
          | (go_at_call 105; refine HNM.out.mono ?_; rintro e w2 ⟨rfl, hb2⟩; have HB2 := Lib.hid hb2; clear hb2))
        go_ret
        exact ⟨none, rfl, (fun d hd => by cases hd), below_then HB.out HB.out.size HB2.out⟩
set_option maxRecDepth 100000 in
set_option maxHeartbeats 1600000 in
theorem nextText_any {w : World} {H : NMap} {b : Nat} {p : Pay} {k : F Pay} (hw : Holds w H) (hs : Sits H none none none (.node b p k .nil)) (hn : Neat (.node b p k .nil)) {js : List Int} {c : Nat} {q : Pay} {ck : F Pay} (hsub : subF b p k js = some (c, q, ck)) :
    Calls Try.prog 148 #[.pointer (some ⟨c, 0, none⟩)] w fun e w' => ∃ o, e = .returned (ptrV o) ∧ (∀ d, o = some d → ∃ ds dq dk, subF b p k ds = some (d, dq, dk) ∧ dq.type = 1) ∧ Below w.heap.size w w' := by
  obtain ⟨N, hN⟩ := ends_follow true b p k _ js c q ck rfl hsub
  have hnear : nearK none true false b p k js ck = followK true false b p k js := rfl
  have hP := ptr_near hs hn none true false hsub
  have hcall := GetNextNeighborNodeExcludingOwnChild_any hw hs hn hsub
  rw [hnear] at hP hcall
  generalize followK true false b p k js = o0 at hN hP hcall
  obtain ⟨u, hu⟩ := ptrV_form (o0.map Prod.fst)
  have HU := Lib.hid hu
  rw [hu] at hcall
  have HC := Lib.hid hcall
  have HN := Lib.hid hN
  have HP := Lib.hid hP
  have HW := Lib.hid hw
  have HS := Lib.hid hs
  have HNE := Lib.hid hn
  clear hN hP hw hs hn hsub hcall hnear hu
  go_enter Try.func148, Try.ntmps148
  go_wp2_with (go_at_call 111; refine HC.out.mono ?_; rintro e w1 ⟨rfl, hb1⟩; have HB1 := Lib.hid hb1; clear hb1)
  go_loopg [3] (N + 1) (fun gk c0 wr => ∃ o, c0 = ptrV (o.map Prod.fst) ∧ PtrAt b p k o ∧ WayO false true b p k o gk ∧ Below w.heap.size w wr)
  case atStart => exact ⟨o0, HU.out.symm, HP.out, way_start HN.out, HB1.out⟩
  case round =>
    obtain ⟨o, rfl, hP, hW, hb⟩ := hrel
    have HB := Lib.hid hb
    cases o with
    | none =>
      simp only [Option.map_none, show ptrV none = .pointer none from rfl]
      clear hb hP hW
      go_wp2
      go_ret
      exact ⟨none, rfl, (fun d hd => by cases hd), HB.out⟩
    | some t =>
      obtain ⟨d, ds⟩ := t
      obtain ⟨dq, dk, hds⟩ := hP _ rfl
      obtain ⟨n, rfl, hE⟩ := hW _ rfl
      obtain ⟨dpar, dprev, dnext, hDL, hdn, -, -⟩ := lies HS.out HNE.out _ ds d dq dk rfl hds
      have hnm := nodeName_any (HW.out.below hb) hDL.here (neat_type hdn)
      have hnx := fun (w2 : World) (hb2 : Below w.heap.size w w2) => GetNextNeighborNode_any (HW.out.below hb2) HS.out HNE.out hds
      obtain ⟨g, hg, hway⟩ := way_step hE hds
      have hptr := ptr_near HS.out HNE.out (some false) true false hds
      generalize nearK (some false) true false b p k ds dk = o' at hnx hway hptr
      obtain ⟨u', hu'⟩ := ptrV_form (o'.map Prod.fst)
      have HU2 := Lib.hid hu'
      rw [hu'] at hnx
      have HNX := Lib.hid hnx
      have HWAY := Lib.hid hway
      have HPTR := Lib.hid hptr
      have HDS := Lib.hid hds
      have n5 := (HW.out.below hb).opened hDL.here |>.2.2.2.2.2.1
      by_cases ht1 : dq.type = 1
      · rw [ht1] at n5
        simp only [Option.map_some, show ptrV (some d) = .pointer (some ⟨d, 0, none⟩) from rfl]
        have HT1 := Lib.hid ht1
        clear hb hP hW hDL hdn hnm hnx hway hptr hds hu' hE ht1
        go_wp2
        go_ret
        exact ⟨some d, rfl, (fun d' hd' => by obtain rfl := Option.some.inj hd'; first | exact ⟨ds, dq, dk, HDS.out, HT1.out⟩ | exact ⟨ds, dq, ⟨dk, HDS.out⟩, HT1.out⟩), HB.out⟩
      have ht5 : ((dq.type : Int) == 1) = false := by simpa using ht1
      have ht6 : decide ((dq.type : Int) = 1) = false := decide_eq_false ht1
      generalize dq.type = ty at n5 ht5 ht6
      clear ht1
      simp only [Option.map_some, show ptrV (some d) = .pointer (some ⟨d, 0, none⟩) from rfl]
      generalize nameOf dq = nm at hnm
      have HNM := Lib.hid hnm
      clear hb hP hW hDL hdn hnm hnx hway hptr hds hu' hE
      cases hsp : (nm.toList == [115, 112, 97, 110]) with
      | true =>
        go_wp2_with (first
          | (go_at_call 105; refine HNM.out.mono ?_; rintro e w2 ⟨rfl, hb2⟩; have HB2 := Lib.hid hb2; clear hb2)
          | (go_at_call 109; refine (HNX.out w2 (below_then HB.out HB.out.size HB2.out)).mono ?_; rintro e w3 ⟨rfl, hb3⟩; have HB3 := Lib.hid hb3; clear hb3))
        go_roundg g
        case measure => omega
        case rel => exact ⟨o', HU2.out.symm, HPTR.out, HWAY.out, below_then (below_then HB.out HB.out.size HB2.out) (Nat.le_trans HB.out.size HB2.out.size) HB3.out⟩
      | false =>
        go_wp2_with (first
          | (go_at_call 105; refine HNM.out.mono ?_; rintro e w2 ⟨rfl, hb2⟩; have HB2 := Lib.hid hb2; clear hb2))
        go_ret
        exact ⟨none, rfl, (fun d hd => by cases hd), below_then HB.out HB.out.size HB2.out⟩
end Go.Proofs.Ytlallihdiffheaa.Dom
end
