import Derived.Test.YtlallihdiffheaaDoorFakeSpan
import Derived.Test.YtlallihdiffheaaDoorInline
import Derived.Test.YtlallihdiffheaaDoorFine
import Derived.Deep.LoopGhost
import Derived.Test.YtlallihdiffheaaDoorSwp
import Derived.Test.YtlallihdiffheaaDoorTable
import Derived.Test.YtlallihdiffheaaDoorTrimShelf
import Derived.Lib.SliceRun
import Derived.Deep.CutRange
section
/- dom.AllChildNodes by hand (out of the texts of the neighbors). -/
namespace Go.Proofs.YtlallihdiffheaaDoor.Dom
open Go.RowKit Go.Proofs.YtlallihdiffheaaDoorW.PrintWords Go.Proofs.YtlallihdiffheaaDoorW.PrintLast Go.Proofs.YtlallihdiffheaaDoorW.PrintMore Go.Proofs.YtlallihdiffheaaDoor.GT Go.Proofs.YtlallihdiffheaaDoor.Hand
set_option linter.unusedVariables false
set_option linter.unusedSimpArgs false

def ptrs (l : List Nat) : List Value := l.map fun b => .pointer (some ⟨b, 0, none⟩)
theorem infoNodePtr : (Tryd.prog.info? 49).map (fun i => (i.zero, i.size, i.bytes)) = some (some (.pointer none), 1, 8) := by kernel_rfl
/-- The children that count, each with its place; from place i on. -/
def rowK (e : Bool) : F Pay → Nat → List (Nat × Nat)
  | .nil, _ => []
  | .node b p k r, i => if e = false ∨ p.type = 3 then (b, i) :: rowK e r (i + 1) else rowK e r (i + 1)
theorem rowK_app (e : Bool) : ∀ (a g : F Pay) (i : Nat), rowK e (a.app g) i = rowK e a i ++ rowK e g (i + a.len)
  | .nil, g, i => rfl
  | .node b p k r, g, i => by
    simp only [F.app, rowK, F.len]
    rw [rowK_app e r g (i + 1), show i + 1 + r.len = i + (r.len + 1) by omega]
    split <;> simp
theorem rowK_len (e : Bool) : ∀ (a : F Pay) (i : Nat), (rowK e a i).length ≤ a.len
  | .nil, i => Nat.le_refl _
  | .node b p k r, i => by
    have := rowK_len e r (i + 1)
    simp only [rowK, F.len]
    split
    · simp only [List.length_cons]; omega
    · omega
/-- Each of them stands at its place. -/
theorem rowK_at (e : Bool) : ∀ (a : F Pay) (i : Nat) (t : Nat × Nat), t ∈ rowK e a i → ∃ q ck r, i ≤ t.2 ∧ a.dropF (t.2 - i) = .node t.1 q ck r
  | .nil, i, t, h => by cases h
  | .node b p k r, i, t, h => by
    have tail : t ∈ rowK e r (i + 1) → ∃ q ck r', i ≤ t.2 ∧ (F.node b p k r).dropF (t.2 - i) = .node t.1 q ck r' := by
      intro h
      obtain ⟨q, ck, r', h1, h2⟩ := rowK_at e r (i + 1) t h
      refine ⟨q, ck, r', by omega, ?_⟩
      rw [show t.2 - i = (t.2 - (i + 1)) + 1 by omega]
      exact h2
    simp only [rowK] at h
    split at h
    · rcases List.mem_cons.1 h with h | h
      · subst h
        exact ⟨p, k, r, Nat.le_refl _, by simp [F.dropF]⟩
      · exact tail h
    · exact tail h
set_option maxRecDepth 100000 in
set_option maxHeartbeats 1600000 in
theorem childNodes_any {w : World} {H : NMap} (hw : Holds w H) {c : Nat} {par prev next : Option Nat} {q : Pay} {ck : F Pay} (hc : H c = some ⟨par, ck.headOr none, ck.lastOr none, prev, next, q⟩) (hk : Sits H (some c) none none ck) (hl : ck.len ≤ 1000000) :
    Calls Tryd.prog 67 #[.pointer (some ⟨c, 0, none⟩)] w fun e w' => ∃ A cc, e = .returned (.slice A (rowK false ck 0).length cc) ∧ w'.ownsRow w.heap.size 49 1 (.slice A (rowK false ck 0).length cc) (rowK false ck 0).length (ptrs ((rowK false ck 0).map Prod.fst)) ∧ Below w.heap.size w w' := by
  have h1 := (hw.opened hc).2.1
  obtain ⟨u, hu⟩ := ptrV_form (ck.headOr none)
  rw [hu] at h1
  have HU := Lib.hid hu
  have HW := Lib.hid hw
  have HK := Lib.hid hk
  clear hw hc hk hu
  go_enter Tryd.func67, Tryd.ntmps67
  go_wp2
  go_loopg [2, 3] ck.len (fun gk o0 c0 wr => ∃ (k0 rest : F Pay) (v : Value), o0 = v ∧ c0 = ptrV (rest.headOr none) ∧ gk = rest.len ∧ ck = k0.app rest ∧ wr.ownsRow w.heap.size 49 1 v (rowK false k0 0).length (ptrs ((rowK false k0 0).map Prod.fst)) ∧ Below w.heap.size w wr)
  case atStart => exact ⟨.nil, ck, .slice none 0 0, rfl, HU.out.symm, rfl, rfl, own_nil _ _ _ _, Below.refl _ _⟩
  case round =>
    obtain ⟨k0, rest, v, rfl, rfl, rfl, hkk, hown, hb⟩ := hrel
    obtain ⟨Av, cv, rfl⟩ := own_slice hown
    rcases headOr_cases rest with hg | ⟨d, dq, dk, r, hg⟩
    · subst hg
      simp only [show ptrV ((F.nil : F Pay).headOr none) = .pointer none from rfl]
      rw [F.app_nil] at hkk
      subst hkk
      have HO := Lib.hid hown
      have HB := Lib.hid hb
      clear hown hb
      go_wp2
      go_ret
      exact ⟨Av, cv, rfl, HO.out, HB.out⟩
    · subst hg
      simp only [show ptrV ((F.node d dq dk r).headOr none) = .pointer (some ⟨d, 0, none⟩) from rfl]
      have hss := HK.out
      rw [hkk] at hss
      obtain ⟨-, hd, -, -⟩ := (sits_app H k0 _ _ _ _).1 hss
      have hdl := HW.out.lt hd
      have ho := HW.out.opened hd
      have hnext := ho.2.2.2.2.1
      have htype := ho.2.2.2.2.2.1
      obtain ⟨u4, hu4⟩ := ptrV_form (r.headOr none)
      rw [hu4] at hnext
      have c4 := (hb.cell (p := ⟨d, 4, none⟩) hdl).trans hnext
      have hlen : (rowK false k0 0).length ≤ 1000000 := by
        have h1 := rowK_len false k0 0
        have h2 := congrArg F.len hkk
        rw [F.len_app] at h2
        omega
      have happ := rowK_app false k0 (.node d dq dk .nil) 0
      have HO := Lib.hid hown
      have HB := Lib.hid hb
      have HU4 := Lib.hid hu4
      have HKK := Lib.hid hkk
      have HAPP := Lib.hid happ
      have HNX := Lib.hid hnext
      clear hss hd ho hnext htype hu4 hown hb hkk happ
      go_wp2_with (at_builtin; refine wpList_append_one rfl w.heap.size (.tmp 14) (.tmp 16) 85 49 _ 1 8 rfl Tryd.underlying85 infoNodePtr rfl (.slice Av (rowK false k0 0).length cv) (rowK false k0 0).length _ [.pointer (some ⟨d, 0, none⟩)] rfl rfl rfl (by simp [Value.oneCell']) HO.out HB.out.size (by omega) (by omega) ?_; intro v1 w4 hown4 hg4 hv4; have hb4 := HB.out.grown hg4 HB.out.size (own_base HO.out); have c5 := (hb4.cell (p := ⟨d, 4, none⟩) hdl).trans HNX.out; have HO4 := Lib.hid hown4; have HB4 := Lib.hid hb4; clear hown4 hg4 hv4 hb4)
      go_roundg r.len
      case measure => simp [F.len]
      case rel =>
        refine ⟨k0.app (.node d dq dk .nil), r, v1, rfl, HU4.out.symm, rfl, by rw [F.app_assoc]; exact HKK.out, ?_, HB4.out⟩
        rw [HAPP.out]
        have h := HO4.out
        rw [show rowK false (.node d dq dk .nil) (0 + k0.len) = [(d, 0 + k0.len)] from by rw [rowK, if_pos (.inl rfl)]; rfl]
        rw [List.length_append, List.map_append]
        simpa [ptrs] using h
end Go.Proofs.YtlallihdiffheaaDoor.Dom
end
section
/- domutils.isEmptyText, slices.IndexFunc and slices.DeleteFunc at []*html.Node, asked by it, by hand: whatever it says, what is left are nodes of the row. -/
namespace Go.Proofs.YtlallihdiffheaaDoor.Hand
open Go.RowKit Go.Proofs.YtlallihdiffheaaDoorW.PrintWords Go.Proofs.YtlallihdiffheaaDoorW.PrintLast Go.Proofs.YtlallihdiffheaaDoorW.PrintMore Go.Proofs.YtlallihdiffheaaDoor.GT
set_option linter.unusedVariables false
set_option linter.unusedSimpArgs false

def TabB (w : World) : Prop := Lib.TabIs Tryd.prog w "strings.asciiSpace" .u8 Lib.asciiSpaceTab
theorem tabB_below {w w' : World} (h : TabB w) (hb : Below w.heap.size w w') : TabB w' := tab_below h hb
theorem trim_any {s : ByteArray} (h : s.size ≤ 300 ∧ asciiS s = true) (w : World) (hT : TabB w) : Calls Tryd.prog 55 #[.string s] w fun e w' => (∃ r : ByteArray, e = .returned (.string r)) ∧ Below w.heap.size w w' := by
  have h2 := h.2
  unfold asciiS at h2
  rw [List.all_eq_true] at h2
  refine (strings_TrimSpace s w (by omega) (fun j b hj => of_decide_eq_true (h2 b (List.mem_of_getElem? hj))) hT).mono ?_
  rintro r w' ⟨h1, rfl⟩
  exact ⟨⟨_, h1⟩, ⟨rfl, rfl, rfl, by rw [Lib.bytesWorld_size]; omega, fun j hj => Lib.bytesWorld_at_old w _ s j hj⟩⟩
set_option maxRecDepth 100000 in
set_option maxHeartbeats 1600000 in
theorem emptyText_any {w : World} {H : NMap} (hw : Holds w H) {b : Nat} {par f l v x : Option Nat} {q : Pay} (hb : H b = some ⟨par, f, l, v, x, q⟩) (hq : q.type = 1 → q.data.size ≤ 300 ∧ asciiS q.data = true) (hT : TabB w) :
    Calls Tryd.prog 74 #[.pointer (some ⟨b, 0, none⟩)] w fun e w' => (∃ r, e = .returned (.bool r)) ∧ Below w.heap.size w w' := by
  obtain ⟨n0, n1, n2, n3, n4, n5, n6, n7, n9⟩ := hw.opened hb
  by_cases ht : q.type = 1
  · have htr := trim_any (hq ht) w hT
    rw [ht] at n5
    have HTR := Lib.hid htr
    clear htr hq hT n0 n1 n2 n3 n4 n6 n9 hb hw ht
    go_enter Tryd.func74, Tryd.ntmps74
    go_wp2_with (go_at_call 55; refine HTR.out.mono ?_; rintro e w1 ⟨⟨r, rfl⟩, hb1⟩; have HB1 := Lib.hid hb1; clear hb1)
    go_ret
    exact ⟨⟨_, rfl⟩, HB1.out⟩
  · have hd : decide (q.type = 1) = false := decide_eq_false ht
    clear hq hT n0 n1 n2 n3 n4 n6 n7 n9 hb hw
    go_enter Tryd.func74, Tryd.ntmps74
    go_wp2
    go_ret
    exact ⟨⟨_, rfl⟩, Below.refl _ _⟩
/-- A row of pointers to some nodes. -/
def RowP (w : World) (g n : Nat) (S : Nat → Prop) : Prop := ∃ cur : Array Value, w.heap[g]? = some (.cells cur 49 (0, 0)) ∧ n ≤ cur.size ∧ ∀ t, t < n → ∃ c, S c ∧ cur[t]? = some (.pointer (some ⟨c, 0, none⟩))
theorem RowP.lt {w : World} {g n : Nat} {S : Nat → Prop} (h : RowP w g n S) : g < w.heap.size := by
  obtain ⟨cur, h1, _⟩ := h
  exact (Array.getElem?_eq_some_iff.1 h1).1
theorem RowP.at {w : World} {g n : Nat} {S : Nat → Prop} (h : RowP w g n S) (t : Nat) (ht : t < n) : ∃ c, S c ∧ w.cell? ⟨g, t, none⟩ = some (.pointer (some ⟨c, 0, none⟩)) ∧ w.frozen? ⟨g, t, none⟩ = false := by
  obtain ⟨cur, h1, h2, h3⟩ := h
  obtain ⟨c, hc, hx⟩ := h3 t ht
  refine ⟨c, hc, ?_, ?_⟩
  · simp [World.cell?, h1, hx]
  · simp [World.frozen?, h1]
theorem RowP.below {w w' : World} {g n : Nat} {S : Nat → Prop} (h : RowP w g n S) (hb : Below w.heap.size w w') : RowP w' g n S := by
  have hl := h.lt
  obtain ⟨cur, h1, h2⟩ := h
  exact ⟨cur, (hb.block g hl).trans h1, h2⟩
theorem RowP.mono {w : World} {g n m : Nat} {S : Nat → Prop} (h : RowP w g n S) (hm : m ≤ n) : RowP w g m S := by
  obtain ⟨cur, h1, h2, h3⟩ := h
  exact ⟨cur, h1, by omega, fun t ht => h3 t (by omega)⟩
theorem RowP.set {w : World} {g n : Nat} {S : Nat → Prop} (h : RowP w g n S) (i c : Nat) (hc : S c) : RowP (w.setCell ⟨g, i, none⟩ (.pointer (some ⟨c, 0, none⟩))) g n S := by
  obtain ⟨cur, h1, h2, h3⟩ := h
  refine ⟨_, Lib.heap_setCell_same h1 _, by rw [Array.size_setIfInBounds]; exact h2, fun t ht => ?_⟩
  by_cases e : i = t
  · subst e
    exact ⟨c, hc, by rw [Array.getElem?_setIfInBounds_self, if_pos (by omega)]⟩
  · rw [Array.getElem?_setIfInBounds_ne e]
    exact h3 t ht
theorem grown_same {a b c : World} {g : Nat} (h : a.grownBy b (some g)) (k : b.grownBy c (some g)) : a.grownBy c (some g) :=
  ⟨k.os.trans h.os, k.tape.trans h.tape, k.output.trans h.output, Nat.le_trans h.size k.size, fun i hi hn => (k.block i (Nat.lt_of_lt_of_le hi h.size) hn).trans (h.block i hi hn)⟩
theorem grown_cell (W : World) (g i : Nat) (v : Value) : W.grownBy (W.setCell ⟨g, i, none⟩ v) (some g) :=
  ⟨rfl, rfl, rfl, by simp, fun k _ hk => Below.heap_setCell _ _ _ k (fun e => hk (by rw [e]))⟩
theorem grown_of_below {a b : World} {g : Nat} (h : Below a.heap.size a b) : a.grownBy b (some g) := ⟨h.os, h.tape, h.output, h.size, fun i hi _ => h.block i hi⟩
set_option maxRecDepth 100000 in
set_option maxHeartbeats 1600000 in
theorem indexFunc_any {w : World} {A : Option Addr} {n cc : Nat} {S : Nat → Prop} (hr : n = 0 ∨ ∃ g, A = some ⟨g, 0, none⟩ ∧ RowP w g n S) (hn : n ≤ 1000000)
    (hP : ∀ w1, Below w.heap.size w w1 → ∀ c, S c → Calls Tryd.prog 74 #[.pointer (some ⟨c, 0, none⟩)] w1 fun e w' => (∃ r, e = .returned (.bool r)) ∧ Below w1.heap.size w1 w') :
    Calls Tryd.prog 90 #[.slice A n cc, .func (.func 74) #[] #[]] w fun e w' => ∃ z : Int, e = .returned (.int .i64 z) ∧ (z = -1 ∨ ∃ j : Nat, j < n ∧ z = (j : Int)) ∧ Below w.heap.size w w' := by
  have hent : ∀ (a : Nat) (W : World), (callFunc 74 #[.pointer (some ⟨a, 0, none⟩)]).run Tryd.prog W = .ok (.enter 74 #[.pointer (some ⟨a, 0, none⟩)]) W :=
    fun a W => enters Tryd.func74 (by rfl) (by rfl) _ _
  have HR := Lib.hid hr
  have HP := Lib.hid hP
  clear hr hP
  go_enter Tryd.func90, Tryd.ntmps90
  go_wp2
  go_loopg [8] n (fun gk i0 wr => ∃ j : Nat, i0 = .int .i64 (j : Int) ∧ gk = n - j ∧ j ≤ n ∧ Below w.heap.size w wr)
  case atStart => exact ⟨0, rfl, rfl, Nat.zero_le _, Below.refl _ _⟩
  case round =>
    obtain ⟨j, rfl, rfl, hj, hbw⟩ := hrel
    by_cases hlt : j < n
    · have h1 : (0 : Int) ≤ (j : Int) := by omega
      have h2 : (j : Int) < (n : Int) := by omega
      have hd : decide ((j : Int) < (n : Int)) = true := decide_eq_true h2
      obtain ⟨g, rfl, hrow⟩ : ∃ g, A = some ⟨g, 0, none⟩ ∧ RowP w g n S := by
        rcases HR.out with h | h
        · omega
        · exact h
      obtain ⟨c, hc, hx, -⟩ := (hrow.below hbw).at j hlt
      have HC := Lib.hid hc
      have HBW := Lib.hid hbw
      clear hrow hc hbw
      go_wp2_with (go_at_call 74; refine (HP.out wr HBW.out c HC.out).mono ?_; rintro e w1 ⟨⟨r, rfl⟩, hb1⟩; have HB1 := Lib.hid hb1; clear hb1)
      · go_ret
        exact ⟨_, rfl, .inr ⟨j, hlt, rfl⟩, below_then HBW.out HBW.out.size HB1.out⟩
      · go_roundg (n - (j + 1))
        case measure => omega
        case rel => exact ⟨j + 1, by first | (rw [show wrap64 ((j : Int) + 1) = ((j + 1 : Nat) : Int) by unfold wrap64; omega]) | simp, rfl, by omega, below_then HBW.out HBW.out.size HB1.out⟩
    · have hd : decide ((j : Int) < (n : Int)) = false := decide_eq_false (by omega)
      have HBW := Lib.hid hbw
      clear hbw
      go_wp2
      go_ret
      exact ⟨_, rfl, .inl rfl, HBW.out⟩
theorem infoPtr : (Tryd.prog.info? 49).map (fun i => (i.zero, i.size, i.bytes)) = some (some (.pointer none), 1, 8) := by kernel_rfl
theorem zeroPtr (w : World) : (zeroValue 49).run Tryd.prog w = .ok (.pointer none) w := by
  have h : Tryd.t49.zero = some (.pointer none) := by kernel_rfl
  simp [zeroValue, h]
theorem RowP.far {w : World} {g n : Nat} {S : Nat → Prop} (h : RowP w g n S) (o : Nat) (v : Value) (ho : n ≤ o) : RowP (w.setCell ⟨g, o, none⟩ v) g n S := by
  obtain ⟨cur, h1, h2, h3⟩ := h
  refine ⟨_, Lib.heap_setCell_same h1 _, by rw [Array.size_setIfInBounds]; exact h2, fun t ht => ?_⟩
  rw [Array.getElem?_setIfInBounds_ne (by omega)]
  exact h3 t ht
theorem RowP.cells {g n : Nat} {S : Nat → Prop} : ∀ (vs : List Value) (o : Nat) (w : World), RowP w g n S → n ≤ o → RowP (w.setCells g o vs) g n S
  | [], o, w, h, ho => h
  | v :: vs, o, w, h, ho => by
    rw [World.setCells]
    exact RowP.cells vs (o + 1) _ (h.far o v ho) (by omega)
theorem grown_cells (g : Nat) : ∀ (vs : List Value) (o : Nat) (w : World), w.grownBy (w.setCells g o vs) (some g)
  | [], o, w => grown_of_below (Below.refl _ _)
  | v :: vs, o, w => by
    rw [World.setCells]
    exact grown_same (grown_cell w g o v) (grown_cells g vs (o + 1) _)
theorem below_grown {base g : Nat} {a b c : World} (h : Below base a b) (k : b.grownBy c (some g)) (hg : base ≤ g) (hb : base ≤ b.heap.size) : Below base a c :=
  ⟨k.os.trans h.os, k.tape.trans h.tape, k.output.trans h.output, Nat.le_trans h.size k.size, fun i hi => (k.block i (by omega) (fun e => by have := Option.some.inj e; omega)).trans (h.block i hi)⟩
set_option maxRecDepth 100000 in
set_option maxHeartbeats 3200000 in
theorem deleteFunc_any {w : World} {A : Option Addr} {n cc base : Nat} {S : Nat → Prop} (hr : n = 0 ∨ ∃ g, A = some ⟨g, 0, none⟩ ∧ base ≤ g ∧ n ≤ cc ∧ RowP w g n S) (hn : n ≤ 1000000) (hbase : base ≤ w.heap.size)
    (hP : ∀ w1, Below base w w1 → ∀ c, S c → Calls Tryd.prog 74 #[.pointer (some ⟨c, 0, none⟩)] w1 fun e w' => (∃ r, e = .returned (.bool r)) ∧ Below w1.heap.size w1 w') :
    Calls Tryd.prog 73 #[.slice A n cc, .func (.func 74) #[] #[]] w fun e w' => ∃ A' m cc', e = .returned (.slice A' m cc') ∧ m ≤ n ∧ Below base w w' ∧ (m = 0 ∨ ∃ g, A' = some ⟨g, 0, none⟩ ∧ m ≤ cc' ∧ RowP w' g m S) := by
  have hent : ∀ (a : Nat) (W : World), (callFunc 74 #[.pointer (some ⟨a, 0, none⟩)]).run Tryd.prog W = .ok (.enter 74 #[.pointer (some ⟨a, 0, none⟩)]) W :=
    fun a W => enters Tryd.func74 (by rfl) (by rfl) _ _
  have hidx := indexFunc_any (w := w) (A := A) (n := n) (cc := cc) (S := S) (hr.imp id (fun ⟨g, h1, h2, h3, h4⟩ => ⟨g, h1, h4⟩)) hn (fun w1 h1 c hc => hP w1 (h1.mono hbase) c hc)
  have HIDX := Lib.hid hidx
  have HR := Lib.hid hr
  have HP := Lib.hid hP
  clear hidx hr hP
  go_enter Tryd.func73, Tryd.ntmps73
  go_upto_if 12 with (go_at_call 90; refine HIDX.out.mono ?_; rintro e w1 ⟨z, rfl, hres, hb1⟩; have HB1 := Lib.hid hb1; have HRES := Lib.hid hres; clear hb1 hres)
  rcases HRES.out with rfl | ⟨r, hrn, rfl⟩
  · go_wp2
    go_ret
    refine ⟨A, n, cc, rfl, Nat.le_refl _, HB1.out.mono hbase, HR.out.imp id (fun ⟨g, h1, h2, h3, h4⟩ => ⟨g, h1, h3, h4.below HB1.out⟩)⟩
  · obtain ⟨g, rfl, hg1, hg2, hrow⟩ : ∃ g, A = some ⟨g, 0, none⟩ ∧ base ≤ g ∧ n ≤ cc ∧ RowP w g n S := by
      rcases HR.out with h | h
      · omega
      · exact h
    have hrow1 := hrow.below HB1.out
    have HROW := Lib.hid hrow1
    clear hrow hrow1
    have hne : decide ((r : Int) = -1) = false := decide_eq_false (by omega)
    have hw1 : wrap64 ((r : Int) + 1) = ((r + 1 : Nat) : Int) := by unfold wrap64; omega
    have HW1 := Lib.hid hw1
    clear hw1
    go_wp2
    go_loopg [5, 6] (n - (r + 1)) (fun gk i0 j0 wr => ∃ i j : Nat, i0 = .int .i64 (i : Int) ∧ j0 = .int .i64 (j : Int) ∧ gk = n - j ∧ i < j ∧ j ≤ n ∧ Below base w wr ∧ RowP wr g n S)
    case atStart => exact ⟨r, r + 1, rfl, by first | rfl | (rw [HW1.out]) | simp, rfl, by omega, by omega, HB1.out.mono hbase, HROW.out⟩
    case round =>
      obtain ⟨i, j, rfl, rfl, rfl, hij, hj, hbw, hrow⟩ := hrel
      have HBW := Lib.hid hbw
      have HRW := Lib.hid hrow
      by_cases hlt : j < n
      · have h1 : (0 : Int) ≤ (j : Int) := by omega
        have h2 : (j : Int) < (n : Int) := by omega
        have h3 : (0 : Int) ≤ (i : Int) := by omega
        have h4 : (i : Int) < (n : Int) := by omega
        have hd : decide ((j : Int) < (n : Int)) = true := decide_eq_true h2
        obtain ⟨c, hc, hx, hf⟩ := hrow.at j hlt
        obtain ⟨ci, -, hxi, hfi⟩ := hrow.at i (by omega)
        have HC := Lib.hid hc
        clear hrow hc hbw
        have HF := Lib.hid hfi
        go_wp2_with (go_at_call 74; refine (HP.out wr HBW.out c HC.out).mono ?_; rintro e w2 ⟨⟨r, rfl⟩, hb2⟩; have HB2 := Lib.hid hb2; have HR2 := Lib.hid (HRW.out.below hb2); have c2 := (hb2.cell (p := ⟨g, i, none⟩) HRW.out.lt).trans hxi; have f2 := (hb2.frozen (p := ⟨g, i, none⟩) HRW.out.lt).trans HF.out; clear hb2)
        · have hbs : Below base w (w2.setCell ⟨g, i, none⟩ (.pointer (some ⟨c, 0, none⟩))) := below_grown (below_then HBW.out (Nat.le_trans hbase HBW.out.size) HB2.out) (grown_cell _ _ _ _) hg1 (Nat.le_trans (Nat.le_trans hbase HBW.out.size) HB2.out.size)
          have HBS := Lib.hid hbs
          have HRS := Lib.hid (HR2.out.set i c HC.out)
          clear hbs
          go_roundg (n - (j + 1))
          case measure => omega
          case rel => exact ⟨i + 1, j + 1, by first | rfl | simp, by first | rfl | simp, rfl, by omega, by omega, HBS.out, HRS.out⟩
        · go_roundg (n - (j + 1))
          case measure => omega
          case rel => exact ⟨i, j + 1, rfl, by first | rfl | simp, rfl, by omega, by omega, below_then HBW.out (Nat.le_trans hbase HBW.out.size) HB2.out, HR2.out⟩
      · have hd : decide ((j : Int) < (n : Int)) = false := decide_eq_false (by omega)
        obtain rfl : j = n := by omega
        have h3 : (0 : Int) ≤ (i : Int) := by omega
        have h4 : (i : Int) ≤ (j : Int) := by omega
        have h5 : (i : Int) ≤ (cc : Int) := by omega
        have hcl : ∀ ty, (Builtin.clear_ #[85] ty #[.slice (some ⟨g, i, none⟩) (j - i) (cc - i)]).run Tryd.prog wr = .ok (.tuple #[]) (wr.setCells g i (List.replicate (j - i) (.pointer none))) :=
          fun ty => Lib.run_clear_slice wr _ _ ty _ Tryd.underlying85 zeroPtr rfl rfl g i (j - i) (cc - i) (by omega) (fun t ht => by obtain ⟨c, -, hc, -⟩ := hrow.at (i + t) (by omega); rw [hc]; rfl) (fun t ht => by obtain ⟨c, -, -, hc⟩ := hrow.at (i + t) (by omega); exact hc)
        clear hrow hbw
        go_wp2
        go_ret
        refine ⟨_, i, cc, rfl, by omega, below_grown HBW.out (grown_cells g _ i _) hg1 (Nat.le_trans hbase HBW.out.size), .inr ⟨g, rfl, by omega, ?_⟩⟩
        exact RowP.cells _ _ _ (HRW.out.mono (by omega)) (Nat.le_refl _)
end Go.Proofs.YtlallihdiffheaaDoor.Hand
end
section
/- domutils.swapTagsOfNodes by hand: two elements become other elements. -/
namespace Go.Proofs.YtlallihdiffheaaDoor.Dom
open Go.RowKit Go.Proofs.YtlallihdiffheaaDoorW.PrintWords Go.Proofs.YtlallihdiffheaaDoorW.PrintLast Go.Proofs.YtlallihdiffheaaDoorW.PrintMore Go.Proofs.YtlallihdiffheaaDoor.GT Go.Proofs.YtlallihdiffheaaDoor.Hand
set_option linter.unusedVariables false
set_option linter.unusedSimpArgs false

/-- One cell of a node is stored; its attributes lie in a row of their own. -/
theorem Holds.setA {w : World} {H : NMap} (h : Holds w H) {b : Nat} {r s : NRec} (hb : H b = some r) (i : Nat) (v : Value) (hs : s.cells = r.cells.setIfInBounds i v) (ha : AttrsAt w s.pay.attr s.pay.attrs) :
    Holds (w.setCell ⟨b, i, none⟩ v) (upd H b s) ∧ Stays H w (w.setCell ⟨b, i, none⟩ v) := by
  have hst : Stays H w (w.setCell ⟨b, i, none⟩ v) := ⟨rfl, rfl, rfl, by simp, fun k hk hn => Below.heap_setCell _ _ _ _ (fun e => by
    have e : k = b := e
    rw [e, hb] at hn
    cases hn)⟩
  refine ⟨⟨fun k q hq => ?_, fun k q hq => ?_⟩, hst⟩
  · by_cases hk : k = b
    · subst hk
      rw [upd_same] at hq
      obtain rfl := Option.some.inj hq
      rw [hs]
      exact Lib.heap_setCell_same (h.node k r hb) v
    · rw [upd_other _ _ hk] at hq
      rw [Below.heap_setCell _ _ _ _ hk]
      exact h.node k q hq
  · by_cases hk : k = b
    · subst hk
      rw [upd_same] at hq
      obtain rfl := Option.some.inj hq
      exact ha.stays h hst
    · rw [upd_other _ _ hk] at hq
      exact (h.attrs k q hq).stays h hst
/-- One step of the swap. -/
structure Mid (ok : Prop) (H : NMap) (w : World) (K : NMap) (W : World) : Prop where
  swp : SwpH ok H K
  holds : Holds W K
  stays : Stays H w W
theorem Mid.start (ok : Prop) {H : NMap} {w : World} (hw : Holds w H) : Mid ok H w H w := ⟨SwpH.refl _ _, hw, Stays.refl _ _⟩
theorem Mid.set {ok : Prop} (ho : ok) {H K : NMap} {w W : World} (h : Mid ok H w K W) {b : Nat} {r : NRec} (hb : K b = some r) (q : Pay) (i : Nat) (v : Value) (h1 : r.pay.type = 3) (h2 : q.type = 3) (h3 : q.attrs = []) (hs : ({ r with pay := q } : NRec).cells = r.cells.setIfInBounds i v) (ha : AttrsAt W q.attr []) :
    Mid ok H w (upd K b { r with pay := q }) (W.setCell ⟨b, i, none⟩ v) := by
  have h4 := Holds.setA (s := { r with pay := q }) h.holds hb i v hs (by rw [show ({ r with pay := q } : NRec).pay.attrs = [] from h3]; exact ha)
  exact ⟨h.swp.trans (SwpH.set ho hb q h1 h2 h3), h4.1, h.stays.trans' h4.2 (fun j _ hj => h.swp.none j hj)⟩
set_option maxRecDepth 100000 in
set_option maxHeartbeats 3200000 in
theorem swapNodes_any (ok : Prop) (ho : ok) {w : World} {H : NMap} (hw : Holds w H) {a c : Nat} (hac : a ≠ c) {ra rc : NRec} (ha : H a = some ra) (hc : H c = some rc) (ta : ra.pay.type = 3) (tc : rc.pay.type = 3) (la : ra.pay.attrs = []) (lc : rc.pay.attrs = []) :
    Calls Tryd.prog 75 #[.pointer (some ⟨a, 0, none⟩), .pointer (some ⟨c, 0, none⟩)] w fun e w' => e = .returned (.tuple #[]) ∧ ∃ K, SwpH ok H K ∧ Holds w' K ∧ Stays H w w' := by
  obtain ⟨par, f, l, v, x, pt, pat, pd, pattr, pattrs⟩ := ra
  obtain ⟨par2, f2, l2, v2, x2, ct, cat, cd, cattr, cattrs⟩ := rc
  simp only at ta tc la lc
  subst ta tc la lc
  have ata := hw.attrs _ _ ha
  have atc := hw.attrs _ _ hc
  simp only at ata atc
  obtain ⟨A1, k1, rfl⟩ := own_slice ata
  obtain ⟨A2, k2, rfl⟩ := own_slice atc
  have m0 := Mid.start ok hw
  have m1 := m0.set ho ha ⟨3, cat, pd, _, []⟩ 6 (.int .u32 cat) rfl rfl rfl rfl ata
  have m2 := m1.set ho (b := a) (upd_same _ _ _) ⟨3, cat, cd, _, []⟩ 7 (.string cd) rfl rfl rfl rfl (ata.stays hw m1.stays)
  have m3 := m2.set ho (b := a) (upd_same _ _ _) ⟨3, cat, cd, _, []⟩ 9 (.slice A2 0 k2) rfl rfl rfl rfl (atc.stays hw m2.stays)
  have hc3 : ∀ s1 s2 s3 : NRec, (upd (upd (upd H a s1) a s2) a s3) c = some ⟨par2, f2, l2, v2, x2, 3, cat, cd, .slice A2 0 k2, []⟩ := fun s1 s2 s3 => by
    rw [upd_other _ _ (fun e => hac e.symm), upd_other _ _ (fun e => hac e.symm), upd_other _ _ (fun e => hac e.symm)]
    exact hc
  have m4 := m3.set ho (b := c) (hc3 _ _ _) ⟨3, pat, cd, _, []⟩ 6 (.int .u32 pat) rfl rfl rfl rfl (atc.stays hw m3.stays)
  have m5 := m4.set ho (b := c) (upd_same _ _ _) ⟨3, pat, pd, _, []⟩ 7 (.string pd) rfl rfl rfl rfl (atc.stays hw m4.stays)
  have m6 := m5.set ho (b := c) (upd_same _ _ _) ⟨3, pat, pd, _, []⟩ 9 (.slice A1 0 k1) rfl rfl rfl rfl (ata.stays hw m5.stays)
  obtain ⟨a0, a1, a2, a3, a4, a5, a6, a7, a9⟩ := hw.opened ha
  obtain ⟨c0, c1, c2, c3, c4, c5, c6, c7, c9⟩ := hw.opened hc
  have fa6 := hw.frozen ha 6
  have fa7 := hw.frozen ha 7
  have fa9 := hw.frozen ha 9
  have fc6 := hw.frozen hc 6
  have fc7 := hw.frozen hc 7
  have fc9 := hw.frozen hc 9
  have hca : c ≠ a := fun e => hac e.symm
  have M6 := Lib.hid m6
  clear m0 m1 m2 m3 m4 m5 m6 hc3 ata atc ha hc hw a0 a1 a2 a3 a4 c0 c1 c2 c3 c4
  go_enter Tryd.func75, Tryd.ntmps75
  go_wp2
  go_end0
  exact ⟨rfl, _, M6.out.swp, M6.out.holds, M6.out.stays⟩
end Go.Proofs.YtlallihdiffheaaDoor.Dom
end
section
/- domutils.SwapTags by hand: some elements become other ones; without outer or without inner ones, none does. -/
namespace Go.Proofs.YtlallihdiffheaaDoor.Dom
open Go.RowKit Go.Proofs.YtlallihdiffheaaDoorW.PrintWords Go.Proofs.YtlallihdiffheaaDoorW.PrintLast Go.Proofs.YtlallihdiffheaaDoorW.PrintMore Go.Proofs.YtlallihdiffheaaDoor.GT Go.Proofs.YtlallihdiffheaaDoor.Hand
set_option linter.unusedVariables false
set_option linter.unusedSimpArgs false

theorem lt_of_block {w : World} {g : Nat} {o : Obj} (h : w.heap[g]? = some o) : g < w.heap.size := (Array.getElem?_eq_some_iff.1 h).1
/-- Names in a box, in a row of its own kind. -/
def BoxS (w : World) (bx : Nat) (ns : List ByteArray) : Prop := ∃ g c, w.heap[bx]? = some (boxNs (some ⟨g, 0, none⟩) ns.length c) ∧ w.heap[g]? = some (.cells (ns.map Value.string).toArray 9 (0, 0)) ∧ ns.length ≤ c ∧ ns.length ≤ 1000
theorem BoxS.keep {w w' : World} {bx : Nat} {ns : List ByteArray} (h : BoxS w bx ns) (hb : ∀ (k : Nat) (c : Array Value) (t : TypeId) (f : Nat × Nat), w.heap[k]? = some (.cells c t f) → t ≠ 81 → w'.heap[k]? = w.heap[k]?) : BoxS w' bx ns := by
  obtain ⟨g, c, h1, h2, h3, h4⟩ := h
  exact ⟨g, c, (hb _ _ _ _ h1 (by decide)).trans h1, (hb _ _ _ _ h2 (by decide)).trans h2, h3, h4⟩
theorem BoxS.below {w w' : World} {bx : Nat} {ns : List ByteArray} (h : BoxS w bx ns) (hb : Below w.heap.size w w') : BoxS w' bx ns := h.keep fun k c t f hk _ => hb.block k (lt_of_block hk)
theorem BoxS.stays {w w' : World} {H : NMap} {bx : Nat} {ns : List ByteArray} (h : BoxS w bx ns) (hw : Holds w H) (hs : Stays H w w') : BoxS w' bx ns := h.keep fun k c t f hk ht => hs.block k (lt_of_block hk) (hw.none_of_type hk ht)
theorem BoxS.says {w : World} {bx : Nat} {ns : List ByteArray} (h : BoxS w bx ns) {H : NMap} (hw : Holds w H) {b : Nat} {par f l v x : Option Nat} {q : Pay} (hb : H b = some ⟨par, f, l, v, x, q⟩) (ht : q.type = 1 ∨ q.type = 4 ∨ q.type = 3 ∨ q.type = 2) :
    Calls Tryd.prog 76 #[.pointer (some ⟨b, 0, none⟩), .pointer (some ⟨bx, 0, none⟩)] w fun e w' => e = .returned (.bool (isNm ns q)) ∧ Below w.heap.size w w' := by
  obtain ⟨g, cc, h1, h2, h3, h4⟩ := h
  have hC : Kd.C Kd.string w (some ⟨g, 0, none⟩) ns.length ns := by
    refine ⟨rfl, by omega, fun _ => ⟨_, rfl, fun j s hj => ⟨[.string s], rfl, rfl, fun i u hu => ?_⟩⟩⟩
    cases i with
    | zero =>
      obtain rfl : Value.string s = u := by simpa using hu
      have hz : (Kd.string).sz = 1 := rfl
      rw [hz, Nat.mul_one, Nat.add_zero]
      have hjl := (List.getElem?_eq_some_iff.1 hj).1
      have ha : (⟨g, 0, none⟩ : Addr).add j = ⟨g, j, none⟩ := by by_cases h0 : j = 0 <;> simp [Addr.add, h0]
      rw [ha, (out_cell h2 j).1]
      simp [hj]
    | succ i => simp at hu
  have hx := (out_cell h1 0).1
  exact named_any ns h4 hw hb ht hx hC h3
/-- What the finder asks. -/
structure Fnd (w : World) (bo bi fi xo xi : Nat) (ns1 ns2 : List ByteArray) : Prop where
  fin : w.heap[fi]? = some (.cells #[.func (.func 72) #[] #[.pointer (some ⟨bo, 0, none⟩), .pointer (some ⟨bi, 0, none⟩), .pointer (some ⟨fi, 0, none⟩)]] 64 (0, 0))
  out : w.heap[bo]? = some (isObj xo)
  inn : w.heap[bi]? = some (isObj xi)
  box1 : BoxS w xo ns1
  box2 : BoxS w xi ns2
  tab : TabB w
theorem tab_keep {w w' : World} {H : NMap} (h : TabB w) (hw : Holds w H) (hs : Stays H w w') : TabB w' := by
  unfold TabB Lib.TabIs World.var? at h ⊢
  obtain ⟨g, hg, h2⟩ := Option.bind_eq_some_iff.1 h
  rw [hg]
  simp only [Option.bind_some]
  split at h2
  · rename_i cs t fz hc
    have hlt : g < w.heap.size := (Array.getElem?_eq_some_iff.1 hc).1
    have hn : H g = none := by
      cases e : H g with
      | none => rfl
      | some r =>
        have h3 := hw.node g r e
        rw [hc] at h3
        injection h3 with h3
        injection h3 with h4 _
        subst h4
        have h5 := congrArg (fun o => (o.getD #[]).size) h2
        exact absurd h5 (by simp only [Option.getD_some, NR.cells, List.size_toArray, List.length_map, List.length_cons, List.length_nil]; decide +kernel)
    rw [hs.block g hlt hn, hc]
    exact h2
  · cases h2
theorem Fnd.stays {w w' : World} {H : NMap} {bo bi fi xo xi : Nat} {ns1 ns2 : List ByteArray} (h : Fnd w bo bi fi xo xi ns1 ns2) (hw : Holds w H) (hs : Stays H w w') : Fnd w' bo bi fi xo xi ns1 ns2 :=
  ⟨(hs.block _ (lt_of_block h.fin) (hw.none_of_type h.fin (by decide))).trans h.fin, (hs.block _ (lt_of_block h.out) (hw.none_of_type h.out (by decide))).trans h.out, (hs.block _ (lt_of_block h.inn) (hw.none_of_type h.inn (by decide))).trans h.inn, h.box1.stays hw hs, h.box2.stays hw hs, tab_keep h.tab hw hs⟩
theorem rowP_of {w : World} {A : Option Addr} {n cc base : Nat} {l : List Nat} (h : w.ownsRow base 49 1 (.slice A n cc) n (ptrs l)) : n = 0 ∨ ∃ g, A = some ⟨g, 0, none⟩ ∧ base ≤ g ∧ n ≤ cc ∧ RowP w g n (fun c => c ∈ l) := by
  have hlen := h.1
  rcases h.2 with ⟨_, h0⟩ | ⟨g, cap, cur, hv, hb, hg, h1, h2, h3, h4⟩
  · exact .inl h0
  · injection hv with hv1 hv2 hv3
    subst hv1 hv3
    refine .inr ⟨g, rfl, hb, h1, cur, hg, by omega, fun t ht => ?_⟩
    have hll : l.length = n := by simpa [ptrs] using hlen
    have e : cur.toList[t]? = (ptrs l)[t]? := by rw [← h4, List.getElem?_take, if_pos (by omega)]
    refine ⟨l[t]'(by omega), List.getElem_mem _, ?_⟩
    rw [← Array.getElem?_toList, e]
    simp [ptrs, show t < l.length by omega]
theorem child_of {k : F Pay} {c : Nat} (h : c ∈ (rowK false k 0).map Prod.fst) : ∃ (a : F Pay) (q : Pay) (ck r : F Pay), k = a.app (.node c q ck r) := by
  obtain ⟨t, ht, rfl⟩ := List.mem_map.1 h
  obtain ⟨q, ck, r, _, hd⟩ := rowK_at false k 0 t ht
  obtain ⟨a, ha, _⟩ := F.dropF_split _ _ _ _ _ _ hd
  exact ⟨a, q, ck, r, ha⟩
theorem asc_app : ∀ (a g : F Pay), AscF (a.app g) → AscF g
  | .nil, g, h => h
  | .node b p k r, g, h => asc_app r g h.2.2
theorem plain_appr : ∀ (a g : F Pay), Plain (a.app g) → Plain g
  | .nil, g, h => h
  | .node b p k r, g, h => plain_appr r g h.2.2
theorem nm_type {ns : List ByteArray} {q : Pay} (h : isNm ns q = true) : q.type = 3 := by
  unfold isNm at h
  rw [Bool.and_eq_true] at h
  exact of_decide_eq_true h.1
theorem plain_attrs {n : Nat} {p : Pay} {k r : F Pay} (h : Plain (.node n p k r)) (ht : p.type = 3) : p.attrs = [] := by
  rcases h.1 with e | ⟨_, e⟩ | e
  · omega
  · exact e
  · omega
def SwapP (ok : Prop) (ns1 ns2 : List ByteArray) (m : Nat) : Prop := ∀ (k : F Pay) (n : Nat) (p : Pay) (par prev next : Option Nat) (H : NMap) (w : World) (bo bi fi xo xi : Nat), k.blocks.length < m → m ≤ 1000000 → Holds w H → Sits H par prev next (.node n p k .nil) → Neat (.node n p k .nil) → Plain (.node n p k .nil) → AscF (.node n p k .nil) → (n :: k.blocks).Nodup → (¬ ok → hasF ns1 (.node n p k .nil) = false ∨ hasF ns2 (.node n p k .nil) = false) → Fnd w bo bi fi xo xi ns1 ns2 →
  Calls Tryd.prog 72 #[.pointer (some ⟨n, 0, none⟩), .pointer (some ⟨bo, 0, none⟩), .pointer (some ⟨bi, 0, none⟩), .pointer (some ⟨fi, 0, none⟩)] w fun e w' => e = .returned (.tuple #[]) ∧ ∃ K, SwpH ok H K ∧ Holds w' K ∧ Stays H w w'
/-- A child, as the finder sees it. -/
structure Kid (ok : Prop) (H : NMap) (n : Nat) (ns1 ns2 : List ByteArray) (p : Pay) (c : Nat) (r : NRec) : Prop where
  here : H c = some r
  ne : n ≠ c
  ty : r.pay.type = 1 ∨ r.pay.type = 4 ∨ r.pay.type = 3 ∨ r.pay.type = 2
  at3 : r.pay.type = 3 → r.pay.attrs = []
  asc : r.pay.type = 1 → r.pay.data.size ≤ 300 ∧ asciiS r.pay.data = true
  both : isNm ns1 p = true → isNm ns2 r.pay = true → ok
theorem kid_of {ok : Prop} {H : NMap} {n : Nat} {p : Pay} {k : F Pay} {par prev next : Option Nat} {ns1 ns2 : List ByteArray} (hs : Sits H par prev next (.node n p k .nil)) (hn : Neat (.node n p k .nil)) (hp : Plain (.node n p k .nil)) (ha : AscF (.node n p k .nil)) (hd : (n :: k.blocks).Nodup) (hok : ¬ ok → hasF ns1 (.node n p k .nil) = false ∨ hasF ns2 (.node n p k .nil) = false) {c : Nat} (hc : c ∈ (rowK false k 0).map Prod.fst) : ∃ r, Kid ok H n ns1 ns2 p c r := by
  obtain ⟨a, q, ck, r, rfl⟩ := child_of hc
  obtain ⟨-, h1, -, -⟩ := (sits_app H a _ _ _ _).1 hs.2.1
  have h2 := ((neat_app a _).1 hn.2.1).2
  have h3 := plain_appr a _ hp.2.1
  have h4 := asc_app a _ ha.2.1
  refine ⟨_, h1, fun e => ?_, neat_type h2, fun ht => ?_, h4.1, fun e1 e2 => ?_⟩
  · have h5 := (List.nodup_cons.1 hd).1
    rw [F.blocks_app] at h5
    exact h5 (List.mem_append.2 (.inr (by rw [e]; exact List.mem_cons_self)))
  · rcases h3.1 with h | ⟨_, h⟩ | h
    · rw [show q.type = 3 from ht] at h
      cases h
    · exact h
    · rw [show q.type = 3 from ht] at h
      cases h
  · refine Classical.byContradiction fun ho => ?_
    rcases hok ho with h | h
    · simp only [hasF, e1, Bool.true_or] at h
      cases h
    · simp only [hasF, hasF_app, show isNm ns2 q = true from e2, Bool.true_or, Bool.or_true] at h
      cases h
set_option maxRecDepth 100000 in
set_option maxHeartbeats 6400000 in
theorem swap_step (ok : Prop) (ns1 ns2 : List ByteArray) (m : Nat) (ih : SwapP ok ns1 ns2 m) : SwapP ok ns1 ns2 (m + 1) := by
  intro k n p par prev next H w bo bi fi xo xi hm hm1 hw hs hn hp ha hnd hok hf
  have hentF : ∀ (a : Nat) (W : World), (callFunc 72 #[.pointer (some ⟨a, 0, none⟩), .pointer (some ⟨bo, 0, none⟩), .pointer (some ⟨bi, 0, none⟩), .pointer (some ⟨fi, 0, none⟩)]).run Tryd.prog W = .ok (.enter 72 #[.pointer (some ⟨a, 0, none⟩), .pointer (some ⟨bo, 0, none⟩), .pointer (some ⟨bi, 0, none⟩), .pointer (some ⟨fi, 0, none⟩)]) W :=
    fun a W => enters Tryd.func72 (by rfl) (by rfl) _ _
  have hent : ∀ (bx a : Nat) (W : World), (callFunc 76 #[.pointer (some ⟨a, 0, none⟩), .pointer (some ⟨bx, 0, none⟩)]).run Tryd.prog W = .ok (.enter 76 #[.pointer (some ⟨a, 0, none⟩), .pointer (some ⟨bx, 0, none⟩)]) W :=
    fun bx a W => enters Tryd.func76 (by rfl) (by rfl) _ _
  have htn := neat_type hn
  have hlen : k.len ≤ 1000000 := by have := len_le_blocks k; omega
  have hcells : ∀ W, Below w.heap.size w W → W.cell? ⟨bo, 0, none⟩ = some (.func (.func 76) #[] #[.pointer (some ⟨xo, 0, none⟩)]) ∧ W.cell? ⟨bi, 0, none⟩ = some (.func (.func 76) #[] #[.pointer (some ⟨xi, 0, none⟩)]) ∧ W.cell? ⟨n, 1, none⟩ = some (ptrV (k.headOr none)) := fun W hb =>
    ⟨(hb.cell (p := ⟨bo, 0, none⟩) (lt_of_block hf.out)).trans (out_cell hf.out 0).1, (hb.cell (p := ⟨bi, 0, none⟩) (lt_of_block hf.inn)).trans (out_cell hf.inn 0).1, ((hw.below hb).opened hs.1).2.1⟩
  obtain ⟨i0, -, -⟩ := hcells w (Below.refl _ _)
  have hout := hf.box1.says hw hs.1 htn
  have HOUT := Lib.hid hout
  have HCELLS := Lib.hid hcells
  have HW := Lib.hid hw
  have HS := Lib.hid hs
  have HN := Lib.hid hn
  have HP := Lib.hid hp
  have HA := Lib.hid ha
  have HND := Lib.hid hnd
  have HOK := Lib.hid hok
  have HF := Lib.hid hf
  have HM := Lib.hid (And.intro hm hm1)
  have HIH := Lib.hid ih
  have HTN := Lib.hid htn
  have HLEN := Lib.hid hlen
  clear hout hcells hw hs hn hp ha hnd hok hf hm hm1 ih htn hlen
  go_enter Tryd.func72, Tryd.ntmps72
  go_upto_if 9 with (go_at_call 76; refine HOUT.out.mono ?_; rintro e w1 ⟨rfl, hb1⟩; have HB1 := Lib.hid hb1; clear hb1)
  go_cut [] from 5 (fun wx => Below w.heap.size w wx)
  case first =>
    cases hr : isNm ns1 p with
    | false =>
      clear hr
      go_wp2
      go_meet
      exact HB1.out
    | true =>
      have HR := Lib.hid hr
      clear hr
      go_upto_region 3 with (first
        | (go_at_call 67; refine (childNodes_any (HW.out.below HB1.out) HS.out.1 HS.out.2.1 HLEN.out).mono ?_; rintro e w2 ⟨A, cc, rfl, hown, hb2⟩; have HROW := Lib.hid (rowP_of hown); have HBB := Lib.hid hb2; clear hown hb2)
        | (go_at_call 73; refine (deleteFunc_any (base := w1.heap.size) HROW.out (by have := rowK_len false k 0; have := HLEN.out; omega) HBB.out.size (fun W hb c hc => by obtain ⟨r, hk⟩ := kid_of HS.out HN.out HP.out HA.out HND.out HOK.out hc; exact emptyText_any ((HW.out.below HB1.out).below (HBB.out.trans hb)) hk.here hk.asc (tabB_below (tabB_below HF.out.tab HB1.out) (HBB.out.trans hb)))).mono ?_; rintro e w3 ⟨A', m', cc', rfl, hm', hb3, hrow⟩; have HROW3 := Lib.hid hrow; have HB3 := Lib.hid (below_then HB1.out HB1.out.size (HBB.out.trans hb3)); clear hrow hb3))
      by_cases hm1 : m' = 1
      · subst hm1
        obtain ⟨g, rfl, -, hrow⟩ : ∃ g, A' = some ⟨g, 0, none⟩ ∧ 1 ≤ cc' ∧ RowP w3 g 1 fun c => c ∈ List.map Prod.fst (rowK false k 0) := by
          rcases HROW3.out with h | h
          · cases h
          · exact h
        obtain ⟨c, hc, hx, -⟩ := hrow.at 0 (by omega)
        obtain ⟨r, hk⟩ := kid_of HS.out HN.out HP.out HA.out HND.out HOK.out hc
        have hB3d := below_then HB3.out HB3.out.size (below_drew (Below.refl w3.heap.size w3))
        have hinn := (HF.out.box2.below hB3d).says (HW.out.below hB3d) (par := r.parent) (f := r.first) (l := r.last) (v := r.prev) (x := r.next) (q := r.pay) hk.here hk.ty
        obtain ⟨-, i1, -⟩ := HCELLS.out w3 HB3.out
        have hgl := hrow.lt
        have HINN := Lib.hid hinn
        have HK := Lib.hid hk
        have HB3D := Lib.hid hB3d
        clear hrow hc hk hinn hB3d
        go_wp2_with fail
        go_region_law (go_simp; go_at_call 76; refine HINN.out.mono ?_; rintro e w4 ⟨rfl, hb4⟩; have hx4 := (hb4.cell (p := ⟨g, 0, none⟩) hgl).trans hx; have HB4 := Lib.hid (below_then HB3D.out HB3D.out.size hb4); clear hb4)
        all_goals (
          cases hr2 : isNm ns2 r.pay with
          | false =>
            clear hr2
            go_wp2
            go_meet
            exact HB4.out
          | true =>
            have HR2 := Lib.hid hr2
            clear hr2
            go_wp2_with (go_at_call 75; refine (swapNodes_any ok (HK.out.both HR.out HR2.out) (HW.out.below HB4.out) HK.out.ne HS.out.1 HK.out.here (nm_type HR.out) (nm_type HR2.out) (plain_attrs HP.out (nm_type HR.out)) (HK.out.at3 (nm_type HR2.out))).mono ?_; rintro e w5 ⟨rfl, K, hk1, hk2, hk3⟩; have HSW := Lib.hid (And.intro hk1 (And.intro hk2 hk3)); clear hk1 hk2 hk3)
            exact bodyPost_ret (results_none rfl _ _ _) rfl ⟨rfl, K, HSW.out.1, HSW.out.2.1, (Stays.of_below HB4.out).trans HSW.out.2.2⟩)
      · have hd : ((m' : Int) == 1) = false := by simp; omega
        have hd2 : decide ((m' : Int) = 1) = false := decide_eq_false (by omega)
        go_wp2_with fail
        go_quiet (fail)
        go_wp2
        go_meet
        exact ⟨HB3.out.os, HB3.out.tape, HB3.out.output, HB3.out.size, HB3.out.block⟩
  case rest =>
    have HBC := Lib.hid hcut
    obtain ⟨u, hu⟩ := ptrV_form (k.headOr none)
    obtain ⟨-, -, c1⟩ := HCELLS.out _ hcut
    rw [hu] at c1
    have HU := Lib.hid hu
    clear hcut hu
    have hstart : ∀ W, Below w.heap.size w W → ∃ (rest : F Pay) (prv : Option Nat) (H1 : NMap), Value.pointer u = ptrV (rest.headOr none) ∧ k.len = rest.len ∧ SwpH ok H H1 ∧ Holds W H1 ∧ Stays H w W ∧ Sits H1 (some n) prv none rest ∧ Neat rest ∧ Plain rest ∧ AscF rest ∧ rest.blocks.Nodup ∧ (¬ ok → hasF ns1 rest = false ∨ hasF ns2 rest = false) ∧ rest.blocks.length ≤ m := fun W hb => by
      refine ⟨k, none, H, by rw [HU.out], rfl, SwpH.refl _ _, HW.out.below hb, Stays.of_below hb, HS.out.2.1, HN.out.2.1, HP.out.2.1, HA.out.2.1, (List.nodup_cons.1 HND.out).2, fun ho => ?_, by have := HM.out.1; omega⟩
      rcases HOK.out ho with h | h
      · simp only [hasF, Bool.or_eq_false_iff] at h
        exact .inl h.1.2
      · simp only [hasF, Bool.or_eq_false_iff] at h
        exact .inr h.1.2
    have HST := Lib.hid hstart
    clear hstart
    go_wp2
    go_loopg [6] k.len (fun gk c0 wr => ∃ (rest : F Pay) (prv : Option Nat) (H1 : NMap), c0 = ptrV (rest.headOr none) ∧ gk = rest.len ∧ SwpH ok H H1 ∧ Holds wr H1 ∧ Stays H w wr ∧ Sits H1 (some n) prv none rest ∧ Neat rest ∧ Plain rest ∧ AscF rest ∧ rest.blocks.Nodup ∧ (¬ ok → hasF ns1 rest = false ∨ hasF ns2 rest = false) ∧ rest.blocks.length ≤ m)
    case atStart => exact HST.out _ HBC.out
    case round =>
      obtain ⟨rest, prv, H1, rfl, rfl, hrn, hwr, hst, hsr, hnr, hpr, har, hdr, hokr, hbr⟩ := hrel
      have hff := HF.out.stays HW.out hst
      obtain ⟨i0, -⟩ := out_cell hff.fin 0
      simp only [List.getElem?_toArray, List.getElem?_cons_succ, List.getElem?_cons_zero] at i0
      rcases headOr_cases rest with hg | ⟨c, q, ck, rr, hg⟩
      · subst hg
        simp only [show ptrV ((F.nil : F Pay).headOr none) = .pointer none from rfl]
        have HD := Lib.hid (And.intro hrn (And.intro hwr hst))
        clear hrn hwr hst hsr hnr hpr har hdr hokr hbr hff
        go_wp2
        go_end0
        exact ⟨rfl, H1, HD.out.1, HD.out.2.1, HD.out.2.2⟩
      · subst hg
        simp only [show ptrV ((F.node c q ck rr).headOr none) = .pointer (some ⟨c, 0, none⟩) from rfl]
        obtain ⟨u4, hu4⟩ := ptrV_form (rr.headOr none)
        have hok1 : ¬ ok → hasF ns1 (.node c q ck .nil) = false ∨ hasF ns2 (.node c q ck .nil) = false := fun ho => by
          rcases hokr ho with h | h
          · left
            simp only [hasF, Bool.or_eq_false_iff] at h ⊢
            exact ⟨h.1, trivial⟩
          · right
            simp only [hasF, Bool.or_eq_false_iff] at h ⊢
            exact ⟨h.1, trivial⟩
        have hdc : (c :: ck.blocks).Nodup := by
          have h : (F.node c q ck rr).blocks = (c :: ck.blocks) ++ rr.blocks := by simp [F.blocks]
          rw [h] at hdr
          exact (List.nodup_append.1 hdr).1
        have hdrr : rr.blocks.Nodup := by
          have h : (F.node c q ck rr).blocks = (c :: ck.blocks) ++ rr.blocks := by simp [F.blocks]
          rw [h] at hdr
          exact (List.nodup_append.1 hdr).2.1
        have hokrr : ¬ ok → hasF ns1 rr = false ∨ hasF ns2 rr = false := fun ho => by
          rcases hokr ho with h | h
          · left
            simp only [hasF, Bool.or_eq_false_iff] at h
            exact h.2
          · right
            simp only [hasF, Bool.or_eq_false_iff] at h
            exact h.2
        have hrec := HIH.out ck c q (some n) prv (rr.headOr none) H1 wr bo bi fi xo xi (by simp only [F.blocks, List.length_cons, List.length_append] at hbr; omega) (by have := HM.out.2; omega) hwr ⟨hsr.1, hsr.2.1, trivial⟩ ⟨hnr.1, hnr.2.1, trivial⟩ ⟨hpr.1, hpr.2.1, trivial⟩ ⟨har.1, har.2.1, trivial⟩ hdc hok1 hff
        have HREC := Lib.hid hrec
        have HU4 := Lib.hid hu4
        have HD := Lib.hid (And.intro hrn (And.intro hwr hst))
        have HSR := Lib.hid hsr
        have HNR := Lib.hid (And.intro hnr.2.2 (And.intro hpr.2.2 (And.intro har.2.2 (And.intro hdrr (And.intro hokrr hbr)))))
        clear hrn hwr hst hsr hnr hpr har hdr hokr hbr hff hrec hu4 hok1 hdc hdrr hokrr
        go_wp2_with (refine HREC.out.mono ?_; rintro e w3 ⟨rfl, K, hrk, hwk, hsk⟩; obtain ⟨f', hf', hsf⟩ := swp_sits hrk _ _ _ _ HSR.out; obtain ⟨q', ck', rr', rfl⟩ := swp_node hf'; have c4 := (hwk.opened hsf.1).2.2.2.2.1; rw [hf'.2.2.2.heads.1, HU4.out] at c4; have HK := Lib.hid (And.intro hrk (And.intro hwk (And.intro hsk (And.intro hf' hsf)))); clear hrk hwk hsk hf' hsf)
        go_roundg rr.len
        case measure => simp [F.len]
        case rel =>
          obtain ⟨hrk, hwk, hsk, hf', hsf⟩ := HK.out
          obtain ⟨hrn, hwr, hst⟩ := HD.out
          obtain ⟨hnr, hpr, har, hdr, hokr, hbr⟩ := HNR.out
          have hs2 := hf'.2.2.2
          have hh := hs2.heads
          refine ⟨rr', some c, K, ?_, hh.2.1.symm, hrn.trans hrk, hwk, hst.trans' hsk (fun i _ hi => hrn.none i hi), hsf.2.2, hs2.neat hnr, hs2.plain hpr, hs2.asc har, ?_, fun ho => ?_, ?_⟩
          · rw [hh.1, HU4.out]
          · rw [hh.2.2]
            exact hdr
          · rw [hs2.same ho]
            exact hokr ho
          · rw [hh.2.2]
            simp only [F.blocks, List.length_cons, List.length_append] at hbr
            omega
theorem swap_all (ok : Prop) (ns1 ns2 : List ByteArray) : ∀ m, SwapP ok ns1 ns2 m
  | 0 => fun k n p par prev next H w bo bi fi xo xi hm => absurd hm (Nat.not_lt_zero _)
  | m + 1 => swap_step ok ns1 ns2 m (swap_all ok ns1 ns2 m)
end Go.Proofs.YtlallihdiffheaaDoor.Dom
end
