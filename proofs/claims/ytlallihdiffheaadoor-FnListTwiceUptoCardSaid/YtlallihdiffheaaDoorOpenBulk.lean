/- Arguments that are read, and what they weigh: no more than the bulk of the reading. -/
import Derived.Test.YtlallihdiffheaaDoorOpen
import Derived.Test.YtlallihdiffheaaDoorGTx0
import Derived.Test.YtlallihdiffheaaDoorRows
namespace Go.Proofs.YtlallihdiffheaaDoor.Hand
open Go.RowKit Go.Proofs.YtlallihdiffheaaDoorW.PrintWords Go.Proofs.YtlallihdiffheaaDoor.GT Go.ChangeShapes Go.WideShapes
set_option linter.unusedVariables false

def wS (s : ByteArray) : Nat := s.size + 1
def wI (i : Int) : Nat := 1
def wL {α : Type} (f : α → Nat) (l : List α) : Nat := (l.map f).sum + 1
def wA (a : S29) : Nat := wS a.f0 + wS a.f1 + 1
mutual
def wN : S25 → Nat
  | ⟨a, b, c, d, e⟩ => 1 + wS b + wS c + wL wA d + wNs e + 2
def wNs : List S25 → Nat
  | [] => 0
  | x :: l => wN x + wNs l
end
theorem wNs_sum : ∀ l : List S25, wNs l = (l.map wN).sum
  | [] => by rw [wNs]; rfl
  | x :: l => by rw [wNs, wNs_sum l]; simp
section
variable {H : Type} {enc : TypeId × Value → H} {P : Program} {w : World} {base : Nat} {spare : Nat → Bool} {held : Bool}
/-- Whatever can be read at a type reads as the kind d, and weighs no more than its bulk; so many steps deep. -/
def OpensB (enc : TypeId × Value → H) (P : Program) (w : World) (base : Nat) (spare : Nat → Bool) (held : Bool) {α : Type} (n : Nat) (d : Kd α) (wt : α → Nat) (t : TypeId) : Prop :=
  ∀ (fuel : Nat), fuel ≤ n → ∀ (cs : List Value) (x : DataW H × List MemPlace), DataW.trod enc P w base spare held fuel t cs = some x → ∃ a : α, d.K w a cs ∧ wt a ≤ Rows.uptoBulk x.1
theorem pick_all {α : Type} (wt : α → Nat) : ∀ (es : List (DataW H × List MemPlace)) (Q : Nat → α → Prop), (∀ i e, es[i]? = some e → ∃ y, Q i y ∧ wt y ≤ Rows.uptoBulk e.1) →
    ∃ ys : List α, ys.length = es.length ∧ (∀ i y, ys[i]? = some y → Q i y) ∧ (ys.map wt).sum ≤ Rows.uptoBulkAll (es.map (·.1))
  | [], Q, h => ⟨[], rfl, fun i y hy => by simp at hy, by simp⟩
  | e :: es, Q, h => by
    obtain ⟨y, hy, hw⟩ := h 0 e rfl
    obtain ⟨ys, h1, h2, h3⟩ := pick_all wt es (fun i => Q (i + 1)) (fun i e' he => h (i + 1) e' (by simpa using he))
    refine ⟨y :: ys, by simp [h1], fun i z hz => ?_, ?_⟩
    · cases i with
      | zero => simp only [List.getElem?_cons_zero, Option.some.injEq] at hz; subst hz; exact hy
      | succ i => exact h2 i z (by simpa using hz)
    · simp only [List.map_cons, List.sum_cons, Rows.uptoBulkAll]
      omega
theorem opensB_slice {α : Type} {d : Kd α} {wt : α → Nat} {t e : TypeId} {n : Nat} (ht : P.underlying t = some (.slice e)) (hc : P.cellsOf e = d.sz) (he : OpensB enc P w base spare held n d wt e) : OpensB enc P w base spare held (n + 1) (Kd.slice e d) (wL wt) t := by
  intro fuel hfu cs x h
  rcases DataW.trod_slice ht h with ⟨rfl, rfl⟩ | ⟨a, len, cap, elems, rest, m, rfl, rfl, rfl, hb, hl, hm, hlen, hel, _, _⟩
  · refine ⟨[], ⟨none, 0, rfl, Nat.le_refl _, rfl, by simp, fun h => absurd h (by simp)⟩, by simp [wL, Rows.uptoBulk]⟩
  · obtain ⟨ys, h1, h2, h3⟩ := pick_all wt elems (fun i y => ∃ c : List Value, c.length = d.sz ∧ d.K w y c ∧ ∀ j u, c[j]? = some u → w.cell? (a.add (i * d.sz + j)) = some u) (fun i z hz => by
      have hi := (List.getElem?_eq_some_iff.1 hz).1
      have h1 := hel i (by omega)
      rw [hz] at h1
      obtain ⟨c, hcs, hct⟩ := Option.bind_eq_some_iff.1 h1
      obtain ⟨y, hy, hwy⟩ := he _ (by omega) _ _ hct
      have h2 := World.cells?_some hcs
      refine ⟨y, ⟨c, d.K_len hy, hy, fun j u hj => ?_⟩, hwy⟩
      have hjl := (List.getElem?_eq_some_iff.1 hj).1
      rw [← add_add, ← hc, h2.2.2 j (by omega), hj])
    have hys : ys.length = len := by rw [h1, hlen]
    refine ⟨ys, ⟨some a, cap, by rw [hys], by omega, rfl, ?_, fun _ => ⟨a, rfl, fun j p hj => h2 j p hj⟩⟩, ?_⟩
    · simp only [maxLen] at hm
      omega
    · simp only [wL, Rows.uptoBulk]
      omega
theorem opensB_string {t : TypeId} {n : Nat} (ht : P.underlying t = some .string) : OpensB enc P w base spare held n Kd.string wS t := by
  intro fuel _ cs x h
  cases fuel with
  | zero => simp [DataW.trod] at h
  | succ n =>
    unfold DataW.trod at h
    rw [ht] at h
    split at h <;> simp_all
    obtain ⟨_, rfl⟩ := h
    refine ⟨_, rfl, ?_⟩
    simp [wS, Rows.uptoBulk]
theorem opensB_int {t : TypeId} {k : IntKind} {n : Nat} (ht : P.underlying t = some (.int k)) : OpensB enc P w base spare held n (Kd.int k) wI t := by
  intro fuel _ cs x h
  cases fuel with
  | zero => simp [DataW.trod] at h
  | succ n =>
    unfold DataW.trod at h
    rw [ht] at h
    split at h <;> simp_all
    obtain ⟨_, rfl⟩ := h
    exact ⟨_, rfl, by simp [wI, Rows.uptoBulk]⟩
set_option maxRecDepth 100000 in
theorem opensB_attr {n : Nat} : OpensB enc Tryd.prog w base spare held n k29 wA 29 := by
  intro fuel _ cs x h
  obtain ⟨xs, m, rfl, rfl, hl, hlen, hf⟩ := DataW.trod_struct Tryd.underlying29 h
  have hl : cs.length = 2 := hl
  have f0 := hf 0 _ rfl
  have f1 := hf 1 _ rfl
  match xs, hlen, cs, hl with
  | [x0, x1], _, [c0, c1], _ =>
    obtain ⟨a0, h0, w0⟩ := opensB_string (n := m) Tryd.underlying9 _ (Nat.le_refl _) _ _ f0
    obtain ⟨a1, h1, w1⟩ := opensB_string (n := m) Tryd.underlying9 _ (Nat.le_refl _) _ _ f1
    obtain rfl : c0 = .string a0 := by injection h0
    obtain rfl : c1 = .string a1 := by injection h1
    refine ⟨⟨a0, a1⟩, k29_mk w ⟨a0, a1⟩, ?_⟩
    simp only [wA, List.map_cons, List.map_nil, Rows.uptoBulk, Rows.uptoBulkAll]
    omega
set_option maxRecDepth 100000 in
theorem opensB_node : ∀ n, OpensB enc Tryd.prog w base spare held n k25 wN 25
  | 0 => fun fuel hf cs x h => by
    obtain rfl : fuel = 0 := by omega
    simp [DataW.trod] at h
  | n + 1 => fun fuel hfu cs x h => by
    obtain ⟨xs, m, rfl, rfl, hl, hlen, hf⟩ := DataW.trod_struct Tryd.underlying25 h
    have hl : cs.length = 5 := hl
    have f0 := hf 0 _ rfl
    have f1 := hf 1 _ rfl
    have f2 := hf 2 _ rfl
    have f3 := hf 3 _ rfl
    have f4 := hf 4 _ rfl
    match xs, hlen, cs, hl with
    | [x0, x1, x2, x3, x4], _, [c0, c1, c2, c3, c4], _ =>
      obtain ⟨a0, h0, w0⟩ := opensB_int (n := m) Tryd.underlying3 _ (Nat.le_refl _) _ _ f0
      obtain ⟨a1, h1, w1⟩ := opensB_string (n := m) Tryd.underlying9 _ (Nat.le_refl _) _ _ f1
      obtain ⟨a2, h2, w2⟩ := opensB_string (n := m) Tryd.underlying9 _ (Nat.le_refl _) _ _ f2
      obtain ⟨a3, ⟨A3, e3, h3, l3, C3⟩, w3⟩ := opensB_slice (n := m) Tryd.underlying22 (by kernel_rfl) opensB_attr m (by omega) _ _ f3
      obtain ⟨a4, ⟨A4, e4, h4, l4, C4⟩, w4⟩ := opensB_slice Tryd.underlying23 (by kernel_rfl) (opensB_node n) m (by omega) _ _ f4
      obtain rfl : c0 = .int .i64 a0 := by injection h0
      obtain rfl : c1 = .string a1 := by injection h1
      obtain rfl : c2 = .string a2 := by injection h2
      obtain rfl : c3 = .slice A3 a3.length e3 := by injection h3
      obtain rfl : c4 = .slice A4 a4.length e4 := by injection h4
      refine ⟨⟨a0, a1, a2, a3, a4⟩, k25_mk w ⟨a0, a1, a2, a3, a4⟩ l3 C3 l4 C4, ?_⟩
      rw [wN, wNs_sum]
      simp only [List.map_cons, List.map_nil, Rows.uptoBulk, Rows.uptoBulkAll]
      simp only [wI, wL] at w0 w3 w4 ⊢
      omega
/-- A tree that came in. -/
theorem open_nodeB {cs : Array Value} {x : DataW H} {ps : List MemPlace} (h : DataW.Trod enc Tryd.prog w base spare held 25 (.agg cs) x ps) :
    ∃ (y : S25) (A3 A4 : Option Addr) (c3 c4 : Nat), cs = #[.int .i64 y.f0, .string y.f1, .string y.f2, .slice A3 y.f3.length c3, .slice A4 y.f4.length c4] ∧ k29.C w A3 y.f3.length y.f3 ∧ y.f3.length ≤ c3 ∧ k25.C w A4 y.f4.length y.f4 ∧ y.f4.length ≤ c4 ∧ wN y ≤ Rows.uptoBulk x := by
  obtain ⟨fuel, hf⟩ := h
  obtain ⟨y, hy, hw⟩ := opensB_node fuel fuel (Nat.le_refl _) _ _ hf
  obtain ⟨A3, c3, A4, c4, he, l3, g3, l4, g4⟩ := k25_open hy
  refine ⟨y, A3, A4, c3, c4, ?_, g3, l3, g4, l4, hw⟩
  have : cs.toList = _ := he
  rw [← Array.toArray_toList (xs := cs), this]
/-- A row of strings that came in. -/
theorem open_strsB {t e : TypeId} (ht : P.underlying t = some (.slice e)) (hc : P.cellsOf e = 1) (hs : P.underlying e = some .string) {A : Option Addr} {n c : Nat} {x : DataW H} {ps : List MemPlace}
    (h : DataW.Trod enc P w base spare held t (.slice A n c) x ps) : ∃ xs : List ByteArray, xs.length = n ∧ xs.length ≤ c ∧ Kd.C Kd.string w A xs.length xs ∧ wL wS xs ≤ Rows.uptoBulk x := by
  obtain ⟨fuel, hf⟩ := h
  obtain ⟨xs, ⟨A', c', hcs, hl, hC⟩, hw⟩ := opensB_slice (n := fuel) (d := Kd.string) ht hc (opensB_string hs) fuel (by omega) _ _ hf
  simp only [Value.cells] at hcs
  injection hcs with hcs _
  injection hcs with h1 h2 h3
  subst h1 h3
  exact ⟨xs, h2.symm, hl, hC, hw⟩
end
end Go.Proofs.YtlallihdiffheaaDoor.Hand
