/- An argument that is a tree (impl.Node), as the printed texts read it, and how large its lists are. -/
import Derived.Test.YtlallihdiffheaaDoorOpen
import Derived.Test.YtlallihdiffheaaDoorTree29
namespace Go.Proofs.YtlallihdiffheaaDoor.Hand
open Go.RowKit Go.Proofs.YtlallihdiffheaaDoorW.PrintWords Go.Proofs.YtlallihdiffheaaDoor.GT Go.ChangeShapes Go.WideShapes
set_option linter.unusedVariables false

theorem weightsAll_mem {H : Type} {P : Program} {e : TypeId} : ∀ {ds : List (DataW H)} {j : Nat} {d : DataW H}, ds[j]? = some d → ∀ m ∈ d.weights P e, m ∈ DataW.weightsAll P e ds
  | [], j, d, h, m, hm => by simp at h
  | d0 :: r, 0, d, h, m, hm => by
    simp only [List.getElem?_cons_zero, Option.some.injEq] at h
    subst h
    simp only [DataW.weightsAll, List.mem_append]
    exact .inl hm
  | d0 :: r, j + 1, d, h, m, hm => by
    rw [List.getElem?_cons_succ] at h
    simp only [DataW.weightsAll, List.mem_append]
    exact .inr (weightsAll_mem h m hm)
section
variable {H : Type} {enc : TypeId × Value → H} {w : World} {base : Nat} {spare : Nat → Bool} {held : Bool}
/-- As 'Opens', so many steps deep, of data within reach: and what is known of them. -/
def OpensW (enc : TypeId × Value → H) (P : Program) (w : World) (base : Nat) (spare : Nat → Bool) (held : Bool) {α : Type} (n : Nat) (d : Kd α) (t : TypeId) (Q : α → Prop) : Prop :=
  ∀ (fuel : Nat), fuel ≤ n → ∀ (cs : List Value) (x : DataW H × List MemPlace), DataW.trod enc P w base spare held fuel t cs = some x → (∀ m ∈ x.1.weights P t, m ≤ reachBytes) → ∃ a : α, d.K w a cs ∧ Q a
theorem opensW_slice {P : Program} {α : Type} {d : Kd α} {t e : TypeId} {n : Nat} {Q : α → Prop} (ht : P.underlying t = some (.slice e)) (hc : P.cellsOf e = d.sz) (he : OpensW enc P w base spare held n d e Q) :
    OpensW enc P w base spare held (n + 1) (Kd.slice e d) t (fun l => l.length * P.bytesOf e ≤ reachBytes ∧ ∀ y ∈ l, Q y) := by
  intro fuel hfu cs x h hw
  rcases DataW.trod_slice ht h with ⟨rfl, _⟩ | ⟨a, len, cap, elems, rest, m, rfl, rfl, rfl, hb, hl, hm, hlen, hel, _, _⟩
  · exact ⟨[], ⟨none, 0, rfl, Nat.le_refl _, rfl, by simp, fun h => absurd h (by simp)⟩, by simp, fun y hy => by cases hy⟩
  · simp only [DataW.weights, ht, List.mem_cons, List.mem_append, List.length_map] at hw
    have each : ∀ i, i < len → ∃ y : α, ∃ c : List Value, c.length = d.sz ∧ d.K w y c ∧ Q y ∧ ∀ j u, c[j]? = some u → w.cell? (a.add (i * d.sz + j)) = some u := by
      intro i hi
      have h1 := hel i hi
      rw [List.getElem?_eq_getElem (by omega)] at h1
      obtain ⟨c, hcs, hct⟩ := Option.bind_eq_some_iff.1 h1
      obtain ⟨y, hy, hq⟩ := he _ (by omega) _ _ hct (fun m hm => hw m (.inr (.inl (weightsAll_mem (j := i) (by rw [List.getElem?_map, List.getElem?_eq_getElem (by omega)]; rfl) m hm))))
      have h2 := World.cells?_some hcs
      refine ⟨y, c, d.K_len hy, hy, hq, fun j u hj => ?_⟩
      have hjl := (List.getElem?_eq_some_iff.1 hj).1
      rw [← add_add, ← hc, h2.2.2 j (by omega), hj]
    refine ⟨List.ofFn (fun i : Fin len => Classical.choose (each i.1 i.2)), ⟨some a, cap, by rw [List.length_ofFn], by rw [List.length_ofFn]; exact hl, rfl, ?_, fun _ => ⟨a, rfl, fun j p hj => ?_⟩⟩, ?_, fun y hy => ?_⟩
    · rw [List.length_ofFn]
      simp only [maxLen] at hm
      omega
    · have hjl : j < len := by
        have := (List.getElem?_eq_some_iff.1 hj).1
        rwa [List.length_ofFn] at this
      have hp : Classical.choose (each j hjl) = p := by
        have h1 := (List.getElem?_eq_some_iff.1 hj).2
        rwa [List.getElem_ofFn] at h1
      have hs := Classical.choose_spec (each j hjl)
      rw [hp] at hs
      obtain ⟨c, h1, h2, _, h3⟩ := hs
      exact ⟨c, h1, h2, h3⟩
    · rw [List.length_ofFn, ← hlen]
      exact Nat.le_trans (Nat.mul_le_mul_right _ (Nat.le_add_right _ _)) (hw _ (.inl rfl))
    · obtain ⟨i, rfl⟩ := List.mem_ofFn.1 hy
      obtain ⟨c, _, _, hq, _⟩ := Classical.choose_spec (each i.1 i.2)
      exact hq
set_option maxRecDepth 100000 in
theorem opensW_attr {n : Nat} : OpensW enc Tryd.prog w base spare held n k29 29 (fun _ => True) := by
  intro fuel hfu cs x h _
  obtain ⟨xs, m, rfl, rfl, hl, hlen, hf⟩ := DataW.trod_struct Tryd.underlying29 h
  have hl : cs.length = 2 := hl
  have f0 := hf 0 _ rfl
  have f1 := hf 1 _ rfl
  match xs, hlen, cs, hl with
  | [x0, x1], _, [c0, c1], _ =>
    obtain ⟨a0, h0⟩ := opens_string Tryd.underlying9 _ _ _ f0
    obtain ⟨a1, h1⟩ := opens_string Tryd.underlying9 _ _ _ f1
    obtain rfl : c0 = .string a0 := by injection h0
    obtain rfl : c1 = .string a1 := by injection h1
    exact ⟨⟨a0, a1⟩, k29_mk w ⟨a0, a1⟩, trivial⟩
theorem bytesAttr : Tryd.prog.bytesOf 29 = 32 := by kernel_rfl
theorem bytesNode : Tryd.prog.bytesOf 25 = 88 := by kernel_rfl
set_option maxRecDepth 100000 in
theorem opensW_node : ∀ n, OpensW enc Tryd.prog w base spare held n k25 25 OkT
  | 0 => fun fuel hf cs x h _ => by
    obtain rfl : fuel = 0 := by omega
    simp [DataW.trod] at h
  | n + 1 => fun fuel hfu cs x h hw => by
    obtain ⟨xs, m, rfl, rfl, hl, hlen, hf⟩ := DataW.trod_struct Tryd.underlying25 h
    have hl : cs.length = 5 := hl
    have f0 := hf 0 _ rfl
    have f1 := hf 1 _ rfl
    have f2 := hf 2 _ rfl
    have f3 := hf 3 _ rfl
    have f4 := hf 4 _ rfl
    simp only [DataW.weights, Tryd.underlying25] at hw
    match xs, hlen, cs, hl with
    | [x0, x1, x2, x3, x4], _, [c0, c1, c2, c3, c4], _ =>
      have w1 : ∀ m ∈ x1.1.weights Tryd.prog 9, m ≤ reachBytes := fun m hm => hw m (DataW.weights_mem_each (j := 1) rfl rfl m hm)
      have w3 : ∀ m ∈ x3.1.weights Tryd.prog 22, m ≤ reachBytes := fun m hm => hw m (DataW.weights_mem_each (j := 3) rfl rfl m hm)
      have w4 : ∀ m ∈ x4.1.weights Tryd.prog 23, m ≤ reachBytes := fun m hm => hw m (DataW.weights_mem_each (j := 4) rfl rfl m hm)
      obtain ⟨a0, h0⟩ := opens_int Tryd.underlying3 _ _ _ f0
      obtain ⟨a1, h1, hx1, _⟩ := DataW.trod_string Tryd.underlying9 f1
      obtain ⟨a2, h2⟩ := opens_string Tryd.underlying9 _ _ _ f2
      obtain ⟨a3, ⟨A3, e3, h3, l3, C3⟩, q3, _⟩ := opensW_slice (n := m) Tryd.underlying22 (by kernel_rfl) opensW_attr m (by omega) _ _ f3 w3
      obtain ⟨a4, ⟨A4, e4, h4, l4, C4⟩, q4, r4⟩ := opensW_slice Tryd.underlying23 (by kernel_rfl) (opensW_node n) m (by omega) _ _ f4 w4
      obtain rfl : c0 = .int .i64 a0 := by injection h0
      obtain rfl : c1 = .string a1 := by injection h1
      obtain rfl : c2 = .string a2 := by injection h2
      obtain rfl : c3 = .slice A3 a3.length e3 := by injection h3
      obtain rfl : c4 = .slice A4 a4.length e4 := by injection h4
      refine ⟨⟨a0, a1, a2, a3, a4⟩, k25_mk w ⟨a0, a1, a2, a3, a4⟩ l3 C3 l4 C4, .mk _ ?_ ?_ ?_ r4⟩
      · have h5 := w1 a1.data.toList.length (by rw [hx1]; simp [DataW.weights])
        have h6 := reachBytes_lt
        have h7 : a1.size = a1.data.toList.length := Array.length_toList.symm
        show a1.size ≤ _
        omega
      · rw [bytesAttr] at q3
        have h6 := reachBytes_lt
        show a3.length ≤ _
        omega
      · rw [bytesNode] at q4
        have h6 := reachBytes_lt
        show a4.length ≤ _
        omega
/-- A tree that came in. -/
theorem open_tree {cs : Array Value} {x : DataW H} {ps : List MemPlace} (h : DataW.Trod enc Tryd.prog w base spare held 25 (.agg cs) x ps) (hw : ∀ m ∈ x.weights Tryd.prog 25, m ≤ reachBytes) :
    ∃ (y : Nd) (A3 A4 : Option Addr) (c3 c4 : Nat), cs = #[.int .i64 y.f0, .string y.f1, .string y.f2, .slice A3 y.f3.length c3, .slice A4 y.f4.length c4] ∧ k29.C w A3 y.f3.length y.f3 ∧ y.f3.length ≤ c3 ∧ k25.C w A4 y.f4.length y.f4 ∧ y.f4.length ≤ c4 ∧ OkT y := by
  obtain ⟨fuel, hf⟩ := h
  obtain ⟨y, hy, hok⟩ := opensW_node fuel fuel (Nat.le_refl _) _ _ hf hw
  obtain ⟨A3, c3, A4, c4, he, l3, g3, l4, g4⟩ := k25_open hy
  refine ⟨y, A3, A4, c3, c4, ?_, g3, l3, g4, l4, hok⟩
  have : cs.toList = _ := he
  rw [← Array.toArray_toList (xs := cs), this]
end
end Go.Proofs.YtlallihdiffheaaDoor.Hand
