/- laws.changes29 by hand: the reference of changes. -/
import Derived.Test.YtnhcocjdkmelhaaChMods
import Derived.Deep.RegionHeld3
import Derived.Laws.AppendOwn
namespace Go.Proofs.Ytnhcocjdkmelhaa.Hand
open Go.RowKit Go.Proofs.YtnhcocjdkmelhaaW.PrintWords Go.Proofs.YtnhcocjdkmelhaaW.PrintLast Go.Proofs.YtnhcocjdkmelhaaW.PrintMore
set_option linter.unusedVariables false

/-- A cell that is a text. -/
def DS (w : World) (v : Value) (s : ByteArray) : Prop := v = .string s
theorem DS_kp (w w1 : World) (x : Value) (s : ByteArray) (h : Kp 9 28 w w1) (hd : DS w x s) : DS w1 x s := hd
theorem Cells.strs {w : World} {ws : List Value} {ss : List ByteArray} (h : Cells DS w ws ss) (hl : ws.length = ss.length) : ws = ss.map Value.string := by
  apply List.ext_getElem?
  intro j
  rw [List.getElem?_map]
  by_cases hj : j < ss.length
  · have h1 := h j _ _ (List.getElem?_eq_getElem (by omega)) (List.getElem?_eq_getElem hj)
    rw [List.getElem?_eq_getElem (by omega), List.getElem?_eq_getElem hj, h1]
    rfl
  · rw [List.getElem?_eq_none (by omega), List.getElem?_eq_none (by omega)]
    rfl
theorem cells_strs (w : World) (ss : List ByteArray) : Cells DS w (ss.map Value.string) ss := by
  intro j x s h1 h2
  rw [List.getElem?_map, h2] at h1
  exact (Option.some.inj h1).symm
section
variable {P : Program}
/-- append of a row that lies anywhere onto a row of one's own, one cell an element. -/
theorem append_many (w : World) (base : Nat) (t ty e : TypeId) (i : TypeInfo) (z : Value) (bytes : Nat) (ht : P.underlying t = some (.slice e)) (hi : P.info? e = some i) (hz : i.zero = some z)
    (hsize : i.size = 1) (hby : i.bytes = bytes) (hzs : z.cells.size = 1) (v : Value) (n : Nat) (xs : List Value) (hown : w.ownsRow base e 1 v n xs)
    (A : Option Addr) (m c : Nat) (news : List Value) (hl : news.length = m) (hA : 0 < m → ∃ ad, A = some ad ∧ ∀ j u, news[j]? = some u → w.cell? (ad.add j) = some u) (h1 : ∀ u ∈ news, u.oneCell' = true)
    (hbytes : (n + m) * bytes ≤ 140737488355328) (hm : n + m ≤ 140737488355328) (hbase : base ≤ w.heap.size) :
    ∃ v' w', (Builtin.append_ #[t, t] ty #[v, .slice A m c]).run P w = .ok v' w' ∧ w'.ownsRow base e 1 v' (n + m) (xs ++ news) ∧ w.grownBy w' v.ownBlock ∧ (v'.ownBlock = v.ownBlock ∨ ∃ b, v'.ownBlock = some b ∧ w.heap.size ≤ b) := by
  by_cases h0 : m = 0
  · subst h0
    obtain rfl : news = [] := List.eq_nil_of_length_eq_zero hl
    rw [List.append_nil, Nat.add_zero]
    obtain ⟨A', c', rfl⟩ := own_slice hown
    refine ⟨_, w, ?_, hown, ⟨rfl, rfl, rfl, Nat.le_refl _, fun _ _ _ => rfl⟩, .inl rfl⟩
    have hc : n ≤ c' := by
      rcases hown.2 with ⟨hv, hn⟩ | ⟨g, cap, cur, hv, _, _, hc, _⟩
      · injection hv with _ _ hv
        omega
      · injection hv with _ _ hv
        omega
    cases A <;> cases A' <;> simp [Builtin.append_, run_underlying ht, sizeOf, typeInfo, hi, Builtin.lenOf, Builtin.firstCells, loadCells, loadCellsFrom, storeCells, hc]
  · obtain ⟨ad, rfl, hnews⟩ := hA (by omega)
    subst hby
    have hl1 : news.length = m * i.size := by rw [hl, hsize, Nat.mul_one]
    have hlen : (xs ++ news).length = n + m := by rw [List.length_append, hown.1, hl, Nat.mul_one]
    have new : ∀ old, old < n + m → ∀ row : Option Nat,
        (w.drew.alloc (.cells (xs.toArray ++ news.toArray ++ Builtin.zeroCells z.cells (grownCap w (n + m) old e - (n + m))) e)).ownsRow base e 1 (.slice (some ⟨w.heap.size, 0, none⟩) (n + m) (grownCap w (n + m) old e)) (n + m) (xs ++ news) ∧
        w.grownBy (w.drew.alloc (.cells (xs.toArray ++ news.toArray ++ Builtin.zeroCells z.cells (grownCap w (n + m) old e - (n + m))) e)) row := by
      intro old hold row
      have hge := grownCap_ge w (n + m) old e
      refine ⟨⟨by rw [Nat.mul_one]; exact hlen, .inr ⟨w.heap.size, _, _, rfl, hbase, heap_alloc_new w.drew _, hge, grownCap_le_maxLen w (n + m) old e (by simp only [maxLen]; omega), ?_, ?_⟩⟩, ⟨rfl, rfl, rfl, by simp, fun k hk _ => Below.heap_alloc w.drew _ k hk⟩⟩
      · have h2 : xs.toArray.size + news.toArray.size = n + m := by simpa using hlen
        rw [Array.size_append, Array.size_append, h2, size_zeroCells, hzs]
        omega
      · rw [Array.toList_append, Array.toList_append, Nat.mul_one]
        show List.take _ ((xs ++ news) ++ _) = _
        rw [← hlen]
        exact List.take_left
    rcases hown.2 with ⟨rfl, rfl⟩ | ⟨g, cap, cur, rfl, hbg, hg, hnc, hcm, hcs, htake⟩
    · obtain rfl : xs = [] := List.eq_nil_of_length_eq_zero (by simpa using hown.1)
      have hr := run_append_nil (P := P) w t ty e i z ht hi hz ad m c news hl1 hnews (by omega) (by omega) (by have hb := hbytes; simp only [Nat.zero_add] at hb; omega)
      have hn := new 0 (by omega) (Value.ownBlock (.slice none 0 0))
      simp only [Nat.zero_add, List.nil_append, Array.empty_append] at hn ⊢
      exact ⟨_, _, hr, hn.1, hn.2, .inr ⟨_, rfl, Nat.le_refl _⟩⟩
    · by_cases hroom : n + m ≤ cap
      · have hfit : n * i.size + news.length ≤ cur.size := by rw [hl, hcs, hsize]; omega
        have hr := run_append_room (P := P) w t ty e i ht hi g n cap cur hg ad m c news hl1 hnews h1 hroom hfit
        refine ⟨_, _, hr, ⟨by rw [Nat.mul_one]; exact hlen, .inr ⟨g, cap, _, rfl, hbg, setRow_heap w g cur _ e _ hg, hroom, hcm, ?_, ?_⟩⟩, ⟨rfl, rfl, rfl, by simp, fun k _ hk => setRow_other w g k _ (fun e => hk (by simp [Value.ownBlock, e]))⟩, .inl rfl⟩
        · simp only [List.size_toArray, List.length_append, List.length_take, List.length_drop, Array.length_toList, hsize]
          rw [hsize] at hfit
          omega
        · rw [hsize, htake, Nat.mul_one, ← hlen]
          exact List.take_left
      · have holds : ∀ j u, xs[j]? = some u → w.cell? ((⟨g, 0, none⟩ : Addr).add j) = some u := hown.cells (g := g) rfl
        have hr := run_append_grow (P := P) w t ty e i z ht hi hz ⟨g, 0, none⟩ n cap xs (by rw [hown.1, hsize]) holds ad m c news hl1 hnews (by omega) (by omega) (growslice_fits (by omega) hbytes)
        have hn := new cap (by omega) (Value.ownBlock (.slice (some ⟨g, 0, none⟩) n cap))
        exact ⟨_, _, hr, hn.1, hn.2, .inr ⟨_, rfl, Nat.le_refl _⟩⟩
variable {ops : Array Oper} {o : Oper} {a : Act} {Q : Exit → Act → World → Prop} {K : Act → World → Prop}
theorem wp_append_many {W : World} (base : Nat) (s x : Operand) (t e : TypeId) (z : Value) (bytes : Nat) (ho : o.op = .call { callee := .builtin .append, args := #[s, x], argTypes := #[t, t] })
    (ht : P.underlying t = some (.slice e)) (hinfo : (P.info? e).map (fun i => (i.zero, i.size, i.bytes)) = some (some z, 1, bytes)) (hz : z.cells.size = 1)
    (v : Value) (n : Nat) (xs : List Value) (A : Option Addr) (m c : Nat) (news : List Value) (hs : a.eval s = v) (hx : a.eval x = .slice A m c) (hl : news.length = m) (hA : 0 < m → ∃ ad, A = some ad ∧ ∀ j u, news[j]? = some u → W.cell? (ad.add j) = some u) (h1 : ∀ u ∈ news, u.oneCell' = true)
    (HO : W.ownsRow base e 1 v n xs) (hbase : base ≤ W.heap.size) (hbytes : (n + m) * bytes ≤ 140737488355328) (hm : n + m ≤ 140737488355328)
    (h : ∀ v1 w1, w1.ownsRow base e 1 v1 (n + m) (xs ++ news) → W.grownBy w1 v.ownBlock → (v1.ownBlock = v.ownBlock ∨ ∃ b, v1.ownBlock = some b ∧ W.heap.size ≤ b) → K (a.put o.dst v1) w1) : Oper.wp P o a W K Q := by
  obtain ⟨i0, hi, hzz⟩ := Option.map_eq_some_iff.1 hinfo
  simp only [Prod.mk.injEq] at hzz
  obtain ⟨hz0, hz1, hz2⟩ := hzz
  obtain ⟨v1, w1, hr, hown, hg, hat⟩ := append_many (P := P) W base t o.type e i0 z bytes ht hi hz0 hz1 hz2 hz v n xs HO A m c news hl hA h1 hbytes hm hbase
  unfold Oper.wp execOp
  simp only [ho, resolve, invoke, builtin, Sem.run_bind, Sem.run_pure, Result.andThen_ok, List.map_toArray, List.map_cons, List.map_nil, hs, hx, hr]
  exact h v1 w1 hown hg hat
theorem step_append_many {W : World} (hw : Region.wanted o (yielded ops a.tmps) = true) (base : Nat) (s x : Operand) (t e : TypeId) (z : Value) (bytes : Nat) (ho : o.op = .call { callee := .builtin .append, args := #[s, x], argTypes := #[t, t] })
    (ht : P.underlying t = some (.slice e)) (hinfo : (P.info? e).map (fun i => (i.zero, i.size, i.bytes)) = some (some z, 1, bytes)) (hz : z.cells.size = 1)
    (v : Value) (n : Nat) (xs : List Value) (A : Option Addr) (m c : Nat) (news : List Value) (hs : a.eval s = v) (hx : a.eval x = .slice A m c) (hl : news.length = m) (hA : 0 < m → ∃ ad, A = some ad ∧ ∀ j u, news[j]? = some u → W.cell? (ad.add j) = some u) (h1 : ∀ u ∈ news, u.oneCell' = true)
    (HO : W.ownsRow base e 1 v n xs) (hbase : base ≤ W.heap.size) (hbytes : (n + m) * bytes ≤ 140737488355328) (hm : n + m ≤ 140737488355328)
    (h : ∀ v1 w1, w1.ownsRow base e 1 v1 (n + m) (xs ++ news) → W.grownBy w1 v.ownBlock → (v1.ownBlock = v.ownBlock ∨ ∃ b, v1.ownBlock = some b ∧ W.heap.size ≤ b) → K (a.put o.dst v1) w1) :
    if Region.wanted o (yielded ops a.tmps) = true then Oper.wp P o a W K Q else K (a.put o.dst undef) W := by
  rw [if_pos hw]
  exact wp_append_many base s x t e z bytes ho ht hinfo hz v n xs A m c news hs hx hl hA h1 HO hbase hbytes hm h
theorem wpList_append_many {rest : List Oper} {W : World} (hgd : o.guard = none) (base : Nat) (s x : Operand) (t e : TypeId) (z : Value) (bytes : Nat) (ho : o.op = .call { callee := .builtin .append, args := #[s, x], argTypes := #[t, t] })
    (ht : P.underlying t = some (.slice e)) (hinfo : (P.info? e).map (fun i => (i.zero, i.size, i.bytes)) = some (some z, 1, bytes)) (hz : z.cells.size = 1)
    (v : Value) (n : Nat) (xs : List Value) (A : Option Addr) (m c : Nat) (news : List Value) (hs : a.eval s = v) (hx : a.eval x = .slice A m c) (hl : news.length = m) (hA : 0 < m → ∃ ad, A = some ad ∧ ∀ j u, news[j]? = some u → W.cell? (ad.add j) = some u) (h1 : ∀ u ∈ news, u.oneCell' = true)
    (HO : W.ownsRow base e 1 v n xs) (hbase : base ≤ W.heap.size) (hbytes : (n + m) * bytes ≤ 140737488355328) (hm : n + m ≤ 140737488355328)
    (h : ∀ v1 w1, w1.ownsRow base e 1 v1 (n + m) (xs ++ news) → W.grownBy w1 v.ownBlock → (v1.ownBlock = v.ownBlock ∨ ∃ b, v1.ownBlock = some b ∧ W.heap.size ≤ b) → wpList P ops Q rest (a.put o.dst v1) w1) : wpList P ops Q (o :: rest) a W :=
  wpList_plain hgd fun K hK => wp_append_many base s x t e z bytes ho ht hinfo hz v n xs A m c news hs hx hl hA h1 HO hbase hbytes hm fun v1 w1 h2 h3 h4 => hK _ _ (h v1 w1 h2 h3 h4)
end
theorem infoStr : (Try.prog.info? 9).map (fun i => (i.zero, i.size, i.bytes)) = some (some (.string ⟨#[]⟩), 1, 16) := by kernel_rfl
theorem infoStrs : (Try.prog.info? 28).map (fun i => (i.zero, i.size, i.bytes)) = some (some (.slice none 0 0), 1, 24) := by kernel_rfl
theorem StrRow.cells {w : World} {A : Option Addr} {ss : List ByteArray} (h : StrRow w A ss) : 0 < ss.length → ∃ ad, A = some ad ∧ ∀ j u, (ss.map Value.string)[j]? = some u → w.cell? (ad.add j) = some u := by
  intro h0
  obtain ⟨ad, e, hc⟩ := h h0
  refine ⟨ad, e, fun j u hj => ?_⟩
  rw [List.getElem?_map, Option.map_eq_some_iff] at hj
  obtain ⟨s, hs, rfl⟩ := hj
  exact hc j s hs
theorem strs_one (ss : List ByteArray) : ∀ u ∈ ss.map Value.string, u.oneCell' = true := by
  intro u hu
  obtain ⟨s, _, rfl⟩ := List.mem_map.1 hu
  rfl
/-- An empty block is an empty row of one's own. -/
theorem own_empty {w : World} {base k : Nat} {e : TypeId} (h : w.heap[k]? = some (.cells #[] e (0, 0))) (hb : base ≤ k) : w.ownsRow base e 1 (.slice (some ⟨k, 0, none⟩) 0 0) 0 [] :=
  ⟨rfl, .inr ⟨k, 0, #[], rfl, hb, h, Nat.le_refl _, by simp [maxLen], rfl, rfl⟩⟩
end Go.Proofs.Ytnhcocjdkmelhaa.Hand
