/- append of one struct onto a row of one's own, with a finer bound on its size: what Go's own growth asks, and no more. -/
import Derived.Test.YtlallihdiffheaaDoorHB
namespace Go.Proofs.YtlallihdiffheaaDoor.Hand
open Go.RowKit Go.Proofs.YtlallihdiffheaaDoorW.PrintWords
set_option linter.unusedVariables false

theorem growBy_fine (n : Nat) : ∀ (r c : Nat), c ≤ n + (n + 768) / 4 → Builtin.growBy n r c ≤ n + (n + 768) / 4
  | 0, c, h => h
  | r + 1, c, h => by
    rw [Builtin.growBy]
    split
    · exact h
    · exact growBy_fine n r _ (by omega)
/-- Go's next capacity is at most a quarter more than what is asked, and 192. -/
theorem next_fine (n c : Nat) (h : c < n) : Builtin.nextslicecap n c ≤ n + (n + 768) / 4 := by
  unfold Builtin.nextslicecap
  split
  · omega
  · split
    · omega
    · exact growBy_fine n 4 c (by omega)
section
variable {P : Program}
/-- append onto an own row: Go's growth fits (up to 2^42 elements of 48 bytes). -/
theorem append_fine (w : World) (base : Nat) (t ty e : TypeId) (i : TypeInfo) (z : Value) (size bytes : Nat) (ht : P.underlying t = some (.slice e)) (hi : P.info? e = some i) (hz : i.zero = some z)
    (hsize : i.size = size) (hby : i.bytes = bytes) (hzs : z.cells.size = size) (v : Value) (n : Nat) (xs : List Value) (hown : w.ownsRow base e size v n xs)
    (a : Addr) (c : Nat) (news : List Value) (hl : news.length = size) (hnews : ∀ j u, news[j]? = some u → w.cell? (a.add j) = some u) (h1 : ∀ u ∈ news, u.oneCell' = true)
    (h63 : n + 1 ≤ maxLen) (hbytes : (n + 1 + (n + 1 + 768) / 4) * bytes ≤ 281474976710656) (hbase : base ≤ w.heap.size) :
    ∃ v' w', (Builtin.append_ #[t, t] ty #[v, .slice (some a) 1 c]).run P w = .ok v' w' ∧ w'.ownsRow base e size v' (n + 1) (xs ++ news) ∧ w.grownBy w' v.ownBlock ∧ (v'.ownBlock = v.ownBlock ∨ v'.ownBlock = some w.heap.size) := by
  subst hsize hby
  have hl1 : news.length = 1 * i.size := by rw [hl, Nat.one_mul]
  have hlen : (xs ++ news).length = (n + 1) * i.size := by rw [List.length_append, hown.1, hl, Nat.add_mul, Nat.one_mul]
  have h63' : n + 1 ≤ 9223372036854775807 := by simp only [maxLen] at h63; omega
  -- what a new row holds
  have new : ∀ old, old < n + 1 → ∀ row : Option Nat,
      (w.drew.alloc (.cells (xs.toArray ++ news.toArray ++ Builtin.zeroCells z.cells (grownCap w (n + 1) old e - (n + 1))) e)).ownsRow base e i.size (.slice (some ⟨w.heap.size, 0, none⟩) (n + 1) (grownCap w (n + 1) old e)) (n + 1) (xs ++ news) ∧
      w.grownBy (w.drew.alloc (.cells (xs.toArray ++ news.toArray ++ Builtin.zeroCells z.cells (grownCap w (n + 1) old e - (n + 1))) e)) row := by
    intro old hold row
    have hge := grownCap_ge w (n + 1) old e
    refine ⟨⟨hlen, .inr ⟨w.heap.size, _, _, rfl, hbase, heap_alloc_new w.drew _, hge, grownCap_le_maxLen w (n + 1) old e h63, ?_, ?_⟩⟩, ⟨rfl, rfl, rfl, by simp, fun k hk _ => Below.heap_alloc w.drew _ k hk⟩⟩
    · have h2 : xs.toArray.size + news.toArray.size = (n + 1) * i.size := by simpa using hlen
      rw [Array.size_append, Array.size_append, h2, size_zeroCells, hzs, ← Nat.add_mul]
      congr 1
      omega
    · rw [Array.toList_append, Array.toList_append]
      show List.take _ ((xs ++ news) ++ _) = _
      rw [← hlen]
      exact List.take_left
  have fits : ∀ old, old < n + 1 → Builtin.nextslicecap (n + 1) old * i.bytes ≤ 281474976710656 := fun old ho =>
    Nat.le_trans (Nat.mul_le_mul_right _ (next_fine (n + 1) old ho)) hbytes
  rcases hown.2 with ⟨rfl, rfl⟩ | ⟨g, cap, cur, rfl, hbg, hg, hnc, hcm, hcs, htake⟩
  · obtain rfl : xs = [] := List.eq_nil_of_length_eq_zero (by simpa using hown.1)
    have hr := run_append_nil (P := P) w t ty e i z ht hi hz a 1 c news hl1 hnews (by omega) (by omega) (by omega)
    have hn := new 0 (by omega) (Value.ownBlock (.slice none 0 0))
    simp only [Nat.zero_add, List.nil_append, Array.empty_append] at hn ⊢
    exact ⟨_, _, hr, hn.1, hn.2, .inr rfl⟩
  · by_cases hroom : n + 1 ≤ cap
    · have hfit : n * i.size + news.length ≤ cur.size := by
        have := Nat.mul_le_mul_right i.size hroom
        rw [Nat.add_mul, Nat.one_mul] at this
        omega
      have hr := run_append_room (P := P) w t ty e i ht hi g n cap cur hg a 1 c news hl1 hnews h1 hroom hfit
      refine ⟨_, _, hr, ⟨hlen, .inr ⟨g, cap, _, rfl, hbg, setRow_heap w g cur _ e _ hg, hroom, hcm, ?_, ?_⟩⟩, ⟨rfl, rfl, rfl, by simp, fun k _ hk => setRow_other w g k _ (fun e => hk (by simp [Value.ownBlock, e]))⟩, .inl rfl⟩
      · simp only [List.size_toArray, List.length_append, List.length_take, List.length_drop, Array.length_toList]
        omega
      · rw [htake, ← hlen]
        exact List.take_left
    · have hr := run_append_grow (P := P) w t ty e i z ht hi hz ⟨g, 0, none⟩ n cap xs hown.1 (hown.cells (g := g) rfl) a 1 c news hl1 hnews (by omega) (by omega) (fits cap (by omega))
      have hn := new cap (by omega) (Value.ownBlock (.slice (some ⟨g, 0, none⟩) n cap))
      exact ⟨_, _, hr, hn.1, hn.2, .inr rfl⟩
variable {ops : Array Oper} {o : Oper} {a : Act} {Q : Exit → Act → World → Prop} {K : Act → World → Prop}
/-- As the kit's 'step_append_cells', with the finer bound. -/
theorem step_append_fine {w0 W : World} (base : Nat) (hw : Region.wanted o (yielded ops a.tmps) = true) (s x : Operand) (t e : TypeId) (z : Value) (size bytes : Nat)
    (ho : o.op = .call { callee := .builtin .append, args := #[s, x], argTypes := #[t, t] })
    (ht : P.underlying t = some (.slice e)) (hinfo : (P.info? e).map (fun i => (i.zero, i.size, i.bytes)) = some (some z, size, bytes)) (hz : z.cells.size = size)
    (v : Value) (n : Nat) (xs ys : List Value) (hs : a.eval s = v) (hx : a.eval x = .slice (some ⟨W.heap.size, 0, none⟩) 1 1) (hys : ys.length = size) (h1 : ∀ u ∈ ys, u.oneCell' = true)
    (HO : W.ownsRow base e size v n xs) (HB : Below base w0 W) (hbase : base ≤ W.heap.size) (hm : n + 1 ≤ 9223372036854775) (hl : (n + 1 + (n + 1 + 768) / 4) * bytes ≤ 281474976710656)
    (h : ∀ v1 w1, w1.ownsRow base e size v1 (n + 1) (xs ++ ys) → Below base w0 w1 → W.grownBy w1 v.ownBlock → (v1.ownBlock = v.ownBlock ∨ ∃ b, v1.ownBlock = some b ∧ W.heap.size ≤ b) → K (a.put o.dst v1) w1) :
    if Region.wanted o (yielded ops a.tmps) = true then Oper.wp P o a (W.alloc (.cells ys.toArray e)) K Q else K (a.put o.dst undef) (W.alloc (.cells ys.toArray e)) := by
  obtain ⟨i0, hi, hzz⟩ := Option.map_eq_some_iff.1 hinfo
  simp only [Prod.mk.injEq] at hzz
  obtain ⟨hz0, hz1, hz2⟩ := hzz
  rw [if_pos hw]
  obtain ⟨v1, w1, hr, hown, hg, hat⟩ := append_fine (P := P) (W.alloc (.cells ys.toArray e)) base t o.type e i0 z size bytes ht hi hz0 hz1 hz2 hz v n xs (HO.alloc _) ⟨W.heap.size, 0, none⟩ 1 ys hys
    (by simpa using World.news_of_block (cs := ys.toArray) (t := e) (fr := (0, 0)) (heap_alloc_new W (.cells ys.toArray e))) h1 (by simp only [maxLen]; omega) hl (by simp; omega)
  unfold Oper.wp execOp
  simp only [ho, resolve, invoke, builtin, Sem.run_bind, Sem.run_pure, Result.andThen_ok, List.map_toArray, List.map_cons, List.map_nil, hs, hx, hr]
  refine h v1 w1 hown ((HB.alloc hbase _).grown hg (by simp; omega) (own_base HO)) (World.grownBy.trans (World.grownBy_alloc W _ _) hg) ?_
  rcases hat with hat | hat
  · exact .inl hat
  · exact .inr ⟨_, hat, by simp⟩
/-- The same where the order isn't drawn. -/
theorem wpList_append_one {rest : List Oper} {W : World} (hgd : o.guard = none) (base : Nat) (s x : Operand) (t e : TypeId) (z : Value) (size bytes : Nat)
    (ho : o.op = .call { callee := .builtin .append, args := #[s, x], argTypes := #[t, t] })
    (ht : P.underlying t = some (.slice e)) (hinfo : (P.info? e).map (fun i => (i.zero, i.size, i.bytes)) = some (some z, size, bytes)) (hz : z.cells.size = size)
    (v : Value) (n : Nat) (xs ys : List Value) (hs : a.eval s = v) (hx : a.eval x = .slice (some ⟨W.heap.size, 0, none⟩) 1 1) (hys : ys.length = size) (h1 : ∀ u ∈ ys, u.oneCell' = true)
    (HO : W.ownsRow base e size v n xs) (hbase : base ≤ W.heap.size) (hm : n + 1 ≤ 9223372036854775) (hl : (n + 1 + (n + 1 + 768) / 4) * bytes ≤ 281474976710656)
    (h : ∀ v1 w1, w1.ownsRow base e size v1 (n + 1) (xs ++ ys) → W.grownBy w1 v.ownBlock → (v1.ownBlock = v.ownBlock ∨ ∃ b, v1.ownBlock = some b ∧ W.heap.size ≤ b) → wpList P ops Q rest (a.put o.dst v1) w1) :
    wpList P ops Q (o :: rest) a (W.alloc (.cells ys.toArray e)) := by
  obtain ⟨i0, hi, hzz⟩ := Option.map_eq_some_iff.1 hinfo
  simp only [Prod.mk.injEq] at hzz
  obtain ⟨hz0, hz1, hz2⟩ := hzz
  refine wpList_plain hgd fun K hK => ?_
  obtain ⟨v1, w1, hr, hown, hg, hat⟩ := append_fine (P := P) (W.alloc (.cells ys.toArray e)) base t o.type e i0 z size bytes ht hi hz0 hz1 hz2 hz v n xs (HO.alloc _) ⟨W.heap.size, 0, none⟩ 1 ys hys
    (by simpa using World.news_of_block (cs := ys.toArray) (t := e) (fr := (0, 0)) (heap_alloc_new W (.cells ys.toArray e))) h1 (by simp only [maxLen]; omega) hl (by simp; omega)
  unfold Oper.wp execOp
  simp only [ho, resolve, invoke, builtin, Sem.run_bind, Sem.run_pure, Result.andThen_ok, List.map_toArray, List.map_cons, List.map_nil, hs, hx, hr]
  refine hK _ _ (h v1 w1 hown (World.grownBy.trans (World.grownBy_alloc W _ _) hg) ?_)
  rcases hat with hat | hat
  · exact .inl hat
  · exact .inr ⟨_, hat, by simp⟩
end
end Go.Proofs.YtlallihdiffheaaDoor.Hand
