/- laws.tree29, spec.At29 and laws.equal29: what they answer. Plain, over the printed functions. -/
import Derived.Test.YtlallihdiffheaaDoorTree
import Derived.Test.YtlallihdiffheaaDoorGTx3
namespace Go.Proofs.YtlallihdiffheaaDoor.Hand
open Go.RowKit Go.Proofs.YtlallihdiffheaaDoor.GT Go.Proofs.YtlallihdiffheaaDoorW.PrintWords Go.Proofs.YtlallihdiffheaaDoorW.PrintLast
set_option linter.unusedVariables false

/-- A tree of any form, as memory bears it. -/
inductive OkT : Nd → Prop
  | mk (x : Nd) (h1 : x.f1.size ≤ 140737488355328) (h3 : x.f3.length ≤ 4398046511104) (h4 : x.f4.length ≤ 4398046511104) (h : ∀ y ∈ x.f4, OkT y) : OkT x
mutual
/-- So many nodes. -/
inductive Cn : Nat → Nd → Prop
  | mk (n : Nat) (x : Nd) (h : CnL n x.f4) : Cn (n + 1) x
inductive CnL : Nat → List Nd → Prop
  | nil : CnL 0 []
  | cons (m n : Nat) (y : Nd) (l : List Nd) (hy : Cn m y) (hl : CnL n l) : CnL (m + n) (y :: l)
end
theorem kids_drop (l : List Nd) (i : Nat) (h : i < l.length) : l.drop i = rd_T25 l (i : Int) :: l.drop (i + 1) := by
  rw [List.drop_eq_getElem_cons h]
  simp [rd_T25, h]
theorem kids_get (l : List Nd) (i : Nat) (h : i < l.length) : l[i]? = some (rd_T25 l (i : Int)) := by
  rw [List.getElem?_eq_getElem h]
  simp [rd_T25, h]
theorem bytes_nil {s : ByteArray} (h : s.toList = ([] : List UInt8)) : s = ⟨#[]⟩ := by
  have h2 : (⟨#[]⟩ : ByteArray).toList = [] := by decide +kernel
  have h3 := h.trans h2.symm
  rw [ByteArray.toList_eq, ByteArray.toList_eq] at h3
  exact ByteArray.ext (Array.toList_inj.1 h3)
/-! ### laws.size29 -/
theorem size_loop (x1 R : Int) (ihd : ∀ y : Nd, OkT y → ∃ r, Ev (fun k => laws_size29.f k y.f0 y.f1 y.f2 y.f3 y.f4 (wrap64 (x1 + 1))) r ∧ 1 ≤ r ∧ r ≤ R ∧ (r ≤ 300 → Cn r.toNat y)) (hR0 : 0 ≤ R) (hR : R ≤ 100000)
    (kids : List Nd) (hl : kids.length ≤ 4398046511104) (hk : ∀ y ∈ kids, OkT y) :
    ∀ (d i : Nat) (o : Int), kids.length - i = d → i ≤ kids.length → 1 ≤ o → o ≤ 300 →
      ∃ r, Ev (fun k => laws_size29.l0 k x1 o kids (kids.length : Int) (i : Int)) r ∧ 1 ≤ r ∧ r ≤ 300 + R ∧ (r ≤ 300 → ∃ n : Nat, CnL n (kids.drop i) ∧ r = o + n) := by
  intro d
  induction d with
  | zero =>
    intro i o hd hi h1 h2
    refine ⟨o, Ev.step (f := fun _ => some o) (fun k => by rw [laws_size29.l0, if_neg (by omega)]) (Ev.now o), h1, by omega, fun _ => ⟨0, ?_, by simp⟩⟩
    rw [List.drop_eq_nil_of_le (by omega)]
    exact .nil
  | succ d ih =>
    intro i o hd hi h1 h2
    have hlt : i < kids.length := by omega
    have hmem := kids_mem kids i hlt
    have hdr := kids_drop kids i hlt
    obtain ⟨ry, hy1, hy2, hy3, hy4⟩ := ihd _ (hk _ hmem)
    generalize hyy : rd_T25 kids (i : Int) = y at *
    have hw : wrap64 ((i : Int) + 1) = ((i + 1 : Nat) : Int) := by unfold wrap64; omega
    have hwo : wrap64 (o + ry) = o + ry := by unfold wrap64; omega
    have step : ∀ k, laws_size29.l0 (k + 1) x1 o kids (kids.length : Int) (i : Int) = (laws_size29.f k y.f0 y.f1 y.f2 y.f3 y.f4 (wrap64 (x1 + 1))).bind fun t => if wrap64 (o + t) > 300 then some (wrap64 (o + t)) else laws_size29.l0 k x1 (wrap64 (o + t)) kids (kids.length : Int) (wrap64 ((i : Int) + 1)) := fun k => by
      rw [laws_size29.l0, if_pos (by omega), if_pos (by omega), if_pos (by omega), hyy]
    by_cases hgt : o + ry > 300
    · refine ⟨o + ry, Ev.step step (hy1.bind ?_), by omega, by omega, fun h => by omega⟩
      simp only [hwo, if_pos hgt]
      exact Ev.now _
    · obtain ⟨r, hr1, hr2, hr3, hr4⟩ := ih (i + 1) (o + ry) (by omega) (by omega) (by omega) (by omega)
      refine ⟨r, Ev.step step (hy1.bind ?_), hr2, hr3, fun h => ?_⟩
      · simp only [hwo, if_neg hgt, hw]
        exact hr1
      · obtain ⟨n, hn1, hn2⟩ := hr4 h
        refine ⟨ry.toNat + n, ?_, by omega⟩
        rw [hdr]
        exact .cons _ _ _ _ (hy4 (by omega)) hn1
theorem size_any : ∀ d : Nat, d ≤ 61 → ∀ x : Nd, OkT x → ∃ r, Ev (fun k => laws_size29.f k x.f0 x.f1 x.f2 x.f3 x.f4 (61 - (d : Int))) r ∧ 1 ≤ r ∧ r ≤ 301 + 300 * (d : Int) ∧ (r ≤ 300 → Cn r.toNat x)
  | 0, hd, x, hx => ⟨301, Ev.step (f := fun _ => some 301) (fun k => by rw [laws_size29.f, if_pos (by omega)]) (Ev.now _), by omega, by omega, fun h => by omega⟩
  | d + 1, hd, x, hx => by
    obtain ⟨_, _, _, hl, hk⟩ := hx
    have hw : wrap64 ((61 : Int) - ((d + 1 : Nat) : Int) + 1) = 61 - (d : Int) := by unfold wrap64; omega
    obtain ⟨r, h1, h2, h3, h4⟩ := size_loop (61 - ((d + 1 : Nat) : Int)) (301 + 300 * (d : Int)) (fun y hy => by rw [hw]; exact size_any d (by omega) y hy) (by omega) (by omega) x.f4 hl hk (x.f4.length - 0) 0 1 rfl (by omega) (by omega) (by omega)
    refine ⟨r, Ev.step (fun k => by rw [laws_size29.f, if_neg (by omega)]; rfl) h1, h2, by omega, fun h => ?_⟩
    obtain ⟨n, hn1, hn2⟩ := h4 h
    have e : r.toNat = n + 1 := by omega
    rw [e]
    exact .mk _ _ (by simpa using hn1)
/-! ### laws.right29 -/
theorem name_any (s : ByteArray) (hs : s.size ≤ 140737488355328) : ∀ (d i : Nat), s.size - i = d → i ≤ s.size → ∃ r, Ev (fun k => laws_name29.l0 k s (s.size : Int) (i : Int)) r := by
  intro d
  induction d with
  | zero =>
    intro i hd hi
    exact ⟨_, Ev.step (f := fun _ => some _) (fun k => by rw [laws_name29.l0, if_neg (by omega)]) (Ev.now _)⟩
  | succ d ih =>
    intro i hd hi
    obtain ⟨r, hr⟩ := ih (i + 1) (by omega) (by omega)
    have hw : wrap64 ((i : Int) + 1) = ((i + 1 : Nat) : Int) := by unfold wrap64; omega
    have no : ∀ g : Nat → Option Bool, (∀ k, g (k + 1) = some false) → ∃ r, Ev g r := fun g h => ⟨false, Ev.step (f := fun _ => some false) h (Ev.now _)⟩
    have go : ∀ g : Nat → Option Bool, (∀ k, g (k + 1) = laws_name29.l0 k s (s.size : Int) (wrap64 ((i : Int) + 1))) → ∃ r, Ev g r := fun g h => ⟨r, Ev.step h (by rw [hw]; exact hr)⟩
    have p1 : (i : Int) < (s.size : Int) := by omega
    have p2 : (0 : Int) ≤ (i : Int) := by omega
    by_cases c1 : bt s (i : Int) < 97
    · by_cases c2 : (i : Int) = 0
      · exact no _ fun k => by rw [laws_name29.l0, if_pos p1, if_pos p2, if_pos p1, if_pos c1, if_pos c2]
      · by_cases c3 : bt s (i : Int) < 48
        · exact no _ fun k => by rw [laws_name29.l0, if_pos p1, if_pos p2, if_pos p1, if_pos c1, if_neg c2, if_pos c3]
        · by_cases c4 : bt s (i : Int) > 57
          · exact no _ fun k => by rw [laws_name29.l0, if_pos p1, if_pos p2, if_pos p1, if_pos c1, if_neg c2, if_neg c3, if_pos c4]
          · exact go _ fun k => by rw [laws_name29.l0, if_pos p1, if_pos p2, if_pos p1, if_pos c1, if_neg c2, if_neg c3, if_neg c4]
    · by_cases c5 : bt s (i : Int) > 122
      · by_cases c2 : (i : Int) = 0
        · exact no _ fun k => by rw [laws_name29.l0, if_pos p1, if_pos p2, if_pos p1, if_neg c1, if_pos c5, if_pos c2]
        · by_cases c3 : bt s (i : Int) < 48
          · exact no _ fun k => by rw [laws_name29.l0, if_pos p1, if_pos p2, if_pos p1, if_neg c1, if_pos c5, if_neg c2, if_pos c3]
          · by_cases c4 : bt s (i : Int) > 57
            · exact no _ fun k => by rw [laws_name29.l0, if_pos p1, if_pos p2, if_pos p1, if_neg c1, if_pos c5, if_neg c2, if_neg c3, if_pos c4]
            · exact go _ fun k => by rw [laws_name29.l0, if_pos p1, if_pos p2, if_pos p1, if_neg c1, if_pos c5, if_neg c2, if_neg c3, if_neg c4]
      · exact go _ fun k => by rw [laws_name29.l0, if_pos p1, if_pos p2, if_pos p1, if_neg c1, if_neg c5]
theorem right_kids (kids : List Nd) (hl : kids.length ≤ 4398046511104) (ih : ∀ y ∈ kids, ∃ r, Ev (fun k => laws_right29.f k y.f0 y.f1 y.f2 y.f3 y.f4 false) r ∧ (r = true → ∀ n, Cn n y → Tn n y)) :
    ∀ (d i : Nat), kids.length - i = d → i ≤ kids.length → ∃ r, Ev (fun k => laws_right29.l2 k kids (kids.length : Int) (i : Int)) r ∧ (r = true → ∀ n, CnL n (kids.drop i) → TnL n (kids.drop i)) := by
  intro d
  induction d with
  | zero =>
    intro i hd hi
    refine ⟨true, Ev.step (f := fun _ => some true) (fun k => by rw [laws_right29.l2, if_neg (by omega)]) (Ev.now _), fun _ n hn => ?_⟩
    rw [List.drop_eq_nil_of_le (by omega)] at hn ⊢
    cases hn
    exact .nil
  | succ d ihd =>
    intro i hd hi
    have hlt : i < kids.length := by omega
    have hmem := kids_mem kids i hlt
    have hdr := kids_drop kids i hlt
    obtain ⟨ry, hy1, hy2⟩ := ih _ hmem
    obtain ⟨r, hr1, hr2⟩ := ihd (i + 1) (by omega) (by omega)
    generalize hyy : rd_T25 kids (i : Int) = y at *
    have hw : wrap64 ((i : Int) + 1) = ((i + 1 : Nat) : Int) := by unfold wrap64; omega
    have step : ∀ k, laws_right29.l2 (k + 1) kids (kids.length : Int) (i : Int) = (laws_right29.f k y.f0 y.f1 y.f2 y.f3 y.f4 false).bind fun t => if t = true then laws_right29.l2 k kids (kids.length : Int) (wrap64 ((i : Int) + 1)) else some false := fun k => by
      rw [laws_right29.l2, if_pos (by omega), if_pos (by omega), if_pos (by omega), hyy]
    cases ry with
    | false => exact ⟨false, Ev.step step (hy1.bind (by simp only [Bool.false_eq_true, if_false]; exact Ev.now _)), fun h => absurd h (by decide)⟩
    | true =>
      refine ⟨r, Ev.step step (hy1.bind (by simp only [if_true, hw]; exact hr1)), fun h n hn => ?_⟩
      rw [hdr] at hn ⊢
      cases hn with
      | cons a b _ _ ha hb => exact .cons a b _ _ (hy2 rfl a ha) (hr2 h b hb)
/-- No two attributes have one key. -/
def Dist (l : List At) : Prop := ∀ i j : Nat, j < i → i < l.length → (rd_T29 l (i : Int)).f0.toList ≠ (rd_T29 l (j : Int)).f0.toList
theorem right_inner (x63 : List At) (x64 x65 : Int) (y0 : Int) (y1 y2 : ByteArray) (y3 : List At) (y4 : List Nd) (z0 z1 : ByteArray) (r0 : Bool) (h0 : Ev (fun k => laws_right29.l0 k x63 x64 (wrap64 (x65 + 1)) y0 y1 y2 y3 y4) r0) (l : List At) (hl : l.length ≤ 4398046511104) :
    ∀ (d j : Nat), l.length - j = d → j ≤ l.length → ∃ r, Ev (fun k => laws_right29.l1 k x63 x64 x65 l (l.length : Int) (j : Int) y0 y1 y2 y3 y4 z0 z1) r ∧ (r = true → r0 = true ∧ ∀ m : Nat, j ≤ m → m < l.length → z0.toList ≠ ((rd_T29 l (m : Int)).f0).toList) := by
  intro d
  induction d with
  | zero =>
    intro j hd hj
    exact ⟨r0, Ev.step (fun k => by rw [laws_right29.l1, if_neg (by omega)]) h0, fun h => ⟨h, fun m h1 h2 => by omega⟩⟩
  | succ d ih =>
    intro j hd hj
    obtain ⟨r, hr1, hr2⟩ := ih (j + 1) (by omega) (by omega)
    have hw : wrap64 ((j : Int) + 1) = ((j + 1 : Nat) : Int) := by unfold wrap64; omega
    by_cases c : z0.toList = ((rd_T29 l (j : Int)).f0).toList
    · exact ⟨false, Ev.step (f := fun _ => some false) (fun k => by rw [laws_right29.l1, if_pos (by omega), if_pos (by omega), if_pos (by omega), if_pos c]) (Ev.now _), fun h => absurd h (by decide)⟩
    · exact ⟨r, Ev.step (fun k => by rw [laws_right29.l1, if_pos (by omega), if_pos (by omega), if_pos (by omega), if_neg c, hw]) hr1, fun h => ⟨(hr2 h).1, fun m h1 h2 => by
        by_cases hm : m = j
        · subst hm
          exact c
        · exact (hr2 h).2 m (by omega) h2⟩⟩
theorem right_outer (y0 : Int) (y1 y2 : ByteArray) (y3 : List At) (y4 : List Nd) (hl : y3.length ≤ 4398046511104) (rj : Bool) (hj : Ev (fun k => laws_right29.j4 k y0 y1 y2 y3 y4) rj) :
    ∀ (d i : Nat), y3.length - i = d → i ≤ y3.length → ∃ r, Ev (fun k => laws_right29.l0 k y3 (y3.length : Int) (i : Int) y0 y1 y2 y3 y4) r ∧ (r = true → rj = true ∧ ∀ m j : Nat, i ≤ m → j < m → m < y3.length → (rd_T29 y3 (m : Int)).f0.toList ≠ (rd_T29 y3 (j : Int)).f0.toList) := by
  intro d
  induction d with
  | zero =>
    intro i hd hi
    exact ⟨rj, Ev.step (fun k => by rw [laws_right29.l0, if_neg (by omega)]) hj, fun h => ⟨h, fun m j h1 h2 h3 => by omega⟩⟩
  | succ d ih =>
    intro i hd hi
    obtain ⟨r, hr1, hr2⟩ := ih (i + 1) (by omega) (by omega)
    have hw : wrap64 ((i : Int) + 1) = ((i + 1 : Nat) : Int) := by unfold wrap64; omega
    rw [← hw] at hr1
    obtain ⟨r1, h1, h2⟩ := right_inner y3 (y3.length : Int) (i : Int) y0 y1 y2 y3 y4 ((rd_T29 y3 (i : Int)).f0) ((rd_T29 y3 (i : Int)).f1) r hr1 (y3.take (i : Int).toNat) (by rw [List.length_take]; omega) _ 0 rfl (by omega)
    refine ⟨r1, Ev.step (fun k => by rw [laws_right29.l0, if_pos (by omega), if_pos (by omega), if_pos (by omega), if_pos (by omega), Option.bind_some]; rfl) h1, fun h => ⟨(hr2 (h2 h).1).1, fun m j g1 g2 g3 => ?_⟩⟩
    by_cases hm : m = i
    · subst hm
      have hlen : (y3.take (m : Int).toNat).length = m := by rw [List.length_take]; omega
      have g4 := (h2 h).2 j (by omega) (by rw [hlen]; exact g2)
      have e : rd_T29 (y3.take (m : Int).toNat) (j : Int) = rd_T29 y3 (j : Int) := by
        simp [rd_T29, g2]
      rw [e] at g4
      exact g4
    · exact (hr2 (h2 h).1).2 m j (by omega) g2 g3
theorem right_any (x : Nd) (hx : OkT x) : ∀ root : Bool, ∃ r, Ev (fun k => laws_right29.f k x.f0 x.f1 x.f2 x.f3 x.f4 root) r ∧ (r = true → (∀ n, Cn n x → Tn n x) ∧ (x.f0 = 0 → Dist x.f3)) := by
  induction hx with
  | mk x h1 h3 h4 hk ih =>
    intro root
    obtain ⟨q0, q1, q2, q3, q4⟩ := x
    simp only at h1 h3 h4 hk ih ⊢
    obtain ⟨r2, hr2, hr2'⟩ := right_kids q4 h4 (fun y hy => by
      obtain ⟨r, h1, h2⟩ := ih y hy false
      exact ⟨r, h1, fun h => (h2 h).1⟩) _ 0 rfl (by omega)
    rw [List.drop_zero] at hr2'
    have hj4 : ∀ z0 z1 z2 z3, Ev (fun k => laws_right29.j4 k z0 z1 z2 z3 q4) r2 := fun z0 z1 z2 z3 => Ev.step (fun k => by rw [laws_right29.j4]; rfl) hr2
    have no : ∀ g : Nat → Option Bool, (∀ k, g (k + 1) = some false) → ∃ r, Ev g r ∧ (r = true → (∀ n, Cn n ⟨q0, q1, q2, q3, q4⟩ → Tn n ⟨q0, q1, q2, q3, q4⟩) ∧ (q0 = 0 → Dist q3)) := fun g h => ⟨false, Ev.step (f := fun _ => some false) h (Ev.now _), fun h => absurd h (by decide)⟩
    have up : ∀ (g g' : Nat → Option Bool), (∀ k, g (k + 1) = g' k) → (∃ r, Ev g' r ∧ (r = true → (∀ n, Cn n ⟨q0, q1, q2, q3, q4⟩ → Tn n ⟨q0, q1, q2, q3, q4⟩) ∧ (q0 = 0 → Dist q3))) → ∃ r, Ev g r ∧ (r = true → (∀ n, Cn n ⟨q0, q1, q2, q3, q4⟩ → Tn n ⟨q0, q1, q2, q3, q4⟩) ∧ (q0 = 0 → Dist q3)) := fun g g' h ⟨r, hr, hr'⟩ => ⟨r, Ev.step h hr, hr'⟩
    have leaf : (q4.length : Int) = 0 → q1.toList = [] → q3.length = 0 → (q0 = 1 ∨ q0 = 2) → ∀ n, Cn n ⟨q0, q1, q2, q3, q4⟩ → Tn n ⟨q0, q1, q2, q3, q4⟩ := by
      intro e4 e1 e3 e0 n hn
      obtain rfl : q4 = [] := List.eq_nil_of_length_eq_zero (by omega)
      obtain rfl : q3 = [] := List.eq_nil_of_length_eq_zero e3
      obtain rfl := bytes_nil e1
      cases hn with
      | mk m _ hm =>
        cases hm
        rcases e0 with rfl | rfl
        · exact .text _
        · exact .comment _
    have jleaf : (q0 = 1 ∨ q0 = 2) → ∀ x12, ∃ r, Ev (fun k => laws_right29.j0 k root x12 true q0 q1 q2 q3 q4) r ∧ (r = true → (∀ n, Cn n ⟨q0, q1, q2, q3, q4⟩ → Tn n ⟨q0, q1, q2, q3, q4⟩) ∧ (q0 = 0 → Dist q3)) := by
      intro e0 x12
      by_cases c1 : (q4.length : Int) = 0
      · by_cases c2 : q1.toList = ([] : List UInt8)
        · refine ⟨(q3.length : Int) == 0, Ev.step (f := fun _ => some ((q3.length : Int) == 0)) (fun k => by rw [laws_right29.j0, if_pos rfl, if_pos c1, if_pos c2]) (Ev.now _), fun h => ⟨leaf c1 c2 (by simpa using h) e0, fun h => by omega⟩⟩
        · exact no _ fun k => by rw [laws_right29.j0, if_pos rfl, if_pos c1, if_neg c2]
      · exact no _ fun k => by rw [laws_right29.j0, if_pos rfl, if_neg c1]
    have hd : (q0 == 2) = decide (q0 = 2) := rfl
    by_cases e1 : q0 = 1
    · exact up _ _ (fun k => by rw [laws_right29.f, if_pos e1, show (q0 == 1) = true by simp [e1]]) (jleaf (.inl e1) q0)
    · by_cases e2 : q0 = 2
      · exact up _ _ (fun k => by rw [laws_right29.f, if_neg e1, show (q0 == 2) = true by simp [e2]]) (jleaf (.inr e2) q0)
      · refine up _ _ (fun k => by rw [laws_right29.f, if_neg e1, show (q0 == 2) = false by simp [e2]]) ?_
        by_cases e3 : q0 = 3
        · by_cases c1 : root = true
          · by_cases c2 : q1.toList = ([] : List UInt8)
            · by_cases c3 : q2.toList = ([] : List UInt8)
              · by_cases c4 : (q3.length : Int) > 0
                · exact no _ fun k => by rw [laws_right29.j0, if_neg (by decide), if_pos e3, if_pos c1, if_pos c2, if_pos c3, if_pos c4]
                · refine ⟨r2, Ev.step (fun k => by rw [laws_right29.j0, if_neg (by decide), if_pos e3, if_pos c1, if_pos c2, if_pos c3, if_neg c4]) (hj4 _ _ _ _), fun h => ⟨fun n hn => ?_, fun h => by omega⟩⟩
                  obtain rfl : q3 = [] := List.eq_nil_of_length_eq_zero (by omega)
                  obtain rfl := bytes_nil c2
                  obtain rfl := bytes_nil c3
                  subst e3
                  cases hn with
                  | mk m _ hm => exact .doc _ _ (hr2' h m hm)
              · exact no _ fun k => by rw [laws_right29.j0, if_neg (by decide), if_pos e3, if_pos c1, if_pos c2, if_neg c3]
            · exact no _ fun k => by rw [laws_right29.j0, if_neg (by decide), if_pos e3, if_pos c1, if_neg c2]
          · exact no _ fun k => by rw [laws_right29.j0, if_neg (by decide), if_pos e3, if_neg c1]
        · by_cases e0 : q0 = 0
          · obtain ⟨rn, hn⟩ := name_any q1 h1 _ 0 rfl (by omega)
            have hn' : Ev (fun k => laws_name29.f k q1) rn := hn
            obtain ⟨ra, ha1, ha2⟩ := right_outer q0 q1 q2 q3 q4 h3 r2 (hj4 _ _ _ _) _ 0 rfl (by omega)
            have yes : ∃ r, Ev (fun k => laws_right29.j1 k (q2.toList != ([] : List UInt8)) q0 q1 q2 q3 q4) r ∧ (r = true → (∀ n, Cn n ⟨q0, q1, q2, q3, q4⟩ → Tn n ⟨q0, q1, q2, q3, q4⟩) ∧ (q0 = 0 → Dist q3)) := by
              by_cases c3 : q2.toList = ([] : List UInt8)
              · refine ⟨ra, Ev.step (fun k => by rw [laws_right29.j1, if_neg (by simp [c3])]; rfl) ha1, fun h => ⟨fun n hn => ?_, fun _ m j h1 h2 => (ha2 h).2 m j (Nat.zero_le _) h1 h2⟩⟩
                obtain rfl := bytes_nil c3
                subst e0
                cases hn with
                | mk m _ hm => exact .elem _ _ _ _ h3 (hr2' (ha2 h).1 m hm)
              · exact no _ fun k => by rw [laws_right29.j1, if_pos (by simpa using c3)]
            have nay : ∃ r, Ev (fun k => laws_right29.j1 k true q0 q1 q2 q3 q4) r ∧ (r = true → (∀ n, Cn n ⟨q0, q1, q2, q3, q4⟩ → Tn n ⟨q0, q1, q2, q3, q4⟩) ∧ (q0 = 0 → Dist q3)) := no _ fun k => by rw [laws_right29.j1, if_pos rfl]
            have step : ∀ k, laws_right29.j0 (k + 1) root q0 false q0 q1 q2 q3 q4 = (laws_name29.f k q1).bind fun t => if t = true then laws_right29.j1 k (q2.toList != ([] : List UInt8)) q0 q1 q2 q3 q4 else laws_right29.j1 k true q0 q1 q2 q3 q4 := fun k => by
              rw [laws_right29.j0, if_neg (by decide), if_neg e3, if_pos e0]
            cases rn with
            | true =>
              obtain ⟨r, hr, hr'⟩ := yes
              exact ⟨r, Ev.step step (hn'.bind (by simp only [if_true]; exact hr)), hr'⟩
            | false =>
              obtain ⟨r, hr, hr'⟩ := nay
              exact ⟨r, Ev.step step (hn'.bind (by simp only [Bool.false_eq_true, if_false]; exact hr)), hr'⟩
          · exact no _ fun k => by rw [laws_right29.j0, if_neg (by decide), if_neg e3, if_neg e0]
/-- laws.tree29 has an answer; where it is yes, the tree is right. -/
theorem tree_any (x : Nd) (hx : OkT x) : ∃ k r, laws_tree29.f k x.f0 x.f1 x.f2 x.f3 x.f4 = some r ∧ (r = true → (x.f0 = 0 ∨ x.f0 = 3) ∧ (∃ n, n ≤ 300 ∧ Tn n x) ∧ (x.f0 = 0 → Dist x.f3)) := by
  obtain ⟨rs, ⟨K1, hs⟩, hs1, _, hs2⟩ := size_any 61 (by omega) x hx
  obtain ⟨rr, ⟨K2, hr⟩, hr2⟩ := right_any x hx true
  have h1 := hs (max K1 K2) (by omega)
  have h2 : laws_right29.f (max K1 K2) x.f0 x.f1 x.f2 x.f3 x.f4 true = some rr := hr (max K1 K2) (by omega)
  have h1 : laws_size29.f (max K1 K2) x.f0 x.f1 x.f2 x.f3 x.f4 0 = some rs := h1
  refine ⟨max K1 K2, ?_⟩
  have fin : rs ≤ 300 → rr = true → (∃ n, n ≤ 300 ∧ Tn n x) ∧ (x.f0 = 0 → Dist x.f3) := fun h h' => ⟨⟨rs.toNat, by omega, (hr2 h').1 _ (hs2 h)⟩, (hr2 h').2⟩
  by_cases e0 : x.f0 = 0
  · by_cases c : rs ≤ 300
    · exact ⟨rr, by rw [laws_tree29.f, if_pos e0, h1, Option.bind_some, if_pos c, h2, Option.bind_some], fun h => ⟨.inl e0, fin c h⟩⟩
    · exact ⟨false, by rw [laws_tree29.f, if_pos e0, h1, Option.bind_some, if_neg c], fun h => absurd h (by decide)⟩
  · by_cases e3 : x.f0 = 3
    · by_cases c : rs ≤ 300
      · exact ⟨rr, by rw [laws_tree29.f, if_neg e0, if_pos e3, h1, Option.bind_some, if_pos c, h2, Option.bind_some], fun h => ⟨.inr e3, fin c h⟩⟩
      · exact ⟨false, by rw [laws_tree29.f, if_neg e0, if_pos e3, h1, Option.bind_some, if_neg c], fun h => absurd h (by decide)⟩
    · exact ⟨false, by rw [laws_tree29.f, if_neg e0, if_neg e3], fun h => absurd h (by decide)⟩
/-! ### spec.At29 -/
def atR : Option Nd → Int × ByteArray × ByteArray × List At × List Nd × Bool
  | some y => (y.f0, y.f1, y.f2, y.f3, y.f4, true)
  | none => (0, ⟨#[]⟩, ⟨#[]⟩, [], [], false)
end Go.Proofs.YtlallihdiffheaaDoor.Hand
