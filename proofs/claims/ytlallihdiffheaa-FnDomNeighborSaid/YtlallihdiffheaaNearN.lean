/- Neighbors, in the forest and in the tree. Plain. -/
import Derived.Test.YtlallihdiffheaaNear
namespace Go.Proofs.Ytlallihdiffheaa.Dom
open Go.RowKit Go.Proofs.YtlallihdiffheaaW.PrintWords Go.Proofs.YtlallihdiffheaaW.PrintLast Go.Proofs.YtlallihdiffheaaW.PrintMore Go.Proofs.Ytlallihdiffheaa.GT Go.Proofs.Ytlallihdiffheaa.Hand
set_option linter.unusedVariables false
set_option linter.unusedSimpArgs false
set_option linter.unusedSectionVars false

/-! ### In the tree -/
def idxN (e : Bool) : List Nd → Nat → List Nat
  | [], _ => []
  | y :: l, i => if e = false ∨ y.f0 = 0 then i :: idxN e l (i + 1) else idxN e l (i + 1)
theorem idxN_erase (e : Bool) : ∀ (r : F Pay) (i : Nat), Neat r → idxN e (erase r) i = (rowK e r i).map Prod.snd
  | .nil, i, _ => rfl
  | .node b p k r, i, hn => by
    have ht : (nodeOf p (erase k)).f0 = 0 ↔ p.type = 3 := by
      rcases nodeOf_cases hn with ⟨h, _, e⟩ | ⟨h, _, e⟩ | ⟨h, e⟩ | ⟨h, e⟩ <;> rw [e, h] <;> simp
    have hr := idxN_erase e r (i + 1) hn.2.2
    have hx : erase (.node b p k r) = nodeOf p (erase k) :: erase r := rfl
    rw [hx]
    simp only [idxN, rowK, ht, hr]
    split <;> rfl
def sibN (fwd e : Bool) (x : Nd) (js : List Int) : Option (List Int) := match js.getLast? with
  | none => none
  | some i => match atN x js.dropLast with
    | none => none
    | some y => (if fwd = true then (idxN e (y.f4.drop (i.toNat + 1)) (i.toNat + 1)).head? else (idxN e (y.f4.take i.toNat) 0).getLast?).map (fun (t : Nat) => js.dropLast ++ [(t : Int)])
def firstN (ch : Option Bool) (x : Nd) (js : List Int) : Option (List Int) := match ch with
  | none => none
  | some e => match atN x js with
    | none => none
    | some y => ((idxN e y.f4 0).head?).map (fun (t : Nat) => js ++ [(t : Int)])
def upN (fwd e : Bool) (x : Nd) (js : List Int) : Nat → Option (List Int)
  | 0 => none
  | m + 1 => (sibN fwd e x (js.take m)).or (upN fwd e x js m)
def nearN (ch : Option Bool) (fwd e : Bool) (x : Nd) (js : List Int) : Option (List Int) :=
  (firstN ch x js).or ((sibN fwd e x js).or (upN fwd e x js js.length))
theorem neat_take : ∀ (f : F Pay) (i : Nat), Neat f → Neat (f.takeF i)
  | .nil, i, _ => by cases i <;> trivial
  | .node b p k r, 0, _ => trivial
  | .node b p k r, i + 1, h => ⟨h.1, h.2.1, neat_take r i h.2.2⟩
theorem neat_dropF : ∀ (f : F Pay) (i : Nat), Neat f → Neat (f.dropF i)
  | .nil, i, _ => by rw [F.dropF_nil]; trivial
  | .node b p k r, 0, h => h
  | .node b p k r, i + 1, h => neat_dropF r i h.2.2
section
variable {H : NMap} {b : Nat} {p : Pay} {k : F Pay} (hs : Sits H none none none (.node b p k .nil)) (hn : Neat (.node b p k .nil)) {x : Nd} (hx : nodeOf p (erase k) = x)
include hs hn hx
theorem sub_neat2 {js : List Int} {c : Nat} {q : Pay} {ck : F Pay} (h : subF b p k js = some (c, q, ck)) : Neat (.node c q ck .nil) := by
  obtain ⟨_, _, _, _, h2, _⟩ := lies hs hn _ js c q ck rfl h
  exact h2
theorem sib_tells (fwd e : Bool) (js : List Int) : (sibK fwd e b p k js).map Prod.snd = sibN fwd e x js := by
  unfold sibK sibN
  cases js.getLast? with
  | none => rfl
  | some i =>
    have h := atN_sub js.dropLast b p k .nil hn
    rw [hx] at h
    cases hsub : subF b p k js.dropLast with
    | none => rw [hsub] at h; simp only [h, Option.map_none]
    | some t =>
      obtain ⟨n, nq, nk⟩ := t
      have hnn := sub_neat2 hs hn hx hsub
      rw [hsub] at h
      simp only [h, Option.map_some, Option.map_map]
      rw [kids_nodeOf hnn, ← erase_dropF, ← erase_takeF, idxN_erase e _ _ (neat_dropF nk _ hnn.2.1), idxN_erase e _ _ (neat_take nk _ hnn.2.1), List.head?_map, List.getLast?_map]
      cases fwd
      · simp only [Bool.false_eq_true, if_false, Option.map_map]; rfl
      · simp only [if_true, Option.map_map]; rfl
theorem up_tells (fwd e : Bool) (js : List Int) : ∀ m, (upK fwd e b p k js m).map Prod.snd = upN fwd e x js m
  | 0 => rfl
  | m + 1 => by
    have h1 := sib_tells hs hn hx fwd e (js.take m)
    have h2 := up_tells fwd e js m
    rw [upK, upN, ← h1, ← h2]
    cases sibK fwd e b p k (js.take m) <;> rfl
theorem near_tells (ch : Option Bool) (fwd e : Bool) {js : List Int} {c : Nat} {q : Pay} {ck : F Pay} (hsub : subF b p k js = some (c, q, ck)) : (nearK ch fwd e b p k js ck).map Prod.snd = nearN ch fwd e x js := by
  have h1 := sib_tells hs hn hx fwd e js
  have h2 := up_tells hs hn hx fwd e js js.length
  have h0 : (firstK ch js ck).map Prod.snd = firstN ch x js := by
    cases ch with
    | none => rfl
    | some e =>
      have h := atN_sub js b p k .nil hn
      rw [hx, hsub] at h
      have hnn := sub_neat2 hs hn hx hsub
      simp only [firstK, firstN, h, Option.map_some, Option.map_map]
      rw [kids_nodeOf hnn, idxN_erase e _ _ hnn.2.1, List.head?_map, Option.map_map]
      rfl
  rw [nearK, nearN, ← h0, ← h1, ← h2]
  cases firstK ch js ck <;> cases sibK fwd e b p k js <;> rfl
theorem sub_child {js : List Int} {n : Nat} {nq : Pay} {nk : F Pay} (h : subF b p k js = some (n, nq, nk)) {j : Nat} {d : Nat} {dq : Pay} {dk r : F Pay} (hd : nk.dropF j = .node d dq dk r) : subF b p k (js ++ [(j : Int)]) = some (d, dq, dk) := by
  rw [subF_snoc, h, Option.bind_some, subF, if_neg (by omega), Int.toNat_natCast, hd]
  rfl
theorem drop_drop : ∀ (f : F Pay) (i j : Nat), (f.dropF i).dropF j = f.dropF (i + j)
  | .nil, i, j => by rw [F.dropF_nil, F.dropF_nil, F.dropF_nil]
  | .node b p k r, 0, j => by rw [Nat.zero_add]; rfl
  | .node b p k r, i + 1, j => by
    rw [show i + 1 + j = (i + j) + 1 by omega]
    exact drop_drop r i j
theorem take_drop_at : ∀ (f : F Pay) (i j d : Nat) (q : Pay) (ck r : F Pay), (f.takeF i).dropF j = .node d q ck r → ∃ r', f.dropF j = .node d q ck r'
  | .nil, i, j, d, q, ck, r, h => by
    have h2 : (F.nil : F Pay).takeF i = .nil := by cases i <;> rfl
    rw [h2, F.dropF_nil] at h
    cases h
  | .node b p k r0, 0, j, d, q, ck, r, h => by
    have h2 : (F.node b p k r0).takeF 0 = .nil := rfl
    rw [h2, F.dropF_nil] at h
    cases h
  | .node b p k r0, i + 1, 0, d, q, ck, r, h => by
    have h2 : F.node b p k (r0.takeF i) = .node d q ck r := h
    injection h2 with e1 e2 e3 e4
    subst e1 e2 e3
    exact ⟨r0, rfl⟩
  | .node b p k r0, i + 1, j + 1, d, q, ck, r, h => take_drop_at r0 i j d q ck r h
theorem sib_sub (fwd e : Bool) (js : List Int) {t : Nat × List Int} (h : sibK fwd e b p k js = some t) : ∃ q ck, subF b p k t.2 = some (t.1, q, ck) := by
  unfold sibK at h
  cases hg : js.getLast? with
  | none => rw [hg] at h; cases h
  | some i =>
    cases hsub : subF b p k js.dropLast with
    | none => rw [hg, hsub] at h; cases h
    | some u =>
      obtain ⟨n, nq, nk⟩ := u
      rw [hg, hsub] at h
      simp only at h
      obtain ⟨v, hv, rfl⟩ := Option.map_eq_some_iff.1 h
      cases fwd with
      | true =>
        simp only [if_true] at hv
        obtain ⟨q', ck', r', hle, hd⟩ := rowK_at e _ _ v (List.mem_of_head? hv)
        rw [drop_drop hs hn hx, show i.toNat + 1 + (v.2 - (i.toNat + 1)) = v.2 by omega] at hd
        exact ⟨q', ck', sub_child hs hn hx hsub hd⟩
      | false =>
        simp only [Bool.false_eq_true, if_false] at hv
        obtain ⟨q', ck', r', hle, hd⟩ := rowK_at e _ _ v (List.mem_of_getLast? hv)
        rw [Nat.sub_zero] at hd
        obtain ⟨r2, hd2⟩ := take_drop_at hs hn hx _ _ _ _ _ _ _ hd
        exact ⟨q', ck', sub_child hs hn hx hsub hd2⟩
theorem up_sub (fwd e : Bool) (js : List Int) : ∀ m {t : Nat × List Int}, upK fwd e b p k js m = some t → ∃ q ck, subF b p k t.2 = some (t.1, q, ck)
  | 0, t, h => by cases h
  | m + 1, t, h => by
    rw [upK] at h
    cases h1 : sibK fwd e b p k (js.take m) with
    | some s =>
      rw [h1] at h
      obtain rfl := Option.some.inj h
      exact sib_sub hs hn hx fwd e _ h1
    | none =>
      rw [h1] at h
      exact up_sub fwd e js m h
theorem near_sub (ch : Option Bool) (fwd e : Bool) {js : List Int} {c : Nat} {q : Pay} {ck : F Pay} (hsub : subF b p k js = some (c, q, ck)) {t : Nat × List Int} (h : nearK ch fwd e b p k js ck = some t) : ∃ q ck, subF b p k t.2 = some (t.1, q, ck) := by
  rw [nearK] at h
  cases h0 : firstK ch js ck with
  | some s =>
    rw [h0] at h
    obtain rfl := Option.some.inj h
    cases ch with
    | none => cases h0
    | some e =>
      obtain ⟨v, hv, rfl⟩ := Option.map_eq_some_iff.1 h0
      obtain ⟨q', ck', r', hle, hd⟩ := rowK_at e _ _ v (List.mem_of_head? hv)
      exact ⟨q', ck', sub_child hs hn hx hsub hd⟩
  | none =>
    rw [h0] at h
    cases h1 : sibK fwd e b p k js with
    | some s =>
      rw [h1] at h
      obtain rfl := Option.some.inj h
      exact sib_sub hs hn hx fwd e _ h1
    | none =>
      rw [h1] at h
      exact up_sub hs hn hx fwd e js _ h
end
end Go.Proofs.Ytlallihdiffheaa.Dom
