/- laws.FnDomAttribute is true: plain, over the printed law. -/
import Derived.Test.YtlallihdiffheaaGTx13
import Derived.Test.YtlallihdiffheaaTree29
import Derived.Test.YtlallihdiffheaaFits
namespace Go.Proofs.Ytlallihdiffheaa.Dom
open Go.RowKit Go.Proofs.Ytlallihdiffheaa.GT Go.Proofs.YtlallihdiffheaaW.PrintWords Go.Proofs.YtlallihdiffheaaW.PrintLast Go.Proofs.Ytlallihdiffheaa.Hand
set_option linter.unusedVariables false

theorem attr_take (l : List At) (i : Nat) (h : i < l.length) : (l.take (i + 1)).map attrOf = (l.take i).map attrOf ++ [attrOf (rd_T34 l (i : Int))] := by
  rw [List.take_add_one, List.getElem?_eq_getElem h, List.map_append]
  simp [rd_T34, h]
theorem attr_mem {l : List At} {i : Nat} (hi : i ≤ l.length) {a : ByteArray × ByteArray} (h : a ∈ (l.take i).map attrOf) : ∃ j, j < i ∧ a = attrOf (rd_T34 l (j : Int)) := by
  obtain ⟨y, hy, rfl⟩ := List.mem_map.1 h
  obtain ⟨j, hj⟩ := List.mem_iff_getElem?.1 hy
  have hjl := (List.getElem?_eq_some_iff.1 hj).1
  rw [List.length_take] at hjl
  refine ⟨j, by omega, ?_⟩
  rw [List.getElem?_take] at hj
  rw [if_pos (by omega)] at hj
  have : rd_T34 l (j : Int) = y := by
    have h2 := (List.getElem?_eq_some_iff.1 hj).2
    simp [rd_T34, h2, show j < l.length by omega]
  rw [this]
theorem seek_snoc (key : ByteArray) (l : List (ByteArray × ByteArray)) (a : ByteArray × ByteArray) : seek key (l ++ [a]) = (seek key l).or (if (a.1.toList == key.toList) = true then some a.2 else none) := by
  unfold seek
  rw [List.find?_append]
  cases l.find? (fun a => a.1.toList == key.toList) with
  | some b => rfl
  | none =>
    by_cases h : (a.1.toList == key.toList) = true
    · simp [h]
    · simp [h]
/-- So far: the value, and whether there is one. -/
def soFar (key : ByteArray) (l : List At) (i : Nat) : Option ByteArray := seek key ((l.take i).map attrOf)
theorem attr_loop (x : Nd) (key fb : ByteArray) (hl : x.f3.length ≤ 4398046511104) (hd : Dist x.f3) (hg : goodB x = true) :
    ∀ (d i : Nat), x.f3.length - i = d → i ≤ x.f3.length → Ev (fun k => laws_FnDomAttribute.l0 k key fb ((soFar key x.f3 i).getD ⟨#[]⟩) (soFar key x.f3 i).isSome x.f3 (x.f3.length : Int) (i : Int) x.f0 x.f1 x.f2 x.f3 x.f4) true := by
  intro d
  induction d with
  | zero =>
    intro i hdd hi
    obtain rfl : i = x.f3.length := by omega
    have e : soFar key x.f3 x.f3.length = seekA key x := by unfold soFar seekA; rw [List.take_length]
    rw [e]
    have hA : impl_AttributeOf.f x.f0 x.f1 x.f2 x.f3 x.f4 key = some ((seekA key x).getD ⟨#[]⟩, (seekA key x).isSome) := by
      unfold impl_AttributeOf.f
      exact if_pos hg
    have hO : impl_AttributeOr.f x.f0 x.f1 x.f2 x.f3 x.f4 key fb = some ((seekA key x).getD fb) := by
      unfold impl_AttributeOr.f
      exact if_pos hg
    have hL : laws_living29.f = some true := rfl
    refine Ev.step (f := fun _ => some true) (fun k => ?_) (Ev.now _)
    rw [laws_FnDomAttribute.l0, if_neg (by omega), hA, Option.bind_some]
    generalize seekA key x = s at *
    cases s with
    | none => simp [hO, hL]
    | some v => simp [hO, hL]
  | succ d ih =>
    intro i hdd hi
    have hw : wrap64 ((i : Int) + 1) = ((i + 1 : Nat) : Int) := by unfold wrap64; omega
    have hr := ih (i + 1) (by omega) (by omega)
    have hs : soFar key x.f3 (i + 1) = (soFar key x.f3 i).or (if ((rd_T34 x.f3 (i : Int)).f0.toList == key.toList) = true then some (rd_T34 x.f3 (i : Int)).f1 else none) := by
      unfold soFar
      rw [attr_take x.f3 i (by omega), seek_snoc]
      rfl
    by_cases c : ((rd_T34 x.f3 (i : Int)).f0).toList = key.toList
    · have hn : soFar key x.f3 i = none := by
        unfold soFar
        refine seek_none fun a ha => ?_
        obtain ⟨j, hj, rfl⟩ := attr_mem hi ha
        have h1 := hd i j hj (by omega)
        rw [c] at h1
        exact beq_eq_false_iff_ne.2 (fun h => h1 h.symm)
      rw [if_pos (beq_iff_eq.2 c), hn] at hs
      have hs : soFar key x.f3 (i + 1) = some (rd_T34 x.f3 (i : Int)).f1 := hs
      rw [hs] at hr
      exact Ev.step (fun k => by rw [laws_FnDomAttribute.l0, if_pos (by omega), if_pos (by omega), if_pos (by omega), if_pos c, hw]; rfl) hr
    · rw [if_neg (fun h => c (beq_iff_eq.1 h)), Option.or_none] at hs
      rw [hs] at hr
      exact Ev.step (fun k => by rw [laws_FnDomAttribute.l0, if_pos (by omega), if_pos (by omega), if_pos (by omega), if_neg c, hw]) hr
theorem law_attribute (x : Nd) (hx : OkT x) (key fb : ByteArray) : ∃ k, laws_FnDomAttribute.f k x.f0 x.f1 x.f2 x.f3 x.f4 key fb = some true := by
  have yes : ∀ g : Nat → Option Bool, (∀ k, g (k + 1) = some true) → Ev g true := fun g h => Ev.step (f := fun _ => some true) h (Ev.now _)
  have hj1 : Ev (fun k => laws_FnDomAttribute.j0 k key fb true x.f0 x.f1 x.f2 x.f3 x.f4) true := yes _ fun k => by rw [laws_FnDomAttribute.j0, if_pos rfl]
  have hj : ∀ b, Ev (fun k => laws_FnDomAttribute.j0 k key fb b x.f0 x.f1 x.f2 x.f3 x.f4) true := by
    intro b
    cases b with
    | true => exact hj1
    | false =>
      obtain ⟨kt, rt, ht, hr⟩ := tree_any x hx
      have hte : Ev (fun k => laws_tree29.f k x.f0 x.f1 x.f2 x.f3 x.f4) rt := Ev.of (laws_tree29.mono _ _ _ _ _) ht
      refine Ev.step (fun k => by rw [laws_FnDomAttribute.j0, if_neg (by decide)]) (hte.bind ?_)
      cases rt with
      | false => simp only [Bool.false_eq_true, if_false]; exact Ev.now _
      | true =>
        obtain ⟨h0, ⟨n, hn, htn⟩, hdist⟩ := hr rfl
        simp only [if_true]
        have hD : Dist x.f3 := by
          rcases h0 with h0 | h0
          · exact hdist h0
          · cases htn with
            | elem m name attrs kids ha h => exact absurd h0 (by simp)
            | text t => exact absurd h0 (by simp)
            | comment t => exact absurd h0 (by simp)
            | doc m kids h => intro i j h1 h2; simp at h2
        have h := attr_loop x key fb htn.attrs hD (goodB_mk htn hn h0) _ 0 rfl (Nat.zero_le _)
        exact h
  obtain ⟨kf, rf, hf⟩ := fits2_any x
  have hfe : Ev (fun k => laws_zzFits2.f k x.f0 x.f1 x.f2 x.f3 x.f4) rf := Ev.of (laws_zzFits2.mono _ _ _ _ _) hf
  have hall : Ev (fun k => laws_FnDomAttribute.f k x.f0 x.f1 x.f2 x.f3 x.f4 key fb) true := by
    refine hfe.bind (f := fun k t => if t = true then (if (key.size : Int) > 2147483647 then laws_FnDomAttribute.j0 k key fb true x.f0 x.f1 x.f2 x.f3 x.f4 else laws_FnDomAttribute.j0 k key fb (decide ((fb.size : Int) > 2147483647)) x.f0 x.f1 x.f2 x.f3 x.f4) else laws_FnDomAttribute.j0 k key fb true x.f0 x.f1 x.f2 x.f3 x.f4) ?_
    cases rf with
    | false => simp only [Bool.false_eq_true, if_false]; exact hj1
    | true =>
      simp only [if_true]
      by_cases c : (key.size : Int) > 2147483647
      · simp only [if_pos c]; exact hj1
      · simp only [if_neg c]; exact hj _
  exact hall.rounds
end Go.Proofs.Ytlallihdiffheaa.Dom
namespace Go.Proofs.Ytlallihdiffheaa.Pure
open Go.RowKit Go.Proofs.Ytlallihdiffheaa.GT Go.Proofs.YtlallihdiffheaaW.PrintWords Go.Proofs.YtlallihdiffheaaW.PrintLast Go.Proofs.Ytlallihdiffheaa.Hand
/-- The law's walk, with its answer. -/
theorem FnDomAttribute_walk {W : World} (x : Nd) (A3 A4 : Option Addr) (c3 c4 : Nat) (C3 : k34.C W A3 x.f3.length x.f3) (l3 : x.f3.length ≤ c3) (C4 : k25.C W A4 x.f4.length x.f4) (l4 : x.f4.length ≤ c4) (hx : OkT x) (key : ByteArray) (_ : key.size ≤ 140737488351232) (fb : ByteArray) (_ : fb.size ≤ 140737488351232) :
    Calls Try.prog 4 #[.agg #[.int .i64 x.f0, .string x.f1, .string x.f2, .slice A3 x.f3.length c3, .slice A4 x.f4.length c4], .string key, .string fb] W fun e w' => e = .returned (.bool true) ∧ Below W.heap.size W w' := by
  obtain ⟨k, hk⟩ := Dom.law_attribute x hx key fb
  exact laws_FnDomAttribute.calls k x.f0 x.f1 x.f2 A3 c3 x.f3 A4 c4 x.f4 key fb true W C3 l3 C4 l4 hk
end Go.Proofs.Ytlallihdiffheaa.Pure
