/- laws.FnDomID is true: plain, over the printed law. -/
import Derived.Test.YtlallihdiffheaaDoorGTx4
import Derived.Test.YtlallihdiffheaaDoorTree29
import Derived.Test.YtlallihdiffheaaDoorFits
namespace Go.Proofs.YtlallihdiffheaaDoor.Dom
open Go.RowKit Go.Proofs.YtlallihdiffheaaDoor.GT Go.Proofs.YtlallihdiffheaaDoorW.PrintWords Go.Proofs.YtlallihdiffheaaDoorW.PrintLast Go.Proofs.YtlallihdiffheaaDoor.Hand
set_option linter.unusedVariables false

theorem attr_take (l : List At) (i : Nat) (h : i < l.length) : (l.take (i + 1)).map attrOf = (l.take i).map attrOf ++ [attrOf (rd_T29 l (i : Int))] := by
  rw [List.take_add_one, List.getElem?_eq_getElem h, List.map_append]
  simp [rd_T29, h]
theorem attr_mem {l : List At} {i : Nat} (hi : i ≤ l.length) {a : ByteArray × ByteArray} (h : a ∈ (l.take i).map attrOf) : ∃ j, j < i ∧ a = attrOf (rd_T29 l (j : Int)) := by
  obtain ⟨y, hy, rfl⟩ := List.mem_map.1 h
  obtain ⟨j, hj⟩ := List.mem_iff_getElem?.1 hy
  have hjl := (List.getElem?_eq_some_iff.1 hj).1
  rw [List.length_take] at hjl
  refine ⟨j, by omega, ?_⟩
  rw [List.getElem?_take] at hj
  rw [if_pos (by omega)] at hj
  have : rd_T29 l (j : Int) = y := by
    have h2 := (List.getElem?_eq_some_iff.1 hj).2
    simp [rd_T29, h2, show j < l.length by omega]
  rw [this]
theorem seek_snoc (key : ByteArray) (l : List (ByteArray × ByteArray)) (a : ByteArray × ByteArray) : seek key (l ++ [a]) = (seek key l).or (if (a.1.toList == key.toList) = true then some a.2 else none) := by
  unfold seek
  rw [List.find?_append]
  cases l.find? (fun a => a.1.toList == key.toList) with
  | some b => rfl
  | none =>
    by_cases h : (a.1.toList == key.toList) = true
    · simp [h]
    · simp [h]
/-- So far: the value, and whether there is one. -/
def soFar (key : ByteArray) (l : List At) (i : Nat) : Option ByteArray := seek key ((l.take i).map attrOf)
theorem fits4_true {a b : ByteArray} (h : laws_zzFits4.f a b = some true) : b.size ≤ 2147483647 := by
  unfold laws_zzFits4.f at h
  split at h
  · cases h
  · split at h
    · cases h
    · omega
theorem fits3_true (l : List At) (hl : (l.length : Int) ≤ 2147483647) : ∀ (k i : Nat), laws_zzFits3.l0 k l (l.length : Int) (i : Int) = some true → ∀ j, i ≤ j → j < l.length → (rd_T29 l (j : Int)).f1.size ≤ 2147483647
  | 0, i, h, _, _, _ => by simp [laws_zzFits3.l0] at h
  | k + 1, i, h, j, hij, hj => by
    have hw : wrap64 ((i : Int) + 1) = ((i + 1 : Nat) : Int) := by unfold wrap64; omega
    rw [laws_zzFits3.l0, if_pos (by omega), if_pos (by omega), if_pos (by omega), hw] at h
    obtain ⟨t, ht, h⟩ := Option.bind_eq_some_iff.1 h
    split at h
    · rename_i hc
      subst hc
      by_cases e : j = i
      · subst e
        exact fits4_true ht
      · exact fits3_true l hl k (i + 1) h j (by omega) hj
    · cases h
theorem fits2_true {x : Nd} {k : Nat} (h : laws_zzFits2.f k x.f0 x.f1 x.f2 x.f3 x.f4 = some true) : ∀ j, j < x.f3.length → (rd_T29 x.f3 (j : Int)).f1.size ≤ 2147483647 := by
  unfold laws_zzFits2.f at h
  split at h
  · cases h
  · split at h
    · cases h
    · obtain ⟨t, ht, h⟩ := Option.bind_eq_some_iff.1 h
      split at h
      · rename_i hc
        subst hc
        unfold laws_zzFits3.f at ht
        split at ht
        · cases ht
        · intro j hj
          exact fits3_true x.f3 (by omega) k 0 ht j (Nat.zero_le _) hj
      · cases h
def allW (l : List UInt8) : Bool := l.all (fun b => decide (32 < b.toNat) && decide (b.toNat < 128))
theorem one_loop (s : ByteArray) (hs : s.size ≤ 2147483647) : ∀ (d i : Nat), s.size - i = d → i ≤ s.size → Ev (fun k => laws_one29.l0 k s (s.size : Int) (i : Int)) (allW (s.data.toList.drop i) && (s.toList != ([] : List UInt8))) := by
  have hsz : s.data.toList.length = s.size := Array.length_toList ..
  intro d
  induction d with
  | zero =>
    intro i hd hi
    obtain rfl : i = s.size := by omega
    rw [List.drop_of_length_le (by omega)]
    refine Ev.step (f := fun _ => some (s.toList != ([] : List UInt8))) (fun k => ?_) (by simpa [allW] using Ev.now _)
    rw [laws_one29.l0, if_neg (by omega)]
  | succ d ih =>
    intro i hd hi
    have hlt : i < s.size := by omega
    have hw : wrap64 ((i : Int) + 1) = ((i + 1 : Nat) : Int) := by unfold wrap64; omega
    have hr := ih (i + 1) (by omega) (by omega)
    have hb : bt s (i : Int) = ((s.data.toList[i]'(by omega)).toNat : Int) := by
      unfold bt
      rw [dif_pos (by simpa using hlt)]
      rfl
    rw [List.drop_eq_getElem_cons (by omega)]
    generalize s.data.toList[i]'(by omega) = b at *
    simp only [allW, List.all_cons] at hr ⊢
    by_cases c1 : b.toNat ≤ 32
    · refine Ev.step (f := fun _ => some false) (fun k => ?_) (by rw [decide_eq_false (by omega)]; exact Ev.now _)
      rw [laws_one29.l0, if_pos (by omega), if_pos (by omega), if_pos (by omega), hb, if_pos (by omega)]
    · by_cases c2 : b.toNat ≥ 128
      · refine Ev.step (f := fun _ => some false) (fun k => ?_) (by rw [decide_eq_false (show ¬ b.toNat < 128 by omega), Bool.and_false]; exact Ev.now _)
        rw [laws_one29.l0, if_pos (by omega), if_pos (by omega), if_pos (by omega), hb, if_neg (by omega), if_pos (by omega)]
      · rw [decide_eq_true (show 32 < b.toNat by omega), decide_eq_true (show b.toNat < 128 by omega)]
        simp only [Bool.true_and]
        refine Ev.step (fun k => ?_) hr
        rw [laws_one29.l0, if_pos (by omega), if_pos (by omega), if_pos (by omega), hb, if_neg (by omega), if_neg (by omega), hw]
theorem one_any (s : ByteArray) (hs : s.size ≤ 2147483647) : ∃ r, Ev (fun k => laws_one29.f k s) r ∧ (r = true → wordB s = true) := by
  refine ⟨_, one_loop s hs s.size 0 (by omega) (by omega), fun h => ?_⟩
  rw [List.drop_zero] at h
  unfold wordB
  rw [decide_eq_true (by omega), Bool.true_and]
  simp only [Bool.and_eq_true] at h
  exact h.1
theorem id_loop (x : Nd) (id : ByteArray) (hl : x.f3.length ≤ 4398046511104) (hd : Dist x.f3) (hg : goodB x = true) (hsz : ∀ j, j < x.f3.length → (rd_T29 x.f3 (j : Int)).f1.size ≤ 2147483647) :
    ∀ (d i : Nat), x.f3.length - i = d → i ≤ x.f3.length → idWord (soFar idK x.f3 i) = true → Ev (fun k => laws_FnDomID.l0 k id (hasV (soFar idK x.f3 i) id) x.f3 (x.f3.length : Int) (i : Int) x.f0 x.f1 x.f2 x.f3 x.f4) true := by
  intro d
  induction d with
  | zero =>
    intro i hdd hi hword
    obtain rfl : i = x.f3.length := by omega
    have e : soFar idK x.f3 x.f3.length = seekA idK x := by unfold soFar seekA; rw [List.take_length]
    rw [e] at hword ⊢
    have hA : impl_HasID.f x.f0 x.f1 x.f2 x.f3 x.f4 id = some (hasV (seekA idK x) id) := by
      unfold impl_HasID.f
      exact if_pos ⟨hg, hword⟩
    refine Ev.step (f := fun _ => some true) (fun k => ?_) (Ev.now _)
    rw [laws_FnDomID.l0, if_neg (by omega), hA, Option.bind_some]
    simp [laws_living29.f]
  | succ d ih =>
    intro i hdd hi hword
    have hw : wrap64 ((i : Int) + 1) = ((i + 1 : Nat) : Int) := by unfold wrap64; omega
    have hr := ih (i + 1) (by omega) (by omega)
    have hs : soFar idK x.f3 (i + 1) = (soFar idK x.f3 i).or (if ((rd_T29 x.f3 (i : Int)).f0.toList == idK.toList) = true then some (rd_T29 x.f3 (i : Int)).f1 else none) := by
      unfold soFar
      rw [attr_take x.f3 i (by omega), seek_snoc]
      rfl
    have hk : idK.toList = ([105, 100] : List UInt8) := by decide +kernel
    by_cases c : ((rd_T29 x.f3 (i : Int)).f0).toList = idK.toList
    · have hn : soFar idK x.f3 i = none := by
        unfold soFar
        refine seek_none fun a ha => ?_
        obtain ⟨j, hj, rfl⟩ := attr_mem hi ha
        have h1 := hd i j hj (by omega)
        rw [c] at h1
        exact beq_eq_false_iff_ne.2 (fun h => h1 h.symm)
      rw [if_pos (beq_iff_eq.2 c), hn] at hs
      have hs : soFar idK x.f3 (i + 1) = some (rd_T29 x.f3 (i : Int)).f1 := hs
      rw [hs] at hr
      rw [hn]
      obtain ⟨r, hone, hyes⟩ := one_any _ (hsz i (by omega))
      refine Ev.step (fun k => by rw [laws_FnDomID.l0, if_pos (by omega), if_pos (by omega), if_pos (by omega), if_pos (c.trans hk), hw]) (hone.bind ?_)
      cases r with
      | false => simp only [Bool.false_eq_true, if_false]; exact Ev.now _
      | true =>
        simp only [if_true, hasV, Bool.false_eq_true, if_false]
        exact hr (hyes rfl)
    · rw [if_neg (fun h => c (beq_iff_eq.1 h)), Option.or_none] at hs
      rw [hs] at hr
      have hr := hr hword
      refine Ev.step (fun k => ?_) hr
      rw [laws_FnDomID.l0, if_pos (by omega), if_pos (by omega), if_pos (by omega), if_neg (fun h => c (h.trans hk.symm)), hw]
      cases hasV (soFar idK x.f3 i) id <;> simp
theorem law_id (x : Nd) (hx : OkT x) (id : ByteArray) : ∃ k, laws_FnDomID.f k x.f0 x.f1 x.f2 x.f3 x.f4 id = some true := by
  have yes : ∀ g : Nat → Option Bool, (∀ k, g (k + 1) = some true) → Ev g true := fun g h => Ev.step (f := fun _ => some true) h (Ev.now _)
  have hj1 : Ev (fun k => laws_FnDomID.j0 k id true x.f0 x.f1 x.f2 x.f3 x.f4) true := yes _ fun k => by rw [laws_FnDomID.j0, if_pos rfl]
  have hj2 : Ev (fun k => laws_FnDomID.j1 k id true x.f0 x.f1 x.f2 x.f3 x.f4) true := yes _ fun k => by rw [laws_FnDomID.j1, if_pos rfl]
  obtain ⟨kf, rf, hf⟩ := fits2_any x
  have hfe : Ev (fun k => laws_zzFits2.f k x.f0 x.f1 x.f2 x.f3 x.f4) rf := Ev.of (laws_zzFits2.mono _ _ _ _ _) hf
  have hj : rf = true → Ev (fun k => laws_FnDomID.j0 k id (decide ((id.size : Int) > 2147483647)) x.f0 x.f1 x.f2 x.f3 x.f4) true := by
    intro hrf
    subst hrf
    have hsz := fits2_true hf
    by_cases hid : (id.size : Int) > 2147483647
    · rw [decide_eq_true hid]
      exact hj1
    · rw [decide_eq_false hid]
      obtain ⟨kt, rt, ht, hr⟩ := tree_any x hx
      have hte : Ev (fun k => laws_tree29.f k x.f0 x.f1 x.f2 x.f3 x.f4) rt := Ev.of (laws_tree29.mono _ _ _ _ _) ht
      refine Ev.step (fun k => by rw [laws_FnDomID.j0, if_neg (by decide)]) (hte.bind ?_)
      cases rt with
      | false => simp only [Bool.false_eq_true, if_false]; exact hj2
      | true =>
        obtain ⟨h0, ⟨n, hn, htn⟩, hdist⟩ := hr rfl
        simp only [if_true]
        have hD : Dist x.f3 := by
          rcases h0 with h0 | h0
          · exact hdist h0
          · cases htn with
            | elem m name attrs kids ha h => exact absurd h0 (by simp)
            | text t => exact absurd h0 (by simp)
            | comment t => exact absurd h0 (by simp)
            | doc m kids h => intro i j h1 h2; simp at h2
        obtain ⟨r, hone, _⟩ := one_any id (by omega)
        refine hone.bind ?_
        cases r with
        | false => exact hj2
        | true =>
          refine Ev.step (fun k => by rw [laws_FnDomID.j1, if_neg (by decide)]) ?_
          exact id_loop x id htn.attrs hD (goodB_mk htn hn h0) hsz _ 0 rfl (Nat.zero_le _) rfl
  have hall : Ev (fun k => laws_FnDomID.f k x.f0 x.f1 x.f2 x.f3 x.f4 id) true := by
    refine hfe.bind ?_
    cases rf with
    | false => simp only [Bool.false_eq_true, if_false]; exact hj1
    | true =>
      simp only [if_true]
      exact hj rfl
  exact hall.rounds
end Go.Proofs.YtlallihdiffheaaDoor.Dom
namespace Go.Proofs.YtlallihdiffheaaDoor.Pure
open Go.RowKit Go.Proofs.YtlallihdiffheaaDoor.GT Go.Proofs.YtlallihdiffheaaDoorW.PrintWords Go.Proofs.YtlallihdiffheaaDoorW.PrintLast Go.Proofs.YtlallihdiffheaaDoor.Hand
/-- The law's walk, with its answer. -/
theorem FnDomID_walk {W : World} (x : Nd) (A3 A4 : Option Addr) (c3 c4 : Nat) (C3 : k29.C W A3 x.f3.length x.f3) (l3 : x.f3.length ≤ c3) (C4 : k25.C W A4 x.f4.length x.f4) (l4 : x.f4.length ≤ c4) (hx : OkT x) (id : ByteArray) (_ : id.size ≤ 140737488351232) (hT : Hand.TabB W) :
    Calls Tryd.prog 3 #[.agg #[.int .i64 x.f0, .string x.f1, .string x.f2, .slice A3 x.f3.length c3, .slice A4 x.f4.length c4], .string id] W fun e w' => e = .returned (.bool true) ∧ Below W.heap.size W w' := by
  obtain ⟨k, hk⟩ := Dom.law_id x hx id
  exact laws_FnDomID.calls k x.f0 x.f1 x.f2 A3 c3 x.f3 A4 c4 x.f4 id true W C3 l3 C4 l4 hk hT
end Go.Proofs.YtlallihdiffheaaDoor.Pure
