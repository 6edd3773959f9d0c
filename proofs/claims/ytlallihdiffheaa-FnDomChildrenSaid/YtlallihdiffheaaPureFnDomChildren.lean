/- laws.FnDomChildren is true: plain, over the printed law. -/
import Derived.Test.YtlallihdiffheaaGTx13
import Derived.Test.YtlallihdiffheaaTree29
import Derived.Test.YtlallihdiffheaaFits
namespace Go.Proofs.Ytlallihdiffheaa.Dom
open Go.RowKit Go.Proofs.Ytlallihdiffheaa.GT Go.Proofs.YtlallihdiffheaaW.PrintWords Go.Proofs.YtlallihdiffheaaW.PrintLast Go.Proofs.Ytlallihdiffheaa.Hand
set_option linter.unusedVariables false

theorem path_self (l : List Int) (hl : l.length ≤ 4611686018427387904) : Ev (fun k => laws_path29.f k l l) true := by
  have loop : ∀ (d i : Nat), l.length - i = d → i ≤ l.length → Ev (fun k => laws_path29.l0 k l l (l.length : Int) (i : Int)) true := by
    intro d
    induction d with
    | zero =>
      intro i hd hi
      exact Ev.step (f := fun _ => some true) (fun k => by rw [laws_path29.l0, if_neg (by omega)]) (Ev.now _)
    | succ d ih =>
      intro i hd hi
      have hw : wrap64 ((i : Int) + 1) = ((i + 1 : Nat) : Int) := by unfold wrap64; omega
      exact Ev.step (fun k => by rw [laws_path29.l0, if_pos (by omega), if_pos (by omega), if_pos (by omega), if_pos (by omega), if_pos rfl, hw]) (ih (i + 1) (by omega) (by omega))
  refine Ev.congr (f := fun k => laws_path29.l0 k l l (l.length : Int) 0) (fun k => by rw [laws_path29.f, if_pos rfl]) (loop _ 0 rfl (Nat.zero_le _))
theorem paths_self (L : List (List Int)) (hL : L.length ≤ 4611686018427387904) (hl : ∀ l ∈ L, l.length ≤ 4611686018427387904) : Ev (fun k => laws_paths29.f k L L) true := by
  have loop : ∀ (d i : Nat), L.length - i = d → i ≤ L.length → Ev (fun k => laws_paths29.l0 k L L (L.length : Int) (i : Int)) true := by
    intro d
    induction d with
    | zero =>
      intro i hd hi
      exact Ev.step (f := fun _ => some true) (fun k => by rw [laws_paths29.l0, if_neg (by omega)]) (Ev.now _)
    | succ d ih =>
      intro i hd hi
      have hw : wrap64 ((i : Int) + 1) = ((i + 1 : Nat) : Int) := by unfold wrap64; omega
      have hm : rd_L6 L (i : Int) ∈ L := by
        have h : rd_L6 L (i : Int) = L[i]'(by omega) := by simp [rd_L6, show i < L.length by omega]
        rw [h]
        exact List.getElem_mem _
      have hp := path_self _ (hl _ hm)
      have hr := ih (i + 1) (by omega) (by omega)
      have step : ∀ k, laws_paths29.l0 (k + 1) L L (L.length : Int) (i : Int) = (laws_path29.f k (rd_L6 L (i : Int)) (rd_L6 L (i : Int))).bind fun t => if t = true then laws_paths29.l0 k L L (L.length : Int) (wrap64 ((i : Int) + 1)) else some false := fun k => by
        rw [laws_paths29.l0, if_pos (by omega), if_pos (by omega), if_pos (by omega), if_pos (by omega)]
      exact Ev.step step (hp.bind (by simp only [if_true, hw]; exact hr))
  refine Ev.congr (f := fun k => laws_paths29.l0 k L L (L.length : Int) 0) (fun k => by rw [laws_paths29.f, if_pos rfl]) (loop _ 0 rfl (Nat.zero_le _))
theorem under_at (path : List Int) (i : Int) (hp : path.length ≤ 2147483647) : spec_Under29.f path i = some (path ++ [i]) := by
  unfold spec_Under29.f
  simp only [Option.bind_some, List.length_nil, List.nil_append]
  rw [if_pos (by omega), if_pos (by omega)]
theorem rowN_paths (el : Bool) (path : List Int) : ∀ (l : List Nd) (i : Nat), (rowN el path l i).length ≤ l.length ∧ ∀ p ∈ rowN el path l i, p.length = path.length + 1
  | [], i => ⟨Nat.le_refl _, fun p h => by cases h⟩
  | y :: l, i => by
    obtain ⟨h1, h2⟩ := rowN_paths el path l (i + 1)
    simp only [rowN, List.length_cons]
    split
    · refine ⟨by simp only [List.length_cons]; omega, fun p hp => ?_⟩
      rcases List.mem_cons.1 hp with rfl | hp
      · simp
      · exact h2 p hp
    · exact ⟨by omega, h2⟩
theorem atN_tn' {n : Nat} {x : Nd} (hx : Tn n x) (p : List Int) {y : Nd} (h : atN x p = some y) : ∃ m, m ≤ n ∧ Tn m y := by
  induction p generalizing n x with
  | nil =>
    rw [atN] at h
    injection h with h
    subst h
    exact ⟨n, Nat.le_refl _, hx⟩
  | cons i is ih =>
    rw [atN] at h
    split at h
    · cases h
    · cases e : x.f4[i.toNat]? with
      | none => rw [e] at h; cases h
      | some c =>
        rw [e] at h
        obtain ⟨m, hm, hk⟩ := hx.kids
        obtain ⟨m', hm', h'⟩ := hk.mem c (List.mem_of_getElem? e)
        obtain ⟨m2, hm2, h3⟩ := ih h' h
        exact ⟨m2, by omega, h3⟩
theorem kids_loop (x : Nd) (path : List Int) (hp : path.length ≤ 2147483647) (el b : Bool) (ks : List Nd) (hks : ks.length ≤ 1000) (hC : impl_Children.f x.f0 x.f1 x.f2 x.f3 x.f4 path el = some (rowN el path ks 0, b)) :
    ∀ (d i : Nat) (acc : List (List Int)), ks.length - i = d → i ≤ ks.length → acc.length ≤ i → acc ++ rowN el path (ks.drop i) i = rowN el path ks 0 → Ev (fun k => laws_FnDomChildren.l0 k path el b acc ks (ks.length : Int) (i : Int) x.f0 x.f1 x.f2 x.f3 x.f4) true := by
  intro d
  induction d with
  | zero =>
    intro i acc hd hi ha hacc
    obtain rfl : i = ks.length := by omega
    rw [List.drop_length, rowN, List.append_nil] at hacc
    subst hacc
    obtain ⟨h1, h2⟩ := rowN_paths el path ks 0
    have hps := paths_self (rowN el path ks 0) (by omega) (fun l hl => by rw [h2 l hl]; omega)
    have hL : laws_living29.f = some true := rfl
    have step : ∀ k, laws_FnDomChildren.l0 (k + 1) path el b (rowN el path ks 0) ks (ks.length : Int) ((ks.length : Nat) : Int) x.f0 x.f1 x.f2 x.f3 x.f4 = (laws_paths29.f k (rowN el path ks 0) (rowN el path ks 0)).bind fun t => if t = true then ((laws_living29.f).bind fun t314 => (some t314)) else some false := fun k => by
      rw [laws_FnDomChildren.l0, if_neg (by omega), hC, Option.bind_some]
      simp only [beq_self_eq_true, if_true]
    refine Ev.step step (hps.bind ?_)
    simp only [if_true, hL, Option.bind_some]
    exact Ev.now _
  | succ d ih =>
    intro i acc hd hi ha hacc
    have hlt : i < ks.length := by omega
    have hw : wrap64 ((i : Int) + 1) = ((i + 1 : Nat) : Int) := by unfold wrap64; omega
    rw [kids_drop ks i hlt] at hacc
    obtain ⟨y, hy⟩ : ∃ y, y = rd_T25 ks (i : Int) := ⟨_, rfl⟩
    rw [← hy] at hacc
    simp only [rowN] at hacc
    have hu := under_at path (i : Int) hp
    have take : (el = false ∨ y.f0 = 0) → Ev (fun k => laws_FnDomChildren.l0 k path el b (acc ++ [path ++ [(i : Int)]]) ks (ks.length : Int) (((i + 1 : Nat)) : Int) x.f0 x.f1 x.f2 x.f3 x.f4) true := fun h => by
      rw [if_pos h] at hacc
      exact ih (i + 1) _ (by omega) (by omega) (by simp only [List.length_append, List.length_singleton]; omega) (by rw [List.append_assoc]; exact hacc)
    cases el with
    | false =>
      refine Ev.step (fun k => ?_) (take (.inl rfl))
      rw [laws_FnDomChildren.l0, if_pos (by omega), if_pos (by omega), if_pos (by omega), if_neg (by decide), hu, Option.bind_some, if_pos (by omega), hw]
    | true =>
      by_cases h0 : y.f0 = 0
      · refine Ev.step (fun k => ?_) (take (.inr h0))
        rw [laws_FnDomChildren.l0, if_pos (by omega), if_pos (by omega), if_pos (by omega), if_pos rfl, ← hy, if_pos h0, hu, Option.bind_some, if_pos (by omega), hw]
      · rw [if_neg (fun h => h.elim (fun h => by cases h) h0)] at hacc
        refine Ev.step (fun k => ?_) (ih (i + 1) acc (by omega) (by omega) (by omega) hacc)
        rw [laws_FnDomChildren.l0, if_pos (by omega), if_pos (by omega), if_pos (by omega), if_pos rfl, ← hy, if_neg h0, hw]
theorem law_children (x : Nd) (hx : OkT x) (path : List Int) (hpm : path.length ≤ 9223372036854775807) (el : Bool) : ∃ k, laws_FnDomChildren.f k x.f0 x.f1 x.f2 x.f3 x.f4 path el = some true := by
  have hj1 : Ev (fun k => laws_FnDomChildren.j0 k path el true x.f0 x.f1 x.f2 x.f3 x.f4) true := Ev.step (f := fun _ => some true) (fun k => by rw [laws_FnDomChildren.j0, if_pos rfl]) (Ev.now _)
  obtain ⟨kf, rf, hf⟩ := fits2_any x
  have hfe : Ev (fun k => laws_zzFits2.f k x.f0 x.f1 x.f2 x.f3 x.f4) rf := Ev.of (laws_zzFits2.mono _ _ _ _ _) hf
  have hall : Ev (fun k => laws_FnDomChildren.f k x.f0 x.f1 x.f2 x.f3 x.f4 path el) true := by
    refine hfe.bind (f := fun k t => if t = true then laws_FnDomChildren.j0 k path el (decide ((path.length : Int) > 2147483647)) x.f0 x.f1 x.f2 x.f3 x.f4 else laws_FnDomChildren.j0 k path el true x.f0 x.f1 x.f2 x.f3 x.f4) ?_
    cases rf with
    | false => simp only [Bool.false_eq_true, if_false]; exact hj1
    | true =>
      simp only [if_true]
      by_cases c : (path.length : Int) > 2147483647
      · rw [decide_eq_true c]; exact hj1
      · rw [decide_eq_false c]
        obtain ⟨kt, rt, ht, hr⟩ := tree_any x hx
        have hte : Ev (fun k => laws_tree29.f k x.f0 x.f1 x.f2 x.f3 x.f4) rt := Ev.of (laws_tree29.mono _ _ _ _ _) ht
        obtain ⟨ka, hka⟩ := at_any x path hpm
        have hae : Ev (fun k => spec_At29.f k x.f0 x.f1 x.f2 x.f3 x.f4 path) (atR (atN x path)) := Ev.of (spec_At29.mono _ _ _ _ _ _) hka
        refine Ev.step (fun k => by rw [laws_FnDomChildren.j0, if_neg (by decide)]) (hte.bind ?_)
        cases rt with
        | false => simp only [Bool.false_eq_true, if_false]; exact Ev.now _
        | true =>
          obtain ⟨h0, ⟨n, hn, htn⟩, -⟩ := hr rfl
          simp only [if_true]
          have hg := goodC_mk htn hn h0
          have hC : ∀ ks b, kidsN el x path = rowN el path ks 0 → (atN x path).isSome = b → impl_Children.f x.f0 x.f1 x.f2 x.f3 x.f4 path el = some (rowN el path ks 0, b) := fun ks b h1 h2 => by
            unfold impl_Children.f
            rw [show (⟨x.f0, x.f1, x.f2, x.f3, x.f4⟩ : Nd) = x from (by cases x; rfl), if_pos hg, h1, h2]
          refine hae.bind ?_
          cases hat : atN x path with
          | none =>
            have h := kids_loop x path (by omega) el false [] (by simp) (hC [] false (by rw [kidsN, hat]; rfl) (by rw [hat]; rfl)) 0 0 [] rfl (Nat.le_refl _) (Nat.le_refl _) rfl
            exact h
          | some y =>
            have hyl : y.f4.length ≤ 1000 := by
              obtain ⟨my, hmy, hty⟩ := atN_tn' htn path hat
              obtain ⟨m, hm, h⟩ := hty.kids
              have := h.len
              omega
            have h := kids_loop x path (by omega) el true y.f4 hyl (hC y.f4 true (by rw [kidsN, hat]) (by rw [hat]; rfl)) _ 0 [] rfl (Nat.zero_le _) (Nat.le_refl _) rfl
            exact h
  exact hall.rounds
end Go.Proofs.Ytlallihdiffheaa.Dom
namespace Go.Proofs.Ytlallihdiffheaa.Pure
open Go.RowKit Go.Proofs.Ytlallihdiffheaa.GT Go.Proofs.YtlallihdiffheaaW.PrintWords Go.Proofs.YtlallihdiffheaaW.PrintLast Go.Proofs.Ytlallihdiffheaa.Hand
/-- The law's walk, with its answer. -/
theorem FnDomChildren_walk {W : World} (x : Nd) (A3 A4 : Option Addr) (c3 c4 : Nat) (C3 : k34.C W A3 x.f3.length x.f3) (l3 : x.f3.length ≤ c3) (C4 : k25.C W A4 x.f4.length x.f4) (l4 : x.f4.length ≤ c4) (hx : OkT x) (A : Option Addr) (cap : Nat) (l : List Int) (C : Kd.C (Kd.int .i64) W A l.length l) (c : l.length ≤ cap) (el : Bool) :
    Calls Try.prog 5 #[.agg #[.int .i64 x.f0, .string x.f1, .string x.f2, .slice A3 x.f3.length c3, .slice A4 x.f4.length c4], .slice A l.length cap, .bool el] W fun e W' => e = .returned (.bool true) ∧ Below W.heap.size W W' := by
  obtain ⟨k, hk⟩ := Dom.law_children x hx l C.2.1 el
  exact laws_FnDomChildren.calls k x.f0 x.f1 x.f2 A3 c3 x.f3 A4 c4 x.f4 A cap l el true W C3 l3 C4 l4 C c hk
end Go.Proofs.Ytlallihdiffheaa.Pure
