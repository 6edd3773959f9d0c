/- laws.FnDomNeighbor is true: plain, over the printed law. -/
import Derived.Test.YtlallihdiffheaaGTx13
import Derived.Test.YtlallihdiffheaaGTx12
import Derived.Test.YtlallihdiffheaaTree29
import Derived.Test.YtlallihdiffheaaFits
namespace Go.Proofs.Ytlallihdiffheaa.Dom
open Go.RowKit Go.Proofs.Ytlallihdiffheaa.GT Go.Proofs.YtlallihdiffheaaW.PrintWords Go.Proofs.YtlallihdiffheaaW.PrintLast Go.Proofs.Ytlallihdiffheaa.Hand
set_option linter.unusedVariables false

theorem path_self (l : List Int) (hl : l.length ≤ 4611686018427387904) : Ev (fun k => laws_path29.f k l l) true := by
  have loop : ∀ (d i : Nat), l.length - i = d → i ≤ l.length → Ev (fun k => laws_path29.l0 k l l (l.length : Int) (i : Int)) true := by
    intro d
    induction d with
    | zero =>
      intro i hd hi
      exact Ev.step (f := fun _ => some true) (fun k => by rw [laws_path29.l0, if_neg (by omega)]) (Ev.now _)
    | succ d ih =>
      intro i hd hi
      have hw : wrap64 ((i : Int) + 1) = ((i + 1 : Nat) : Int) := by unfold wrap64; omega
      exact Ev.step (fun k => by rw [laws_path29.l0, if_pos (by omega), if_pos (by omega), if_pos (by omega), if_pos (by omega), if_pos rfl, hw]) (ih (i + 1) (by omega) (by omega))
  refine Ev.congr (f := fun k => laws_path29.l0 k l l (l.length : Int) 0) (fun k => by rw [laws_path29.f, if_pos rfl]) (loop _ 0 rfl (Nat.zero_le _))
theorem under_at (path : List Int) (i : Int) (hp : path.length ≤ 2147483647) : spec_Under29.f path i = some (path ++ [i]) := by
  unfold spec_Under29.f
  simp only [Option.bind_some, List.length_nil, List.nil_append]
  rw [if_pos (by omega), if_pos (by omega)]
theorem atN_tn' {n : Nat} {x : Nd} (hx : Tn n x) (p : List Int) {y : Nd} (h : atN x p = some y) : ∃ m, m ≤ n ∧ Tn m y := by
  induction p generalizing n x with
  | nil =>
    rw [atN] at h
    injection h with h
    subst h
    exact ⟨n, Nat.le_refl _, hx⟩
  | cons i is ih =>
    rw [atN] at h
    split at h
    · cases h
    · cases e : x.f4[i.toNat]? with
      | none => rw [e] at h; cases h
      | some c =>
        rw [e] at h
        obtain ⟨m, hm, hk⟩ := hx.kids
        obtain ⟨m', hm', h'⟩ := hk.mem c (List.mem_of_getElem? e)
        obtain ⟨m2, hm2, h3⟩ := ih h' h
        exact ⟨m2, by omega, h3⟩
def outR (R : Option (List Int)) : List Int × Bool := (R.getD [], R.isSome)
theorem atN_app (x : Nd) (p1 p2 : List Int) : atN x (p1 ++ p2) = (atN x p1).bind (fun y => atN y p2) := by
  induction p1 generalizing x with
  | nil => rfl
  | cons i is ih =>
    rw [List.cons_append, atN, atN]
    split
    · rfl
    · cases x.f4[i.toNat]? with
      | none => rfl
      | some c => exact ih c
theorem idxN_app (e : Bool) : ∀ (l1 l2 : List Nd) (i : Nat), idxN e (l1 ++ l2) i = idxN e l1 i ++ idxN e l2 (i + l1.length)
  | [], l2, i => rfl
  | y :: l1, l2, i => by
    simp only [List.cons_append, idxN, List.length_cons]
    rw [idxN_app e l1 l2 (i + 1), show i + 1 + l1.length = i + (l1.length + 1) by omega]
    split <;> simp
theorem among_at (y : Nd) (e : Bool) : spec_among29.f y.f0 y.f1 y.f2 y.f3 y.f4 e = some (decide (e = false ∨ y.f0 = 0)) := by
  unfold spec_among29.f
  cases e with
  | false => simp
  | true => by_cases h : y.f0 = 0 <;> simp [h]
theorem first_loop (path : List Int) (hp : path.length ≤ 2147483647) (e : Bool) (ks : List Nd) (hks : ks.length ≤ 1000) : ∀ (d i : Nat), ks.length - i = d → i ≤ ks.length →
    Ev (fun k => spec_First29.l0 k path e ks (ks.length : Int) (i : Int)) (outR (((idxN e (ks.drop i) i).head?).map (fun (t : Nat) => path ++ [(t : Int)]))) := by
  intro d
  induction d with
  | zero =>
    intro i hd hi
    obtain rfl : i = ks.length := by omega
    rw [List.drop_length]
    exact Ev.step (f := fun _ => some (([] : List Int), false)) (fun k => by rw [spec_First29.l0, if_neg (by omega)]) (Ev.now _)
  | succ d ih =>
    intro i hd hi
    have hlt : i < ks.length := by omega
    have hw : wrap64 ((i : Int) + 1) = ((i + 1 : Nat) : Int) := by unfold wrap64; omega
    have hu := under_at path (i : Int) hp
    rw [kids_drop ks i hlt]
    obtain ⟨y, hy⟩ : ∃ y, y = rd_T25 ks (i : Int) := ⟨_, rfl⟩
    rw [← hy]
    by_cases h : e = false ∨ y.f0 = 0
    · rw [idxN, if_pos h]
      exact Ev.step (f := fun _ => some (path ++ [(i : Int)], true)) (fun k => by rw [spec_First29.l0, if_pos (by omega), if_pos (by omega), if_pos (by omega), ← hy, among_at, Option.bind_some, decide_eq_true h, if_pos rfl, hu, Option.bind_some]) (Ev.now _)
    · rw [idxN, if_neg h]
      exact Ev.step (fun k => by rw [spec_First29.l0, if_pos (by omega), if_pos (by omega), if_pos (by omega), ← hy, among_at, Option.bind_some, decide_eq_false h, if_neg (by decide), hw]) (ih (i + 1) (by omega) (by omega))
theorem fwd_loop (path : List Int) (kk : Nat) (hkk : kk ≤ path.length) (hp : path.length ≤ 2147483647) (e : Bool) (y : Nd) (hks : y.f4.length ≤ 1000) : ∀ (d i : Nat), y.f4.length - i = d → i ≤ 2000 →
    Ev (fun k => spec_Beside29.l0 k path 1 e (kk : Int) (i : Int) y.f0 y.f1 y.f2 y.f3 y.f4) (outR (((idxN e (y.f4.drop i) i).head?).map (fun (t : Nat) => path.take kk ++ [(t : Int)]))) := by
  intro d
  induction d with
  | zero =>
    intro i hd hi
    rw [List.drop_eq_nil_of_le (by omega)]
    refine Ev.step (f := fun k => spec_Beside29.j1 k path 1 e (kk : Int) (i : Int) false y.f0 y.f1 y.f2 y.f3 y.f4) (fun k => by rw [spec_Beside29.l0, if_pos (by omega), decide_eq_false (by omega)]) ?_
    exact Ev.step (f := fun _ => some (([] : List Int), false)) (fun k => by rw [spec_Beside29.j1, if_neg (by decide)]) (Ev.now _)
  | succ d ih =>
    intro i hd hi
    have hlt : i < y.f4.length := by omega
    have hw : wrap64 ((i : Int) + 1) = ((i + 1 : Nat) : Int) := by unfold wrap64; omega
    have hu := under_at (path.take kk) (i : Int) (by rw [List.length_take]; omega)
    rw [kids_drop y.f4 i hlt]
    obtain ⟨z, hz⟩ : ∃ z, z = rd_T25 y.f4 (i : Int) := ⟨_, rfl⟩
    rw [← hz]
    refine Ev.step (f := fun k => spec_Beside29.j1 k path 1 e (kk : Int) (i : Int) true y.f0 y.f1 y.f2 y.f3 y.f4) (fun k => by rw [spec_Beside29.l0, if_pos (by omega), decide_eq_true (by omega)]) ?_
    by_cases h : e = false ∨ z.f0 = 0
    · rw [idxN, if_pos h]
      exact Ev.step (f := fun _ => some (path.take kk ++ [(i : Int)], true)) (fun k => by rw [spec_Beside29.j1, if_pos rfl, if_pos (by omega), if_pos (by omega), ← hz, among_at, Option.bind_some, decide_eq_true h, if_pos rfl, if_pos (by omega), if_pos (by omega), Int.toNat_natCast, hu, Option.bind_some]) (Ev.now _)
    · rw [idxN, if_neg h]
      exact Ev.step (fun k => by rw [spec_Beside29.j1, if_pos rfl, if_pos (by omega), if_pos (by omega), ← hz, among_at, Option.bind_some, decide_eq_false h, if_neg (by decide), hw]) (ih (i + 1) (by omega) (by omega))
theorem bwd_loop (path : List Int) (kk : Nat) (hkk : kk ≤ path.length) (hp : path.length ≤ 2147483647) (e : Bool) (y : Nd) (hks : y.f4.length ≤ 1000) : ∀ (i : Nat), i ≤ y.f4.length →
    Ev (fun k => spec_Beside29.l0 k path (-1) e (kk : Int) ((i : Int) - 1) y.f0 y.f1 y.f2 y.f3 y.f4) (outR (((idxN e (y.f4.take i) 0).getLast?).map (fun (t : Nat) => path.take kk ++ [(t : Int)]))) := by
  intro i
  induction i with
  | zero =>
    intro hi
    refine Ev.step (f := fun k => spec_Beside29.j1 k path (-1) e (kk : Int) (((0 : Nat) : Int) - 1) false y.f0 y.f1 y.f2 y.f3 y.f4) (fun k => by rw [spec_Beside29.l0, if_neg (by omega)]) ?_
    exact Ev.step (f := fun _ => some (([] : List Int), false)) (fun k => by rw [spec_Beside29.j1, if_neg (by decide)]) (Ev.now _)
  | succ i ih =>
    intro hi
    have hlt : i < y.f4.length := by omega
    have hw : wrap64 ((i : Int) + (-1)) = (i : Int) - 1 := by unfold wrap64; omega
    have e1 : (((i + 1 : Nat) : Int) - 1) = (i : Int) := by omega
    rw [e1]
    have hu := under_at (path.take kk) (i : Int) (by rw [List.length_take]; omega)
    obtain ⟨z, hz⟩ : ∃ z, z = rd_T25 y.f4 (i : Int) := ⟨_, rfl⟩
    have htk : y.f4.take (i + 1) = y.f4.take i ++ [z] := by
      rw [List.take_add_one, kids_get y.f4 i hlt, ← hz]
      rfl
    have hln : (y.f4.take i).length = i := by rw [List.length_take]; omega
    rw [htk, idxN_app, hln, Nat.zero_add]
    refine Ev.step (f := fun k => spec_Beside29.j1 k path (-1) e (kk : Int) (i : Int) true y.f0 y.f1 y.f2 y.f3 y.f4) (fun k => by rw [spec_Beside29.l0, if_pos (by omega), decide_eq_true (by omega)]) ?_
    by_cases h : e = false ∨ z.f0 = 0
    · have hl : (idxN e (y.f4.take i) 0 ++ idxN e [z] i).getLast? = some i := by
        rw [idxN, if_pos h]
        simp [idxN]
      rw [hl]
      exact Ev.step (f := fun _ => some (path.take kk ++ [(i : Int)], true)) (fun k => by rw [spec_Beside29.j1, if_pos rfl, if_pos (by omega), if_pos (by omega), ← hz, among_at, Option.bind_some, decide_eq_true h, if_pos rfl, if_pos (by omega), if_pos (by omega), Int.toNat_natCast, hu, Option.bind_some]) (Ev.now _)
    · have hl : idxN e (y.f4.take i) 0 ++ idxN e [z] i = idxN e (y.f4.take i) 0 := by
        rw [idxN, if_neg h]
        simp [idxN]
      rw [hl]
      exact Ev.step (fun k => by rw [spec_Beside29.j1, if_pos rfl, if_pos (by omega), if_pos (by omega), ← hz, among_at, Option.bind_some, decide_eq_false h, if_neg (by decide), hw]) (ih (by omega))
def byOf (fwd : Bool) : Int := if fwd = true then 1 else -1
theorem beside_any {n : Nat} (hn : n ≤ 300) {x : Nd} (hx : Tn n x) (fwd e : Bool) (up : List Int) (j : Int) (hp : up.length < 2147483647) {c : Nd} (hat : atN x (up ++ [j]) = some c) : Ev (fun k => spec_Beside29.f k x.f0 x.f1 x.f2 x.f3 x.f4 (up ++ [j]) (byOf fwd) e) (outR (sibN fwd e x (up ++ [j]))) := by
  rw [atN_app] at hat
  cases hup : atN x up with
  | none => rw [hup] at hat; cases hat
  | some y =>
    rw [hup, Option.bind_some, atN] at hat
    have hj : 0 ≤ j ∧ j.toNat < y.f4.length := by
      split at hat
      · cases hat
      · cases e1 : y.f4[j.toNat]? with
        | none => rw [e1] at hat; cases hat
        | some z => exact ⟨by omega, (List.getElem?_eq_some_iff.1 e1).1⟩
    have hyl : y.f4.length ≤ 1000 := by
      obtain ⟨my, hmy, hty⟩ := atN_tn' hx up hup
      obtain ⟨m, hm, h⟩ := hty.kids
      have := h.len
      omega
    obtain ⟨m, rfl⟩ : ∃ m : Nat, j = (m : Int) := ⟨j.toNat, by omega⟩
    have hjm := hj.2
    rw [Int.toNat_natCast] at hjm
    clear hj hat
    obtain ⟨P, hP⟩ : ∃ P, P = up ++ [(m : Int)] := ⟨_, rfl⟩
    have hPl : P.length = up.length + 1 := by rw [hP]; simp
    have hPt : P.take up.length = up := by rw [hP]; exact List.take_left
    have hPr : rd P ((up.length : Nat) : Int) = (m : Int) := by rw [hP]; simp [rd]
    have hw0 : wrap64 ((P.length : Int) - 1) = (up.length : Int) := by rw [hPl]; unfold wrap64; omega
    have hsib : sibN fwd e x P = (if fwd = true then (idxN e (y.f4.drop (m + 1)) (m + 1)).head? else (idxN e (y.f4.take m) 0).getLast?).map (fun (t : Nat) => up ++ [(t : Int)]) := by
      rw [hP]
      simp only [sibN, List.getLast?_append, List.getLast?_singleton, Option.some_or, List.dropLast_concat, hup, Int.toNat_natCast]
    rw [← hP, hsib]
    obtain ⟨ka, hka⟩ := at_any x up (by omega)
    have hae : Ev (fun k => spec_At29.f k x.f0 x.f1 x.f2 x.f3 x.f4 up) (atR (atN x up)) := Ev.of (spec_At29.mono _ _ _ _ _ _) hka
    rw [hup] at hae
    have hbody : Ev (fun k => spec_Beside29.l0 k P (byOf fwd) e (up.length : Int) (wrap64 ((m : Int) + byOf fwd)) y.f0 y.f1 y.f2 y.f3 y.f4) (outR ((if fwd = true then (idxN e (y.f4.drop (m + 1)) (m + 1)).head? else (idxN e (y.f4.take m) 0).getLast?).map (fun (t : Nat) => up ++ [(t : Int)]))) := by
      cases fwd with
      | true =>
        have hw : wrap64 ((m : Int) + byOf true) = ((m + 1 : Nat) : Int) := by simp only [byOf, if_true]; unfold wrap64; omega
        have h := fwd_loop P up.length (by omega) (by omega) e y hyl _ (m + 1) rfl (by omega)
        rw [hPt] at h
        rw [hw]
        exact h
      | false =>
        have hw : wrap64 ((m : Int) + byOf false) = (m : Int) - 1 := by simp only [byOf, Bool.false_eq_true, if_false]; unfold wrap64; omega
        have h := bwd_loop P up.length (by omega) (by omega) e y hyl m (by omega)
        rw [hPt] at h
        rw [hw]
        exact h
    have step : ∀ k, spec_Beside29.f k x.f0 x.f1 x.f2 x.f3 x.f4 P (byOf fwd) e = (spec_At29.f k x.f0 x.f1 x.f2 x.f3 x.f4 up).bind fun bt253 => spec_Beside29.l0 k P (byOf fwd) e (up.length : Int) (wrap64 ((m : Int) + byOf fwd)) bt253.1 bt253.2.1 bt253.2.2.1 bt253.2.2.2.1 bt253.2.2.2.2.1 := fun k => by
      unfold spec_Beside29.f
      rw [if_neg (by omega), hw0, if_pos (by omega), if_pos (by omega), Int.toNat_natCast, hPt, hPr]
      congr 1
      funext bt
      rw [if_pos (by omega)]
    exact Ev.congr step (hae.bind hbody)
theorem up_loop {n : Nat} (hn : n ≤ 300) {x : Nd} (hx : Tn n x) (fwd e : Bool) (path : List Int) (hp : path.length ≤ 2147483647) {c : Nd} (hat : atN x path = some c) : ∀ m : Nat, m ≤ path.length →
    Ev (fun k => spec_Near29.l0 k path (byOf fwd) e (m : Int) x.f0 x.f1 x.f2 x.f3 x.f4) (outR (upN fwd e x path (m + 1))) := by
  intro m
  induction m with
  | zero =>
    intro _
    exact Ev.step (f := fun _ => some (([] : List Int), false)) (fun k => by rw [spec_Near29.l0, if_neg (by omega)]) (Ev.now _)
  | succ m ih =>
    intro hm
    have hw : wrap64 (((m + 1 : Nat) : Int) - 1) = (m : Int) := by unfold wrap64; omega
    have htk := take_rd path m (by omega)
    have hpre : ∃ c', atN x (path.take m ++ [rd path (m : Int)]) = some c' := by
      rw [← htk]
      have h := hat
      rw [← List.take_append_drop (m + 1) path, atN_app] at h
      obtain ⟨c', h1, _⟩ := Option.bind_eq_some_iff.1 h
      exact ⟨c', h1⟩
    obtain ⟨c', hc'⟩ := hpre
    have hb := beside_any hn hx fwd e (path.take m) (rd path (m : Int)) (by rw [List.length_take]; omega) hc'
    rw [← htk] at hb
    have hr := ih (by omega)
    have hu : upN fwd e x path (m + 1 + 1) = (sibN fwd e x (path.take (m + 1))).or (upN fwd e x path (m + 1)) := rfl
    rw [hu]
    have step : ∀ k, spec_Near29.l0 (k + 1) path (byOf fwd) e ((m + 1 : Nat) : Int) x.f0 x.f1 x.f2 x.f3 x.f4 = (spec_Beside29.f k x.f0 x.f1 x.f2 x.f3 x.f4 (path.take (m + 1)) (byOf fwd) e).bind fun bt277 => if bt277.2 = true then some (bt277.1, true) else spec_Near29.l0 k path (byOf fwd) e (m : Int) x.f0 x.f1 x.f2 x.f3 x.f4 := fun k => by
      rw [spec_Near29.l0, if_pos (by omega), if_pos (by omega), if_pos (by omega), Int.toNat_natCast, hw]
    refine Ev.step step (hb.bind ?_)
    cases hs : sibN fwd e x (path.take (m + 1)) with
    | some q =>
      simp only [outR, Option.isSome_some, if_true, Option.getD_some, Option.some_or]
      exact Ev.now _
    | none =>
      simp only [outR, Option.isSome_none, Bool.false_eq_true, if_false, Option.none_or]
      exact hr
theorem near_any {n : Nat} (hn : n ≤ 300) {x : Nd} (hx : Tn n x) (ch fwd e : Bool) (path : List Int) (hp : path.length ≤ 2147483647) {c : Nd} (hat : atN x path = some c) :
    Ev (fun k => spec_Near29.f k x.f0 x.f1 x.f2 x.f3 x.f4 path (byOf fwd) ch e) (outR (nearN (if ch = true then some e else none) fwd e x path)) := by
  have hu := up_loop hn hx fwd e path hp hat path.length (Nat.le_refl _)
  have hu1 : upN fwd e x path (path.length + 1) = (sibN fwd e x path).or (upN fwd e x path path.length) := by
    rw [upN, List.take_length]
  rw [hu1] at hu
  have hj : Ev (fun k => spec_Near29.j0 k path (byOf fwd) e x.f0 x.f1 x.f2 x.f3 x.f4) (outR ((sibN fwd e x path).or (upN fwd e x path path.length))) := Ev.step (fun k => by rw [spec_Near29.j0]) hu
  cases ch with
  | false =>
    simp only [Bool.false_eq_true, if_false, nearN, firstN, Option.none_or]
    exact Ev.congr (fun k => by rw [spec_Near29.f, if_neg (by decide)]) hj
  | true =>
    have hyl : c.f4.length ≤ 1000 := by
      obtain ⟨my, hmy, hty⟩ := atN_tn' hx path hat
      obtain ⟨m, hm, h⟩ := hty.kids
      have := h.len
      omega
    obtain ⟨ka, hka⟩ := at_any x path (by omega)
    have hae : Ev (fun k => spec_At29.f k x.f0 x.f1 x.f2 x.f3 x.f4 path) (atR (atN x path)) := Ev.of (spec_At29.mono _ _ _ _ _ _) hka
    rw [hat] at hae
    have hf : Ev (fun k => spec_First29.f k x.f0 x.f1 x.f2 x.f3 x.f4 path e) (outR (firstN (some e) x path)) := by
      have hfn : firstN (some e) x path = ((idxN e c.f4 0).head?).map (fun (t : Nat) => path ++ [(t : Int)]) := by simp only [firstN, hat]
      rw [hfn]
      refine Ev.congr (fun k => by rw [spec_First29.f]) (hae.bind ?_)
      exact first_loop path hp e c.f4 hyl _ 0 rfl (Nat.zero_le _)
    simp only [if_true, nearN]
    refine Ev.congr (fun k => by rw [spec_Near29.f, if_pos rfl]) (hf.bind ?_)
    cases hs : firstN (some e) x path with
    | some q =>
      simp only [outR, Option.isSome_some, if_true, Option.getD_some, Option.some_or]
      exact Ev.now _
    | none =>
      simp only [Option.none_or]
      have h2 := hj
      simp only [outR] at h2 ⊢
      simp only [Option.isSome_none, Bool.false_eq_true, if_false]
      exact h2
theorem sib_len (fwd e : Bool) (x : Nd) (js : List Int) {r : List Int} (h : sibN fwd e x js = some r) : r.length ≤ js.length + 1 := by
  unfold sibN at h
  cases h1 : js.getLast? with
  | none => rw [h1] at h; cases h
  | some i =>
    rw [h1] at h
    cases h2 : atN x js.dropLast with
    | none => rw [h2] at h; cases h
    | some y =>
      rw [h2] at h
      obtain ⟨t, _, rfl⟩ := Option.map_eq_some_iff.1 h
      simp only [List.length_append, List.length_dropLast, List.length_singleton]
      omega
theorem up_len (fwd e : Bool) (x : Nd) (js : List Int) : ∀ (m : Nat) {r : List Int}, upN fwd e x js m = some r → r.length ≤ js.length + 1
  | 0, r, h => by cases h
  | m + 1, r, h => by
    rw [upN] at h
    cases h1 : sibN fwd e x (js.take m) with
    | some s =>
      rw [h1] at h
      obtain rfl := Option.some.inj h
      have := sib_len fwd e x _ h1
      rw [List.length_take] at this
      omega
    | none =>
      rw [h1] at h
      exact up_len fwd e x js m h
theorem near_len (ch : Option Bool) (fwd e : Bool) (x : Nd) (js : List Int) {r : List Int} (h : nearN ch fwd e x js = some r) : r.length ≤ js.length + 1 := by
  rw [nearN] at h
  cases h0 : firstN ch x js with
  | some s =>
    rw [h0] at h
    obtain rfl := Option.some.inj h
    cases ch with
    | none => cases h0
    | some e =>
      simp only [firstN] at h0
      cases h2 : atN x js with
      | none => rw [h2] at h0; cases h0
      | some y =>
        rw [h2] at h0
        obtain ⟨t, _, rfl⟩ := Option.map_eq_some_iff.1 h0
        simp
  | none =>
    rw [h0] at h
    cases h1 : sibN fwd e x js with
    | some s =>
      rw [h1] at h
      obtain rfl := Option.some.inj h
      exact sib_len fwd e x js h1
    | none =>
      rw [h1] at h
      exact up_len fwd e x js _ h
theorem j1_any (x : Nd) (hx : OkT x) (path : List Int) (hp : path.length ≤ 2147483647) (kd : Int) (ch fwd e : Bool) (hk : kindOf kd = some (if ch = true then some e else none, fwd, e)) : Ev (fun k => laws_FnDomNeighbor.j1 k path kd (byOf fwd) ch e x.f0 x.f1 x.f2 x.f3 x.f4) true := by
  have hj2 : Ev (fun k => laws_FnDomNeighbor.j2 k path kd (byOf fwd) ch e true x.f0 x.f1 x.f2 x.f3 x.f4) true := Ev.step (f := fun _ => some true) (fun k => by rw [laws_FnDomNeighbor.j2, if_pos rfl]) (Ev.now _)
  obtain ⟨ka, hka⟩ := at_any x path (by omega)
  have hae : Ev (fun k => spec_At29.f k x.f0 x.f1 x.f2 x.f3 x.f4 path) (atR (atN x path)) := Ev.of (spec_At29.mono _ _ _ _ _ _) hka
  obtain ⟨kt, rt, ht, hr⟩ := tree_any x hx
  have hte : Ev (fun k => laws_tree29.f k x.f0 x.f1 x.f2 x.f3 x.f4) rt := Ev.of (laws_tree29.mono _ _ _ _ _) ht
  refine Ev.step (fun k => by rw [laws_FnDomNeighbor.j1]) (hae.bind ?_)
  cases hat : atN x path with
  | none =>
    simp only [atR, Bool.false_eq_true, if_false]
    exact hj2
  | some c =>
    simp only [atR, if_true]
    refine hte.bind ?_
    cases rt with
    | false =>
      simp only [Bool.not_false]
      exact hj2
    | true =>
      obtain ⟨h0, ⟨n, hn, htn⟩, -⟩ := hr rfl
      simp only [Bool.not_true]
      have hg := goodC_mk htn hn h0
      have hne := near_any hn htn ch fwd e path hp hat
      obtain ⟨R, hR⟩ : ∃ R, R = nearN (if ch = true then some e else none) fwd e x path := ⟨_, rfl⟩
      rw [← hR] at hne
      have hI : impl_Neighbor.f x.f0 x.f1 x.f2 x.f3 x.f4 path kd = some (R.getD [], R.isSome) := by
        unfold impl_Neighbor.f
        rw [show (⟨x.f0, x.f1, x.f2, x.f3, x.f4⟩ : Nd) = x from (by cases x; rfl), if_pos hg, hk, Option.map_some]
        simp only [nearAt, hat, ← hR]
      have hL : laws_living29.f = some true := rfl
      refine Ev.step (fun k => by rw [laws_FnDomNeighbor.j2, if_neg (by decide)]) (hne.bind ?_)
      simp only [hI, Option.bind_some, outR, beq_self_eq_true, if_true]
      cases R with
      | none =>
        simp only [Option.isSome_none, Bool.false_eq_true, if_false, hL, Option.bind_some]
        exact Ev.now _
      | some r =>
        have hlen := near_len _ _ _ _ _ hR.symm
        have hps := path_self r (by omega)
        simp only [Option.isSome_some, if_true, Option.getD_some]
        refine hps.bind ?_
        simp only [if_true, hL, Option.bind_some]
        exact Ev.now _
theorem law_neighbor (x : Nd) (hx : OkT x) (path : List Int) (kd : Int) : ∃ k, laws_FnDomNeighbor.f k x.f0 x.f1 x.f2 x.f3 x.f4 path kd = some true := by
  have hj1 : Ev (fun k => laws_FnDomNeighbor.j0 k path kd true x.f0 x.f1 x.f2 x.f3 x.f4) true := Ev.step (f := fun _ => some true) (fun k => by rw [laws_FnDomNeighbor.j0, if_pos rfl]) (Ev.now _)
  obtain ⟨kf, rf, hf⟩ := fits2_any x
  have hfe : Ev (fun k => laws_zzFits2.f k x.f0 x.f1 x.f2 x.f3 x.f4) rf := Ev.of (laws_zzFits2.mono _ _ _ _ _) hf
  have hall : Ev (fun k => laws_FnDomNeighbor.f k x.f0 x.f1 x.f2 x.f3 x.f4 path kd) true := by
    refine hfe.bind (f := fun k t => if t = true then laws_FnDomNeighbor.j0 k path kd (decide ((path.length : Int) > 2147483647)) x.f0 x.f1 x.f2 x.f3 x.f4 else laws_FnDomNeighbor.j0 k path kd true x.f0 x.f1 x.f2 x.f3 x.f4) ?_
    cases rf with
    | false => simp only [Bool.false_eq_true, if_false]; exact hj1
    | true =>
      simp only [if_true]
      by_cases c : (path.length : Int) > 2147483647
      · rw [decide_eq_true c]; exact hj1
      · rw [decide_eq_false c]
        have hp : path.length ≤ 2147483647 := by omega
        have go := fun (ch fwd e : Bool) (hk : kindOf kd = some (if ch = true then some e else none, fwd, e)) => j1_any x hx path hp kd ch fwd e hk
        have h0 : ∀ k, laws_FnDomNeighbor.j0 (k + 1) path kd false x.f0 x.f1 x.f2 x.f3 x.f4 = _ := fun k => by rw [laws_FnDomNeighbor.j0, if_neg (by decide)]
        refine Ev.step h0 ?_
        by_cases k0 : kd = 0
        · simp only [if_pos k0]; exact go true true false (by rw [k0]; rfl)
        simp only [if_neg k0]
        by_cases k1 : kd = 1
        · simp only [if_pos k1]; exact go true true true (by rw [k1]; rfl)
        simp only [if_neg k1]
        by_cases k2 : kd = 2
        · simp only [if_pos k2]; exact go false true false (by rw [k2]; rfl)
        simp only [if_neg k2]
        by_cases k3 : kd = 3
        · simp only [if_pos k3]; exact go false true true (by rw [k3]; rfl)
        simp only [if_neg k3]
        by_cases k4 : kd = 4
        · simp only [if_pos k4]; exact go true false false (by rw [k4]; rfl)
        simp only [if_neg k4]
        by_cases k5 : kd = 5
        · simp only [if_pos k5]; exact go true false true (by rw [k5]; rfl)
        simp only [if_neg k5]
        by_cases k6 : kd = 6
        · simp only [if_pos k6]; exact go false false false (by rw [k6]; rfl)
        simp only [if_neg k6]
        by_cases k7 : kd = 7
        · simp only [if_pos k7]; exact go false false true (by rw [k7]; rfl)
        simp only [if_neg k7]
        exact Ev.now _
  exact hall.rounds
end Go.Proofs.Ytlallihdiffheaa.Dom
namespace Go.Proofs.Ytlallihdiffheaa.Pure
open Go.RowKit Go.Proofs.Ytlallihdiffheaa.GT Go.Proofs.YtlallihdiffheaaW.PrintWords Go.Proofs.YtlallihdiffheaaW.PrintLast Go.Proofs.Ytlallihdiffheaa.Hand
/-- The law's walk, with its answer. -/
theorem FnDomNeighbor_walk {W : World} (x : Nd) (A3 A4 : Option Addr) (c3 c4 : Nat) (C3 : k34.C W A3 x.f3.length x.f3) (l3 : x.f3.length ≤ c3) (C4 : k25.C W A4 x.f4.length x.f4) (l4 : x.f4.length ≤ c4) (hx : OkT x) (A : Option Addr) (cap : Nat) (l : List Int) (C : Kd.C (Kd.int .i64) W A l.length l) (c : l.length ≤ cap) (kd : Int) {p : Prop} (_ : p) :
    Calls Try.prog 7 #[.agg #[.int .i64 x.f0, .string x.f1, .string x.f2, .slice A3 x.f3.length c3, .slice A4 x.f4.length c4], .slice A l.length cap, .int .i64 kd] W fun e W' => e = .returned (.bool true) ∧ Below W.heap.size W W' := by
  obtain ⟨k, hk⟩ := Dom.law_neighbor x hx l kd
  exact laws_FnDomNeighbor.calls k x.f0 x.f1 x.f2 A3 c3 x.f3 A4 c4 x.f4 A cap l kd true W C3 l3 C4 l4 C c hk
end Go.Proofs.Ytlallihdiffheaa.Pure
