import Derived.Test.YtlallihdiffheaaZBlanksPure
import Derived.Test.YtlallihdiffheaaZSmall
section
/- White space of a tree, collapsed, as a machine that reads texts and elements one behind the other: done twice is done once; what isn't white space stays. Plain Lean, no program in sight. -/
namespace Go.Proofs.Ytlallihdiffheaa.Hand
set_option linter.unusedVariables false

/-- What the machine meets: a text; a block or a break; a void or preformatted element; any other element. -/
inductive Ev where
  | txt (t : List Int)
  | blk
  | void
  | oth
def starts (l : List Int) : Bool := l.head? == some 32
def ends (l : List Int) : Bool := l.getLast? == some 32
def trim (l : List Int) : List Int := if ends l then l.dropLast else l
/-- What a text becomes when it is met. -/
def met (p : Option (List Int)) (k : Bool) (t : List Int) : List Int :=
  if (p.all ends) && !k && starts (col t) then (col t).tail else col t
/-- What becomes of the text at hand, and of those still to come; none: it is taken out. -/
def run : List Ev → Option (List Int) → Bool → Option (List Int) × List (Option (List Int))
  | [], p, k => (p.bind fun s => if trim s = [] then none else some (trim s), [])
  | .blk :: es, p, k => (p.map trim, (run es none false).2)
  | .void :: es, p, k => (p, (run es none true).2)
  | .oth :: es, p, k => run es p (k && p.isNone)
  | .txt t :: es, p, k =>
    if met p k t = [] then ((run es p k).1, none :: (run es p k).2)
    else (p, (run es (some (met p k t)) k).1 :: (run es (some (met p k t)) k).2)
/-- The events with the texts as they are behind it. -/
def sub : List Ev → List (Option (List Int)) → List Ev
  | [], _ => []
  | .txt t :: es, some v :: os => .txt v :: sub es os
  | .txt t :: es, none :: os => sub es os
  | .txt t :: es, [] => []
  | .blk :: es, os => .blk :: sub es os
  | .void :: es, os => .void :: sub es os
  | .oth :: es, os => .oth :: sub es os
/-- What becomes of these texts when it is done again: empty ones are taken out. -/
def exp : List (Option (List Int)) → List (Option (List Int))
  | [] => []
  | none :: os => exp os
  | some v :: os => (if v = [] then none else some v) :: exp os
def isTxt : List Ev → Bool
  | .txt _ :: _ => true
  | _ => false
/-- No text follows another one. -/
def NoAdj : List Ev → Prop
  | [] => True
  | .txt t :: es => isTxt es = false ∧ NoAdj es
  | .blk :: es => NoAdj es
  | .void :: es => NoAdj es
  | .oth :: es => NoAdj es
/-- Runs of blanks are single blanks in it. -/
def Sg (l : List Int) : Prop := col l = l
theorem os_len (p : Bool) (l : List Int) : (os p l).length ≤ l.length := by
  induction l generalizing p with
  | nil => simp [os]
  | cons x t ih =>
    have h1 := ih true
    have h2 := ih false
    simp only [os]
    split
    · split <;> simp <;> omega
    · simp; omega
theorem os_idem (p : Bool) (l : List Int) : os p (os p l) = os p l := by
  induction l generalizing p with
  | nil => simp [os]
  | cons x t ih =>
    by_cases hx : blankB x = true
    · cases p with
      | true => simp [os, hx, ih]
      | false => simp [os, hx, ih, show blankB 32 = true by decide]
    · have hx' : blankB x = false := by simpa using hx
      simp [os, hx', ih]
theorem sg_col (l : List Int) : Sg (col l) := os_idem false l
/-- A text that opens with a blank, without it. -/
theorem sg_tail {l : List Int} (h : Sg l) (hs : starts l = true) : Sg l.tail ∧ starts l.tail = false := by
  cases l with
  | nil => cases hs
  | cons x t =>
    have hx : x = 32 := by simpa [starts] using hs
    subst hx
    have h1 : os true t = t := by
      have := h
      simpa [Sg, col, os, show blankB 32 = true by decide] using this
    rw [List.tail_cons]
    cases t with
    | nil => exact ⟨rfl, rfl⟩
    | cons y t =>
      have hy : blankB y = false := by
        cases hb : blankB y with
        | false => rfl
        | true =>
          rw [os, hb] at h1
          simp only [if_true] at h1
          have := os_len true t
          rw [h1] at this
          simp at this
          omega
      refine ⟨?_, ?_⟩
      · rw [os, hy] at h1
        simp only [Bool.false_eq_true, if_false] at h1
        show os false (y :: t) = y :: t
        rw [os, hy]
        simp only [Bool.false_eq_true, if_false]
        exact h1
      · simp only [starts, List.head?_cons]
        rw [beq_eq_false_iff_ne]
        intro e
        obtain rfl := Option.some.inj e
        exact absurd hy (by decide)
theorem eb_false (p : Bool) (l : List Int) (h : eb p l = false) (hp : p = true ∨ l ≠ []) : ends l = false := by
  rcases List.eq_nil_or_concat l with e | ⟨i, x, e⟩
  · subst e; rfl
  · subst e
    rw [List.concat_eq_append] at h ⊢
    rw [eb_snoc] at h
    simp only [ends, List.getLast?_append, List.getLast?_singleton, Option.some_or]
    rw [beq_eq_false_iff_ne]
    intro e
    obtain rfl := Option.some.inj e
    exact absurd h (by decide)
theorem ends_trim {l : List Int} (h : Sg l) : Sg (trim l) ∧ ends (trim l) = false := by
  unfold trim
  cases he : ends l with
  | false => simpa [he] using h
  | true =>
    simp only [if_true]
    rcases List.eq_nil_or_concat l with e | ⟨i, x, e⟩
    · subst e; cases he
    · subst e
      rw [List.concat_eq_append] at h he ⊢
      have hx : x = 32 := by simpa [ends] using he
      subst hx
      rw [List.dropLast_concat]
      have h1 : os false i ++ (if eb false i then [] else [32]) = i ++ [32] := by
        have := h
        unfold Sg col at this
        rw [os_snoc, show blankB 32 = true by decide] at this
        simpa using this
      have h2 := os_len false i
      cases hb : eb false i with
      | true =>
        rw [hb] at h1
        have := congrArg List.length h1
        simp at this
        omega
      | false =>
        rw [hb] at h1
        simp only [Bool.false_eq_true, if_false] at h1
        refine ⟨List.append_cancel_right h1, ?_⟩
        rcases List.eq_nil_or_concat i with e | ⟨j, y, e⟩
        · subst e; rfl
        · exact eb_false false i hb (.inr (by rw [e]; simp))
theorem trim_same {l : List Int} (h : ends l = false) : trim l = l := by simp [trim, h]
theorem starts_trim {l : List Int} (h : trim l ≠ []) : starts (trim l) = starts l := by
  unfold trim at h ⊢
  split
  · rename_i he
    rw [if_pos he] at h
    cases l with
    | nil => rfl
    | cons x t =>
      cases t with
      | nil => simp at h
      | cons y t => rfl
  · rfl
/-- What is met is single, and opens with a blank only where that wasn't to be cut. -/
theorem met_sg (p : Option (List Int)) (k : Bool) (t : List Int) : Sg (met p k t) ∧ (starts (met p k t) = true → ((p.all ends) && !k) = false) := by
  unfold met
  split
  · rename_i h
    have h1 : starts (col t) = true := by
      simp only [Bool.and_eq_true] at h
      exact h.2
    obtain ⟨h2, h3⟩ := sg_tail (sg_col t) h1
    exact ⟨h2, fun e => by rw [h3] at e; cases e⟩
  · rename_i h
    refine ⟨sg_col t, fun e => ?_⟩
    rw [e] at h
    simpa using h
theorem met_id {p : Option (List Int)} {k : Bool} {v : List Int} (h : Sg v) (h2 : starts v = true → ((p.all ends) && !k) = false) : met p k v = v := by
  unfold met
  have hv : col v = v := h
  rw [hv]
  split
  · rename_i h3
    rw [Bool.and_eq_true] at h3
    rw [h2 h3.2] at h3
    cases h3.1
  · rfl
/-- What the first and the second time have in hand. -/
def Rel (f : Option (List Int)) (p : Option (List Int)) (k : Bool) (p' : Option (List Int)) (k' : Bool) : Prop :=
  (p = none ∧ p' = none ∧ k' = k) ∨ (∃ s, p = some s ∧ f = some s ∧ p' = some s ∧ k' = k) ∨
  (∃ s, p = some s ∧ f = some (trim s) ∧ trim s ≠ s ∧ trim s ≠ [] ∧ p' = some (trim s) ∧ k' = k) ∨
  (∃ s, p = some s ∧ (f = none ∨ f = some []) ∧ (p' = none ∨ ∃ s', p' = some s' ∧ s' ≠ [] ∧ ends s' = false))
/-- The text at hand is single and not empty; where it is kept from being cut no text comes next. -/
def Okp (es : List Ev) (p : Option (List Int)) (k : Bool) : Prop := ∀ s, p = some s → Sg s ∧ s ≠ [] ∧ (k = true → isTxt es = false)
/-- What is at hand ends as itself, or trimmed, or, where nothing is left, as nothing. -/
theorem run_fst : ∀ (es : List Ev) (s : List Int) (k : Bool), (run es (some s) k).1 = some s ∨ (run es (some s) k).1 = some (trim s) ∨ ((run es (some s) k).1 = none ∧ trim s = [])
  | [], s, k => by
    rw [run, Option.bind_some]
    split
    · exact .inr (.inr ⟨rfl, ‹_›⟩)
    · exact .inr (.inl rfl)
  | .blk :: es, s, k => .inr (.inl rfl)
  | .void :: es, s, k => .inl rfl
  | .oth :: es, s, k => by rw [run]; exact run_fst es s _
  | .txt t :: es, s, k => by
    rw [run]
    split
    · exact run_fst es s k
    · exact .inl rfl
theorem rel_trim {es : List Ev} {k : Bool} {s : List Int} (hs : Sg s) (hne : s ≠ []) {f : Option (List Int)} (hf : f = (run es (some s) k).1) {p : Option (List Int)} (hp : trim s = [] → f ≠ some s → p = none ∨ ∃ s', p = some s' ∧ s' ≠ [] ∧ ends s' = false) :
    (∃ v, f = some v ∧ v ≠ [] ∧ Sg v ∧ starts v = starts s ∧ Rel f (some s) k (some v) k) ∨ ((f = none ∨ f = some []) ∧ Rel f (some s) k p k) := by
  rcases run_fst es s k with h | h | ⟨h, h2⟩
  · exact .inl ⟨s, by rw [hf, h], hne, hs, rfl, .inr (.inl ⟨s, rfl, by rw [hf, h], rfl, rfl⟩)⟩
  · by_cases he : trim s = []
    · by_cases hfs : f = some s
      · rw [hf, h, he] at hfs
        exact absurd (Option.some.inj hfs).symm hne
      · refine .inr ⟨.inr (by rw [hf, h, he]), .inr (.inr (.inr ⟨s, rfl, .inr (by rw [hf, h, he]), hp he hfs⟩))⟩
    · by_cases hts : trim s = s
      · rw [hts] at h
        exact .inl ⟨s, by rw [hf, h], hne, hs, rfl, .inr (.inl ⟨s, rfl, by rw [hf, h], rfl, rfl⟩)⟩
      · exact .inl ⟨trim s, by rw [hf, h], he, (ends_trim hs).1, starts_trim he, .inr (.inr (.inl ⟨s, rfl, by rw [hf, h], hts, he, rfl, rfl⟩))⟩
  · refine .inr ⟨.inl (by rw [hf, h]), .inr (.inr (.inr ⟨s, rfl, .inl (by rw [hf, h]), hp h2 (by rw [hf, h]; simp)⟩))⟩
theorem trim_one {s : List Int} (h : trim s = []) (hne : s ≠ []) : s = [32] := by
  unfold trim at h
  split at h
  · rename_i he
    rcases List.eq_nil_or_concat s with e | ⟨i, x, e⟩
    · exact absurd e hne
    · subst e
      rw [List.concat_eq_append] at h he ⊢
      rw [List.dropLast_concat] at h
      have hx : x = 32 := by simpa [ends] using he
      rw [h, hx]
      rfl
  · exact absurd h hne
/-- Done again: what was left stays; what was left empty is taken out. -/
theorem run_twice : ∀ (es : List Ev) (p : Option (List Int)) (k : Bool) (p' : Option (List Int)) (k' : Bool), NoAdj es → Okp es p k → Rel (run es p k).1 p k p' k' →
    run (sub es (run es p k).2) p' k' = (p', exp (run es p k).2)
  | [], p, k, p', k', hn, ho, hr => by
    show (p'.bind fun s => if trim s = [] then none else some (trim s), []) = (p', [])
    have key : ∀ s', p' = some s' → trim s' = s' ∧ s' ≠ [] := by
      intro s' e
      rcases hr with ⟨_, h, _⟩ | ⟨s, hp, hf, h, _⟩ | ⟨s, hp, hf, h1, h2, h, _⟩ | ⟨s, hp, hf, h | ⟨v, h, h1, h2⟩⟩
      · rw [h] at e; cases e
      · obtain ⟨h1, h2, _⟩ := ho s hp
        rw [h] at e
        obtain rfl := Option.some.inj e
        rw [run, hp, Option.bind_some] at hf
        split at hf
        · cases hf
        · exact ⟨Option.some.inj hf, h2⟩
      · obtain ⟨h3, h4, _⟩ := ho s hp
        rw [h] at e
        obtain rfl := Option.some.inj e
        exact ⟨trim_same (ends_trim h3).2, h2⟩
      · rw [h] at e; cases e
      · rw [h] at e
        obtain rfl := Option.some.inj e
        exact ⟨trim_same h2, h1⟩
    cases p' with
    | none => rfl
    | some s' =>
      obtain ⟨h1, h2⟩ := key s' rfl
      rw [Option.bind_some, h1, if_neg h2]
  | .blk :: es, p, k, p', k', hn, ho, hr => by
    have ih := run_twice es none false none false hn (fun s h => by cases h) (.inl ⟨rfl, rfl, rfl⟩)
    show (p'.map trim, (run (sub es (run es none false).2) none false).2) = (p', exp (run es none false).2)
    rw [ih]
    have key : p'.map trim = p' := by
      rcases hr with ⟨_, h, _⟩ | ⟨s, hp, hf, h, _⟩ | ⟨s, hp, hf, h1, h2, h, _⟩ | ⟨s, hp, hf, h | ⟨v, h, h1, h2⟩⟩
      · rw [h]; rfl
      · rw [run, hp, Option.map_some] at hf
        rw [h, Option.map_some, Option.some.inj hf]
      · obtain ⟨h3, h4, _⟩ := ho s hp
        rw [h, Option.map_some, trim_same (ends_trim h3).2]
      · rw [h]; rfl
      · rw [h, Option.map_some, trim_same h2]
    rw [key]
  | .void :: es, p, k, p', k', hn, ho, hr => by
    have ih := run_twice es none true none true hn (fun s h => by cases h) (.inl ⟨rfl, rfl, rfl⟩)
    show (p', (run (sub es (run es none true).2) none true).2) = (p', exp (run es none true).2)
    rw [ih]
  | .oth :: es, p, k, p', k', hn, ho, hr => by
    have hr' : Rel (run es p (k && p.isNone)).1 p (k && p.isNone) p' (k' && p'.isNone) := by
      rcases hr with ⟨h1, h2, h3⟩ | ⟨s, h1, h2, h3, h4⟩ | ⟨s, h1, h2, h3, h4, h5, h6⟩ | ⟨s, h1, h2, h3⟩
      · exact .inl ⟨h1, h2, by rw [h1, h2, h3]⟩
      · exact .inr (.inl ⟨s, h1, h2, h3, by rw [h1, h3, h4]⟩)
      · exact .inr (.inr (.inl ⟨s, h1, h2, h3, h4, h5, by rw [h1, h5, h6]; rfl⟩))
      · exact .inr (.inr (.inr ⟨s, h1, h2, h3⟩))
    exact run_twice es p (k && p.isNone) p' (k' && p'.isNone) hn (fun s h => by
      obtain ⟨h1, h2, _⟩ := ho s h
      exact ⟨h1, h2, fun e => by rw [h] at e; simp at e⟩) hr'
  | .txt t :: es, p, k, p', k', hn, ho, hr => by
    obtain ⟨hms, hmk⟩ := met_sg p k t
    have hpk : k = true → p = none := fun e => by
      cases p with
      | none => rfl
      | some s => have := (ho s rfl).2.2 e; cases this
    by_cases hu : met p k t = []
    · have e1 : run (.txt t :: es) p k = ((run es p k).1, none :: (run es p k).2) := by rw [run, if_pos hu]
      rw [e1] at hr ⊢
      exact run_twice es p k p' k' hn.2 (fun s h => by
        obtain ⟨h1, h2, h3⟩ := ho s h
        refine ⟨h1, h2, fun e => ?_⟩
        rw [hpk e] at h
        cases h) hr
    · have e1 : run (.txt t :: es) p k = (p, (run es (some (met p k t)) k).1 :: (run es (some (met p k t)) k).2) := by rw [run, if_neg hu]
      rw [e1] at hr ⊢
      -- nothing is trimmed ahead of it: both times have the same at hand
      have hsame : p' = p ∧ k' = k := by
        rcases hr with ⟨h1, h2, h3⟩ | ⟨s, h1, h2, h3, h4⟩ | ⟨s, h1, h2, h3, h4, h5, h6⟩ | ⟨s, h1, h2, h3⟩
        · exact ⟨by rw [h1, h2], h3⟩
        · exact ⟨by rw [h1, h3], h4⟩
        · rw [h1] at h2
          exact absurd (Option.some.inj h2).symm h3
        · rw [h1] at h2
          rcases h2 with h2 | h2
          · cases h2
          · exact absurd (Option.some.inj h2) (ho s h1).2.1
      obtain ⟨rfl, rfl⟩ := hsame
      have hok : Okp es (some (met p' k' t)) k' := fun s h => by
        obtain rfl := Option.some.inj h
        exact ⟨hms, hu, fun _ => hn.1⟩
      have hp0 : trim (met p' k' t) = [] → p' = none ∨ ∃ s', p' = some s' ∧ s' ≠ [] ∧ ends s' = false := by
        intro e
        have h32 := trim_one e hu
        have hst : starts (met p' k' t) = true := by rw [h32]; rfl
        have hc := hmk hst
        cases p' with
        | none => exact .inl rfl
        | some s =>
          refine .inr ⟨s, rfl, (ho s rfl).2.1, ?_⟩
          cases k' with
          | true => have := hpk rfl; cases this
          | false => simpa using hc
      rcases rel_trim (es := es) (k := k') hms hu rfl (p := p') (fun e _ => hp0 e) with ⟨v, hv, hv0, hvs, hvst, hrel⟩ | ⟨hv, hrel⟩
      · have ih := run_twice es (some (met p' k' t)) k' (some v) k' hn.2 hok hrel
        have hm2 : met p' k' v = v := met_id hvs (fun e => hmk (by rw [← hvst]; exact e))
        rw [hv]
        show run (.txt v :: sub es (run es (some (met p' k' t)) k').2) p' k' = (p', exp (some v :: (run es (some (met p' k' t)) k').2))
        rw [run, hm2, if_neg hv0, ih, exp, if_neg hv0]
      · have ih := run_twice es (some (met p' k' t)) k' p' k' hn.2 hok hrel
        rcases hv with hv | hv
        · rw [hv]
          show run (sub es (run es (some (met p' k' t)) k').2) p' k' = (p', exp (none :: (run es (some (met p' k' t)) k').2))
          rw [ih, exp]
        · rw [hv]
          show run (.txt [] :: sub es (run es (some (met p' k' t)) k').2) p' k' = (p', exp (some [] :: (run es (some (met p' k' t)) k').2))
          have hm2 : met p' k' [] = [] := met_id rfl (fun e => by cases e)
          rw [run, hm2, if_pos rfl, ih, exp, if_pos rfl]
/-- What isn't white space. -/
def sol (l : List Int) : List Int := l.filter fun x => !blankB x
theorem sol_os (p : Bool) (l : List Int) : sol (os p l) = sol l := by
  induction l generalizing p with
  | nil => rfl
  | cons x t ih =>
    by_cases hx : blankB x = true
    · cases p with
      | true => simp only [os, hx, if_true]; rw [ih]; simp [sol, hx]
      | false =>
        simp only [os, hx, if_true, Bool.false_eq_true, if_false]
        have h := ih true
        unfold sol at h ⊢
        simp [hx, show blankB 32 = true by decide, h]
    · have hx' : blankB x = false := by simpa using hx
      have h := ih false
      unfold sol at h ⊢
      simp [os, hx', h]
theorem sol_trim (l : List Int) : sol (trim l) = sol l := by
  unfold trim
  split
  · rename_i he
    rcases List.eq_nil_or_concat l with e | ⟨i, x, e⟩
    · subst e; rfl
    · subst e
      rw [List.concat_eq_append] at he ⊢
      have hx : x = 32 := by simpa [ends] using he
      subst hx
      rw [List.dropLast_concat]
      simp [sol, show blankB 32 = true by decide]
  · rfl
theorem sol_met (p : Option (List Int)) (k : Bool) (t : List Int) : sol (met p k t) = sol t := by
  unfold met
  split
  · rename_i h
    have h1 : starts (col t) = true := by
      simp only [Bool.and_eq_true] at h
      exact h.2
    rw [← sol_os false t]
    show sol (col t).tail = sol (col t)
    cases hc : col t with
    | nil => rfl
    | cons x l =>
      rw [hc] at h1
      have hx : x = 32 := by simpa [starts] using h1
      subst hx
      simp [sol, show blankB 32 = true by decide]
  · exact sol_os false t
def solO (o : Option (List Int)) : List Int := match o with
  | none => []
  | some l => sol l
/-- The texts of some events. -/
def texts : List Ev → List (List Int)
  | [] => []
  | .txt t :: es => t :: texts es
  | .blk :: es => texts es
  | .void :: es => texts es
  | .oth :: es => texts es
theorem run_sol : ∀ (es : List Ev) (p : Option (List Int)) (k : Bool), solO (run es p k).1 = solO p ∧ (run es p k).2.map solO = (texts es).map sol
  | [], p, k => by
    refine ⟨?_, rfl⟩
    cases p with
    | none => rfl
    | some s =>
      rw [run, Option.bind_some]
      have h := sol_trim s
      split
      · rename_i e
        rw [e] at h
        exact h
      · exact h
  | .blk :: es, p, k => by
    refine ⟨?_, (run_sol es none false).2⟩
    cases p with
    | none => rfl
    | some s => exact sol_trim s
  | .void :: es, p, k => ⟨rfl, (run_sol es none true).2⟩
  | .oth :: es, p, k => run_sol es p _
  | .txt t :: es, p, k => by
    have hm := sol_met p k t
    rw [run]
    split
    · rename_i e
      rw [e] at hm
      obtain ⟨h1, h2⟩ := run_sol es p k
      refine ⟨h1, ?_⟩
      rw [List.map_cons, h2, texts, List.map_cons, ← hm]
      rfl
    · obtain ⟨h1, h2⟩ := run_sol es (some (met p k t)) k
      refine ⟨rfl, ?_⟩
      rw [List.map_cons, h1, h2, texts, List.map_cons, ← hm]
      rfl
theorem run_len (es : List Ev) (p : Option (List Int)) (k : Bool) : (run es p k).2.length = (texts es).length := by
  have h := congrArg List.length (run_sol es p k).2
  simpa using h
/-- It is bytes still, and no longer. -/
def Byt (n : Nat) (l : List Int) : Prop := l.length ≤ n ∧ ∀ x ∈ l, 0 ≤ x ∧ x < 256
theorem byt_os {n : Nat} {l : List Int} (p : Bool) (h : ∀ x ∈ l, 0 ≤ x ∧ x < 256) : ∀ x ∈ os p l, 0 ≤ x ∧ x < 256 := by
  induction l generalizing p with
  | nil => intro x hx; simp [os] at hx
  | cons y t ih =>
    have ht : ∀ x ∈ t, 0 ≤ x ∧ x < 256 := fun x hx => h x (List.mem_cons_of_mem _ hx)
    intro x hx
    simp only [os] at hx
    split at hx
    · split at hx
      · exact ih true ht x hx
      · rcases List.mem_cons.1 hx with e | e
        · subst e; decide
        · exact ih true ht x e
    · rcases List.mem_cons.1 hx with e | e
      · subst e; exact h _ List.mem_cons_self
      · exact ih false ht x e
theorem Byt.met {n : Nat} {t : List Int} (h : Byt n t) (p : Option (List Int)) (k : Bool) : Byt n (met p k t) := by
  have h1 : Byt n (col t) := ⟨Nat.le_trans (os_len false t) h.1, byt_os (n := n) false h.2⟩
  unfold Hand.met
  split
  · refine ⟨?_, fun x hx => h1.2 x (List.mem_of_mem_tail hx)⟩
    rw [List.length_tail]
    have := h1.1
    omega
  · exact h1
theorem Byt.trim {n : Nat} {t : List Int} (h : Byt n t) : Byt n (trim t) := by
  unfold Hand.trim
  split
  · refine ⟨?_, fun x hx => h.2 x ((List.dropLast_sublist t).subset hx)⟩
    rw [List.length_dropLast]
    have := h.1
    omega
  · exact h
#print axioms run_twice
#print axioms run_sol
end Go.Proofs.Ytlallihdiffheaa.Hand
end
section
/- Forests whose white space is collapsed: what the machine of texts and elements makes of them; done twice; what isn't white space. Plain. -/
namespace Go.Proofs.Ytlallihdiffheaa.Hand
open Go.RowKit Go.Proofs.YtlallihdiffheaaW.PrintWords
set_option linter.unusedVariables false
set_option linter.unusedSimpArgs false

/-- Which elements the machine meets in which way, by their names, and which it does not go into. -/
structure Ways where
  kd : ByteArray → Ev
  pre : ByteArray → Bool
  no : ∀ d t, kd d ≠ .txt t
/-- An event whose text is told by its node. -/
inductive EvI where
  | t (b : Nat)
  | e (x : Ev)
abbrev G := Nat → Option (List Int)
def setG (g : G) (b : Nat) (v : Option (List Int)) : G := fun c => if c = b then v else g c
theorem setG_same (g : G) (b : Nat) (v : Option (List Int)) : setG g b v b = v := if_pos rfl
theorem setG_other (g : G) {b c : Nat} (v : Option (List Int)) (h : c ≠ b) : setG g b v c = g c := if_neg h
def tx (g : G) (b : Nat) : List Int := (g b).getD []
/-- The machine over nodes. -/
def runG : List EvI → Option Nat → Bool → G → G
  | [], none, k, g => g
  | [], some d, k, g => setG g d (if trim (tx g d) = [] then none else some (trim (tx g d)))
  | .e .blk :: es, none, k, g => runG es none false g
  | .e .blk :: es, some d, k, g => runG es none false (setG g d (some (trim (tx g d))))
  | .e .void :: es, pt, k, g => runG es none true g
  | .e .oth :: es, pt, k, g => runG es pt (k && pt.isNone) g
  | .e (.txt _) :: es, pt, k, g => runG es pt k g
  | .t b :: es, pt, k, g =>
    if met (pt.bind g) k (tx g b) = [] then runG es pt k (setG g b none)
    else runG es (some b) k (setG g b (some (met (pt.bind g) k (tx g b))))
def idsI : List EvI → List Nat
  | [] => []
  | .t b :: es => b :: idsI es
  | .e x :: es => idsI es
theorem idsI_app : ∀ a b : List EvI, idsI (a ++ b) = idsI a ++ idsI b
  | [], b => rfl
  | .t c :: a, b => by rw [List.cons_append, idsI, idsI, idsI_app a b]; rfl
  | .e x :: a, b => by rw [List.cons_append, idsI, idsI, idsI_app a b]
def evG (g : G) : EvI → Ev
  | .t b => .txt (tx g b)
  | .e x => x
theorem evG_congr (g g' : G) : ∀ es : List EvI, (∀ b ∈ idsI es, g' b = g b) → es.map (evG g') = es.map (evG g)
  | [], h => rfl
  | .t b :: es, h => by
    rw [List.map_cons, List.map_cons, evG_congr g g' es (fun c hc => h c (List.mem_cons_of_mem _ hc))]
    simp only [evG, tx]
    rw [h b List.mem_cons_self]
  | .e x :: es, h => by rw [List.map_cons, List.map_cons, evG_congr g g' es h]; rfl
def noTxt : List EvI → Prop
  | [] => True
  | .e (.txt _) :: es => False
  | _ :: es => noTxt es
theorem runG_run : ∀ (es : List EvI) (pt : Option Nat) (k : Bool) (g : G), noTxt es → (idsI es).Nodup → (∀ d, pt = some d → d ∉ idsI es ∧ ∃ s, g d = some s) →
    (idsI es).map (runG es pt k g) = (run (es.map (evG g)) (pt.bind g) k).2 ∧ (∀ d, pt = some d → runG es pt k g d = (run (es.map (evG g)) (pt.bind g) k).1) ∧ ∀ c, c ∉ idsI es → pt ≠ some c → runG es pt k g c = g c
  | [], none, k, g, hx, hd, hp => ⟨rfl, (fun d h => by cases h), fun c _ _ => rfl⟩
  | [], some d, k, g, hx, hd, hp => by
    obtain ⟨s, hs⟩ := (hp d rfl).2
    have ht : tx g d = s := by simp [tx, hs]
    refine ⟨rfl, fun d' h => ?_, fun c _ hc => ?_⟩
    · obtain rfl := Option.some.inj h
      rw [runG, setG_same, ht, Option.bind_some, hs]
      rfl
    · rw [runG]
      exact setG_other _ _ (fun e => hc (by rw [e]))
  | .e .blk :: es, none, k, g, hx, hd, hp => by
    obtain ⟨h1, h2, h3⟩ := runG_run es none false g hx hd (fun d h => by cases h)
    exact ⟨h1, (fun d h => by cases h), h3⟩
  | .e .blk :: es, some d, k, g, hx, hd, hp => by
    obtain ⟨hdi, s, hs⟩ := hp d rfl
    have ht : tx g d = s := by simp [tx, hs]
    have hdi' : d ∉ idsI es := hdi
    obtain ⟨h1, h2, h3⟩ := runG_run es none false (setG g d (some (trim (tx g d)))) hx hd (fun d h => by cases h)
    have hc : es.map (evG (setG g d (some (trim (tx g d))))) = es.map (evG g) := evG_congr _ _ es (fun b hb => setG_other _ _ (fun e => hdi' (e ▸ hb)))
    rw [hc] at h1
    refine ⟨h1, fun d' h => ?_, fun c hc hne => ?_⟩
    · obtain rfl := Option.some.inj h
      rw [runG, h3 d hdi' (by simp), setG_same, ht, Option.bind_some, hs]
      rfl
    · rw [runG, h3 c hc (by simp)]
      exact setG_other _ _ (fun e => hne (by rw [e]))
  | .e .void :: es, pt, k, g, hx, hd, hp => by
    obtain ⟨h1, h2, h3⟩ := runG_run es none true g hx hd (fun d h => by cases h)
    refine ⟨h1, fun d h => ?_, fun c hc _ => h3 c hc (by simp)⟩
    rw [runG, h3 d (hp d h).1 (by simp), h]
    rfl
  | .e .oth :: es, pt, k, g, hx, hd, hp => by
    have hn : (pt.bind g).isNone = pt.isNone := by
      cases pt with
      | none => rfl
      | some d => obtain ⟨_, s, hs⟩ := hp d rfl; rw [Option.bind_some, hs]; rfl
    obtain ⟨h1, h2, h3⟩ := runG_run es pt (k && pt.isNone) g hx hd hp
    rw [List.map_cons, show evG g (.e .oth) = .oth from rfl, run, hn]
    exact ⟨h1, h2, h3⟩
  | .t b :: es, pt, k, g, hx, hd, hp => by
    rw [idsI, List.nodup_cons] at hd
    have hpt : ∀ d, pt = some d → d ≠ b ∧ d ∉ idsI es ∧ ∃ s, g d = some s := fun d h => by
      obtain ⟨h1, h2⟩ := hp d h
      rw [idsI, List.mem_cons, not_or] at h1
      exact ⟨h1.1, h1.2, h2⟩
    have hcg : ∀ v, es.map (evG (setG g b v)) = es.map (evG g) := fun v => evG_congr _ _ es (fun c hc => setG_other _ _ (fun e => hd.1 (e ▸ hc)))
    rw [List.map_cons, show evG g (.t b) = .txt (tx g b) from rfl, run, runG]
    by_cases hm : met (pt.bind g) k (tx g b) = []
    · rw [if_pos hm, if_pos hm]
      have hpb : pt.bind (setG g b none) = pt.bind g := by
        cases pt with
        | none => rfl
        | some d => exact setG_other _ _ (hpt d rfl).1
      obtain ⟨h1, h2, h3⟩ := runG_run es pt k (setG g b none) hx hd.2 (fun d h => by
        obtain ⟨a1, a2, a3⟩ := hpt d h
        exact ⟨a2, by rw [setG_other _ _ a1]; exact a3⟩)
      rw [hcg, hpb] at h1 h2
      have hb : runG es pt k (setG g b none) b = none := by
        rw [h3 b hd.1 (fun e => (hpt b e).1 rfl), setG_same]
      refine ⟨by rw [idsI, List.map_cons, hb, h1], h2, fun c hc hne => ?_⟩
      rw [idsI, List.mem_cons, not_or] at hc
      rw [h3 c hc.2 hne]
      exact setG_other _ _ hc.1
    · rw [if_neg hm, if_neg hm]
      obtain ⟨h1, h2, h3⟩ := runG_run es (some b) k (setG g b (some (met (pt.bind g) k (tx g b)))) hx hd.2 (fun d h => by
        obtain rfl := Option.some.inj h
        exact ⟨hd.1, _, setG_same _ _ _⟩)
      rw [hcg, Option.bind_some, setG_same] at h1 h2
      refine ⟨by rw [idsI, List.map_cons, h1, h2 b rfl], fun d h => ?_, fun c hc hne => ?_⟩
      · obtain ⟨a1, a2, s, hs⟩ := hpt d h
        rw [h3 d a2 (fun e => a1 (Option.some.inj e).symm), setG_other _ _ a1, h]
        rfl
      · rw [idsI, List.mem_cons, not_or] at hc
        rw [h3 c hc.2 (fun e => hc.1 (Option.some.inj e).symm)]
        exact setG_other _ _ hc.1
section
variable (V : Ways)
/-- What is met in a forest. -/
def evF : F Pay → List EvI
  | .nil => []
  | .node b p k r => if p.type = 1 then .t b :: evF r else .e (V.kd p.data) :: ((if V.pre p.data then [] else evF k ++ [.e (V.kd p.data)]) ++ evF r)
def evT : F Pay → List Ev
  | .nil => []
  | .node b p k r => if p.type = 1 then .txt (bys p.data) :: evT r else V.kd p.data :: ((if V.pre p.data then [] else evT k ++ [V.kd p.data]) ++ evT r)
/-- The forest with its texts as they are told. -/
def cutG (g : G) : F Pay → F Pay
  | .nil => .nil
  | .node b p k r => if p.type = 1 then (match g b with
      | none => cutG g r
      | some l => .node b { p with data := strOfNums l } k (cutG g r)) else .node b p (if V.pre p.data then k else cutG g k) (cutG g r)
def cutL : F Pay → List (Option (List Int)) → F Pay × List (Option (List Int))
  | .nil, os => (.nil, os)
  | .node b p k r, os => if p.type = 1 then (match os with
      | [] => (.nil, [])
      | none :: os => cutL r os
      | some l :: os => (.node b { p with data := strOfNums l } k (cutL r os).1, (cutL r os).2))
    else (.node b p (if V.pre p.data then k else (cutL k os).1) (cutL r (if V.pre p.data then os else (cutL k os).2)).1, (cutL r (if V.pre p.data then os else (cutL k os).2)).2)
theorem cutL_0 (b : Nat) {p : Pay} (k r : F Pay) (ht : p.type = 1) : cutL V (.node b p k r) [] = (.nil, []) := by rw [cutL.eq_def]; simp [ht]
theorem cutL_n (b : Nat) {p : Pay} (k r : F Pay) (os : List (Option (List Int))) (ht : p.type = 1) : cutL V (.node b p k r) (none :: os) = cutL V r os := by rw [cutL.eq_def]; simp [ht]
theorem cutL_s (b : Nat) {p : Pay} (k r : F Pay) (l : List Int) (os : List (Option (List Int))) (ht : p.type = 1) : cutL V (.node b p k r) (some l :: os) = (.node b { p with data := strOfNums l } k (cutL V r os).1, (cutL V r os).2) := by rw [cutL.eq_def]; simp [ht]
theorem cutL_e (b : Nat) {p : Pay} (k r : F Pay) (os : List (Option (List Int))) (ht : ¬ p.type = 1) : cutL V (.node b p k r) os = (.node b p (if V.pre p.data then k else (cutL V k os).1) (cutL V r (if V.pre p.data then os else (cutL V k os).2)).1, (cutL V r (if V.pre p.data then os else (cutL V k os).2)).2) := by rw [cutL.eq_def]; simp [ht]
theorem noTxt_app : ∀ a b : List EvI, noTxt a → noTxt b → noTxt (a ++ b)
  | [], b, _, h => h
  | .t c :: a, b, h1, h2 => noTxt_app a b h1 h2
  | .e .blk :: a, b, h1, h2 => noTxt_app a b h1 h2
  | .e .void :: a, b, h1, h2 => noTxt_app a b h1 h2
  | .e .oth :: a, b, h1, h2 => noTxt_app a b h1 h2
theorem noTxt_kd (d : ByteArray) (es : List EvI) (h : noTxt es) : noTxt (.e (V.kd d) :: es) := by
  have := V.no d
  cases hk : V.kd d with
  | txt t => exact absurd hk (this t)
  | blk => exact h
  | void => exact h
  | oth => exact h
theorem noTxt_evF : ∀ f : F Pay, noTxt (evF V f)
  | .nil => trivial
  | .node b p k r => by
    rw [evF]
    split
    · exact noTxt_evF r
    · refine noTxt_kd V _ _ (noTxt_app _ _ ?_ (noTxt_evF r))
      split
      · trivial
      · exact noTxt_app _ _ (noTxt_evF k) (noTxt_kd V _ _ trivial)
theorem ids_blocks : ∀ f : F Pay, List.Sublist (idsI (evF V f)) f.blocks
  | .nil => List.Sublist.refl _
  | .node b p k r => by
    rw [evF, F.blocks]
    split
    · rw [idsI]
      exact ((ids_blocks r).trans (List.sublist_append_right _ _)).cons_cons b
    · rw [idsI, idsI_app]
      refine List.Sublist.cons b (List.Sublist.append ?_ (ids_blocks r))
      split
      · exact List.nil_sublist _
      · rw [idsI_app, idsI, idsI, List.append_nil]
        exact ids_blocks k
theorem cutG_L (g : G) : ∀ (f : F Pay) (rest : List (Option (List Int))), cutL V f ((idsI (evF V f)).map g ++ rest) = (cutG V g f, rest)
  | .nil, rest => rfl
  | .node b p k r, rest => by
    by_cases ht : p.type = 1
    · rw [evF, if_pos ht, idsI, List.map_cons, cutG, if_pos ht, List.cons_append]
      have ih := cutG_L g r rest
      cases hg : g b with
      | none => rw [cutL_n V b k r _ ht]; exact ih
      | some l => rw [cutL_s V b k r l _ ht]; simp only [ih]
    · rw [evF, if_neg ht, idsI, idsI_app, cutL_e V b k r _ ht, cutG, if_neg ht]
      by_cases hp : V.pre p.data = true
      · simp only [hp, if_true, idsI, List.nil_append]
        rw [cutG_L g r rest]
      · have hp' : V.pre p.data = false := by simpa using hp
        simp only [hp', if_false, Bool.false_eq_true, idsI_app, idsI, List.append_nil, List.map_append, List.append_assoc]
        rw [cutG_L g k ((idsI (evF V r)).map g ++ rest), cutG_L g r rest]
/-- What a map of nodes tells of a forest that sits in it. -/
def gOf (H : NMap) : G := fun b => (H b).map fun r => bys r.pay.data
theorem gOf_sits {H : NMap} : ∀ (f : F Pay) (par prev next : Option Nat), Sits H par prev next f → (evF V f).map (evG (gOf H)) = evT V f ∧ cutG V (gOf H) f = f
  | .nil, _, _, _, _ => ⟨rfl, rfl⟩
  | .node b p k r, par, prev, next, h => by
    obtain ⟨h1, h2, h3⟩ := h
    obtain ⟨r1, r2⟩ := gOf_sits r _ _ _ h3
    obtain ⟨k1, k2⟩ := gOf_sits k _ _ _ h2
    have hg : gOf H b = some (bys p.data) := by simp [gOf, h1]
    by_cases ht : p.type = 1
    · rw [evF, if_pos ht, evT, if_pos ht, cutG, if_pos ht, List.map_cons, r1, hg]
      refine ⟨by simp [evG, tx, hg], ?_⟩
      simp only [str_bys, r2]
    · rw [evF, if_neg ht, evT, if_neg ht, cutG, if_neg ht, List.map_cons, List.map_append, r1, r2]
      refine ⟨?_, ?_⟩
      · by_cases hp : V.pre p.data = true
        · simp [hp, evG]
        · have hp' : V.pre p.data = false := by simpa using hp
          simp [hp', evG, k1]
      · by_cases hp : V.pre p.data = true
        · simp [hp]
        · have hp' : V.pre p.data = false := by simpa using hp
          simp [hp', k2]
/-- The forest, collapsed. -/
def clF (f : F Pay) : F Pay := (cutL V f (run (evT V f) none false).2).1
/-- What the machine over nodes makes of a forest is that. -/
theorem runG_clF {H : NMap} (f : F Pay) (par prev next : Option Nat) (h : Sits H par prev next f) (hd : f.blocks.Nodup) : cutG V (runG (evF V f) none false (gOf H)) f = clF V f := by
  obtain ⟨h1, _⟩ := gOf_sits V f _ _ _ h
  obtain ⟨h2, _, _⟩ := runG_run (evF V f) none false (gOf H) (noTxt_evF V f) ((ids_blocks V f).nodup hd) (fun d h => by cases h)
  have h3 := cutG_L V (runG (evF V f) none false (gOf H)) f []
  rw [List.append_nil, h2, h1] at h3
  rw [clF, show (none : Option Nat).bind (gOf H) = none from rfl] at *
  rw [h3]
/-- Bytes. -/
def OB (os : List (Option (List Int))) : Prop := ∀ l, some l ∈ os → ∀ x ∈ l, 0 ≤ x ∧ x < 256
def TB (es : List Ev) : Prop := ∀ l ∈ texts es, ∀ x ∈ l, 0 ≤ x ∧ x < 256
theorem byt_met {t : List Int} (h : ∀ x ∈ t, 0 ≤ x ∧ x < 256) (p : Option (List Int)) (k : Bool) : ∀ x ∈ met p k t, 0 ≤ x ∧ x < 256 := (Byt.met (n := t.length) ⟨Nat.le_refl _, h⟩ p k).2
theorem byt_trim {t : List Int} (h : ∀ x ∈ t, 0 ≤ x ∧ x < 256) : ∀ x ∈ trim t, 0 ≤ x ∧ x < 256 := (Byt.trim (n := t.length) ⟨Nat.le_refl _, h⟩).2
theorem run_bytes : ∀ (es : List Ev) (p : Option (List Int)) (k : Bool), TB es → (∀ s, p = some s → ∀ x ∈ s, 0 ≤ x ∧ x < 256) → (∀ l, (run es p k).1 = some l → ∀ x ∈ l, 0 ≤ x ∧ x < 256) ∧ OB (run es p k).2
  | [], p, k, ht, hp => by
    refine ⟨fun l h => ?_, fun l h => by cases h⟩
    rw [run] at h
    cases p with
    | none => cases h
    | some s =>
      rw [Option.bind_some] at h
      split at h
      · cases h
      · obtain rfl := Option.some.inj h
        exact byt_trim (hp s rfl)
  | .blk :: es, p, k, ht, hp => by
    refine ⟨fun l h => ?_, (run_bytes es none false ht (fun s h => by cases h)).2⟩
    rw [run] at h
    cases p with
    | none => cases h
    | some s =>
      obtain rfl := Option.some.inj h
      exact byt_trim (hp s rfl)
  | .void :: es, p, k, ht, hp => ⟨fun l h => hp l h, (run_bytes es none true ht (fun s h => by cases h)).2⟩
  | .oth :: es, p, k, ht, hp => run_bytes es p _ ht hp
  | .txt t :: es, p, k, ht, hp => by
    have h1 : TB es := fun l h => ht l (List.mem_cons_of_mem _ h)
    have h2 := byt_met (ht t List.mem_cons_self) p k
    rw [run]
    split
    · obtain ⟨a, b⟩ := run_bytes es p k h1 hp
      exact ⟨a, fun l h => by
        rcases List.mem_cons.1 h with h | h
        · cases h
        · exact b l h⟩
    · obtain ⟨a, b⟩ := run_bytes es (some (met p k t)) k h1 (fun s h => by obtain rfl := Option.some.inj h; exact h2)
      exact ⟨fun l h => hp l h, fun l h => by
        rcases List.mem_cons.1 h with h | h
        · exact a l h.symm
        · exact b l h⟩
theorem texts_app : ∀ a b : List Ev, texts (a ++ b) = texts a ++ texts b
  | [], b => rfl
  | .txt t :: a, b => by rw [List.cons_append, texts, texts, texts_app a b]; rfl
  | .blk :: a, b => texts_app a b
  | .void :: a, b => texts_app a b
  | .oth :: a, b => texts_app a b
theorem texts_kd (d : ByteArray) (es : List Ev) : texts (V.kd d :: es) = texts es := by
  have := V.no d
  cases hk : V.kd d with
  | txt t => exact absurd hk (this t)
  | blk => rfl
  | void => rfl
  | oth => rfl
theorem sub_kd (d : ByteArray) (es : List Ev) (os : List (Option (List Int))) : sub (V.kd d :: es) os = V.kd d :: sub es os := by
  have := V.no d
  cases hk : V.kd d with
  | txt t => exact absurd hk (this t)
  | blk => rfl
  | void => rfl
  | oth => rfl
theorem noAdj_kd (d : ByteArray) (es : List Ev) (h : NoAdj es) : NoAdj (V.kd d :: es) := by
  have := V.no d
  cases hk : V.kd d with
  | txt t => exact absurd hk (this t)
  | blk => exact h
  | void => exact h
  | oth => exact h
theorem isTxt_kd (d : ByteArray) (es : List Ev) : isTxt (V.kd d :: es) = false := by
  have := V.no d
  cases hk : V.kd d with
  | txt t => exact absurd hk (this t)
  | blk => rfl
  | void => rfl
  | oth => rfl
theorem tb_evT : ∀ f : F Pay, TB (evT V f)
  | .nil => fun l h => by cases h
  | .node b p k r => by
    intro l h
    rw [evT] at h
    split at h
    · rw [texts] at h
      rcases List.mem_cons.1 h with h | h
      · rw [h]; exact bys_range _
      · exact tb_evT r l h
    · rw [texts_kd, texts_app] at h
      rcases List.mem_append.1 h with h | h
      · split at h
        · cases h
        · rw [texts_app, texts_kd] at h
          rcases List.mem_append.1 h with h | h
          · exact tb_evT k l h
          · cases h
      · exact tb_evT r l h
theorem str_byte {l : List Int} (h : ∀ x ∈ l, 0 ≤ x ∧ x < 256) : bys (strOfNums l) = l := by
  have e : bys (strOfNums l) = l.map fun n => ((UInt8.ofNat n.toNat).toNat : Int) := by simp [bys, strOfNums]
  rw [e]
  refine (List.map_congr_left fun x hx => ?_).trans (List.map_id l)
  obtain ⟨h1, h2⟩ := h x hx
  simp only [UInt8.toNat_ofNat', id]
  omega
/-- What is met in what was left. -/
theorem sub_evT : ∀ (f : F Pay) (E : List Ev) (os : List (Option (List Int))), OB os → (texts (evT V f)).length ≤ os.length → sub (evT V f ++ E) os = evT V (cutL V f os).1 ++ sub E (cutL V f os).2 ∧ OB (cutL V f os).2 ∧ (cutL V f os).2.length + (texts (evT V f)).length = os.length
  | .nil, E, os, ho, hl => ⟨rfl, ho, by simp [evT, texts, cutL]⟩
  | .node b p k r, E, os, ho, hl => by
    by_cases ht : p.type = 1
    · rw [evT, if_pos ht, texts, List.length_cons] at hl ⊢
      cases os with
      | nil => simp at hl
      | cons o os =>
        have ho' : OB os := fun l h => ho l (List.mem_cons_of_mem _ h)
        obtain ⟨h1, h2, h3⟩ := sub_evT r E os ho' (by simpa using hl)
        cases o with
        | none =>
          rw [cutL_n V b k r os ht]
          refine ⟨?_, h2, by rw [List.length_cons, ← h3]; omega⟩
          rw [List.cons_append, sub, h1]
        | some l =>
          rw [cutL_s V b k r l os ht]
          refine ⟨?_, h2, by show (cutL V r os).2.length + _ = _; rw [List.length_cons]; omega⟩
          rw [List.cons_append, sub, h1, evT, if_pos (by exact ht), str_byte (ho l List.mem_cons_self)]
          rfl
    · rw [evT, if_neg ht, texts_kd, texts_app, List.length_append] at hl ⊢
      rw [cutL_e V b k r os ht, List.cons_append, sub_kd, evT, if_neg ht]
      by_cases hp : V.pre p.data = true
      · simp only [hp, if_true, texts, List.length_nil, List.nil_append, Nat.zero_add] at hl ⊢
        obtain ⟨h1, h2, h3⟩ := sub_evT r E os ho hl
        exact ⟨by rw [h1]; rfl, h2, h3⟩
      · have hp' : V.pre p.data = false := by simpa using hp
        simp only [hp', if_false, Bool.false_eq_true, texts_app, texts_kd, texts, List.append_nil] at hl ⊢
        obtain ⟨k1, k2, k3⟩ := sub_evT k (V.kd p.data :: (evT V r ++ E)) os ho (by omega)
        obtain ⟨h1, h2, h3⟩ := sub_evT r E (cutL V k os).2 k2 (by omega)
        refine ⟨?_, h2, by omega⟩
        rw [show evT V k ++ [V.kd p.data] ++ evT V r ++ E = evT V k ++ (V.kd p.data :: (evT V r ++ E)) by simp, k1, sub_kd, h1]
        simp
def headT : F Pay → Bool
  | .nil => false
  | .node b p k r => decide (p.type = 1)
/-- No text stands beside another one. -/
def NA : F Pay → Prop
  | .nil => True
  | .node b p k r => (p.type = 1 → headT r = false) ∧ NA k ∧ NA r
theorem isTxt_evT (f : F Pay) (E : List Ev) (h : isTxt E = false) : isTxt (evT V f ++ E) = headT f := by
  cases f with
  | nil => exact h
  | node b p k r =>
    rw [evT, headT]
    split
    · rename_i e; simp [isTxt, e]
    · rename_i e; rw [List.cons_append, isTxt_kd]; simp [e]
theorem noAdj_evT : ∀ (f : F Pay) (E : List Ev), NA f → NoAdj E → isTxt E = false → NoAdj (evT V f ++ E)
  | .nil, E, _, h, _ => h
  | .node b p k r, E, hn, h1, h2 => by
    obtain ⟨n1, n2, n3⟩ := hn
    have hr := noAdj_evT r E n3 h1 h2
    rw [evT]
    split
    · rename_i e
      rw [List.cons_append]
      exact ⟨by rw [isTxt_evT V r E h2]; exact n1 e, hr⟩
    · rw [List.cons_append]
      refine noAdj_kd V _ _ ?_
      split
      · exact hr
      · rw [show evT V k ++ [V.kd p.data] ++ evT V r ++ E = evT V k ++ (V.kd p.data :: (evT V r ++ E)) by simp]
        exact noAdj_evT k _ n2 (noAdj_kd V _ _ hr) (isTxt_kd V _ _)
/-- Without empty texts. -/
def fullF : F Pay → F Pay
  | .nil => .nil
  | .node b p k r => if p.type = 1 ∧ p.data.size = 0 then fullF r else .node b p (fullF k) (fullF r)
theorem str_empty : (strOfNums []).size = 0 := rfl
theorem full_twice : ∀ (f : F Pay) (os : List (Option (List Int))), (texts (evT V f)).length ≤ os.length → OB os → (cutL V (cutL V f os).1 (exp os)).2 = exp (cutL V f os).2 ∧ fullF (cutL V (cutL V f os).1 (exp os)).1 = fullF (cutL V f os).1
  | .nil, os, hl, ho => ⟨rfl, rfl⟩
  | .node b p k r, os, hl, ho => by
    by_cases ht : p.type = 1
    · rw [evT, if_pos ht, texts, List.length_cons] at hl
      cases os with
      | nil => simp at hl
      | cons o os =>
        obtain ⟨h1, h2⟩ := full_twice r os (by simpa using hl) (fun l h => ho l (List.mem_cons_of_mem _ h))
        cases o with
        | none => rw [cutL_n V b k r os ht]; exact ⟨h1, h2⟩
        | some l =>
          rw [cutL_s V b k r l os ht]
          show (cutL V (.node b { p with data := strOfNums l } k (cutL V r os).1) (exp (some l :: os))).2 = exp (cutL V r os).2 ∧ fullF (cutL V (.node b { p with data := strOfNums l } k (cutL V r os).1) (exp (some l :: os))).1 = fullF (.node b { p with data := strOfNums l } k (cutL V r os).1)
          rw [exp]
          by_cases hlz : l = []
          · rw [if_pos hlz, cutL_n V b k _ _ (by exact ht)]
            refine ⟨h1, ?_⟩
            rw [fullF, if_pos ⟨ht, by rw [hlz]; exact str_empty⟩]
            exact h2
          · rw [if_neg hlz, cutL_s V b k _ l _ (by exact ht)]
            refine ⟨h1, ?_⟩
            simp only [fullF, h2]
    · rw [evT, if_neg ht, texts_kd, texts_app, List.length_append] at hl
      rw [cutL_e V b k r os ht]
      by_cases hp : V.pre p.data = true
      · simp only [hp, if_true, texts, List.length_nil, Nat.zero_add] at hl ⊢
        obtain ⟨h1, h2⟩ := full_twice r os hl ho
        rw [cutL_e V b k _ _ ht]
        simp only [hp, if_true, fullF, h2]
        exact ⟨h1, trivial⟩
      · have hp' : V.pre p.data = false := by simpa using hp
        simp only [hp', if_false, Bool.false_eq_true, texts_app, texts_kd, texts, List.append_nil] at hl ⊢
        obtain ⟨_, k2, k3⟩ := sub_evT V k [] os ho (by omega)
        obtain ⟨k4, k5⟩ := full_twice k os (by omega) ho
        obtain ⟨h1, h2⟩ := full_twice r (cutL V k os).2 (by omega) k2
        rw [cutL_e V b _ _ _ ht]
        simp only [hp', if_false, Bool.false_eq_true, fullF, k4, k5, h2]
        exact ⟨h1, trivial⟩
/-- Two forests of one shape. -/
def Shp : F Pay → F Pay → Prop
  | .nil, .nil => True
  | .node b p k r, .node b' p' k' r' => p.type = p'.type ∧ p.data = p'.data ∧ (p.type = 3 → p.attrs = p'.attrs) ∧ Shp k k' ∧ Shp r r'
  | _, _ => False
theorem Shp.erase : ∀ {f f' : F Pay}, Shp f f' → erase f = Hand.erase f'
  | .nil, .nil, _ => rfl
  | .node b p k r, .node b' p' k' r', h => by
    obtain ⟨h1, h2, h3, h4, h5⟩ := h
    rw [Hand.erase, Hand.erase, h4.erase, h5.erase]
    by_cases ht : p.type = 3
    · have h3 := h3 ht
      simp only [nodeOf, h1, h2, h3]
    · have ht' : ¬ p'.type = 3 := fun e => ht (h1.trans e)
      simp only [nodeOf, if_neg ht, if_neg ht', h1, h2]
theorem Shp.ev : ∀ {f f' : F Pay}, Shp f f' → evT V f = evT V f'
  | .nil, .nil, _ => rfl
  | .node b p k r, .node b' p' k' r', h => by
    obtain ⟨h1, h2, h3, h4, h5⟩ := h
    rw [evT, evT, h4.ev, h5.ev, h1, h2]
theorem Shp.cut : ∀ {f f' : F Pay}, Shp f f' → ∀ os, (cutL V f os).2 = (cutL V f' os).2 ∧ Shp (cutL V f os).1 (cutL V f' os).1
  | .nil, .nil, _, os => ⟨rfl, trivial⟩
  | .node b p k r, .node b' p' k' r', h, os => by
    obtain ⟨h1, h2, h3, h4, h5⟩ := h
    have ht' : p'.type = p.type := h1.symm
    by_cases ht : p.type = 1
    · rw [ht] at ht'
      cases os with
      | nil => rw [cutL_0 V b k r ht, cutL_0 V b' k' r' ht']; exact ⟨rfl, trivial⟩
      | cons o os =>
        cases o with
        | none => rw [cutL_n V b k r os ht, cutL_n V b' k' r' os ht']; exact h5.cut os
        | some l =>
          rw [cutL_s V b k r l os ht, cutL_s V b' k' r' l os ht']
          obtain ⟨a, c⟩ := h5.cut os
          exact ⟨a, h1, rfl, h3, h4, c⟩
    · rw [cutL_e V b k r os ht, cutL_e V b' k' r' os (by rw [ht']; exact ht), ← h2]
      by_cases hp : V.pre p.data = true
      · simp only [hp, if_true]
        obtain ⟨a, c⟩ := h5.cut os
        exact ⟨a, h1, h2, h3, h4, c⟩
      · have hp' : V.pre p.data = false := by simpa using hp
        simp only [hp', if_false, Bool.false_eq_true]
        obtain ⟨k1, k2⟩ := h4.cut os
        rw [← k1]
        obtain ⟨a, c⟩ := h5.cut (cutL V k os).2
        exact ⟨a, h1, h2, h3, k2, c⟩
theorem Shp.full : ∀ {f f' : F Pay}, Shp f f' → Shp (fullF f) (fullF f')
  | .nil, .nil, _ => trivial
  | .node b p k r, .node b' p' k' r', h => by
    obtain ⟨h1, h2, h3, h4, h5⟩ := h
    rw [fullF, fullF, ← h1, ← h2]
    split
    · exact h5.full
    · exact ⟨h1, h2, h3, h4.full, h5.full⟩
/-- Elements and texts alone, without attributes. -/
def TE : F Pay → Prop
  | .nil => True
  | .node b p k r => ((p.type = 1 ∧ k = .nil ∧ True) ∨ (p.type = 3 ∧ p.attrs = [])) ∧ TE k ∧ TE r
theorem shp_of : ∀ (f f' : F Pay), TE f → TE f' → erase f = erase f' → Shp f f'
  | .nil, .nil, _, _, _ => trivial
  | .nil, .node b p k r, _, _, h => by rw [erase, erase] at h; cases h
  | .node b p k r, .nil, _, _, h => by rw [erase, erase] at h; cases h
  | .node b p k r, .node b' p' k' r', h, h', e => by
    obtain ⟨h1, h2, h3⟩ := h
    obtain ⟨h1', h2', h3'⟩ := h'
    rw [erase, erase, List.cons.injEq] at e
    obtain ⟨e1, e2⟩ := e
    have hr := shp_of r r' h3 h3' e2
    rcases h1 with ⟨a, c, d⟩ | ⟨a, c⟩ <;> rcases h1' with ⟨a', c', d'⟩ | ⟨a', c'⟩
    · subst c c'
      simp only [nodeOf, a, a'] at e1
      simp at e1
      exact ⟨by rw [a, a'], e1, fun h => absurd (a.symm.trans h) (by decide), trivial, hr⟩
    · simp [nodeOf, a, a'] at e1
    · simp [nodeOf, a, a'] at e1
    · simp only [nodeOf, a, a', c, c'] at e1
      simp at e1
      exact ⟨by rw [a, a'], e1.1, fun _ => by rw [c, c'], shp_of k k' h2 h2' e1.2, hr⟩
theorem cut_TE : ∀ (f : F Pay) (os : List (Option (List Int))), TE f → TE (cutL V f os).1
  | .nil, os, _ => trivial
  | .node b p k r, os, h => by
    obtain ⟨h1, h2, h3⟩ := h
    by_cases ht : p.type = 1
    · cases os with
      | nil => rw [cutL_0 V b k r ht]; trivial
      | cons o os =>
        cases o with
        | none => rw [cutL_n V b k r os ht]; exact cut_TE r os h3
        | some l =>
          rw [cutL_s V b k r l os ht]
          refine ⟨?_, h2, cut_TE r os h3⟩
          rcases h1 with h1 | ⟨h1, _⟩
          · exact .inl h1
          · omega
    · rw [cutL_e V b k r os ht]
      refine ⟨?_, ?_, cut_TE r _ h3⟩
      · rcases h1 with ⟨h1, _⟩ | h1
        · exact absurd h1 ht
        · exact .inr h1
      · split
        · exact h2
        · exact cut_TE k os h2
/-- Collapsed twice is collapsed once, empty texts aside. -/
theorem cl_twice (f f2 : F Pay) (h : TE f) (hn : NA f) (h2 : TE f2) (he : erase f2 = erase (clF V f)) : erase (fullF (clF V f2)) = erase (fullF (clF V f)) := by
  have hnd : NoAdj (evT V f) := by
    have := noAdj_evT V f [] hn trivial rfl
    rwa [List.append_nil] at this
  have hob := (run_bytes (evT V f) none false (tb_evT V f) (fun s h => by cases h)).2
  have hlen : (texts (evT V f)).length ≤ (run (evT V f) none false).2.length := by rw [run_len]; exact Nat.le_refl _
  have htw := run_twice (evT V f) none false none false hnd (fun s h => by cases h) (.inl ⟨rfl, rfl, rfl⟩)
  have hsh := shp_of f2 (clF V f) h2 (cut_TE V f _ h) he
  obtain ⟨s1, _, s3⟩ := sub_evT V f [] _ hob hlen
  rw [List.append_nil, show sub [] (cutL V f (run (evT V f) none false).2).2 = [] from by cases (cutL V f (run (evT V f) none false).2).2 <;> rfl, List.append_nil] at s1
  have hev : evT V f2 = sub (evT V f) (run (evT V f) none false).2 := by rw [hsh.ev V, s1]; rfl
  have hrun : (run (evT V f2) none false).2 = exp (run (evT V f) none false).2 := by rw [hev, htw]
  have hcl : Shp (clF V f2) (cutL V (clF V f) (exp (run (evT V f) none false).2)).1 := by
    unfold clF
    rw [hrun]
    exact (hsh.cut V _).2
  rw [hcl.full.erase]
  exact congrArg erase (full_twice V f _ hlen hob).2
/-- All texts of a forest, as numbers. -/
def tI : F Pay → List Int
  | .nil => []
  | .node b p k r => (if p.type = 1 then bys p.data else tI k) ++ tI r
theorem sol_app (a b : List Int) : sol (a ++ b) = sol a ++ sol b := List.filter_append ..
theorem cut_sol : ∀ (f : F Pay) (os : List (Option (List Int))) (X : List (List Int)), OB os → os.map solO = (texts (evT V f)).map sol ++ X → sol (tI (cutL V f os).1) = sol (tI f) ∧ (cutL V f os).2.map solO = X ∧ OB (cutL V f os).2
  | .nil, os, X, ho, h => ⟨rfl, h, ho⟩
  | .node b p k r, os, X, ho, h => by
    by_cases ht : p.type = 1
    · rw [evT, if_pos ht, texts, List.map_cons, List.cons_append] at h
      cases os with
      | nil => cases h
      | cons o os =>
        rw [List.map_cons, List.cons.injEq] at h
        have ho' : OB os := fun l hl => ho l (List.mem_cons_of_mem _ hl)
        obtain ⟨h1, h2, h3⟩ := cut_sol r os X ho' h.2
        cases o with
        | none =>
          rw [cutL_n V b k r os ht]
          refine ⟨?_, h2, h3⟩
          have h4 : sol (bys p.data) = [] := h.1.symm
          rw [h1, tI, if_pos ht, sol_app, h4, List.nil_append]
        | some l =>
          rw [cutL_s V b k r l os ht]
          refine ⟨?_, h2, h3⟩
          have h4 : sol l = sol (bys p.data) := h.1
          rw [tI, if_pos (by exact ht), tI, if_pos ht, sol_app, sol_app, h1, ← h4]
          show sol (bys (strOfNums l)) ++ _ = _
          rw [str_byte (ho l List.mem_cons_self)]
    · rw [evT, if_neg ht, texts_kd, texts_app] at h
      rw [cutL_e V b k r os ht]
      by_cases hp : V.pre p.data = true
      · simp only [hp, if_true, texts, List.nil_append] at h ⊢
        obtain ⟨h1, h2, h3⟩ := cut_sol r os X ho h
        refine ⟨?_, h2, h3⟩
        rw [tI, if_neg ht, tI, if_neg ht, sol_app, sol_app, h1]
      · have hp' : V.pre p.data = false := by simpa using hp
        simp only [hp', if_false, Bool.false_eq_true, texts_app, texts_kd, texts, List.append_nil, List.map_append, List.append_assoc] at h ⊢
        obtain ⟨k1, k2, k3⟩ := cut_sol k os _ ho h
        obtain ⟨h1, h2, h3⟩ := cut_sol r (cutL V k os).2 X k3 k2
        refine ⟨?_, h2, h3⟩
        rw [tI, if_neg ht, tI, if_neg ht, sol_app, sol_app, h1, k1]
theorem cl_sol (f : F Pay) : sol (tI (clF V f)) = sol (tI f) :=
  (cut_sol V f _ [] (run_bytes (evT V f) none false (tb_evT V f) (fun s h => by cases h)).2 (by rw [List.append_nil]; exact (run_sol (evT V f) none false).2)).1
/-- No text is longer than it was. -/
def LenLe : List (Option (List Int)) → List (List Int) → Prop
  | [], _ => True
  | o :: os, t :: ts => (o.getD []).length ≤ t.length ∧ LenLe os ts
  | _ :: _, [] => False
theorem run_le : ∀ (es : List Ev) (p : Option (List Int)) (k : Bool), ((run es p k).1.getD []).length ≤ (p.getD []).length ∧ LenLe (run es p k).2 (texts es)
  | [], p, k => by
    refine ⟨?_, trivial⟩
    rw [run]
    cases p with
    | none => exact Nat.le_refl _
    | some s =>
      rw [Option.bind_some]
      split
      · exact Nat.zero_le _
      · have := os_len false s
        show (trim s).length ≤ s.length
        unfold trim
        split
        · rw [List.length_dropLast]; omega
        · exact Nat.le_refl _
  | .blk :: es, p, k => by
    refine ⟨?_, (run_le es none false).2⟩
    rw [run]
    cases p with
    | none => exact Nat.le_refl _
    | some s =>
      show (trim s).length ≤ s.length
      unfold trim
      split
      · rw [List.length_dropLast]; omega
      · exact Nat.le_refl _
  | .void :: es, p, k => ⟨Nat.le_refl _, (run_le es none true).2⟩
  | .oth :: es, p, k => run_le es p _
  | .txt t :: es, p, k => by
    have hm : (met p k t).length ≤ t.length := by
      unfold met
      have := os_len false t
      split
      · rw [List.length_tail]
        show (os false t).length - 1 ≤ _
        omega
      · exact this
    rw [run]
    split
    · obtain ⟨h1, h2⟩ := run_le es p k
      exact ⟨h1, Nat.zero_le _, h2⟩
    · obtain ⟨h1, h2⟩ := run_le es (some (met p k t)) k
      exact ⟨Nat.le_refl _, Nat.le_trans h1 hm, h2⟩
theorem str_size (l : List Int) : (strOfNums l).size = l.length := by simp [strOfNums, ByteArray.size]
theorem cut_heft : ∀ (f : F Pay) (os : List (Option (List Int))) (X : List (List Int)), LenLe os (texts (evT V f) ++ X) → heft (cutL V f os).1 ≤ heft f ∧ LenLe (cutL V f os).2 X ∧ List.Sublist (cutL V f os).1.blocks f.blocks
  | .nil, os, X, h => ⟨Nat.le_refl _, h, List.Sublist.refl _⟩
  | .node b p k r, os, X, h => by
    by_cases ht : p.type = 1
    · rw [evT, if_pos ht, texts, List.cons_append] at h
      cases os with
      | nil => rw [cutL_0 V b k r ht]; exact ⟨Nat.zero_le _, trivial, List.nil_sublist _⟩
      | cons o os =>
        obtain ⟨h0, h⟩ := h
        obtain ⟨h1, h2, h3⟩ := cut_heft r os X h
        cases o with
        | none =>
          rw [cutL_n V b k r os ht]
          exact ⟨by rw [heft]; omega, h2, (h3.trans (List.sublist_append_right _ _)).trans (List.sublist_cons_self _ _)⟩
        | some l =>
          rw [cutL_s V b k r l os ht]
          refine ⟨?_, h2, by rw [F.blocks, F.blocks]; exact ((List.Sublist.refl _).append h3).cons_cons _⟩
          rw [heft, heft]
          have h5 : (strOfNums l).size ≤ p.data.size := by rw [str_size, ← bys_length]; exact h0
          simp only [ht, beq_self_eq_true, if_true]
          omega
    · rw [evT, if_neg ht, texts_kd, texts_app] at h
      rw [cutL_e V b k r os ht]
      by_cases hp : V.pre p.data = true
      · simp only [hp, if_true, texts, List.nil_append] at h ⊢
        obtain ⟨h1, h2, h3⟩ := cut_heft r os X h
        exact ⟨by rw [heft, heft]; omega, h2, by rw [F.blocks, F.blocks]; exact ((List.Sublist.refl _).append h3).cons_cons _⟩
      · have hp' : V.pre p.data = false := by simpa using hp
        simp only [hp', if_false, Bool.false_eq_true, texts_app, texts_kd, texts, List.append_nil, List.append_assoc] at h ⊢
        obtain ⟨k1, k2, k3⟩ := cut_heft k os _ h
        obtain ⟨h1, h2, h3⟩ := cut_heft r (cutL V k os).2 X k2
        exact ⟨by rw [heft, heft]; omega, h2, by rw [F.blocks, F.blocks]; exact (k3.append h3).cons_cons _⟩
theorem cl_heft (f : F Pay) : heft (clF V f) ≤ heft f ∧ List.Sublist (clF V f).blocks f.blocks := by
  have h := cut_heft V f (run (evT V f) none false).2 [] (by rw [List.append_nil]; exact (run_le (evT V f) none false).2)
  exact ⟨h.1, h.2.2⟩
theorem TE.neat : ∀ {f : F Pay}, TE f → Neat f ∧ Plain f
  | .nil, _ => ⟨trivial, trivial⟩
  | .node b p k r, h => by
    obtain ⟨h1, h2, h3⟩ := h
    obtain ⟨k1, k2⟩ := h2.neat
    obtain ⟨r1, r2⟩ := h3.neat
    rcases h1 with ⟨a, c, _⟩ | ⟨a, c⟩
    · exact ⟨⟨.inl ⟨a, c⟩, k1, r1⟩, .inl a, k2, r2⟩
    · exact ⟨⟨.inr (.inr (.inl a)), k1, r1⟩, .inr (.inl ⟨a, c⟩), k2, r2⟩
theorem full_TE : ∀ {f : F Pay}, TE f → TE (fullF f)
  | .nil, _ => trivial
  | .node b p k r, h => by
    obtain ⟨h1, h2, h3⟩ := h
    rw [fullF]
    split
    · exact full_TE h3
    · refine ⟨?_, full_TE h2, full_TE h3⟩
      rcases h1 with ⟨a, c, d⟩ | h1
      · exact .inl ⟨a, by rw [c]; rfl, d⟩
      · exact .inr h1
theorem full_sub : ∀ f : F Pay, List.Sublist (fullF f).blocks f.blocks ∧ heft (fullF f) ≤ heft f
  | .nil => ⟨List.Sublist.refl _, Nat.le_refl _⟩
  | .node b p k r => by
    obtain ⟨k1, k2⟩ := full_sub k
    obtain ⟨r1, r2⟩ := full_sub r
    rw [fullF, F.blocks]
    split
    · exact ⟨(r1.trans (List.sublist_append_right _ _)).trans (List.sublist_cons_self _ _), by rw [heft]; omega⟩
    · exact ⟨by rw [F.blocks]; exact (k1.append r1).cons_cons _, by rw [heft, heft]; omega⟩
end
#print axioms cl_twice
end Go.Proofs.Ytlallihdiffheaa.Hand
end
section
/- Where the walk of collapse.Collapse stands in a tree, and what it knows there. -/
namespace Go.Proofs.Ytlallihdiffheaa.Hand
open Go.RowKit Go.Proofs.YtlallihdiffheaaW.PrintWords
set_option linter.unusedVariables false
set_option linter.unusedSimpArgs false

/-- What stands above a place: each node with what stands ahead of it, and behind. -/
inductive Cx where
  | top
  | up (a : F Pay) (n : Nat) (p : Pay) (r : F Pay) (c : Cx)
def plug : Cx → F Pay → F Pay
  | .top, f => f
  | .up a n p r c, f => plug c (a.app (.node n p f r))
def parN (b : Nat) : Cx → Nat
  | .top => b
  | .up _ n _ _ _ => n
def todoC : Cx → List Nat
  | .top => []
  | .up _ _ _ r c => r.blocks ++ todoC c
/-- The first one, or what stands above. -/
def hd (r : F Pay) (m : Nat) : Nat := match r with
  | .nil => m
  | .node d _ _ _ => d
theorem hd_or (r : F Pay) (m : Nat) : (r.headOr none).or (some m) = some (hd r m) := by cases r <;> rfl
def tops : F Pay → List Nat
  | .nil => []
  | .node b _ _ r => b :: tops r
theorem tops_app : ∀ a f : F Pay, tops (a.app f) = tops a ++ tops f
  | .nil, f => rfl
  | .node b p k r, f => by rw [F.app, tops, tops, tops_app r f]; rfl
theorem tops_sits {H : NMap} {d : Nat} : ∀ (f : F Pay) (par prev next : Option Nat), Sits H par prev next f → d ∈ tops f → ∃ r, H d = some r ∧ r.parent = par
  | .nil, _, _, _, _, h => by cases h
  | .node b p k r, par, prev, next, hs, h => by
    rw [tops] at h
    rcases List.mem_cons.1 h with h | h
    · rw [h]; exact ⟨_, hs.1, rfl⟩
    · exact tops_sits r _ _ _ hs.2.2 h
theorem kidsOf_in {n : Nat} : ∀ f : F Pay, n ∈ f.blocks → ∃ k, f.kidsOf n = some k
  | .nil, h => by cases h
  | .node b p k r, h => by
    rw [F.kidsOf]
    split
    · exact ⟨_, rfl⟩
    · rename_i hb
      simp only [F.blocks, List.mem_cons, List.mem_append] at h
      cases hk : k.kidsOf n with
      | some x => exact ⟨x, rfl⟩
      | none =>
        rcases h with h | h | h
        · exact absurd h.symm hb
        · obtain ⟨x, hx⟩ := kidsOf_in k h
          rw [hk] at hx
          cases hx
        · exact kidsOf_in r h
theorem kids_inner {c n : Nat} {k : F Pay} : ∀ f : F Pay, f.kidsOf n = some k → f.blocks.Nodup → c ∈ k.blocks → f.kidsOf c = k.kidsOf c
  | .nil, h, _, _ => by cases h
  | .node b p kk r, h, hd, hc => by
    simp only [F.blocks, List.nodup_cons, List.nodup_append, List.mem_append, not_or] at hd
    obtain ⟨⟨hbk, hbr⟩, hdk, hdr, hkr⟩ := hd
    rw [F.kidsOf] at h
    split at h
    · obtain rfl := Option.some.inj h
      obtain ⟨x, hx⟩ := kidsOf_in kk hc
      rw [F.kidsOf, if_neg (fun e : b = c => hbk (e ▸ hc)), hx]
    · rename_i hb
      cases hk : kk.kidsOf n with
      | some z =>
        rw [hk] at h
        obtain rfl := Option.some.inj h
        have hm := F.kidsOf_mem hk
        obtain ⟨x, hx⟩ := kidsOf_in z hc
        have ih := kids_inner kk hk hdk hc
        rw [F.kidsOf, if_neg (fun e : b = c => hbk (e ▸ hm.2 c hc)), ih, hx]
      | none =>
        rw [hk] at h
        have hm := F.kidsOf_mem h
        have ih := kids_inner r h hdr hc
        rw [F.kidsOf, if_neg (fun e : b = c => hbr (e ▸ hm.2 c hc)), F.kidsOf_out c kk (fun hh => hkr c hh c (hm.2 c hc) rfl)]
        exact ih
theorem kids_plug : ∀ (c : Cx) (f : F Pay) (b : Nat) (p : Pay), (F.node b p (plug c f) .nil).blocks.Nodup → (F.node b p (plug c f) .nil).kidsOf (parN b c) = some f ∧ ∀ x, (F.node b p (plug c f) .nil).setKids (parN b c) x = .node b p (plug c x) .nil
  | .top, f, b, p, _ => ⟨if_pos rfl, fun x => by rw [parN, plug, F.setKids, if_pos rfl]; rfl⟩
  | .up a n q r c, f, b, p, hd => by
    obtain ⟨h1, h2⟩ := kids_plug c (a.app (.node n q f r)) b p hd
    obtain ⟨h3, h4⟩ := F.kidsOf_nodup h1 hd
    have hn : n ∈ (a.app (F.node n q f r)).blocks := by simp [F.blocks_app, F.blocks]
    have hna : n ∉ a.blocks := by
      intro h
      rw [F.blocks_app] at h4
      exact (List.nodup_append.1 h4).2.2 n h n (by simp [F.blocks]) rfl
    have hne : n ≠ parN b c := fun e => h3 (e ▸ hn)
    refine ⟨?_, fun x => ?_⟩
    · rw [plug, parN, kids_inner _ h1 hd hn, F.kidsOf_app n a _ hna]
      exact if_pos rfl
    · have h5 := F.setKids_inner (x := a.app (.node n q f r)) (y := x) hne _ _ h1 hd hn
      rw [h2] at h5
      have h6 : (a.app (F.node n q f r)).setKids n x = a.app (.node n q x r) := by rw [F.setKids_app n x a _ hna, F.setKids, if_pos rfl]
      rw [plug, parN, h5, h6, h2, plug]
/-- What stands right below a node is one of its own. -/
theorem parent_kids {H : NMap} {d c : Nat} {rd : NRec} (hrd : H d = some rd) (hp : rd.parent = some c) : ∀ (f : F Pay) (par prev next : Option Nat), Sits H par prev next f → f.blocks.Nodup → d ∈ f.blocks → par = some c ∨ ∃ k, f.kidsOf c = some k ∧ d ∈ k.blocks
  | .nil, _, _, _, _, _, h => by cases h
  | .node b p k r, par, prev, next, hs, hd, h => by
    obtain ⟨h1, h2, h3⟩ := hs
    simp only [F.blocks, List.nodup_cons, List.nodup_append, List.mem_append, not_or] at hd
    obtain ⟨⟨hbk, hbr⟩, hdk, hdr, hkr⟩ := hd
    simp only [F.blocks, List.mem_cons, List.mem_append] at h
    rcases h with h | h | h
    · subst h
      rw [h1] at hrd
      obtain rfl := Option.some.inj hrd
      exact .inl hp
    · rcases parent_kids hrd hp k _ _ _ h2 hdk h with e | ⟨kk, e1, e2⟩
      · obtain rfl := Option.some.inj e
        exact .inr ⟨k, if_pos rfl, h⟩
      · have hm := F.kidsOf_mem e1
        refine .inr ⟨kk, ?_, e2⟩
        rw [F.kidsOf, if_neg (fun e : b = c => hbk (e ▸ hm.1)), e1]
    · rcases parent_kids hrd hp r _ _ _ h3 hdr h with e | ⟨kk, e1, e2⟩
      · exact .inl e
      · have hm := F.kidsOf_mem e1
        refine .inr ⟨kk, ?_, e2⟩
        rw [F.kidsOf, if_neg (fun e : b = c => hbr (e ▸ hm.1)), F.kidsOf_out c k (fun hh => hkr c hh c hm.1 rfl)]
        exact e1
theorem sits_plug {H : NMap} : ∀ (c : Cx) (f : F Pay) (b : Nat), Sits H (some b) none none (plug c f) → Sits H (some (parN b c)) none none f
  | .top, f, b, h => h
  | .up a n p r c, f, b, h => ((sits_app H a _ _ _ _).1 (sits_plug c _ b h)).2.2.1
theorem plug_blocks : ∀ (c : Cx) (f : F Pay), (∀ x ∈ f.blocks, x ∈ (plug c f).blocks) ∧ (∀ x ∈ todoC c, x ∈ (plug c f).blocks) ∧ ((plug c f).blocks.Nodup → (f.blocks ++ todoC c).Nodup ∧ ∀ b, parN b c = b ∨ parN b c ∈ (plug c f).blocks ∧ parN b c ∉ f.blocks ++ todoC c)
  | .top, f => ⟨(fun x h => h), (fun x h => by cases h), fun h => ⟨by rw [todoC, List.append_nil]; exact h, fun b => .inl rfl⟩⟩
  | .up a n p r c, f => by
    obtain ⟨h1, h2, h3⟩ := plug_blocks c (a.app (.node n p f r))
    refine ⟨fun x hx => h1 x (by simp [F.blocks_app, F.blocks, hx]), fun x hx => ?_, fun hd => ?_⟩
    · rw [todoC] at hx
      rcases List.mem_append.1 hx with hx | hx
      · exact h1 x (by simp [F.blocks_app, F.blocks, hx])
      · exact h2 x hx
    · have h4 := (h3 hd).1
      rw [F.blocks_app, F.blocks, List.append_assoc, List.cons_append, List.append_assoc] at h4
      have h5 := (List.nodup_append.1 h4).2.1
      rw [List.nodup_cons] at h5
      refine ⟨h5.2, fun b => .inr ⟨h1 n (by simp [F.blocks_app, F.blocks]), h5.1⟩⟩
section
variable (V : Ways)
def after : Cx → List EvI
  | .top => []
  | .up a n p r c => .e (V.kd p.data) :: (evF V r ++ after c)
def OkC : Cx → Prop
  | .top => True
  | .up a n p r c => p.type = 3 ∧ V.pre p.data = false ∧ OkC c
def cutC (g : G) : Cx → Cx
  | .top => .top
  | .up a n p r c => .up (cutG V g a) n p (cutG V g r) (cutC g c)
theorem parN_cut (g : G) (b : Nat) (c : Cx) : parN b (cutC V g c) = parN b c := by cases c <;> rfl
theorem cutG_app (g : G) : ∀ a f : F Pay, cutG V g (a.app f) = (cutG V g a).app (cutG V g f)
  | .nil, f => rfl
  | .node b p k r, f => by
    rw [F.app, cutG, cutG, cutG_app g r f]
    by_cases ht : p.type = 1
    · rw [if_pos ht, if_pos ht]
      cases g b <;> rfl
    · rw [if_neg ht, if_neg ht]
      rfl
theorem cutG_el (g : G) (b : Nat) {p : Pay} (k r : F Pay) (ht : p.type = 3) (hp : V.pre p.data = false) : cutG V g (.node b p k r) = .node b p (cutG V g k) (cutG V g r) := by
  rw [cutG, if_neg (by rw [ht]; decide), hp]
  rfl
theorem cutG_plug (g : G) : ∀ (c : Cx) (f : F Pay), OkC V c → cutG V g (plug c f) = plug (cutC V g c) (cutG V g f)
  | .top, f, _ => rfl
  | .up a n p r c, f, h => by rw [plug, cutG_plug g c _ h.2.2, cutG_app, cutG_el V g n f r h.1 h.2.1]; rfl
theorem cutG_congr (g g' : G) : ∀ f : F Pay, (∀ x ∈ f.blocks, g' x = g x) → cutG V g' f = cutG V g f
  | .nil, _ => rfl
  | .node b p k r, h => by
    rw [cutG, cutG, h b (by simp [F.blocks]), cutG_congr g g' k (fun x hx => h x (by simp [F.blocks, hx])), cutG_congr g g' r (fun x hx => h x (by simp [F.blocks, hx]))]
/-- Where a text is taken out. -/
theorem cutG_none (g : G) (c : Nat) {q : Pay} (k r : F Pay) (ht : q.type = 1) (h : g c = none) : cutG V g (.node c q k r) = cutG V g r := by
  rw [cutG, if_pos ht, h]
theorem cutG_some (g : G) (c : Nat) {q : Pay} (k r : F Pay) (ht : q.type = 1) {l : List Int} (h : g c = some l) : cutG V g (.node c q k r) = .node c { q with data := strOfNums l } k (cutG V g r) := by
  rw [cutG, if_pos ht, h]
theorem cutG_sub (g : G) : ∀ f : F Pay, List.Sublist (cutG V g f).blocks f.blocks
  | .nil => List.Sublist.refl _
  | .node b p k r => by
    have hk := cutG_sub g k
    have hr := cutG_sub g r
    rw [cutG, F.blocks]
    split
    · cases g b with
      | none => exact (hr.trans (List.sublist_append_right _ _)).trans (List.sublist_cons_self _ _)
      | some l => exact ((List.Sublist.refl _).append hr).cons_cons _
    · rw [F.blocks]
      split
      · exact ((List.Sublist.refl _).append hr).cons_cons _
      · exact (hk.append hr).cons_cons _
/-- Another text in the place of one: all blocks stay. -/
theorem cutG_same (g : G) {d : Nat} {l : List Int} (v : List Int) (hg : g d = some l) : ∀ f : F Pay, (cutG V (setG g d (some v)) f).blocks = (cutG V g f).blocks ∧ tops (cutG V (setG g d (some v)) f) = tops (cutG V g f)
  | .nil => ⟨rfl, rfl⟩
  | .node b p k r => by
    obtain ⟨k1, k2⟩ := cutG_same g v hg k
    obtain ⟨r1, r2⟩ := cutG_same g v hg r
    rw [cutG, cutG]
    by_cases ht : p.type = 1
    · rw [if_pos ht, if_pos ht]
      by_cases hb : b = d
      · subst hb
        rw [setG_same, hg]
        exact ⟨by simp only [F.blocks, r1], by simp only [tops, r2]⟩
      · rw [setG_other _ _ hb]
        cases g b with
        | none => exact ⟨r1, r2⟩
        | some l => exact ⟨by simp only [F.blocks, r1], by simp only [tops, r2]⟩
    · rw [if_neg ht, if_neg ht]
      refine ⟨?_, by simp only [tops, r2]⟩
      simp only [F.blocks, r1]
      split
      · rfl
      · rw [k1]
/-- What a node's text is turned to. -/
theorem cutG_set (g : G) {H : NMap} {d : Nat} {l : List Int} (v : List Int) {rd : NRec} (hg : g d = some l) (hrd : H d = some rd) : ∀ (f : F Pay) (par prev next : Option Nat), TE f → f.blocks.Nodup → d ∈ idsI (evF V f) → Sits H par prev next (cutG V g f) →
    (cutG V g f).setPay d { rd.pay with data := strOfNums v } = cutG V (setG g d (some v)) f ∧ rd.pay.type = 1 ∧ rd.pay.data = strOfNums l
  | .nil, _, _, _, _, _, h, _ => by cases h
  | .node b p k r, par, prev, next, hte, hd, h, hs => by
    obtain ⟨t1, t2, t3⟩ := hte
    simp only [F.blocks, List.nodup_cons, List.nodup_append, List.mem_append, not_or] at hd
    obtain ⟨⟨hbk, hbr⟩, hdk, hdr, hkr⟩ := hd
    have hout : ∀ (x : F Pay) (q : Pay), d ∉ x.blocks → (cutG V g x).setPay d q = cutG V (setG g d (some v)) x := fun x q hx => by
      rw [setPay_out d q _ (fun e => hx ((cutG_sub V g x).subset e)), cutG_congr V g _ x (fun y hy => setG_other _ _ (fun e : y = d => hx (e ▸ hy)))]
    by_cases ht : p.type = 1
    · have hk : k = .nil := by
        rcases t1 with ⟨_, e, _⟩ | ⟨e, _⟩
        · exact e
        · rw [ht] at e; cases e
      subst hk
      rw [evF, if_pos ht, idsI, List.mem_cons] at h
      by_cases hb : b = d
      · subst hb
        rw [cutG_some V g b .nil r ht hg] at hs ⊢
        rw [cutG_some V _ b .nil r ht (setG_same _ _ _)]
        have h1 := hs.1
        rw [hrd] at h1
        have h1 := Option.some.inj h1
        subst h1
        refine ⟨?_, ht, rfl⟩
        rw [F.setPay, if_pos rfl, hout r _ hbr]
        rfl
      · have h' : d ∈ idsI (evF V r) := h.resolve_left (fun e => hb e.symm)
        cases hgb : g b with
        | none =>
          rw [cutG_none V g b .nil r ht hgb] at hs ⊢
          rw [cutG_none V _ b .nil r ht (by rw [setG_other _ _ hb]; exact hgb)]
          exact cutG_set g v hg hrd r _ _ _ t3 hdr h' hs
        | some lb =>
          rw [cutG_some V g b .nil r ht hgb] at hs ⊢
          rw [cutG_some V _ b .nil r ht (by rw [setG_other _ _ hb]; exact hgb)]
          obtain ⟨a1, a2, a3⟩ := cutG_set g v hg hrd r _ _ _ t3 hdr h' hs.2.2
          refine ⟨?_, a2, a3⟩
          rw [F.setPay, if_neg hb, a1]
          rfl
    · rw [evF, if_neg ht, idsI, idsI_app] at h
      rw [cutG, if_neg ht] at hs ⊢
      rw [cutG, if_neg ht]
      have hdb : b ≠ d := fun e => by
        have hm : d ∈ k.blocks ∨ d ∈ r.blocks := by
          rcases List.mem_append.1 h with h | h
          · split at h
            · cases h
            · rw [idsI_app, idsI, idsI, List.append_nil] at h
              exact .inl ((ids_blocks V k).subset h)
          · exact .inr ((ids_blocks V r).subset h)
        rcases hm with hm | hm
        · exact hbk (e ▸ hm)
        · exact hbr (e ▸ hm)
      rw [F.setPay, if_neg hdb]
      by_cases hp : V.pre p.data = true
      · simp only [hp, if_true, idsI, List.nil_append] at h hs ⊢
        have hr := (ids_blocks V r).subset h
        obtain ⟨a1, a2, a3⟩ := cutG_set g v hg hrd r _ _ _ t3 hdr h hs.2.2
        refine ⟨?_, a2, a3⟩
        rw [a1, setPay_out d _ k (fun hh => hkr d hh d hr rfl)]
      · have hp' : V.pre p.data = false := by simpa using hp
        simp only [hp', if_false, Bool.false_eq_true, idsI_app, idsI, List.append_nil] at h hs ⊢
        rcases List.mem_append.1 h with h | h
        · have hk := (ids_blocks V k).subset h
          obtain ⟨a1, a2, a3⟩ := cutG_set g v hg hrd k _ _ _ t2 hdk h hs.2.1
          refine ⟨?_, a2, a3⟩
          rw [a1, hout r _ (fun hh => hkr d hk d hh rfl)]
        · have hr := (ids_blocks V r).subset h
          obtain ⟨a1, a2, a3⟩ := cutG_set g v hg hrd r _ _ _ t3 hdr h hs.2.2
          refine ⟨?_, a2, a3⟩
          rw [a1, hout k _ (fun hh => hkr d hh d hr rfl)]
theorem evF_app : ∀ a f : F Pay, evF V (a.app f) = evF V a ++ evF V f
  | .nil, f => rfl
  | .node b p k r, f => by
    rw [F.app, evF, evF, evF_app r f]
    split
    · rfl
    · rw [List.cons_append, List.append_assoc]
theorem ids_plug : ∀ (c : Cx) (f : F Pay), OkC V c → ∀ x ∈ idsI (evF V f), x ∈ idsI (evF V (plug c f))
  | .top, f, _, x, h => h
  | .up a n p r c, f, ho, x, h => by
    refine ids_plug c _ ho.2.2 x ?_
    rw [evF_app, idsI_app, evF, if_neg (by rw [ho.1]; decide), ho.2.1]
    simp only [Bool.false_eq_true, if_false, idsI, idsI_app, List.mem_append]
    exact .inr (.inl (.inl h))
theorem TE_app : ∀ {a f : F Pay}, TE (a.app f) → TE a ∧ TE f
  | .nil, f, h => ⟨trivial, h⟩
  | .node b p k r, f, h => by
    obtain ⟨h1, h2⟩ := TE_app (a := r) h.2.2
    exact ⟨⟨h.1, h.2.1, h1⟩, h2⟩
theorem TE_plug : ∀ (c : Cx) (f : F Pay), TE (plug c f) → TE f
  | .top, f, h => h
  | .up a n p r c, f, h => (TE_app (TE_plug c _ h)).2.2.1
theorem heft_plug : ∀ (c : Cx) (f : F Pay), heft f ≤ heft (plug c f)
  | .top, f => Nat.le_refl _
  | .up a n p r c, f => by
    have := heft_plug c (a.app (.node n p f r))
    rw [heft_app, heft] at this
    rw [plug]
    omega
end
#print axioms cutG_set
end Go.Proofs.Ytlallihdiffheaa.Hand
end
