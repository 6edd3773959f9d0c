/- laws.inlineHas of small trees, asked for spans: it has an answer; where it has none, no span can become a div. -/
import Derived.Test.YtlallihdiffheaaBare
import Derived.Test.YtlallihdiffheaaSame
import Derived.Test.YtlallihdiffheaaGTx4
namespace Go.Proofs.Ytlallihdiffheaa.Hand
open Go.RowKit Go.Proofs.Ytlallihdiffheaa.GT Go.Proofs.YtlallihdiffheaaW.PrintWords Go.Proofs.YtlallihdiffheaaW.PrintLast
set_option linter.unusedVariables false

/-- A tree without spans. -/
inductive NS : S25 → Prop
  | mk (q0 : Int) (q1 q2 : ByteArray) (kids : List S25) (h1 : q0 = 0 → q1 ≠ spanB) (h2 : ∀ y ∈ kids, NS y) : NS ⟨q0, q1, q2, [], kids⟩
theorem NS.inv {q0 : Int} {q1 q2 : ByteArray} {kids : List S25} (h : NS ⟨q0, q1, q2, [], kids⟩) : (q0 = 0 → q1 ≠ spanB) ∧ ∀ y ∈ kids, NS y := by
  cases h with
  | mk _ _ _ _ h1 h2 => exact ⟨h1, h2⟩
theorem ns_ren : ∀ (f f' : F Pay), Neat f → Plain f → (∀ y ∈ erase f, NS y) → Ren f f' → f' = f
  | .nil, .nil, _, _, _, _ => rfl
  | .node b p k r, .node b' p' k' r', hn, hp, hy, h => by
    obtain ⟨rfl, hpp, h1, h2⟩ := h
    have hr := ns_ren r r' hn.2.2 hp.2.2 (fun y hy2 => hy y (List.mem_cons_of_mem _ hy2)) h2
    have hy0 := hy (nodeOf p (erase k)) List.mem_cons_self
    have key : p' = p ∧ k' = k := by
      rcases hn.1 with ⟨ht, hk⟩ | ⟨ht, hk⟩ | ht | ht
      · subst hk
        refine ⟨?_, by cases k' with | nil => rfl | node _ _ _ _ => exact h1.elim⟩
        rcases hpp with e | ⟨e, _⟩
        · exact e
        · omega
      · subst hk
        refine ⟨?_, by cases k' with | nil => rfl | node _ _ _ _ => exact h1.elim⟩
        rcases hpp with e | ⟨e, _⟩
        · exact e
        · omega
      · have ha : p.attrs = [] := by
          rcases hp.1 with h | ⟨_, h⟩ | h
          · omega
          · exact h
          · omega
        have e : nodeOf p (erase k) = ⟨0, p.data, ⟨#[]⟩, [], erase k⟩ := by simp [nodeOf, ht, ha]
        rw [e] at hy0
        obtain ⟨a1, a2⟩ := hy0.inv
        refine ⟨?_, ns_ren k k' hn.2.1 hp.2.1 a2 h1⟩
        rcases hpp with e | ⟨_, e, _⟩
        · exact e
        · exact absurd e (a1 rfl)
      · rcases hp.1 with h | ⟨h, _⟩ | h <;> omega
    rw [key.1, key.2, hr]
theorem named_span (k : Nat) (hk : 5 ≤ k) (a : ByteArray) : ∃ r, spec_Named.f k [spanB] a = some r ∧ (r = false → a ≠ spanB) := by
  obtain ⟨k, rfl⟩ : ∃ m, k = m + 5 := ⟨k - 5, by omega⟩
  have hw : wrap64 ((0 : Int) + 1) = 1 := by unfold wrap64; omega
  have h1 : spec_Named.l0 (k + 4) a [spanB] 1 1 = some false := by
    rw [spec_Named.l0, if_neg (by omega)]
  have h0 : rdOf ByteArray.empty [spanB] (0 : Int) = spanB := rfl
  unfold spec_Named.f
  rw [show (([spanB] : List ByteArray).length : Int) = 1 from rfl, spec_Named.l0, if_pos (by omega), if_pos (by omega), if_pos (by decide), h0, hw, h1]
  by_cases h : spanB.toList = a.toList
  · rw [if_pos h]
    exact ⟨true, rfl, fun h => absurd h (by decide)⟩
  · rw [if_neg h]
    exact ⟨false, rfl, fun _ e => h (by rw [e])⟩
theorem has_loop (N : Nat) (ih : ∀ n, n ≤ N → ∀ x : S25, Sm n x → ∀ k, 10 * n + 10 ≤ k → ∃ r, laws_inlineHas.f k x.f0 x.f1 x.f2 x.f3 x.f4 [spanB] = some r ∧ (r = false → NS x)) (kids : List S25) (hl : kids.length ≤ 1000000) :
    ∀ (d i m k : Nat), kids.length - i = d → i ≤ kids.length → SmL m (kids.drop i) → m ≤ N → 10 * m + 11 ≤ k →
      ∃ r, laws_inlineHas.l0 k [spanB] kids (kids.length : Int) (i : Int) = some r ∧ (r = false → ∀ y ∈ kids.drop i, NS y) := by
  intro d
  induction d with
  | zero =>
    intro i m k hd hi hs hm hk
    obtain ⟨k, rfl⟩ : ∃ m, k = m + 1 := ⟨k - 1, by omega⟩
    refine ⟨false, ?_, fun _ y hy => ?_⟩
    · rw [laws_inlineHas.l0, if_neg (by omega)]
    · rw [List.drop_eq_nil_of_le (by omega)] at hy
      cases hy
  | succ d ihd =>
    intro i m k hd hi hs hm hk
    obtain ⟨k, rfl⟩ : ∃ m, k = m + 1 := ⟨k - 1, by omega⟩
    have hdc : kids.drop i = rd_T25 kids (i : Int) :: kids.drop (i + 1) := by
      rw [List.drop_eq_getElem_cons (show i < kids.length by omega)]
      simp [rd_T25, show i < kids.length by omega]
    rw [hdc] at hs ⊢
    cases hs with
    | cons a b _ _ hy hl2 =>
      have ha := hy.pos
      have hw : wrap64 ((i : Int) + 1) = ((i + 1 : Nat) : Int) := by unfold wrap64; omega
      obtain ⟨r1, h1, h2⟩ := ih a (by omega) _ hy k (by omega)
      obtain ⟨r2, h3, h4⟩ := ihd (i + 1) b k (by omega) (by omega) hl2 (by omega) (by omega)
      rw [laws_inlineHas.l0, if_pos (by omega), if_pos (by omega), if_pos (by omega), h1, Option.bind_some, hw, h3]
      cases r1 with
      | true => exact ⟨true, rfl, fun h => absurd h (by decide)⟩
      | false =>
        refine ⟨r2, rfl, fun h y hy2 => ?_⟩
        rcases List.mem_cons.1 hy2 with e | e
        · rw [e]
          exact h2 rfl
        · exact h4 h y e
theorem has_sm : ∀ (N n : Nat), n ≤ N → N ≤ 1000000 → ∀ x : S25, Sm n x → ∀ k, 10 * n + 10 ≤ k → ∃ r, laws_inlineHas.f k x.f0 x.f1 x.f2 x.f3 x.f4 [spanB] = some r ∧ (r = false → NS x) := by
  intro N
  induction N with
  | zero =>
    intro n hn _ x hx
    have := hx.pos
    omega
  | succ N ih =>
    intro n hn hN x hx k hk
    have hp := hx.pos
    obtain ⟨k, rfl⟩ : ∃ m, k = m + 2 := ⟨k - 2, by omega⟩
    have h0 : ∀ (m : Nat) (q0 : Int) (q1 q2 : ByteArray) (kids : List S25), kids.length ≤ 1000000 → SmL m kids → m ≤ N → 10 * m + 11 ≤ k → ∃ r, laws_inlineHas.f (k + 2) q0 q1 q2 [] kids [spanB] = some r ∧ (r = false → NS ⟨q0, q1, q2, [], kids⟩) := by
      intro m q0 q1 q2 kids hl hs hm hk2
      obtain ⟨r, h1, h2⟩ := has_loop N (fun n hn x hx k hk => ih n hn (by omega) x hx k hk) kids hl kids.length 0 m k (by omega) (by omega) (by simpa using hs) hm hk2
      have h1 : laws_inlineHas.l0 k [spanB] kids (kids.length : Int) 0 = some r := h1
      by_cases hq : q0 = 0
      · obtain ⟨r0, g1, g2⟩ := named_span (k + 1) (by omega) q1
        rw [laws_inlineHas.f, if_pos hq, g1, Option.bind_some, laws_inlineHas.j0]
        cases r0 with
        | true => exact ⟨true, rfl, fun h => absurd h (by decide)⟩
        | false =>
          rw [if_neg (by decide), h1]
          exact ⟨r, rfl, fun h => .mk _ _ _ _ (fun _ => g2 rfl) (by simpa using h2 h)⟩
      · rw [laws_inlineHas.f, if_neg hq, laws_inlineHas.j0, if_neg (by decide), h1]
        exact ⟨r, rfl, fun h => .mk _ _ _ _ (fun e => absurd e hq) (by simpa using h2 h)⟩
    cases hx with
    | text t _ => exact h0 0 1 _ _ [] (by simp) .nil (by omega) (by omega)
    | comment t _ => exact h0 0 2 _ _ [] (by simp) .nil (by omega) (by omega)
    | elem m name kids hk2 => exact h0 m 0 _ _ kids (by have := (SmL.sz hk2).len'; omega) hk2 (by omega) (by omega)
end Go.Proofs.Ytlallihdiffheaa.Hand
