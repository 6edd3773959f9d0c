/- Elements that become other elements: on the map, on the forest; the forest's shape, its texts and comments stay. Plain, no program in sight. -/
import Derived.Test.YtlallihdiffheaaDoorSmall
import Derived.Test.YtlallihdiffheaaDoorNamed
namespace Go.Proofs.YtlallihdiffheaaDoor.Hand
open Go.RowKit Go.Proofs.YtlallihdiffheaaDoorW.PrintWords Go.Proofs.YtlallihdiffheaaDoorW.PrintLast Go.Proofs.YtlallihdiffheaaDoor.GT
set_option linter.unusedVariables false
set_option linter.unusedSimpArgs false

/-- Some elements of a map have become other ones. -/
def SwpH (ok : Prop) (H K : NMap) : Prop := ∀ c, K c = H c ∨ (ok ∧ ∃ r q, H c = some r ∧ r.pay.type = 3 ∧ q.type = 3 ∧ q.attrs = [] ∧ K c = some { r with pay := q })
theorem SwpH.refl (ok : Prop) (H : NMap) : SwpH ok H H := fun c => .inl rfl
theorem SwpH.trans {ok : Prop} {H K L : NMap} (h : SwpH ok H K) (k : SwpH ok K L) : SwpH ok H L := by
  intro c
  rcases h c with a | ⟨o, r, q, a1, a2, a3, a4, a5⟩
  · rcases k c with b | ⟨o, r, q, b1, b2, b3, b4, b5⟩
    · exact .inl (b.trans a)
    · exact .inr ⟨o, r, q, a ▸ b1, b2, b3, b4, b5⟩
  · rcases k c with b | ⟨o, r', q', b1, b2, b3, b4, b5⟩
    · exact .inr ⟨o, r, q, a1, a2, a3, a4, b.trans a5⟩
    · rw [a5] at b1
      obtain rfl := Option.some.inj b1
      exact .inr ⟨o, r, q', a1, a2, b3, b4, b5⟩
theorem SwpH.none {ok : Prop} {H K : NMap} (h : SwpH ok H K) (c : Nat) (hc : H c = none) : K c = none := by
  rcases h c with a | ⟨_, r, q, a1, _⟩
  · exact a.trans hc
  · rw [hc] at a1
    cases a1
theorem SwpH.set {ok : Prop} (ho : ok) {H : NMap} {n : Nat} {r : NRec} (hr : H n = some r) (q : Pay) (h1 : r.pay.type = 3) (h2 : q.type = 3) (h3 : q.attrs = []) : SwpH ok H (upd H n { r with pay := q }) := by
  intro c
  by_cases e : c = n
  · subst e
    exact .inr ⟨ho, r, q, hr, h1, h2, h3, upd_same _ _ _⟩
  · exact .inl (upd_other _ _ e)
/-- Some elements of a forest have become other ones. -/
def Swp (ok : Prop) : F Pay → F Pay → Prop
  | .nil, .nil => True
  | .node b p k r, .node b' p' k' r' => b = b' ∧ (p' = p ∨ (ok ∧ p.type = 3 ∧ p'.type = 3 ∧ p'.attrs = [])) ∧ Swp ok k k' ∧ Swp ok r r'
  | _, _ => False
theorem Swp.refl (ok : Prop) : ∀ f : F Pay, Swp ok f f
  | .nil => trivial
  | .node b p k r => ⟨rfl, .inl rfl, Swp.refl ok k, Swp.refl ok r⟩
theorem Swp.heads {ok : Prop} : ∀ {f f' : F Pay}, Swp ok f f' → (∀ d, f'.headOr d = f.headOr d) ∧ f'.len = f.len ∧ f'.blocks = f.blocks
  | .nil, .nil, _ => ⟨fun _ => rfl, rfl, rfl⟩
  | .node b p k r, .node b' p' k' r', h => by
    obtain ⟨rfl, _, h1, h2⟩ := h
    exact ⟨fun _ => rfl, by simp only [F.len, h2.heads.2.1], by simp only [F.blocks, h1.heads.2.2, h2.heads.2.2]⟩
theorem swp_node {ok : Prop} {c : Nat} {q : Pay} {ck rr f' : F Pay} (h : Swp ok (.node c q ck rr) f') : ∃ q' ck' rr', f' = .node c q' ck' rr' := by
  cases f' with
  | nil => exact h.elim
  | node b' p' k' r' =>
    obtain ⟨rfl, _⟩ := h
    exact ⟨p', k', r', rfl⟩
theorem Swp.last {ok : Prop} : ∀ {f f' : F Pay}, Swp ok f f' → ∀ d, f'.lastOr d = f.lastOr d
  | .nil, .nil, _, d => rfl
  | .node b p k r, .node b' p' k' r', h, d => by
    obtain ⟨rfl, _, h1, h2⟩ := h
    simp only [F.lastOr]
    exact h2.last _
theorem Swp.isnil {ok : Prop} {k k' : F Pay} (h : Swp ok k k') (e : k = .nil) : k' = .nil := by
  subst e
  cases k' with
  | nil => rfl
  | node _ _ _ _ => exact h.elim
theorem Swp.neat {ok : Prop} : ∀ {f f' : F Pay}, Swp ok f f' → Neat f → Neat f'
  | .nil, .nil, _, _ => trivial
  | .node b p k r, .node b' p' k' r', h, hn => by
    obtain ⟨rfl, hp, h1, h2⟩ := h
    have ht : p'.type = p.type := by
      rcases hp with rfl | ⟨_, e1, e2, _⟩
      · rfl
      · rw [e1, e2]
    refine ⟨?_, h1.neat hn.2.1, h2.neat hn.2.2⟩
    rw [ht]
    rcases hn.1 with ⟨a, e⟩ | ⟨a, e⟩ | a | a
    · exact .inl ⟨a, h1.isnil e⟩
    · exact .inr (.inl ⟨a, h1.isnil e⟩)
    · exact .inr (.inr (.inl a))
    · exact .inr (.inr (.inr a))
theorem Swp.plain {ok : Prop} : ∀ {f f' : F Pay}, Swp ok f f' → Plain f → Plain f'
  | .nil, .nil, _, _ => trivial
  | .node b p k r, .node b' p' k' r', h, hn => by
    obtain ⟨rfl, hp, h1, h2⟩ := h
    refine ⟨?_, h1.plain hn.2.1, h2.plain hn.2.2⟩
    rcases hp with rfl | ⟨_, _, e1, e2⟩
    · exact hn.1
    · exact .inr (.inl ⟨e1, e2⟩)
theorem Swp.asc {ok : Prop} : ∀ {f f' : F Pay}, Swp ok f f' → AscF f → AscF f'
  | .nil, .nil, _, _ => trivial
  | .node b p k r, .node b' p' k' r', h, hn => by
    obtain ⟨rfl, hp, h1, h2⟩ := h
    refine ⟨?_, h1.asc hn.2.1, h2.asc hn.2.2⟩
    rcases hp with rfl | ⟨_, _, e1, e2⟩
    · exact hn.1
    · intro e
      rw [e1] at e
      cases e
theorem Swp.same {ok : Prop} (ho : ¬ ok) : ∀ {f f' : F Pay}, Swp ok f f' → f' = f
  | .nil, .nil, _ => rfl
  | .node b p k r, .node b' p' k' r', h => by
    obtain ⟨rfl, hp, h1, h2⟩ := h
    rw [h1.same ho, h2.same ho]
    rcases hp with rfl | ⟨o, _⟩
    · rfl
    · exact absurd o ho
theorem Swp.heft {ok : Prop} : ∀ {f f' : F Pay}, Swp ok f f' → Hand.heft f' = Hand.heft f
  | .nil, .nil, _ => rfl
  | .node b p k r, .node b' p' k' r', h => by
    obtain ⟨rfl, hp, h1, h2⟩ := h
    have e : (if p'.type == 1 then p'.data.size else 0) = (if p.type == 1 then p.data.size else 0) := by
      rcases hp with rfl | ⟨_, e1, e2, _⟩
      · rfl
      · rw [e1, e2]
        rfl
    simp only [Hand.heft]
    rw [h1.heft, h2.heft, e]
theorem swp_sits {ok : Prop} {H K : NMap} (hr : SwpH ok H K) : ∀ (f : F Pay) (par prev next : Option Nat), Sits H par prev next f → ∃ f', Swp ok f f' ∧ Sits K par prev next f'
  | .nil, par, prev, next, _ => ⟨.nil, trivial, trivial⟩
  | .node b p k r, par, prev, next, h => by
    obtain ⟨h1, h2, h3⟩ := h
    obtain ⟨k', a1, a2⟩ := swp_sits hr k _ _ _ h2
    obtain ⟨r', b1, b2⟩ := swp_sits hr r _ _ _ h3
    rcases hr b with e | ⟨o, q, q', e1, e2, e3, e4, e5⟩
    · refine ⟨.node b p k' r', ⟨rfl, .inl rfl, a1, b1⟩, ?_, a2, b2⟩
      rw [e, h1, a1.heads.1, a1.last, b1.heads.1]
    · rw [h1] at e1
      obtain rfl := Option.some.inj e1
      refine ⟨.node b q' k' r', ⟨rfl, .inr ⟨o, e2, e3, e4⟩, a1, b1⟩, ?_, a2, b2⟩
      rw [e5, a1.heads.1, a1.last, b1.heads.1]
/-- An element of one of some names stands in a forest. -/
def hasF (ns : List ByteArray) : F Pay → Bool
  | .nil => false
  | .node b p k r => isNm ns p || hasF ns k || hasF ns r
theorem hasF_app (ns : List ByteArray) : ∀ (a g : F Pay), hasF ns (a.app g) = (hasF ns a || hasF ns g)
  | .nil, g => by simp [F.app, hasF]
  | .node b p k r, g => by
    simp only [F.app, hasF, hasF_app ns r g, Bool.or_assoc]
end Go.Proofs.YtlallihdiffheaaDoor.Hand
