/- dom.AllChildNodes by hand (out of the texts of the neighbors). -/
import Derived.Test.YtlallihdiffheaaDoorZMvWrap
import Derived.Test.YtlallihdiffheaaDoorTold
import Derived.Test.YtlallihdiffheaaDoorFine
import Derived.Deep.LoopGhost
namespace Go.Proofs.YtlallihdiffheaaDoor.Dom
open Go.RowKit Go.Proofs.YtlallihdiffheaaDoorW.PrintWords Go.Proofs.YtlallihdiffheaaDoorW.PrintLast Go.Proofs.YtlallihdiffheaaDoorW.PrintMore Go.Proofs.YtlallihdiffheaaDoor.GT Go.Proofs.YtlallihdiffheaaDoor.Hand
set_option linter.unusedVariables false
set_option linter.unusedSimpArgs false

theorem ptr_formM (o : Option Nat) : ∃ u, ptrV o = .pointer u := by cases o <;> exact ⟨_, rfl⟩
def ptrs (l : List Nat) : List Value := l.map fun b => .pointer (some ⟨b, 0, none⟩)
theorem infoNodePtr : (Tryd.prog.info? 49).map (fun i => (i.zero, i.size, i.bytes)) = some (some (.pointer none), 1, 8) := by kernel_rfl
/-- The children that count, each with its place; from place i on. -/
def rowK (e : Bool) : F Pay → Nat → List (Nat × Nat)
  | .nil, _ => []
  | .node b p k r, i => if e = false ∨ p.type = 3 then (b, i) :: rowK e r (i + 1) else rowK e r (i + 1)
theorem rowK_app (e : Bool) : ∀ (a g : F Pay) (i : Nat), rowK e (a.app g) i = rowK e a i ++ rowK e g (i + a.len)
  | .nil, g, i => rfl
  | .node b p k r, g, i => by
    simp only [F.app, rowK, F.len]
    rw [rowK_app e r g (i + 1), show i + 1 + r.len = i + (r.len + 1) by omega]
    split <;> simp
theorem rowK_len (e : Bool) : ∀ (a : F Pay) (i : Nat), (rowK e a i).length ≤ a.len
  | .nil, i => Nat.le_refl _
  | .node b p k r, i => by
    have := rowK_len e r (i + 1)
    simp only [rowK, F.len]
    split
    · simp only [List.length_cons]; omega
    · omega
/-- Each of them stands at its place. -/
theorem rowK_at (e : Bool) : ∀ (a : F Pay) (i : Nat) (t : Nat × Nat), t ∈ rowK e a i → ∃ q ck r, i ≤ t.2 ∧ a.dropF (t.2 - i) = .node t.1 q ck r
  | .nil, i, t, h => by cases h
  | .node b p k r, i, t, h => by
    have tail : t ∈ rowK e r (i + 1) → ∃ q ck r', i ≤ t.2 ∧ (F.node b p k r).dropF (t.2 - i) = .node t.1 q ck r' := by
      intro h
      obtain ⟨q, ck, r', h1, h2⟩ := rowK_at e r (i + 1) t h
      refine ⟨q, ck, r', by omega, ?_⟩
      rw [show t.2 - i = (t.2 - (i + 1)) + 1 by omega]
      exact h2
    simp only [rowK] at h
    split at h
    · rcases List.mem_cons.1 h with h | h
      · subst h
        exact ⟨p, k, r, Nat.le_refl _, by simp [F.dropF]⟩
      · exact tail h
    · exact tail h
set_option maxRecDepth 100000 in
set_option maxHeartbeats 1600000 in
theorem childNodes_any {w : World} {H : NMap} (hw : Holds w H) {c : Nat} {par prev next : Option Nat} {q : Pay} {ck : F Pay} (hc : H c = some ⟨par, ck.headOr none, ck.lastOr none, prev, next, q⟩) (hk : Sits H (some c) none none ck) (hl : ck.len ≤ 1000000) :
    Calls Tryd.prog 67 #[.pointer (some ⟨c, 0, none⟩)] w fun e w' => ∃ A cc, e = .returned (.slice A (rowK false ck 0).length cc) ∧ w'.ownsRow w.heap.size 49 1 (.slice A (rowK false ck 0).length cc) (rowK false ck 0).length (ptrs ((rowK false ck 0).map Prod.fst)) ∧ Below w.heap.size w w' := by
  have h1 := (hw.opened hc).2.1
  obtain ⟨u, hu⟩ := ptr_formM (ck.headOr none)
  rw [hu] at h1
  have HU := Lib.hid hu
  have HW := Lib.hid hw
  have HK := Lib.hid hk
  clear hw hc hk hu
  go_enter Tryd.func67, Tryd.ntmps67
  go_wp2
  go_loopg [2, 3] ck.len (fun gk o0 c0 wr => ∃ (k0 rest : F Pay) (v : Value), o0 = v ∧ c0 = ptrV (rest.headOr none) ∧ gk = rest.len ∧ ck = k0.app rest ∧ wr.ownsRow w.heap.size 49 1 v (rowK false k0 0).length (ptrs ((rowK false k0 0).map Prod.fst)) ∧ Below w.heap.size w wr)
  case atStart => exact ⟨.nil, ck, .slice none 0 0, rfl, HU.out.symm, rfl, rfl, own_nil _ _ _ _, Below.refl _ _⟩
  case round =>
    obtain ⟨k0, rest, v, rfl, rfl, rfl, hkk, hown, hb⟩ := hrel
    obtain ⟨Av, cv, rfl⟩ := own_slice hown
    rcases headOr_cases rest with hg | ⟨d, dq, dk, r, hg⟩
    · subst hg
      simp only [show ptrV ((F.nil : F Pay).headOr none) = .pointer none from rfl]
      rw [F.app_nil] at hkk
      subst hkk
      have HO := Lib.hid hown
      have HB := Lib.hid hb
      clear hown hb
      go_wp2
      go_ret
      exact ⟨Av, cv, rfl, HO.out, HB.out⟩
    · subst hg
      simp only [show ptrV ((F.node d dq dk r).headOr none) = .pointer (some ⟨d, 0, none⟩) from rfl]
      have hss := HK.out
      rw [hkk] at hss
      obtain ⟨-, hd, -, -⟩ := (sits_app H k0 _ _ _ _).1 hss
      have hdl := HW.out.lt hd
      have ho := HW.out.opened hd
      have hnext := ho.2.2.2.2.1
      have htype := ho.2.2.2.2.2.1
      obtain ⟨u4, hu4⟩ := ptr_formM (r.headOr none)
      rw [hu4] at hnext
      have c4 := (hb.cell (p := ⟨d, 4, none⟩) hdl).trans hnext
      have hlen : (rowK false k0 0).length ≤ 1000000 := by
        have h1 := rowK_len false k0 0
        have h2 := congrArg F.len hkk
        rw [F.len_app] at h2
        omega
      have happ := rowK_app false k0 (.node d dq dk .nil) 0
      have HO := Lib.hid hown
      have HB := Lib.hid hb
      have HU4 := Lib.hid hu4
      have HKK := Lib.hid hkk
      have HAPP := Lib.hid happ
      have HNX := Lib.hid hnext
      clear hss hd ho hnext htype hu4 hown hb hkk happ
      go_wp2_with (at_builtin; refine wpList_append_one rfl w.heap.size (.tmp 14) (.tmp 16) 85 49 _ 1 8 rfl Tryd.underlying85 infoNodePtr rfl (.slice Av (rowK false k0 0).length cv) (rowK false k0 0).length _ [.pointer (some ⟨d, 0, none⟩)] rfl rfl rfl (by simp [Value.oneCell']) HO.out HB.out.size (by omega) (by omega) ?_; intro v1 w4 hown4 hg4 hv4; have hb4 := HB.out.grown hg4 HB.out.size (own_base HO.out); have c5 := (hb4.cell (p := ⟨d, 4, none⟩) hdl).trans HNX.out; have HO4 := Lib.hid hown4; have HB4 := Lib.hid hb4; clear hown4 hg4 hv4 hb4)
      go_roundg r.len
      case measure => simp [F.len]
      case rel =>
        refine ⟨k0.app (.node d dq dk .nil), r, v1, rfl, HU4.out.symm, rfl, by rw [F.app_assoc]; exact HKK.out, ?_, HB4.out⟩
        rw [HAPP.out]
        have h := HO4.out
        rw [show rowK false (.node d dq dk .nil) (0 + k0.len) = [(d, 0 + k0.len)] from by rw [rowK, if_pos (.inl rfl)]; rfl]
        rw [List.length_append, List.map_append]
        simpa [ptrs] using h
/-- The nodes at the top. -/
def tops : F Pay → List Nat
  | .nil => []
  | .node b p k r => b :: tops r
theorem rowK_tops : ∀ (a : F Pay) (i : Nat), (rowK false a i).map Prod.fst = tops a
  | .nil, i => rfl
  | .node b p k r, i => by
    rw [rowK, if_pos (.inl rfl), List.map_cons, rowK_tops r, tops]
theorem tops_len : ∀ a : F Pay, (tops a).length = a.len
  | .nil => rfl
  | .node b p k r => by rw [tops, F.len, List.length_cons, tops_len r]
theorem tops_app : ∀ a g : F Pay, tops (a.app g) = tops a ++ tops g
  | .nil, g => rfl
  | .node b p k r, g => by rw [F.app, tops, tops, tops_app r g]; rfl
end Go.Proofs.YtlallihdiffheaaDoor.Dom
