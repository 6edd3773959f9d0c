/- A listed table of numbers: what a row's condition says of it, and that it stays. -/
import Derived.Test.YtlallihdiffheaaDoorHB
import Derived.Lib.LaidTab
import Derived.Lib.Space
namespace Go.Proofs.YtlallihdiffheaaDoor.Hand
open Go.RowKit Go.Proofs.YtlallihdiffheaaDoorW.PrintWords Go.Proofs.YtlallihdiffheaaDoorW.PrintLast
set_option linter.unusedVariables false

theorem tab_below {P : Program} {name : String} {k : IntKind} {zs : List Int} {w w' : World} (h : Lib.TabIs P w name k zs) (hb : Below w.heap.size w w') : Lib.TabIs P w' name k zs := by
  unfold Lib.TabIs World.var? at h ⊢
  obtain ⟨g, hg, h2⟩ := Option.bind_eq_some_iff.1 h
  rw [hg]
  simp only [Option.bind_some]
  split at h2
  · rename_i cs t fz hc
    have hlt : g < w.heap.size := (Array.getElem?_eq_some_iff.1 hc).1
    rw [hb.block g hlt, hc]
    exact h2
  · cases h2
theorem tabIs_at {P : Program} {W : World} {name : String} {k : IntKind} {zs : List Int} {g : Nat} {t e : TypeId} {n : Nat}
    (hg : P.globalNamed name = some g) (hty : (P.globals[g]?).map (·.type) = some t) (ht : P.underlying t = some (.array n e)) (he : P.underlying e = some (.int k)) (hce : P.cellsOf e = 1) (hct : P.cellsOf t = n) :
    ∀ (i : Nat) (laid : List (String × DataW Unit)) (ps : List MemPlace), DataW.LaidVars P W laid ps → laid[i]? = some (name, Lib.tabData k zs) → Lib.TabIs P W name k zs := by
  intro i
  induction i with
  | zero =>
    intro laid ps h hi
    cases laid with
    | nil => simp at hi
    | cons a r =>
      obtain rfl : a = (name, Lib.tabData k zs) := by simpa using hi
      obtain ⟨g', t', cs, fuel, p, q, hg', ht', hvar, hd, _, _⟩ := h
      obtain rfl := Option.some.inj (hg.symm.trans hg')
      obtain rfl := Option.some.inj (hty.symm.trans ht')
      unfold Lib.TabIs
      rw [hvar, ← Lib.cells_of_tab ht he hce hct hd]
  | succ i ih =>
    intro laid ps h hi
    cases laid with
    | nil => simp at hi
    | cons a r =>
      obtain ⟨_, _, _, _, _, q, _, _, _, _, hr, _⟩ := h
      exact ih r q hr (by simpa using hi)
end Go.Proofs.YtlallihdiffheaaDoor.Hand
