/- impl.textsOf as it was printed, of rows that have been turned: cells may be nil. -/
import Derived.Test.YtnhcocjdkmelhaaChMods
import Derived.Test.YtnhcocjdkmelhaaGChx1
import Derived.Test.YtnhcocjdkmelhaaGChx2
namespace Go.Proofs.Ytnhcocjdkmelhaa.Hand
open Go.RowKit Go.Proofs.YtnhcocjdkmelhaaW.PrintWords Go.Proofs.YtnhcocjdkmelhaaW.PrintLast Go.Proofs.YtnhcocjdkmelhaaW.PrintMore
set_option linter.unusedVariables false

theorem reads_own {α : Type} {d : Kd α} (hd : d.sz = 1) {w : World} {base : Nat} {e : TypeId} {v : Value} {vs : List Value} {xs : List α} (hn : xs.length ≤ 9223372036854775807) (h : w.ownsRow base e 1 v xs.length vs) (hk : ∀ (i : Nat) (u : Value) (x : α), vs[i]? = some u → xs[i]? = some x → d.K w x [u]) :
    ∃ A c, v = .slice A xs.length c ∧ xs.length ≤ c ∧ d.C w A xs.length xs := by
  obtain ⟨A, c, rfl⟩ := own_slice h
  have hl := h.1
  rw [Nat.mul_one] at hl
  refine ⟨A, c, rfl, ?_, rfl, hn, fun h0 => ?_⟩
  · rcases h.2 with ⟨hv, hz⟩ | ⟨g, cap, cur, hv, _, _, hc, _⟩
    · omega
    · injection hv with _ _ hv
      omega
  · obtain ⟨g, cap, he, _, _⟩ := h.form h0
    injection he with he _ _
    subst he
    refine ⟨_, rfl, fun j p hj => ?_⟩
    have hjl := (List.getElem?_eq_some_iff.1 hj).1
    obtain ⟨u, hu⟩ : ∃ u, vs[j]? = some u := ⟨_, List.getElem?_eq_getElem (by omega)⟩
    refine ⟨[u], by rw [hd]; rfl, hk j u p hu hj, fun i x hx => ?_⟩
    rw [hd]
    cases i with
    | zero =>
      obtain rfl : u = x := by simpa using hx
      rw [Nat.mul_one, Nat.add_zero]
      exact h.cells (g := g) rfl j u hu
    | succ i => simp at hx
theorem BRow.K {w : World} {v : Value} {s : ByteArray} (h : BRow w v s) (hs : s.size ≤ 9223372036854775807) : (Kd.slice 5 (Kd.int .u8)).K w (bys s) [v] := by
  obtain ⟨k, cap, cur, fr, rfl, h1, h2, h3⟩ := h
  refine ⟨some ⟨k, 0, none⟩, cap, by rw [bys_length], by rw [bys_length]; exact h1, rfl, by rw [bys_length]; exact hs, fun _ => ⟨_, rfl, fun j p hj => ?_⟩⟩
  have hjl := (List.getElem?_eq_some_iff.1 hj).1
  rw [bys_length] at hjl
  refine ⟨[.int .u8 p], rfl, rfl, fun i x hx => ?_⟩
  cases i with
  | zero =>
    obtain rfl : Value.int .u8 p = x := by simpa using hx
    have h4 := h3 j hjl
    rw [List.getD_eq_getElem?_getD, hj, Option.getD_some] at h4
    rw [add_plain]
    have hz : (Kd.int .u8).sz = 1 := rfl
    rw [hz, Nat.mul_one, Nat.add_zero]
    simp only [World.cell?, h2]
    exact h4
  | succ i => simp at hx
theorem DB.K {w : World} {v : Value} {s : ByteArray} (h : DB w v s) (hs : s.size ≤ 9223372036854775807) : (Kd.slice 5 (Kd.int .u8)).K w (bys s) [v] := by
  rcases h with h | ⟨rfl, rfl⟩
  · exact h.K hs
  · exact ⟨none, 0, rfl, Nat.le_refl _, rfl, by decide, fun h0 => absurd h0 (by decide)⟩
theorem RT.K {w : World} {base : Nat} {v : Value} {vs : List Value} {sss : List (List ByteArray)} (h : RT DB 46 50 base w v vs sss) (hl : sss.length ≤ 1099511627776) (hll : ∀ ss ∈ sss, ss.length ≤ 1099511627776 ∧ ∀ s ∈ ss, s.size ≤ 9223372036854775807) :
    ∃ A c, v = .slice A (sss.map (·.map bys)).length c ∧ (sss.map (·.map bys)).length ≤ c ∧ (Kd.slice 46 (Kd.slice 5 (Kd.int .u8))).C w A (sss.map (·.map bys)).length (sss.map (·.map bys)) :=
  reads_own rfl (by rw [List.length_map]; omega) (by rw [List.length_map]; exact h.own) (fun i u x hu hx => by
    rw [List.getElem?_map, Option.map_eq_some_iff] at hx
    obtain ⟨ss, hs', rfl⟩ := hx
    have hm := hll ss (List.mem_of_getElem? hs')
    obtain ⟨ws, h1, h2⟩ := h.rows i u ss hu hs'
    obtain ⟨A, c, rfl, hc, hC⟩ := reads_own (d := Kd.slice 5 (Kd.int .u8)) rfl (xs := ss.map bys) (by rw [List.length_map]; omega) (by rw [List.length_map]; exact h1) (fun i u x hu hx => by
      rw [List.getElem?_map, Option.map_eq_some_iff] at hx
      obtain ⟨s, hs', rfl⟩ := hx
      exact (h2 i u s hu hs').K (hm.2 s (List.mem_of_getElem? hs')))
    exact ⟨A, c, rfl, hc, hC⟩)
open Go.Proofs.Ytnhcocjdkmelhaa.GCh in
theorem texts_loop1 (x3 : List (List ByteArray)) (x9 : List (List (List Int))) (x10 x11 : Int) (ss : List ByteArray) (hl : ss.length ≤ 1099511627776) (h3 : x3.length ≤ 1099511627776) (m : Nat) :
    ∀ (d i k : Nat), ss.length - i = d → i ≤ ss.length → k = m + d → impl_textsOf.l1 (k + 1) x3 (ss.take i) x9 x10 x11 (ss.map bys) ((ss.map bys).length : Int) (i : Int) = impl_textsOf.l0 m (x3 ++ [ss]) x9 x10 (wrap64 (x11 + 1)) := by
  intro d
  induction d with
  | zero =>
    intro i k hd hi hk
    obtain rfl : i = ss.length := by omega
    obtain rfl : k = m := by omega
    simp only [impl_textsOf.l1]
    rw [if_neg (by rw [List.length_map]; omega), if_pos (by omega), List.take_length]
  | succ d ih =>
    intro i k hd hi hk
    obtain ⟨k, rfl⟩ : ∃ q, k = q + 1 := ⟨k - 1, by omega⟩
    have hil : i < ss.length := by omega
    have hrd : rd_L5 (ss.map bys) (i : Int) = bys (ss[i]) := by
      simp [rd_L5, hil]
    have htk : ss.take i ++ [strOfNums (rd_L5 (ss.map bys) (i : Int))] = ss.take (i + 1) := by
      rw [hrd, str_bys, List.take_add_one, List.getElem?_eq_getElem hil]
      rfl
    have hw : wrap64 ((i : Int) + 1) = ((i + 1 : Nat) : Int) := by
      unfold wrap64
      omega
    have hsl : (ss.take i).length < 8796093022208 := by rw [List.length_take]; omega
    rw [impl_textsOf.l1]
    rw [if_pos (by rw [List.length_map]; omega), if_pos (by omega), if_pos (by rw [List.length_map]; omega), if_pos hsl, htk, hw]
    exact ih (i + 1) k (by omega) (by omega) (by omega)
open Go.Proofs.Ytnhcocjdkmelhaa.GCh in
theorem texts_loop0 (sss : List (List ByteArray)) (hl : sss.length ≤ 1099511627776) (hll : ∀ ss ∈ sss, ss.length ≤ 1099511627776) :
    ∀ (d i : Nat), sss.length - i = d → i ≤ sss.length → ∃ k, impl_textsOf.l0 k (sss.take i) (sss.map (·.map bys)) ((sss.map (·.map bys)).length : Int) (i : Int) = some sss := by
  intro d
  induction d with
  | zero =>
    intro i hd hi
    obtain rfl : i = sss.length := by omega
    refine ⟨1, ?_⟩
    simp only [impl_textsOf.l0]
    rw [if_neg (by rw [List.length_map]; omega), List.take_length]
  | succ d ih =>
    intro i hd hi
    have hil : i < sss.length := by omega
    obtain ⟨k, hk⟩ := ih (i + 1) (by omega) (by omega)
    have hrd : rd_L6 (sss.map (·.map bys)) (i : Int) = (sss[i]).map bys := by
      simp [rd_L6, hil]
    have hw : wrap64 ((i : Int) + 1) = ((i + 1 : Nat) : Int) := by
      unfold wrap64
      omega
    refine ⟨(k + (sss[i]).length + 1) + 1, ?_⟩
    rw [impl_textsOf.l0, if_pos (by rw [List.length_map]; omega), if_pos (by omega), if_pos (by rw [List.length_map]; omega), hrd]
    have := texts_loop1 (sss.take i) (sss.map (·.map bys)) ((sss.map (·.map bys)).length : Int) (i : Int) sss[i] (hll _ (List.getElem_mem hil)) (by rw [List.length_take]; omega) k (sss[i]).length 0 (k + (sss[i]).length) (by omega) (by omega) rfl
    rw [List.take_zero] at this
    refine this.trans ?_
    rw [hw, show sss.take i ++ [sss[i]] = sss.take (i + 1) by rw [List.take_add_one, List.getElem?_eq_getElem hil]; rfl]
    exact hk
open Go.Proofs.Ytnhcocjdkmelhaa.GCh in
theorem texts_plain (sss : List (List ByteArray)) (hl : sss.length ≤ 1099511627776) (hll : ∀ ss ∈ sss, ss.length ≤ 1099511627776) : ∃ k, impl_textsOf.f k (sss.map (·.map bys)) = some sss := by
  obtain ⟨k, h⟩ := texts_loop0 sss hl hll sss.length 0 (by omega) (by omega)
  exact ⟨k, h⟩
end Go.Proofs.Ytnhcocjdkmelhaa.Hand
