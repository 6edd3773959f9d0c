/- impl.pathOf by hand: the path of a node. -/
import Derived.Test.YtlallihdiffheaaDoorAt
import Derived.Test.YtlallihdiffheaaDoorFine
import Derived.Deep.LoopGhost
namespace Go.Proofs.YtlallihdiffheaaDoor.Hand
open Go.RowKit Go.Proofs.YtlallihdiffheaaDoorW.PrintWords Go.Proofs.YtlallihdiffheaaDoorW.PrintLast Go.Proofs.YtlallihdiffheaaDoor.GT
set_option linter.unusedVariables false
set_option linter.unusedSimpArgs false

theorem snoc_split : ∀ f : F Pay, f = .nil ∨ ∃ (a : F Pay) (l : Nat) (q : Pay) (k : F Pay), f = a.app (.node l q k .nil)
  | .nil => .inl rfl
  | .node b p k r => by
    rcases snoc_split r with h | ⟨a, l, q, k2, h⟩
    · exact .inr ⟨.nil, b, p, k, by rw [h]; rfl⟩
    · exact .inr ⟨.node b p k a, l, q, k2, by rw [h]; rfl⟩
theorem subF_deep : ∀ {is : List Int} {b : Nat} {p : Pay} {k : F Pay} {c : Nat} {q : Pay} {ck : F Pay}, subF b p k is = some (c, q, ck) → is.length + ck.blocks.length ≤ k.blocks.length
  | [], b, p, k, c, q, ck, h => by
    simp only [subF, Option.some.injEq, Prod.mk.injEq] at h
    obtain ⟨-, -, rfl⟩ := h
    simp
  | i :: is, b, p, k, c, q, ck, h => by
    rw [subF] at h
    split at h
    · cases h
    · cases e : k.dropF i.toNat with
      | nil => rw [e] at h; cases h
      | node d qd kd r =>
        rw [e] at h
        have := subF_deep (is := is) h
        have := dropF_blocks e
        simp only [List.length_cons]
        omega
theorem infoInt : (Tryd.prog.info? 3).map (fun i => (i.zero, i.size, i.bytes)) = some (some (.int .i64 0), 1, 8) := by kernel_rfl
theorem own_empty (w : World) (base e size g : Nat) (hb : base ≤ g) (hg : w.heap[g]? = some (.cells #[] e (0, 0))) : w.ownsRow base e size (.slice (some ⟨g, 0, none⟩) 0 0) 0 [] :=
  ⟨by simp, .inr ⟨g, 0, #[], rfl, hb, hg, Nat.le_refl _, by simp only [maxLen]; omega, by simp, by simp⟩⟩
theorem own_one (w : World) (base e : Nat) (u : Value) (hb : base ≤ w.heap.size) : (w.alloc (.cells #[u] e (0, 0))).ownsRow base e 1 (.slice (some ⟨w.heap.size, 0, none⟩) 1 1) 1 [u] :=
  ⟨by simp, .inr ⟨w.heap.size, 1, #[u], rfl, hb, heap_alloc_new _ _, Nat.le_refl _, by simp only [maxLen]; omega, by simp, by simp⟩⟩
/-- The row of a path. -/
def PathRow (base : Nat) (w : World) (v : Value) (l : List Int) : Prop := ∃ g cap, v = .slice (some ⟨g, 0, none⟩) l.length cap ∧ w.ownsRow base 3 1 v l.length (nums .i64 l)
set_option maxRecDepth 100000 in
set_option maxHeartbeats 3200000 in
theorem pathOf_any {w : World} {H : NMap} {b : Nat} {p : Pay} {k : F Pay} (hw : Holds w H) (hs : Sits H none none none (.node b p k .nil)) (hn : Neat (.node b p k .nil)) (hbk : k.blocks.length ≤ 1000000) {path : List Int} {c : Nat} {q : Pay} {ck : F Pay} (hsub : subF b p k path = some (c, q, ck)) :
    Calls Tryd.prog 60 #[.pointer (some ⟨c, 0, none⟩)] w fun e w' => ∃ v, e = .returned v ∧ PathRow w.heap.size w' v path ∧ Below w.heap.size w w' := by
  obtain ⟨i0, hi, hzz⟩ := Option.map_eq_some_iff.1 infoInt
  simp only [Prod.mk.injEq] at hzz
  obtain ⟨hz0, hz1, hz2⟩ := hzz
  have HI := Lib.hid (And.intro hi (And.intro hz0 (And.intro hz1 hz2)))
  have HW := Lib.hid hw
  have HS := Lib.hid hs
  have HN := Lib.hid hn
  have HSUB := Lib.hid hsub
  clear hw hs hn hsub hi hz0 hz1 hz2
  go_enter Tryd.func60, Tryd.ntmps60
  go_wp2
  go_loopg [3, 4] path.length (fun gk o0 x0 wr => ∃ (js ks : List Int) (cb : Nat) (cq : Pay) (cck : F Pay) (g cap : Nat), path = js ++ ks ∧ gk = js.length ∧ subF b p k js = some (cb, cq, cck) ∧ x0 = .pointer (some ⟨cb, 0, none⟩) ∧ o0 = .slice (some ⟨g, 0, none⟩) ks.length cap ∧ wr.ownsRow w.heap.size 3 1 (.slice (some ⟨g, 0, none⟩) ks.length cap) ks.length (nums .i64 ks) ∧ Below w.heap.size w wr)
  case atStart =>
    exact ⟨path, [], c, q, ck, w.heap.size, 0, by simp, rfl, HSUB.out, rfl, rfl, own_empty _ _ _ _ _ (Nat.le_refl _) (heap_alloc_new _ _), below_alloc (Below.refl _ _) _⟩
  case round =>
    obtain ⟨js, ks, cb, cq, cck, g, cap, hpath, rfl, hsub, rfl, rfl, hown, hb⟩ := hrel
    obtain ⟨par, prev, next, hL, -, hroot, hstep⟩ := lies HS.out HN.out _ js cb cq cck rfl hsub
    obtain ⟨n0, -, -, n3, -, -, -, -, -⟩ := HW.out.opened hL.here
    have hcl := HW.out.lt hL.here
    replace n0 := (hb.cell (p := ⟨cb, 0, none⟩) hcl).trans n0
    replace n3 := (hb.cell (p := ⟨cb, 3, none⟩) hcl).trans n3
    have HP := Lib.hid hpath
    have HOWN := Lib.hid hown
    have HB := Lib.hid hb
    have HSJ := Lib.hid hsub
    by_cases hj : js = []
    · obtain ⟨rfl, -⟩ := hroot hj
      have HJ := Lib.hid hj
      clear hpath hown hb hsub hL hroot hstep hj
      simp only [ptrV] at n0
      go_wp2
      go_ret
      have e : path = ks := by rw [HP.out, HJ.out]; rfl
      exact ⟨.slice (some ⟨g, 0, none⟩) ks.length cap, rfl, ⟨g, cap, by rw [e], by rw [e]; exact HOWN.out⟩, HB.out⟩
    · obtain ⟨js', i, rfl⟩ : ∃ js' i, js = js' ++ [i] := ⟨js.dropLast, js.getLast hj, (List.dropLast_concat_getLast hj).symm⟩
      obtain ⟨n, nq, nk, a, r, hn1, hn2, hai, rfl, rfl, rfl⟩ := hstep js' i rfl
      obtain ⟨np, nv, nx, hNL, -, -, -⟩ := lies HS.out HN.out _ js' n nq nk rfl hn1
      have hkids := hNL.kids
      rw [hn2] at hkids
      obtain ⟨hsa, -⟩ := (sits_app H a _ _ _ _).1 hkids
      have hlen : a.len ≤ 1000000 := by
        have h1 := subF_len hn1
        have h2 := congrArg F.len hn2
        rw [F.len_app, F.len] at h2
        have h3 := len_le_blocks nk
        omega
      have HSA := Lib.hid hsa
      have HN1 := Lib.hid hn1
      have HAI := Lib.hid hai
      obtain ⟨u, hu⟩ := ptrV_form0 (a.lastOr none)
      rw [hu] at n3
      have HU := Lib.hid hu
      clear hpath hown hb hsub hL hroot hstep hj hn1 hn2 hNL hkids hsa hai hu
      simp only [show ptrV (some n) = .pointer (some ⟨n, 0, none⟩) from rfl] at n0
      go_wp2
      go_loopg [5, 6] a.len (fun gk k0 c0 w2 => ∃ (m : Nat) (a1 : F Pay) (rest : F Pay), k0 = .int .i64 m ∧ c0 = ptrV (a1.lastOr none) ∧ gk = a1.len ∧ a = a1.app rest ∧ a1.len + m = a.len ∧ w2 = wr)
      case atStart => exact ⟨0, a, .nil, rfl, HU.out.symm, rfl, (F.app_nil a).symm, rfl, rfl⟩
      case round =>
        obtain ⟨m, a1, rest, rfl, rfl, rfl, ha, hm, rfl⟩ := hrel
        rcases snoc_split a1 with h0 | ⟨a2, d, dq, dk, h0⟩
        · subst h0
          have hm2 : m = a.len := by simpa [F.len] using hm
          have HM := Lib.hid hm2
          clear ha hm hm2
          simp only [show ptrV ((F.nil : F Pay).lastOr none) = .pointer none from rfl]
          have hkl : ks.length ≤ 1000000 := by
            have h1 := subF_deep HSUB.out
            have h2 := congrArg List.length HP.out
            simp only [List.length_append, List.length_singleton] at h2
            omega
          have HNW := Lib.hid (fun j u hj => (HOWN.out.alloc (.cells #[.int .i64 m] 3 (0, 0))).cells (g := g) rfl j u hj)
          have HO1 := Lib.hid (own_one wr w.heap.size 3 (.int .i64 m) HB.out.size)
          go_wp2_with (at_builtin; refine wpList_append_own_at _ rfl (.tmp 31) (.tmp 32) 87 rfl w.heap.size 3 i0 (.int .i64 0) 1 8 Tryd.underlying87 HI.out.1 HI.out.2.1 HI.out.2.2.1 HI.out.2.2.2 rfl (by omega) (.slice (some ⟨wr.heap.size, 0, none⟩) 1 1) 1 [.int .i64 m] rfl HO1.out ⟨g, 0, none⟩ ks.length cap (nums .i64 ks) rfl (by rw [nums_length, Nat.mul_one]) ?news (by simp [nums, Value.oneCell']) (by simp only [maxLen]; omega) (by omega) (by rw [World.size_alloc]; have := HB.out.size; omega) ?_; (case news => exact HNW.out); intro v1 w2 hown1 hgr1 _ _; obtain ⟨g1, cap1, rfl, _, _⟩ := hown1.form (by omega); have HOWN1 := Lib.hid hown1; have HB1 := Lib.hid ((below_alloc HB.out (.cells #[.int .i64 m] 3 (0, 0))).grown hgr1 (by rw [World.size_alloc]; have := HB.out.size; omega) (own_base HO1.out)); have n0' := (HB1.out.cell (p := ⟨cb, 0, none⟩) hcl).trans ((HB.out.cell (p := ⟨cb, 0, none⟩) hcl).symm.trans n0); clear hown1 hgr1)
          go_roundg js'.length
          case measure => simp
          case rel =>
            refine ⟨js', i :: ks, n, nq, nk, g1, cap1, by rw [HP.out]; simp, rfl, HN1.out, rfl, by rw [List.length_cons, Nat.add_comm], ?_, HB1.out⟩
            have h := HOWN1.out
            rw [Nat.add_comm] at h
            have e : nums .i64 (i :: ks) = [.int .i64 (m : Int)] ++ nums .i64 ks := by rw [← HAI.out, ← HM.out]; rfl
            rw [e, List.length_cons]
            exact h
        · subst h0
          have hs2 := HSA.out
          rw [ha, F.app_assoc] at hs2
          obtain ⟨-, hs3⟩ := (sits_app H a2 _ _ _ _).1 hs2
          obtain ⟨-, -, -, d3, -, -, -, -, -⟩ := HW.out.opened hs3.1
          have hdl := HW.out.lt hs3.1
          replace d3 := (HB.out.cell (p := ⟨d, 3, none⟩) hdl).trans d3
          obtain ⟨u2, hu2⟩ := ptrV_form0 (a2.lastOr none)
          rw [hu2] at d3
          have hlr : (a2.app (F.node d dq dk .nil)).lastOr none = some d := by rw [F.lastOr_app]; rfl
          have HU2 := Lib.hid hu2
          have HA := Lib.hid ha
          rw [F.len_app] at hm
          simp only [F.len] at hm
          simp only [hlr, show ptrV (some d) = .pointer (some ⟨d, 0, none⟩) from rfl]
          clear hs2 hs3 hu2 ha hlr
          go_wp2
          go_roundg a2.len
          case measure => rw [F.len_app]; simp [F.len]
          case rel => exact ⟨m + 1, a2, (F.node d dq dk .nil).app rest, by go_num, HU2.out.symm, rfl, by rw [HA.out, F.app_assoc], by omega, rfl⟩
end Go.Proofs.YtlallihdiffheaaDoor.Hand
