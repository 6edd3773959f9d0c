import Derived.Test.YtlallihdiffheaaZPath
import Derived.Test.YtlallihdiffheaaZFakeSpan
import Derived.Laws.EntriesVeiled
import Derived.Deep.LoopGhost
section
/- dom's neighbors by hand: the closure that looks for them, and the eight functions. -/
namespace Go.Proofs.Ytlallihdiffheaa.Dom
open Go.RowKit Go.Proofs.YtlallihdiffheaaW.PrintWords Go.Proofs.YtlallihdiffheaaW.PrintLast Go.Proofs.YtlallihdiffheaaW.PrintMore Go.Proofs.Ytlallihdiffheaa.GT Go.Proofs.Ytlallihdiffheaa.Hand
set_option linter.unusedVariables false
set_option linter.unusedSimpArgs false
set_option linter.unusedSectionVars false
/-- The children that count, each with its place; from place i on. -/
def rowK (e : Bool) : F Pay → Nat → List (Nat × Nat)
  | .nil, _ => []
  | .node b p k r, i => if e = false ∨ p.type = 3 then (b, i) :: rowK e r (i + 1) else rowK e r (i + 1)
theorem rowK_app (e : Bool) : ∀ (a g : F Pay) (i : Nat), rowK e (a.app g) i = rowK e a i ++ rowK e g (i + a.len)
  | .nil, g, i => rfl
  | .node b p k r, g, i => by
    simp only [F.app, rowK, F.len]
    rw [rowK_app e r g (i + 1), show i + 1 + r.len = i + (r.len + 1) by omega]
    split <;> simp
/-- Each of them stands at its place. -/
theorem rowK_at (e : Bool) : ∀ (a : F Pay) (i : Nat) (t : Nat × Nat), t ∈ rowK e a i → ∃ q ck r, i ≤ t.2 ∧ a.dropF (t.2 - i) = .node t.1 q ck r
  | .nil, i, t, h => by cases h
  | .node b p k r, i, t, h => by
    have tail : t ∈ rowK e r (i + 1) → ∃ q ck r', i ≤ t.2 ∧ (F.node b p k r).dropF (t.2 - i) = .node t.1 q ck r' := by
      intro h
      obtain ⟨q, ck, r', h1, h2⟩ := rowK_at e r (i + 1) t h
      refine ⟨q, ck, r', by omega, ?_⟩
      rw [show t.2 - i = (t.2 - (i + 1)) + 1 by omega]
      exact h2
    simp only [rowK] at h
    split at h
    · rcases List.mem_cons.1 h with h | h
      · subst h
        exact ⟨p, k, r, Nat.le_refl _, by simp [F.dropF]⟩
      · exact tail h
    · exact tail h
theorem take_rd (l : List Int) (j : Nat) (h : j < l.length) : l.take (j + 1) = l.take j ++ [rd l (j : Int)] := by
  rw [List.take_add_one, List.getElem?_eq_getElem h]
  simp [rd, h]
section

theorem rowK_head (r : F Pay) (i : Nat) : ((rowK false r i).head?).map Prod.fst = r.headOr none := by
  cases r with
  | nil => rfl
  | node b p k r => simp [rowK, F.headOr]
theorem rowK_last (a : F Pay) (i : Nat) : ((rowK false a i).getLast?).map Prod.fst = a.lastOr none := by
  rcases snoc_cases a with h | ⟨a2, l, q, k, h⟩
  · subst h; rfl
  · subst h
    rw [rowK_app, F.lastOr_app]
    simp [rowK, F.lastOr]
variable {w : World} {H : NMap} {c : Nat} {par first last prev next : Option Nat} {q : Pay}
theorem firstNode_any (hw : Holds w H) (hc : H c = some ⟨par, first, last, prev, next, q⟩) : Calls Try.prog 117 #[.pointer (some ⟨c, 0, none⟩)] w fun e w' => e = .returned (ptrV first) ∧ w' = w := by
  obtain ⟨u, hu⟩ := ptrV_form first
  have n1 := (hw.opened hc).2.1
  rw [hu] at n1 ⊢
  clear hw hc hu
  go_enter Try.func117, Try.ntmps117
  go_wp2
  go_ret
  exact ⟨rfl, rfl⟩
theorem prevNode_any (hw : Holds w H) (hc : H c = some ⟨par, first, last, prev, next, q⟩) : Calls Try.prog 119 #[.pointer (some ⟨c, 0, none⟩)] w fun e w' => e = .returned (ptrV prev) ∧ w' = w := by
  obtain ⟨u, hu⟩ := ptrV_form prev
  have n1 := (hw.opened hc).2.2.2.1
  rw [hu] at n1 ⊢
  clear hw hc hu
  go_enter Try.func119, Try.ntmps119
  go_wp2
  go_ret
  exact ⟨rfl, rfl⟩
theorem nextNode_any (hw : Holds w H) (hc : H c = some ⟨par, first, last, prev, next, q⟩) : Calls Try.prog 121 #[.pointer (some ⟨c, 0, none⟩)] w fun e w' => e = .returned (ptrV next) ∧ w' = w := by
  obtain ⟨u, hu⟩ := ptrV_form next
  have n1 := (hw.opened hc).2.2.2.2.1
  rw [hu] at n1 ⊢
  clear hw hc hu
  go_enter Try.func121, Try.ntmps121
  go_wp2
  go_ret
  exact ⟨rfl, rfl⟩
theorem skip_any (w : World) (v : Value) : Calls Try.prog 153 #[v] w fun e w' => e = .returned (ptrV none) ∧ w' = w := by
  go_enter Try.func153, Try.ntmps153
  go_wp2
  go_ret
  exact ⟨rfl, rfl⟩
set_option maxRecDepth 100000 in
set_option maxHeartbeats 1600000 in
theorem firstElement_any (hw : Holds w H) (hc : H c = some ⟨par, first, last, prev, next, q⟩) {r : F Pay} (hr : first = r.headOr none) {pp pv : Option Nat} (hs : Sits H pp pv none r) (i : Nat) : Calls Try.prog 118 #[.pointer (some ⟨c, 0, none⟩)] w fun e w' => e = .returned (ptrV (((rowK true r i).head?).map Prod.fst)) ∧ w' = w := by
  obtain ⟨u, hu⟩ := ptrV_form (r.headOr none)
  have n1 := (hw.opened hc).2.1
  rw [hr, hu] at n1
  obtain ⟨R, hR⟩ : ∃ R, R = ((rowK true r i).head?).map Prod.fst := ⟨_, rfl⟩
  rw [← hR]
  have HR := Lib.hid hR
  have HU := Lib.hid hu
  have HW := Lib.hid hw
  have HS := Lib.hid hs
  clear hw hc hu hs hr hR
  go_enter Try.func118, Try.ntmps118
  go_wp2
  go_loopg [3] r.len (fun gk c0 wr => ∃ (k0 rest : F Pay), c0 = ptrV (rest.headOr none) ∧ gk = rest.len ∧ r = k0.app rest ∧ rowK true k0 i = [] ∧ wr = w)
  case atStart => exact ⟨.nil, r, HU.out.symm, rfl, rfl, rfl, rfl⟩
  case round =>
    obtain ⟨k0, rest, rfl, rfl, hkk, hnone, rfl⟩ := hrel
    rcases headOr_cases rest with hg | ⟨d, dq, dk, r2, hg⟩
    · subst hg
      simp only [show ptrV ((F.nil : F Pay).headOr none) = .pointer none from rfl]
      have hRn : R = none := by rw [HR.out, hkk, F.app_nil, hnone]; rfl
      subst hRn
      clear hkk hnone
      go_wp2
      go_ret
      exact ⟨rfl, rfl⟩
    · subst hg
      simp only [show ptrV ((F.node d dq dk r2).headOr none) = .pointer (some ⟨d, 0, none⟩) from rfl]
      have hss := HS.out
      rw [hkk] at hss
      obtain ⟨-, hd, -, -⟩ := (sits_app H k0 _ _ _ _).1 hss
      have ho := HW.out.opened hd
      have hnext := ho.2.2.2.2.1
      have htype := ho.2.2.2.2.2.1
      obtain ⟨u4, hu4⟩ := ptrV_form (r2.headOr none)
      rw [hu4] at hnext
      have happ := rowK_app true k0 (.node d dq dk r2) i
      rw [← hkk, hnone, List.nil_append] at happ
      have HU4 := Lib.hid hu4
      by_cases ht : dq.type = 3
      · rw [ht] at htype
        have hRn : R = some d := by rw [HR.out, happ, rowK, if_pos (.inr ht)]; rfl
        subst hRn
        clear hkk hnone hss hd ho hu4 happ ht
        go_wp2
        go_ret
        exact ⟨rfl, rfl⟩
      · have hbt : (dq.type == 3) = false := by simpa using ht
        have HN := Lib.hid (show rowK true (k0.app (.node d dq dk .nil)) i = [] by rw [rowK_app, hnone, List.nil_append, rowK, if_neg (fun h => h.elim (fun h => by cases h) ht)]; rfl)
        have HKK := Lib.hid hkk
        clear hkk hnone hss hd ho hu4 happ ht
        go_wp2
        go_roundg r2.len
        case measure => simp [F.len]
        case rel => exact ⟨k0.app (.node d dq dk .nil), r2, HU4.out.symm, rfl, by rw [F.app_assoc]; exact HKK.out, HN.out, rfl⟩
set_option maxRecDepth 100000 in
set_option maxHeartbeats 1600000 in
theorem nextElement_any (hw : Holds w H) (hc : H c = some ⟨par, first, last, prev, next, q⟩) {r : F Pay} (hr : next = r.headOr none) {pp pv : Option Nat} (hs : Sits H pp pv none r) (i : Nat) : Calls Try.prog 122 #[.pointer (some ⟨c, 0, none⟩)] w fun e w' => e = .returned (ptrV (((rowK true r i).head?).map Prod.fst)) ∧ w' = w := by
  obtain ⟨u, hu⟩ := ptrV_form (r.headOr none)
  have n1 := (hw.opened hc).2.2.2.2.1
  rw [hr, hu] at n1
  obtain ⟨R, hR⟩ : ∃ R, R = ((rowK true r i).head?).map Prod.fst := ⟨_, rfl⟩
  rw [← hR]
  have HR := Lib.hid hR
  have HU := Lib.hid hu
  have HW := Lib.hid hw
  have HS := Lib.hid hs
  clear hw hc hu hs hr hR
  go_enter Try.func122, Try.ntmps122
  go_wp2
  go_loopg [3] r.len (fun gk c0 wr => ∃ (k0 rest : F Pay), c0 = ptrV (rest.headOr none) ∧ gk = rest.len ∧ r = k0.app rest ∧ rowK true k0 i = [] ∧ wr = w)
  case atStart => exact ⟨.nil, r, HU.out.symm, rfl, rfl, rfl, rfl⟩
  case round =>
    obtain ⟨k0, rest, rfl, rfl, hkk, hnone, rfl⟩ := hrel
    rcases headOr_cases rest with hg | ⟨d, dq, dk, r2, hg⟩
    · subst hg
      simp only [show ptrV ((F.nil : F Pay).headOr none) = .pointer none from rfl]
      have hRn : R = none := by rw [HR.out, hkk, F.app_nil, hnone]; rfl
      subst hRn
      clear hkk hnone
      go_wp2
      go_ret
      exact ⟨rfl, rfl⟩
    · subst hg
      simp only [show ptrV ((F.node d dq dk r2).headOr none) = .pointer (some ⟨d, 0, none⟩) from rfl]
      have hss := HS.out
      rw [hkk] at hss
      obtain ⟨-, hd, -, -⟩ := (sits_app H k0 _ _ _ _).1 hss
      have ho := HW.out.opened hd
      have hnext := ho.2.2.2.2.1
      have htype := ho.2.2.2.2.2.1
      obtain ⟨u4, hu4⟩ := ptrV_form (r2.headOr none)
      rw [hu4] at hnext
      have happ := rowK_app true k0 (.node d dq dk r2) i
      rw [← hkk, hnone, List.nil_append] at happ
      have HU4 := Lib.hid hu4
      by_cases ht : dq.type = 3
      · rw [ht] at htype
        have hRn : R = some d := by rw [HR.out, happ, rowK, if_pos (.inr ht)]; rfl
        subst hRn
        clear hkk hnone hss hd ho hu4 happ ht
        go_wp2
        go_ret
        exact ⟨rfl, rfl⟩
      · have hbt : (dq.type == 3) = false := by simpa using ht
        have HN := Lib.hid (show rowK true (k0.app (.node d dq dk .nil)) i = [] by rw [rowK_app, hnone, List.nil_append, rowK, if_neg (fun h => h.elim (fun h => by cases h) ht)]; rfl)
        have HKK := Lib.hid hkk
        clear hkk hnone hss hd ho hu4 happ ht
        go_wp2
        go_roundg r2.len
        case measure => simp [F.len]
        case rel => exact ⟨k0.app (.node d dq dk .nil), r2, HU4.out.symm, rfl, by rw [F.app_assoc]; exact HKK.out, HN.out, rfl⟩
end

theorem takeF_app {P : Type} : ∀ (a g : F P), (a.app g).takeF a.len = a
  | .nil, g => by cases g <;> rfl
  | .node b p k r, g => by
    simp only [F.app, F.len, F.takeF]
    rw [takeF_app r g]
/-- The next (or the last) sibling that counts: its block, its path. -/
def sibK (fwd e : Bool) (b : Nat) (p : Pay) (k : F Pay) (js : List Int) : Option (Nat × List Int) := match js.getLast? with
  | none => none
  | some i => match subF b p k js.dropLast with
    | none => none
    | some (n, nq, nk) => (if fwd = true then (rowK e (nk.dropF (i.toNat + 1)) (i.toNat + 1)).head? else (rowK e (nk.takeF i.toNat) 0).getLast?).map (fun t => (t.1, js.dropLast ++ [(t.2 : Int)]))
/-- The first child that counts. -/
def firstK (ch : Option Bool) (js : List Int) (ck : F Pay) : Option (Nat × List Int) := match ch with
  | none => none
  | some e => ((rowK e ck 0).head?).map (fun t => (t.1, js ++ [(t.2 : Int)]))
/-- A sibling of one of those above. -/
def upK (fwd e : Bool) (b : Nat) (p : Pay) (k : F Pay) (js : List Int) : Nat → Option (Nat × List Int)
  | 0 => none
  | m + 1 => (sibK fwd e b p k (js.take m)).or (upK fwd e b p k js m)
def nearK (ch : Option Bool) (fwd e : Bool) (b : Nat) (p : Pay) (k : F Pay) (js : List Int) (ck : F Pay) : Option (Nat × List Int) :=
  (firstK ch js ck).or ((sibK fwd e b p k js).or (upK fwd e b p k js js.length))
def SibC (S : Nat) (fwd e : Bool) : Prop := ∀ (w : World) (H : NMap) (b : Nat) (p : Pay) (k : F Pay), Holds w H → Sits H none none none (.node b p k .nil) → Neat (.node b p k .nil) → ∀ (js : List Int) (c : Nat) (q : Pay) (ck : F Pay), subF b p k js = some (c, q, ck) →
  Calls Try.prog S #[.pointer (some ⟨c, 0, none⟩)] w fun en w' => en = .returned (ptrV ((sibK fwd e b p k js).map Prod.fst)) ∧ w' = w
def FirstC (F1 : Nat) (ch : Option Bool) : Prop := ∀ (w : World) (H : NMap) (b : Nat) (p : Pay) (k : F Pay), Holds w H → Sits H none none none (.node b p k .nil) → Neat (.node b p k .nil) → ∀ (js : List Int) (c : Nat) (q : Pay) (ck : F Pay), subF b p k js = some (c, q, ck) →
  Calls Try.prog F1 #[.pointer (some ⟨c, 0, none⟩)] w fun en w' => en = .returned (ptrV ((firstK ch js ck).map Prod.fst)) ∧ w' = w
theorem up_any (w : World) (v : Value) : Calls Try.prog 152 #[v] w fun e w' => e = .returned (.bool false) ∧ w' = w := by
  go_enter Try.func152, Try.ntmps152
  go_wp2
  go_ret
  exact ⟨rfl, rfl⟩
/-- What stands beside a node, told by its path. -/
theorem sib_at {H : NMap} {b : Nat} {p : Pay} {k : F Pay} (hs : Sits H none none none (.node b p k .nil)) (hn : Neat (.node b p k .nil)) {js : List Int} {c : Nat} {q : Pay} {ck : F Pay} (hsub : subF b p k js = some (c, q, ck)) :
    ∃ (par prev next : Option Nat) (a r : F Pay) (pp : Option Nat), H c = some ⟨par, ck.headOr none, ck.lastOr none, prev, next, q⟩ ∧ Sits H (some c) none none ck ∧ prev = a.lastOr none ∧ next = r.headOr none ∧ Sits H pp none (some c) a ∧ Sits H pp (some c) none r ∧
      ∀ (fwd e : Bool), (sibK fwd e b p k js).map Prod.fst = (if fwd = true then (rowK e r (a.len + 1)).head? else (rowK e a 0).getLast?).map Prod.fst := by
  obtain ⟨par, prev, next, hL, -, hroot, hstep⟩ := lies hs hn _ js c q ck rfl hsub
  by_cases hj : js = []
  · obtain ⟨-, rfl, rfl, -, -, -⟩ := hroot hj
    refine ⟨par, none, none, .nil, .nil, none, hL.here, hL.kids, rfl, rfl, trivial, trivial, fun fwd e => ?_⟩
    subst hj
    simp only [sibK, List.getLast?_nil, rowK]
    cases fwd <;> rfl
  · obtain ⟨js', i, rfl⟩ : ∃ js' i, js = js' ++ [i] := ⟨js.dropLast, js.getLast hj, (List.dropLast_concat_getLast hj).symm⟩
    obtain ⟨n, nq, nk, a, r, hn1, hn2, hai, rfl, rfl, rfl⟩ := hstep js' i rfl
    obtain ⟨np, nv, nx, hNL, -, -, -⟩ := lies hs hn _ js' n nq nk rfl hn1
    have hkids := hNL.kids
    rw [hn2] at hkids
    obtain ⟨hsa, hd, hck, hsr⟩ := (sits_app H a _ _ _ _).1 hkids
    have e1 : i.toNat = a.len := by omega
    refine ⟨some n, a.lastOr none, r.headOr none, a, r, some n, hL.here, hL.kids, rfl, rfl, hsa, hsr, fun fwd e => ?_⟩
    have h1 : nk.takeF a.len = a := by rw [hn2]; exact takeF_app a _
    have h2 : nk.dropF (a.len + 1) = r := F.dropF_succ _ _ _ _ _ _ (by rw [hn2]; exact F.dropF_app a _)
    simp only [sibK, List.getLast?_append, List.getLast?_singleton, Option.some_or, List.dropLast_concat, hn1, e1, h1, h2, Option.map_map]
    rfl
theorem nextNode_C : SibC 121 true false := fun w H b p k hw hs hn js c q ck hsub => by
  obtain ⟨par, prev, next, a, r, pp, h1, _, h3, h4, h5, h6, h7⟩ := sib_at hs hn hsub
  rw [h7, if_pos rfl, rowK_head, ← h4]
  exact nextNode_any hw h1
theorem prevNode_C : SibC 119 false false := fun w H b p k hw hs hn js c q ck hsub => by
  obtain ⟨par, prev, next, a, r, pp, h1, _, h3, h4, h5, h6, h7⟩ := sib_at hs hn hsub
  rw [h7, if_neg (by decide), rowK_last, ← h3]
  exact prevNode_any hw h1
theorem nextElement_C : SibC 122 true true := fun w H b p k hw hs hn js c q ck hsub => by
  obtain ⟨par, prev, next, a, r, pp, h1, _, h3, h4, h5, h6, h7⟩ := sib_at hs hn hsub
  rw [h7, if_pos rfl]
  exact nextElement_any hw h1 h4 h6 _
theorem firstNode_C : FirstC 117 (some false) := fun w H b p k hw hs hn js c q ck hsub => by
  obtain ⟨par, prev, next, a, r, pp, h1, h2, _⟩ := sib_at hs hn hsub
  simp only [firstK, Option.map_map]
  have h := firstNode_any hw h1
  rw [← rowK_head ck 0] at h
  exact h
theorem firstElement_C : FirstC 118 (some true) := fun w H b p k hw hs hn js c q ck hsub => by
  obtain ⟨par, prev, next, a, r, pp, h1, h2, _⟩ := sib_at hs hn hsub
  simp only [firstK, Option.map_map]
  exact firstElement_any hw h1 rfl h2 0
theorem skip_C : FirstC 153 none := fun w H b p k hw hs hn js c q ck hsub => skip_any w _
set_option maxRecDepth 100000 in
set_option maxHeartbeats 3200000 in
theorem closure_any {F1 S : Nat} {ch : Option Bool} {fwd e : Bool} (hF : FirstC F1 ch) (hS : SibC S fwd e) (hentF : ∀ (v : Value) W, (callFunc F1 #[v]).run Try.prog W = .ok (.enter F1 #[v]) W) (hentS : ∀ (v : Value) W, (callFunc S #[v]).run Try.prog W = .ok (.enter S #[v]) W)
    {w : World} {H : NMap} {b : Nat} {p : Pay} {k : F Pay} (hw : Holds w H) (hs : Sits H none none none (.node b p k .nil)) (hn : Neat (.node b p k .nil)) {js : List Int} {c : Nat} {q : Pay} {ck : F Pay} (hsub : subF b p k js = some (c, q, ck)) (B1 B2 B3 : Nat)
    (h1 : w.cell? ⟨B1, 0, none⟩ = some (.func (.func F1) #[] #[])) (h2 : w.cell? ⟨B2, 0, none⟩ = some (.func (.func S) #[] #[])) (h3 : w.cell? ⟨B3, 0, none⟩ = some (.func (.func 152) #[] #[])) :
    Calls Try.prog 170 #[.pointer (some ⟨c, 0, none⟩), .pointer (some ⟨B1, 0, none⟩), .pointer (some ⟨B2, 0, none⟩), .pointer (some ⟨B3, 0, none⟩)] w fun en w' => en = .returned (ptrV ((nearK ch fwd e b p k js ck).map Prod.fst)) ∧ w' = w := by
  have hf := hF w H b p k hw hs hn js c q ck hsub
  have hsb := hS w H b p k hw hs hn js c q ck hsub
  have hsall := fun (js : List Int) (c : Nat) (q : Pay) (ck : F Pay) (h : subF b p k js = some (c, q, ck)) => hS w H b p k hw hs hn js c q ck h
  obtain ⟨R, hR⟩ : ∃ R, R = (nearK ch fwd e b p k js ck).map Prod.fst := ⟨_, rfl⟩
  rw [← hR]
  obtain ⟨f0, hf0⟩ : ∃ f0, f0 = firstK ch js ck := ⟨_, rfl⟩
  obtain ⟨s0, hs0⟩ : ∃ s0, s0 = sibK fwd e b p k js := ⟨_, rfl⟩
  rw [← hf0] at hf
  rw [← hs0] at hsb
  rw [nearK, ← hf0, ← hs0] at hR
  have HF := Lib.hid hf
  have HSB := Lib.hid hsb
  have HSA := Lib.hid hsall
  have HW := Lib.hid hw
  have HS := Lib.hid hs
  have HN := Lib.hid hn
  have HSUB := Lib.hid hsub
  clear hf hsb hsall hw hs hn hsub hF hS hf0 hs0
  cases f0 with
  | some t =>
    replace hR : R = some t.1 := hR
    subst hR
    go_enter Try.func170, Try.ntmps170
    go_wp2_with (refine HF.out.mono ?_; rintro en w1 ⟨rfl, rfl⟩; simp only [Option.map_some, ptrV])
    go_ret
    exact ⟨rfl, rfl⟩
  | none =>
    cases s0 with
    | some t =>
      replace hR : R = some t.1 := hR
      subst hR
      go_enter Try.func170, Try.ntmps170
      go_wp2_with (first
        | (refine HF.out.mono ?_; rintro en w1 ⟨rfl, rfl⟩; simp only [Option.map_none, ptrV])
        | (refine HSB.out.mono ?_; rintro en w1 ⟨rfl, rfl⟩; simp only [Option.map_some, ptrV]))
      go_ret
      exact ⟨rfl, rfl⟩
    | none =>
      replace hR : R = (upK fwd e b p k js js.length).map Prod.fst := hR
      have HR := Lib.hid hR
      clear hR
      go_enter Try.func170, Try.ntmps170
      go_wp2_with (first
        | (refine HF.out.mono ?_; rintro en w1 ⟨rfl, rfl⟩; simp only [Option.map_none, ptrV])
        | (refine HSB.out.mono ?_; rintro en w1 ⟨rfl, rfl⟩; simp only [Option.map_none, ptrV]))
      go_loopg [0] js.length (fun gk c0 wr => ∃ (m cb : Nat) (cq : Pay) (cck : F Pay), m ≤ js.length ∧ gk = m ∧ c0 = .pointer (some ⟨cb, 0, none⟩) ∧ subF b p k (js.take m) = some (cb, cq, cck) ∧ R = (upK fwd e b p k js m).map Prod.fst ∧ wr = w1)
      case atStart => exact ⟨js.length, c, q, ck, Nat.le_refl _, rfl, rfl, by rw [List.take_length]; exact HSUB.out, HR.out, rfl⟩
      case round =>
        obtain ⟨m, cb, cq, cck, hm, rfl, rfl, hsub, hR, rfl⟩ := hrel
        obtain ⟨par, prev, next, hL, -, hroot, hstep⟩ := lies HS.out HN.out _ (js.take gk) cb cq cck rfl hsub
        have n0 := (HW.out.opened hL.here).1
        cases gk with
        | zero =>
          obtain ⟨rfl, -⟩ := hroot (by simp)
          replace hR : R = none := hR
          subst hR
          simp only [ptrV] at n0
          clear hL hroot hstep hsub HR
          go_wp2
          go_ret
          exact ⟨rfl, rfl⟩
        | succ m =>
          obtain ⟨n, nq, nk, a, r, hn1, -, -, rfl, -, -⟩ := hstep (js.take m) (rd js (m : Int)) (take_rd js m (by omega))
          simp only [show ptrV (some n) = .pointer (some ⟨n, 0, none⟩) from rfl] at n0
          have hc := HSA.out _ n nq nk hn1
          obtain ⟨s1, hs1⟩ : ∃ s1, s1 = sibK fwd e b p k (js.take m) := ⟨_, rfl⟩
          rw [← hs1] at hc
          rw [upK, ← hs1] at hR
          have HC := Lib.hid hc
          have HN1 := Lib.hid hn1
          clear hL hroot hstep hsub HR hc hn1 hs1
          cases s1 with
          | some t =>
            replace hR : R = some t.1 := hR
            subst hR
            go_wp2_with (first | (go_at_call 152; refine (up_any _ _).mono ?_; rintro en w3 ⟨rfl, rfl⟩) | (refine HC.out.mono ?_; rintro en w2 ⟨rfl, rfl⟩; simp only [Option.map_some, ptrV]))
            go_ret
            exact ⟨rfl, rfl⟩
          | none =>
            replace hR : R = (upK fwd e b p k js m).map Prod.fst := hR
            have HR := Lib.hid hR
            clear hR
            go_wp2_with (first | (go_at_call 152; refine (up_any _ _).mono ?_; rintro en w3 ⟨rfl, rfl⟩) | (refine HC.out.mono ?_; rintro en w2 ⟨rfl, rfl⟩; simp only [Option.map_none, ptrV]))
            go_roundg m
            case measure => omega
            case rel => exact ⟨m, n, nq, nk, by omega, rfl, rfl, HN1.out, HR.out, rfl⟩

def initW (w : World) (F1 S G : Nat) : World := ((w.alloc (.cells #[.func (.func F1) #[] #[]] 121 (0, 0))).alloc (.cells #[.func (.func S) #[] #[]] 121 (0, 0))).alloc (.cells #[.func (.func G) #[] #[]] 95 (0, 0))
theorem init_any (w : World) (F1 S G : Nat) : Calls Try.prog 151 #[.func (.func F1) #[] #[], .func (.func S) #[] #[], .func (.func G) #[] #[]] w fun e w' => e = .returned (.func (.func 170) #[] #[.pointer (some ⟨w.heap.size, 0, none⟩), .pointer (some ⟨w.heap.size + 1, 0, none⟩), .pointer (some ⟨w.heap.size + 1 + 1, 0, none⟩)]) ∧ w' = initW w F1 S G := by
  have hmf : ∀ (fn : Fn) (first cap : Array Value) (w : World), (Instr.makeFunc fn first cap).run Try.prog w = .ok (.func fn first cap) w := fun _ _ _ _ => rfl
  go_enter Try.func151, Try.ntmps151
  go_wp2
  go_ret
  exact ⟨rfl, rfl⟩
theorem init_facts (w : World) (F1 S G : Nat) : (initW w F1 S G).cell? ⟨w.heap.size, 0, none⟩ = some (.func (.func F1) #[] #[]) ∧ (initW w F1 S G).cell? ⟨w.heap.size + 1, 0, none⟩ = some (.func (.func S) #[] #[]) ∧ (initW w F1 S G).cell? ⟨w.heap.size + 1 + 1, 0, none⟩ = some (.func (.func G) #[] #[]) ∧ Below w.heap.size w (initW w F1 S G) := by
  have h0 : (initW w F1 S G).heap[w.heap.size]? = some (.cells #[.func (.func F1) #[] #[]] 121 (0, 0)) := by
    unfold initW
    rw [Below.heap_alloc _ _ _ (by simp only [World.size_alloc]; omega), Below.heap_alloc _ _ _ (by simp only [World.size_alloc]; omega)]
    exact heap_alloc_new _ _
  have h1 : (initW w F1 S G).heap[w.heap.size + 1]? = some (.cells #[.func (.func S) #[] #[]] 121 (0, 0)) := by
    unfold initW
    rw [Below.heap_alloc _ _ _ (by simp only [World.size_alloc]; omega), ← World.size_alloc w]
    exact heap_alloc_new _ _
  have h2 : (initW w F1 S G).heap[w.heap.size + 1 + 1]? = some (.cells #[.func (.func G) #[] #[]] 95 (0, 0)) := by
    unfold initW
    rw [← World.size_alloc w, ← World.size_alloc (w.alloc _)]
    exact heap_alloc_new _ _
  exact ⟨(out_cell h0 0).1, (out_cell h1 0).1, (out_cell h2 0).1, below_alloc (below_alloc (below_alloc (Below.refl _ _) _) _) _⟩
section
variable {w : World} {H : NMap} {b : Nat} {p : Pay} {k : F Pay} (hw : Holds w H) (hs : Sits H none none none (.node b p k .nil)) (hn : Neat (.node b p k .nil)) {js : List Int} {c : Nat} {q : Pay} {ck : F Pay} (hsub : subF b p k js = some (c, q, ck))
include hw hs hn hsub
set_option maxRecDepth 100000 in
set_option maxHeartbeats 1600000 in
theorem GetNextNeighborNode_any : Calls Try.prog 109 #[.pointer (some ⟨c, 0, none⟩)] w fun en w' => en = .returned (ptrV ((nearK (some false) true false b p k js ck).map Prod.fst)) ∧ Below w.heap.size w w' := by
  obtain ⟨i1, i2, i3, i4⟩ := init_facts w 117 121 152
  have hcl := closure_any firstNode_C nextNode_C (fun v W => enters Try.func117 (by rfl) (by rfl) _ _) (fun v W => enters Try.func121 (by rfl) (by rfl) _ _) (hw.below i4) hs hn hsub w.heap.size (w.heap.size + 1) (w.heap.size + 1 + 1) i1 i2 i3
  have hent : ∀ W, (callFunc 170 #[.pointer (some ⟨c, 0, none⟩), .pointer (some ⟨w.heap.size, 0, none⟩), .pointer (some ⟨w.heap.size + 1, 0, none⟩), .pointer (some ⟨w.heap.size + 1 + 1, 0, none⟩)]).run Try.prog W = .ok (.enter 170 #[.pointer (some ⟨c, 0, none⟩), .pointer (some ⟨w.heap.size, 0, none⟩), .pointer (some ⟨w.heap.size + 1, 0, none⟩), .pointer (some ⟨w.heap.size + 1 + 1, 0, none⟩)]) W :=
    fun W => enters Try.func170 (by rfl) (by rfl) _ _
  obtain ⟨R, hR⟩ : ∃ R, R = (nearK (some false) true false b p k js ck).map Prod.fst := ⟨_, rfl⟩
  rw [← hR] at hcl ⊢
  obtain ⟨u, hu⟩ := ptrV_form R
  rw [hu] at hcl ⊢
  have HCL := Lib.hid hcl
  have I4 := Lib.hid i4
  clear hw hs hn hsub i1 i2 i3 i4 hcl hR hu
  go_enter Try.func109, Try.ntmps109
  go_wp2_with (first
    | (go_at_call 151; refine (init_any _ _ _ _).mono ?_; rintro en w1 ⟨rfl, rfl⟩)
    | (refine HCL.out.mono ?_; rintro en w1 ⟨rfl, rfl⟩))
  go_ret
  exact ⟨rfl, I4.out⟩
set_option maxRecDepth 100000 in
set_option maxHeartbeats 1600000 in
theorem GetNextNeighborElement_any : Calls Try.prog 110 #[.pointer (some ⟨c, 0, none⟩)] w fun en w' => en = .returned (ptrV ((nearK (some true) true true b p k js ck).map Prod.fst)) ∧ Below w.heap.size w w' := by
  obtain ⟨i1, i2, i3, i4⟩ := init_facts w 118 122 152
  have hcl := closure_any firstElement_C nextElement_C (fun v W => enters Try.func118 (by rfl) (by rfl) _ _) (fun v W => enters Try.func122 (by rfl) (by rfl) _ _) (hw.below i4) hs hn hsub w.heap.size (w.heap.size + 1) (w.heap.size + 1 + 1) i1 i2 i3
  have hent : ∀ W, (callFunc 170 #[.pointer (some ⟨c, 0, none⟩), .pointer (some ⟨w.heap.size, 0, none⟩), .pointer (some ⟨w.heap.size + 1, 0, none⟩), .pointer (some ⟨w.heap.size + 1 + 1, 0, none⟩)]).run Try.prog W = .ok (.enter 170 #[.pointer (some ⟨c, 0, none⟩), .pointer (some ⟨w.heap.size, 0, none⟩), .pointer (some ⟨w.heap.size + 1, 0, none⟩), .pointer (some ⟨w.heap.size + 1 + 1, 0, none⟩)]) W :=
    fun W => enters Try.func170 (by rfl) (by rfl) _ _
  obtain ⟨R, hR⟩ : ∃ R, R = (nearK (some true) true true b p k js ck).map Prod.fst := ⟨_, rfl⟩
  rw [← hR] at hcl ⊢
  obtain ⟨u, hu⟩ := ptrV_form R
  rw [hu] at hcl ⊢
  have HCL := Lib.hid hcl
  have I4 := Lib.hid i4
  clear hw hs hn hsub i1 i2 i3 i4 hcl hR hu
  go_enter Try.func110, Try.ntmps110
  go_wp2_with (first
    | (go_at_call 151; refine (init_any _ _ _ _).mono ?_; rintro en w1 ⟨rfl, rfl⟩)
    | (refine HCL.out.mono ?_; rintro en w1 ⟨rfl, rfl⟩))
  go_ret
  exact ⟨rfl, I4.out⟩
set_option maxRecDepth 100000 in
set_option maxHeartbeats 1600000 in
theorem GetNextNeighborNodeExcludingOwnChild_any : Calls Try.prog 111 #[.pointer (some ⟨c, 0, none⟩)] w fun en w' => en = .returned (ptrV ((nearK (none) true false b p k js ck).map Prod.fst)) ∧ Below w.heap.size w w' := by
  obtain ⟨i1, i2, i3, i4⟩ := init_facts w 153 121 152
  have hcl := closure_any skip_C nextNode_C (fun v W => enters Try.func153 (by rfl) (by rfl) _ _) (fun v W => enters Try.func121 (by rfl) (by rfl) _ _) (hw.below i4) hs hn hsub w.heap.size (w.heap.size + 1) (w.heap.size + 1 + 1) i1 i2 i3
  have hent : ∀ W, (callFunc 170 #[.pointer (some ⟨c, 0, none⟩), .pointer (some ⟨w.heap.size, 0, none⟩), .pointer (some ⟨w.heap.size + 1, 0, none⟩), .pointer (some ⟨w.heap.size + 1 + 1, 0, none⟩)]).run Try.prog W = .ok (.enter 170 #[.pointer (some ⟨c, 0, none⟩), .pointer (some ⟨w.heap.size, 0, none⟩), .pointer (some ⟨w.heap.size + 1, 0, none⟩), .pointer (some ⟨w.heap.size + 1 + 1, 0, none⟩)]) W :=
    fun W => enters Try.func170 (by rfl) (by rfl) _ _
  obtain ⟨R, hR⟩ : ∃ R, R = (nearK (none) true false b p k js ck).map Prod.fst := ⟨_, rfl⟩
  rw [← hR] at hcl ⊢
  obtain ⟨u, hu⟩ := ptrV_form R
  rw [hu] at hcl ⊢
  have HCL := Lib.hid hcl
  have I4 := Lib.hid i4
  clear hw hs hn hsub i1 i2 i3 i4 hcl hR hu
  go_enter Try.func111, Try.ntmps111
  go_wp2_with (first
    | (go_at_call 151; refine (init_any _ _ _ _).mono ?_; rintro en w1 ⟨rfl, rfl⟩)
    | (refine HCL.out.mono ?_; rintro en w1 ⟨rfl, rfl⟩))
  go_ret
  exact ⟨rfl, I4.out⟩
set_option maxRecDepth 100000 in
set_option maxHeartbeats 1600000 in
theorem GetPrevNeighborNode_any : Calls Try.prog 113 #[.pointer (some ⟨c, 0, none⟩)] w fun en w' => en = .returned (ptrV ((nearK (some false) false false b p k js ck).map Prod.fst)) ∧ Below w.heap.size w w' := by
  obtain ⟨i1, i2, i3, i4⟩ := init_facts w 117 119 152
  have hcl := closure_any firstNode_C prevNode_C (fun v W => enters Try.func117 (by rfl) (by rfl) _ _) (fun v W => enters Try.func119 (by rfl) (by rfl) _ _) (hw.below i4) hs hn hsub w.heap.size (w.heap.size + 1) (w.heap.size + 1 + 1) i1 i2 i3
  have hent : ∀ W, (callFunc 170 #[.pointer (some ⟨c, 0, none⟩), .pointer (some ⟨w.heap.size, 0, none⟩), .pointer (some ⟨w.heap.size + 1, 0, none⟩), .pointer (some ⟨w.heap.size + 1 + 1, 0, none⟩)]).run Try.prog W = .ok (.enter 170 #[.pointer (some ⟨c, 0, none⟩), .pointer (some ⟨w.heap.size, 0, none⟩), .pointer (some ⟨w.heap.size + 1, 0, none⟩), .pointer (some ⟨w.heap.size + 1 + 1, 0, none⟩)]) W :=
    fun W => enters Try.func170 (by rfl) (by rfl) _ _
  obtain ⟨R, hR⟩ : ∃ R, R = (nearK (some false) false false b p k js ck).map Prod.fst := ⟨_, rfl⟩
  rw [← hR] at hcl ⊢
  obtain ⟨u, hu⟩ := ptrV_form R
  rw [hu] at hcl ⊢
  have HCL := Lib.hid hcl
  have I4 := Lib.hid i4
  clear hw hs hn hsub i1 i2 i3 i4 hcl hR hu
  go_enter Try.func113, Try.ntmps113
  go_wp2_with (first
    | (go_at_call 151; refine (init_any _ _ _ _).mono ?_; rintro en w1 ⟨rfl, rfl⟩)
    | (refine HCL.out.mono ?_; rintro en w1 ⟨rfl, rfl⟩))
  go_ret
  exact ⟨rfl, I4.out⟩
set_option maxRecDepth 100000 in
set_option maxHeartbeats 1600000 in
theorem GetPrevNeighborNodeExcludingOwnChild_any : Calls Try.prog 115 #[.pointer (some ⟨c, 0, none⟩)] w fun en w' => en = .returned (ptrV ((nearK (none) false false b p k js ck).map Prod.fst)) ∧ Below w.heap.size w w' := by
  obtain ⟨i1, i2, i3, i4⟩ := init_facts w 153 119 152
  have hcl := closure_any skip_C prevNode_C (fun v W => enters Try.func153 (by rfl) (by rfl) _ _) (fun v W => enters Try.func119 (by rfl) (by rfl) _ _) (hw.below i4) hs hn hsub w.heap.size (w.heap.size + 1) (w.heap.size + 1 + 1) i1 i2 i3
  have hent : ∀ W, (callFunc 170 #[.pointer (some ⟨c, 0, none⟩), .pointer (some ⟨w.heap.size, 0, none⟩), .pointer (some ⟨w.heap.size + 1, 0, none⟩), .pointer (some ⟨w.heap.size + 1 + 1, 0, none⟩)]).run Try.prog W = .ok (.enter 170 #[.pointer (some ⟨c, 0, none⟩), .pointer (some ⟨w.heap.size, 0, none⟩), .pointer (some ⟨w.heap.size + 1, 0, none⟩), .pointer (some ⟨w.heap.size + 1 + 1, 0, none⟩)]) W :=
    fun W => enters Try.func170 (by rfl) (by rfl) _ _
  obtain ⟨R, hR⟩ : ∃ R, R = (nearK (none) false false b p k js ck).map Prod.fst := ⟨_, rfl⟩
  rw [← hR] at hcl ⊢
  obtain ⟨u, hu⟩ := ptrV_form R
  rw [hu] at hcl ⊢
  have HCL := Lib.hid hcl
  have I4 := Lib.hid i4
  clear hw hs hn hsub i1 i2 i3 i4 hcl hR hu
  go_enter Try.func115, Try.ntmps115
  go_wp2_with (first
    | (go_at_call 151; refine (init_any _ _ _ _).mono ?_; rintro en w1 ⟨rfl, rfl⟩)
    | (refine HCL.out.mono ?_; rintro en w1 ⟨rfl, rfl⟩))
  go_ret
  exact ⟨rfl, I4.out⟩
end
section
variable {H : NMap} {b : Nat} {p : Pay} {k : F Pay} (hs : Sits H none none none (.node b p k .nil)) (hn : Neat (.node b p k .nil)) {x : Nd} (hx : nodeOf p (erase k) = x)
include hs hn hx
theorem sub_child {js : List Int} {n : Nat} {nq : Pay} {nk : F Pay} (h : subF b p k js = some (n, nq, nk)) {j : Nat} {d : Nat} {dq : Pay} {dk r : F Pay} (hd : nk.dropF j = .node d dq dk r) : subF b p k (js ++ [(j : Int)]) = some (d, dq, dk) := by
  rw [subF_snoc, h, Option.bind_some, subF, if_neg (by omega), Int.toNat_natCast, hd]
  rfl
theorem drop_drop : ∀ (f : F Pay) (i j : Nat), (f.dropF i).dropF j = f.dropF (i + j)
  | .nil, i, j => by rw [F.dropF_nil, F.dropF_nil, F.dropF_nil]
  | .node b p k r, 0, j => by rw [Nat.zero_add]; rfl
  | .node b p k r, i + 1, j => by
    rw [show i + 1 + j = (i + j) + 1 by omega]
    exact drop_drop r i j
theorem take_drop_at : ∀ (f : F Pay) (i j d : Nat) (q : Pay) (ck r : F Pay), (f.takeF i).dropF j = .node d q ck r → ∃ r', f.dropF j = .node d q ck r'
  | .nil, i, j, d, q, ck, r, h => by
    have h2 : (F.nil : F Pay).takeF i = .nil := by cases i <;> rfl
    rw [h2, F.dropF_nil] at h
    cases h
  | .node b p k r0, 0, j, d, q, ck, r, h => by
    have h2 : (F.node b p k r0).takeF 0 = .nil := rfl
    rw [h2, F.dropF_nil] at h
    cases h
  | .node b p k r0, i + 1, 0, d, q, ck, r, h => by
    have h2 : F.node b p k (r0.takeF i) = .node d q ck r := h
    injection h2 with e1 e2 e3 e4
    subst e1 e2 e3
    exact ⟨r0, rfl⟩
  | .node b p k r0, i + 1, j + 1, d, q, ck, r, h => take_drop_at r0 i j d q ck r h
theorem sib_sub (fwd e : Bool) (js : List Int) {t : Nat × List Int} (h : sibK fwd e b p k js = some t) : ∃ q ck, subF b p k t.2 = some (t.1, q, ck) := by
  unfold sibK at h
  cases hg : js.getLast? with
  | none => rw [hg] at h; cases h
  | some i =>
    cases hsub : subF b p k js.dropLast with
    | none => rw [hg, hsub] at h; cases h
    | some u =>
      obtain ⟨n, nq, nk⟩ := u
      rw [hg, hsub] at h
      simp only at h
      obtain ⟨v, hv, rfl⟩ := Option.map_eq_some_iff.1 h
      cases fwd with
      | true =>
        simp only [if_true] at hv
        obtain ⟨q', ck', r', hle, hd⟩ := rowK_at e _ _ v (List.mem_of_head? hv)
        rw [drop_drop hs hn hx, show i.toNat + 1 + (v.2 - (i.toNat + 1)) = v.2 by omega] at hd
        exact ⟨q', ck', sub_child hs hn hx hsub hd⟩
      | false =>
        simp only [Bool.false_eq_true, if_false] at hv
        obtain ⟨q', ck', r', hle, hd⟩ := rowK_at e _ _ v (List.mem_of_getLast? hv)
        rw [Nat.sub_zero] at hd
        obtain ⟨r2, hd2⟩ := take_drop_at hs hn hx _ _ _ _ _ _ _ hd
        exact ⟨q', ck', sub_child hs hn hx hsub hd2⟩
theorem up_sub (fwd e : Bool) (js : List Int) : ∀ m {t : Nat × List Int}, upK fwd e b p k js m = some t → ∃ q ck, subF b p k t.2 = some (t.1, q, ck)
  | 0, t, h => by cases h
  | m + 1, t, h => by
    rw [upK] at h
    cases h1 : sibK fwd e b p k (js.take m) with
    | some s =>
      rw [h1] at h
      obtain rfl := Option.some.inj h
      exact sib_sub hs hn hx fwd e _ h1
    | none =>
      rw [h1] at h
      exact up_sub fwd e js m h
theorem near_sub (ch : Option Bool) (fwd e : Bool) {js : List Int} {c : Nat} {q : Pay} {ck : F Pay} (hsub : subF b p k js = some (c, q, ck)) {t : Nat × List Int} (h : nearK ch fwd e b p k js ck = some t) : ∃ q ck, subF b p k t.2 = some (t.1, q, ck) := by
  rw [nearK] at h
  cases h0 : firstK ch js ck with
  | some s =>
    rw [h0] at h
    obtain rfl := Option.some.inj h
    cases ch with
    | none => cases h0
    | some e =>
      obtain ⟨v, hv, rfl⟩ := Option.map_eq_some_iff.1 h0
      obtain ⟨q', ck', r', hle, hd⟩ := rowK_at e _ _ v (List.mem_of_head? hv)
      exact ⟨q', ck', sub_child hs hn hx hsub hd⟩
  | none =>
    rw [h0] at h
    cases h1 : sibK fwd e b p k js with
    | some s =>
      rw [h1] at h
      obtain rfl := Option.some.inj h
      exact sib_sub hs hn hx fwd e _ h1
    | none =>
      rw [h1] at h
      exact up_sub hs hn hx fwd e js _ h
end
end Go.Proofs.Ytlallihdiffheaa.Dom
end
section
/- The way from one node to its neighbor ends. Plain, no program in sight. -/
namespace Go.Proofs.Ytlallihdiffheaa.Dom
open Go.RowKit Go.Proofs.YtlallihdiffheaaW.PrintWords Go.Proofs.YtlallihdiffheaaW.PrintLast Go.Proofs.YtlallihdiffheaaW.PrintMore Go.Proofs.Ytlallihdiffheaa.GT Go.Proofs.Ytlallihdiffheaa.Hand
set_option linter.unusedVariables false
set_option linter.unusedSimpArgs false
set_option linter.unusedSectionVars false

/-- What comes behind a node, its children aside. -/
def followK (fwd e : Bool) (b : Nat) (p : Pay) (k : F Pay) (js : List Int) : Option (Nat × List Int) := (sibK fwd e b p k js).or (upK fwd e b p k js js.length)
def nearO (ch : Option Bool) (fwd e : Bool) (b : Nat) (p : Pay) (k : F Pay) (js : List Int) : Option (Nat × List Int) := match subF b p k js with
  | none => none
  | some (c, q, ck) => nearK ch fwd e b p k js ck
/-- From a path on, the way ends within so many steps. -/
inductive Ends (e fwd : Bool) (b : Nat) (p : Pay) (k : F Pay) : List Int → Nat → Prop
  | stop (js : List Int) (n : Nat) (h : nearO (some e) fwd e b p k js = none) : Ends e fwd b p k js n
  | go (js : List Int) (n : Nat) (t : Nat × List Int) (h : nearO (some e) fwd e b p k js = some t) (hn : Ends e fwd b p k t.2 n) : Ends e fwd b p k js (n + 1)
def EndsO (e fwd : Bool) (b : Nat) (p : Pay) (k : F Pay) (o : Option (Nat × List Int)) (n : Nat) : Prop := ∀ t, o = some t → Ends e fwd b p k t.2 n
theorem Ends.mono {e fwd : Bool} {b : Nat} {p : Pay} {k : F Pay} {js : List Int} {n : Nat} (h : Ends e fwd b p k js n) : ∀ {m : Nat}, n ≤ m → Ends e fwd b p k js m := by
  induction h with
  | stop js n h => exact fun _ => .stop _ _ h
  | go js n t h hn ih =>
    intro m hm
    obtain ⟨m, rfl⟩ : ∃ q, m = q + 1 := ⟨m - 1, by omega⟩
    exact .go _ _ t h (ih (by omega))
theorem Ends.of {e fwd : Bool} {b : Nat} {p : Pay} {k : F Pay} {js : List Int} {n : Nat} (h : EndsO e fwd b p k (nearO (some e) fwd e b p k js) n) : Ends e fwd b p k js (n + 1) := by
  cases hn : nearO (some e) fwd e b p k js with
  | none => exact .stop _ _ hn
  | some t => exact .go _ _ t hn (h t hn)
theorem nearO_at {fwd e : Bool} {b : Nat} {p : Pay} {k : F Pay} {js : List Int} {c : Nat} {q : Pay} {ck : F Pay} (h : subF b p k js = some (c, q, ck)) : nearO (some e) fwd e b p k js = (((rowK e ck 0).head?).map (fun t => (t.1, js ++ [(t.2 : Int)]))).or (followK fwd e b p k js) := by
  unfold nearO
  rw [h]
  rfl
theorem upK_snoc (fwd e : Bool) (b : Nat) (p : Pay) (k : F Pay) (js : List Int) (i : Int) : ∀ m, m ≤ js.length → upK fwd e b p k (js ++ [i]) m = upK fwd e b p k js m
  | 0, _ => rfl
  | m + 1, h => by
    rw [upK, upK, upK_snoc fwd e b p k js i m (by omega), List.take_append_of_le_length (by omega)]
theorem follow_snoc {fwd e : Bool} {b : Nat} {p : Pay} {k : F Pay} {js : List Int} {n : Nat} {nq : Pay} {nk : F Pay} (h : subF b p k js = some (n, nq, nk)) (i : Nat) :
    followK fwd e b p k (js ++ [(i : Int)]) = ((if fwd = true then (rowK e (nk.dropF (i + 1)) (i + 1)).head? else (rowK e (nk.takeF i) 0).getLast?).map (fun t => (t.1, js ++ [(t.2 : Int)]))).or (followK fwd e b p k js) := by
  have h1 : sibK fwd e b p k (js ++ [(i : Int)]) = (if fwd = true then (rowK e (nk.dropF (i + 1)) (i + 1)).head? else (rowK e (nk.takeF i) 0).getLast?).map (fun t => (t.1, js ++ [(t.2 : Int)])) := by
    simp only [sibK, List.getLast?_append, List.getLast?_singleton, Option.some_or, List.dropLast_concat, h, Int.toNat_natCast]
  unfold followK
  rw [h1, List.length_append, List.length_singleton, upK, List.take_left' rfl, upK_snoc fwd e b p k js _ js.length (Nat.le_refl _)]
theorem sub_step {b : Nat} {p : Pay} {k : F Pay} {js : List Int} {n : Nat} {nq : Pay} {nk : F Pay} (h : subF b p k js = some (n, nq, nk)) {a r ck : F Pay} {c : Nat} {q : Pay} (hk : nk = a.app (.node c q ck r)) : subF b p k (js ++ [(a.len : Int)]) = some (c, q, ck) := by
  rw [subF_snoc, h, Option.bind_some, subF, if_neg (by omega), Int.toNat_natCast, hk, F.dropF_app]
  rfl
theorem EndsO.mono {e fwd : Bool} {b : Nat} {p : Pay} {k : F Pay} {o : Option (Nat × List Int)} {n m : Nat} (h : EndsO e fwd b p k o n) (hm : n ≤ m) : EndsO e fwd b p k o m := fun t ht => (h t ht).mono hm
theorem EndsO.none (e fwd : Bool) (b : Nat) (p : Pay) (k : F Pay) (n : Nat) : EndsO e fwd b p k none n := fun t h => by cases h
/-- Onwards: what comes of a forest's rest, and behind it. -/
theorem ends_fwd (e : Bool) (b : Nat) (p : Pay) (k : F Pay) : ∀ (g : F Pay) (js : List Int) (m : Nat) (nq : Pay) (nk a : F Pay) (n : Nat), subF b p k js = some (m, nq, nk) → nk = a.app g → EndsO e true b p k (followK true e b p k js) n →
    EndsO e true b p k ((((rowK e g a.len).head?).map (fun t => (t.1, js ++ [(t.2 : Int)]))).or (followK true e b p k js)) (n + g.blocks.length)
  | .nil, js, m, nq, nk, a, n, hs, hk, hf => hf
  | .node c q ck r, js, m, nq, nk, a, n, hs, hk, hf => by
    have hk2 : nk = (a.app (.node c q ck .nil)).app r := by rw [hk, F.app_assoc]; rfl
    have hal : (a.app (F.node c q ck .nil)).len = a.len + 1 := by rw [F.len_app]; rfl
    have hr := ends_fwd e b p k r js m nq nk (a.app (.node c q ck .nil)) n hs hk2 hf
    rw [hal] at hr
    have hbl : (F.node c q ck r).blocks.length = ck.blocks.length + r.blocks.length + 1 := by simp [F.blocks]
    simp only [rowK]
    split
    · -- it counts
      have hsub := sub_step hs hk
      have hfo : followK true e b p k (js ++ [(a.len : Int)]) = (((rowK e r (a.len + 1)).head?).map (fun t => (t.1, js ++ [(t.2 : Int)]))).or (followK true e b p k js) := by
        rw [follow_snoc hs a.len, if_pos rfl]
        have : nk.dropF (a.len + 1) = r := by
          rw [← hal, hk2]
          exact F.dropF_app _ _
        rw [this]
      rw [← hfo] at hr
      have hc := ends_fwd e b p k ck (js ++ [(a.len : Int)]) c q ck .nil (n + r.blocks.length) hsub rfl hr
      rw [show (F.nil : F Pay).len = 0 from rfl, ← nearO_at hsub] at hc
      intro t ht
      have ht : t = (c, js ++ [(a.len : Int)]) := by
        have h2 : some (c, js ++ [(a.len : Int)]) = some t := by simpa using ht
        exact (Option.some.inj h2).symm
      subst ht
      exact (Ends.of hc).mono (by omega)
    · exact hr.mono (by omega)
/-- Down the first children. -/
theorem ends_down (b : Nat) (p : Pay) (k : F Pay) : ∀ (ck : F Pay) (js : List Int) (m : Nat) (nq : Pay) (n : Nat), subF b p k js = some (m, nq, ck) → EndsO false false b p k (followK false false b p k js) n →
    EndsO false false b p k ((((rowK false ck 0).head?).map (fun t => (t.1, js ++ [(t.2 : Int)]))).or (followK false false b p k js)) (n + ck.blocks.length)
  | .nil, js, m, nq, n, hs, hf => hf
  | .node c q ck r, js, m, nq, n, hs, hf => by
    have hbl : (F.node c q ck r).blocks.length = ck.blocks.length + r.blocks.length + 1 := by simp [F.blocks]
    have hsub := sub_step hs (a := .nil) (r := r) (ck := ck) (c := c) (q := q) rfl
    have hfo : followK false false b p k (js ++ [((F.nil : F Pay).len : Int)]) = followK false false b p k js := by
      rw [follow_snoc hs, if_neg (by decide)]
      have : (F.node c q ck r).takeF (F.nil : F Pay).len = .nil := rfl
      rw [this]
      rfl
    have hc := ends_down b p k ck _ c q n hsub (by rw [hfo]; exact hf)
    rw [← nearO_at hsub] at hc
    intro t ht
    have ht : t = (c, js ++ [((F.nil : F Pay).len : Int)]) := by
      have h2 : some (c, js ++ [(0 : Int)]) = some t := by simpa [rowK] using ht
      exact (Option.some.inj h2).symm
    subst ht
    exact (Ends.of hc).mono (by omega)
/-- Backwards: what comes of a forest's beginning, and ahead of it. -/
theorem ends_bwd (b : Nat) (p : Pay) (k : F Pay) (js : List Int) (m : Nat) (nq : Pay) (nk : F Pay) (n : Nat) (hs : subF b p k js = some (m, nq, nk)) (hf : EndsO false false b p k (followK false false b p k js) n) : ∀ (d : Nat) (a g : F Pay), a.len = d → nk = a.app g →
    EndsO false false b p k ((((rowK false a 0).getLast?).map (fun t => (t.1, js ++ [(t.2 : Int)]))).or (followK false false b p k js)) (n + a.blocks.length) := by
  intro d
  induction d with
  | zero =>
    intro a g ha hk
    cases a with
    | nil => exact hf
    | node c q ck r => simp [F.len] at ha
  | succ d ih =>
    intro a g ha hk
    rcases snoc_cases a with rfl | ⟨a', c, q, ck, rfl⟩
    · simp [F.len] at ha
    · have hal : a'.len = d := by rw [F.len_app] at ha; simp only [F.len] at ha; omega
      have hk2 : nk = a'.app (.node c q ck g) := by rw [hk, F.app_assoc]; rfl
      have h1 := ih a' (.node c q ck g) hal hk2
      have hsub := sub_step hs hk2
      have hfo : followK false false b p k (js ++ [(a'.len : Int)]) = (((rowK false a' 0).getLast?).map (fun t => (t.1, js ++ [(t.2 : Int)]))).or (followK false false b p k js) := by
        rw [follow_snoc hs a'.len, if_neg (by decide)]
        have : nk.takeF a'.len = a' := by rw [hk2]; exact takeF_app _ _
        rw [this]
      rw [← hfo] at h1
      have hc := ends_down b p k ck _ c q _ hsub h1
      rw [← nearO_at hsub] at hc
      have hbl : (a'.app (F.node c q ck .nil)).blocks.length = a'.blocks.length + ck.blocks.length + 1 := by rw [F.blocks_app]; simp [F.blocks]; omega
      intro t ht
      have ht : t = (c, js ++ [(a'.len : Int)]) := by
        rw [rowK_app] at ht
        have h2 : some (c, js ++ [(a'.len : Int)]) = some t := by simpa [rowK] using ht
        exact (Option.some.inj h2).symm
      subst ht
      exact (Ends.of hc).mono (by omega)
theorem follow_nil (fwd e : Bool) (b : Nat) (p : Pay) (k : F Pay) : followK fwd e b p k [] = none := rfl
/-- From the root on, onwards. -/
theorem ends_root (e : Bool) (b : Nat) (p : Pay) (k : F Pay) : Ends e true b p k [] (k.blocks.length + 1) := by
  have h := ends_fwd e b p k k [] b p k .nil 0 rfl rfl (by rw [follow_nil]; exact EndsO.none _ _ _ _ _ _)
  rw [show (F.nil : F Pay).len = 0 from rfl, ← nearO_at rfl] at h
  exact (Ends.of h).mono (by omega)
/-- Behind any node, the way ends. -/
theorem ends_follow (fwd : Bool) (b : Nat) (p : Pay) (k : F Pay) : ∀ (m : Nat) (js : List Int) (c : Nat) (q : Pay) (ck : F Pay), js.length = m → subF b p k js = some (c, q, ck) → ∃ n, EndsO false fwd b p k (followK fwd false b p k js) n := by
  intro m
  induction m with
  | zero =>
    intro js c q ck hl hs
    obtain rfl := List.eq_nil_of_length_eq_zero hl
    exact ⟨0, by rw [follow_nil]; exact EndsO.none _ _ _ _ _ _⟩
  | succ m ih =>
    intro js c q ck hl hs
    obtain ⟨js', i, rfl⟩ : ∃ js' i, js = js' ++ [i] := ⟨js.dropLast, js.getLast (by intro h; rw [h] at hl; cases hl), (List.dropLast_concat_getLast _).symm⟩
    have hl' : js'.length = m := by rw [List.length_append, List.length_singleton] at hl; omega
    rw [subF_snoc] at hs
    obtain ⟨⟨n, nq, nk⟩, h1, h2⟩ := Option.bind_eq_some_iff.1 hs
    obtain ⟨N, hN⟩ := ih js' n nq nk hl' h1
    simp only [subF] at h2
    split at h2
    · cases h2
    · rename_i hi
      obtain ⟨j, rfl⟩ := Int.eq_ofNat_of_zero_le (show 0 ≤ i by omega)
      rw [Int.toNat_natCast] at h2
      rw [follow_snoc h1 j]
      cases fwd with
      | true =>
        rw [if_pos rfl]
        cases hd : nk.dropF j with
        | nil => rw [hd] at h2; cases h2
        | node c' q' ck' r =>
          obtain ⟨a, ha, hal⟩ := F.dropF_split _ _ _ _ _ _ hd
          have hr := F.dropF_succ _ _ _ _ _ _ hd
          refine ⟨N + r.blocks.length, ?_⟩
          have h := ends_fwd false b p k r js' n nq nk (a.app (.node c' q' ck' .nil)) N h1 (by rw [F.app_assoc]; exact ha) hN
          rw [F.len_app, hal] at h
          rw [hr]
          exact h
      | false =>
        rw [if_neg (by decide)]
        refine ⟨N + (nk.takeF j).blocks.length, ?_⟩
        exact ends_bwd b p k js' n nq nk N h1 hN _ (nk.takeF j) (nk.dropF j) rfl (F.take_drop nk j).symm
/-- From the first child of any node, onwards; from the last one, backwards. -/
theorem ends_first {b : Nat} {p : Pay} {k : F Pay} {js : List Int} {c : Nat} {q : Pay} {ck : F Pay} (hs : subF b p k js = some (c, q, ck)) : ∃ n, EndsO false true b p k (((rowK false ck 0).head?).map (fun t => (t.1, js ++ [(t.2 : Int)]))) n := by
  obtain ⟨N, hN⟩ := ends_follow true b p k _ js c q ck rfl hs
  refine ⟨_, fun t ht => ends_fwd false b p k ck js c q ck .nil N hs rfl hN t ?_⟩
  rw [show (F.nil : F Pay).len = 0 from rfl, ht]
  rfl
theorem ends_last {b : Nat} {p : Pay} {k : F Pay} {js : List Int} {c : Nat} {q : Pay} {ck : F Pay} (hs : subF b p k js = some (c, q, ck)) : ∃ n, EndsO false false b p k (((rowK false ck 0).getLast?).map (fun t => (t.1, js ++ [(t.2 : Int)]))) n := by
  obtain ⟨N, hN⟩ := ends_follow false b p k _ js c q ck rfl hs
  refine ⟨_, fun t ht => ends_bwd b p k js c q ck N hs hN _ ck .nil rfl (F.app_nil _).symm t ?_⟩
  rw [ht]
  rfl
end Go.Proofs.Ytlallihdiffheaa.Dom
end
