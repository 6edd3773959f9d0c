/- dom's neighbors by hand: the closure that looks for them. -/
import Derived.Test.YtlallihdiffheaaSibs
namespace Go.Proofs.Ytlallihdiffheaa.Dom
open Go.RowKit Go.Proofs.YtlallihdiffheaaW.PrintWords Go.Proofs.YtlallihdiffheaaW.PrintLast Go.Proofs.YtlallihdiffheaaW.PrintMore Go.Proofs.Ytlallihdiffheaa.GT Go.Proofs.Ytlallihdiffheaa.Hand
set_option linter.unusedVariables false
set_option linter.unusedSimpArgs false

theorem takeF_app {P : Type} : ∀ (a g : F P), (a.app g).takeF a.len = a
  | .nil, g => by cases g <;> rfl
  | .node b p k r, g => by
    simp only [F.app, F.len, F.takeF]
    rw [takeF_app r g]
/-- The next (or the last) sibling that counts: its block, its path. -/
def sibK (fwd e : Bool) (b : Nat) (p : Pay) (k : F Pay) (js : List Int) : Option (Nat × List Int) := match js.getLast? with
  | none => none
  | some i => match subF b p k js.dropLast with
    | none => none
    | some (n, nq, nk) => (if fwd = true then (rowK e (nk.dropF (i.toNat + 1)) (i.toNat + 1)).head? else (rowK e (nk.takeF i.toNat) 0).getLast?).map (fun t => (t.1, js.dropLast ++ [(t.2 : Int)]))
/-- The first child that counts. -/
def firstK (ch : Option Bool) (js : List Int) (ck : F Pay) : Option (Nat × List Int) := match ch with
  | none => none
  | some e => ((rowK e ck 0).head?).map (fun t => (t.1, js ++ [(t.2 : Int)]))
/-- A sibling of one of those above. -/
def upK (fwd e : Bool) (b : Nat) (p : Pay) (k : F Pay) (js : List Int) : Nat → Option (Nat × List Int)
  | 0 => none
  | m + 1 => (sibK fwd e b p k (js.take m)).or (upK fwd e b p k js m)
def nearK (ch : Option Bool) (fwd e : Bool) (b : Nat) (p : Pay) (k : F Pay) (js : List Int) (ck : F Pay) : Option (Nat × List Int) :=
  (firstK ch js ck).or ((sibK fwd e b p k js).or (upK fwd e b p k js js.length))
def SibC (S : Nat) (fwd e : Bool) : Prop := ∀ (w : World) (H : NMap) (b : Nat) (p : Pay) (k : F Pay), Holds w H → Sits H none none none (.node b p k .nil) → Neat (.node b p k .nil) → ∀ (js : List Int) (c : Nat) (q : Pay) (ck : F Pay), subF b p k js = some (c, q, ck) →
  Calls Try.prog S #[.pointer (some ⟨c, 0, none⟩)] w fun en w' => en = .returned (ptrV ((sibK fwd e b p k js).map Prod.fst)) ∧ w' = w
def FirstC (F1 : Nat) (ch : Option Bool) : Prop := ∀ (w : World) (H : NMap) (b : Nat) (p : Pay) (k : F Pay), Holds w H → Sits H none none none (.node b p k .nil) → Neat (.node b p k .nil) → ∀ (js : List Int) (c : Nat) (q : Pay) (ck : F Pay), subF b p k js = some (c, q, ck) →
  Calls Try.prog F1 #[.pointer (some ⟨c, 0, none⟩)] w fun en w' => en = .returned (ptrV ((firstK ch js ck).map Prod.fst)) ∧ w' = w
theorem up_any (w : World) (v : Value) : Calls Try.prog 152 #[v] w fun e w' => e = .returned (.bool false) ∧ w' = w := by
  go_enter Try.func152, Try.ntmps152
  go_wp2
  go_ret
  exact ⟨rfl, rfl⟩
/-- What stands beside a node, told by its path. -/
theorem sib_at {H : NMap} {b : Nat} {p : Pay} {k : F Pay} (hs : Sits H none none none (.node b p k .nil)) (hn : Neat (.node b p k .nil)) {js : List Int} {c : Nat} {q : Pay} {ck : F Pay} (hsub : subF b p k js = some (c, q, ck)) :
    ∃ (par prev next : Option Nat) (a r : F Pay) (pp : Option Nat), H c = some ⟨par, ck.headOr none, ck.lastOr none, prev, next, q⟩ ∧ Sits H (some c) none none ck ∧ prev = a.lastOr none ∧ next = r.headOr none ∧ Sits H pp none (some c) a ∧ Sits H pp (some c) none r ∧
      ∀ (fwd e : Bool), (sibK fwd e b p k js).map Prod.fst = (if fwd = true then (rowK e r (a.len + 1)).head? else (rowK e a 0).getLast?).map Prod.fst := by
  obtain ⟨par, prev, next, hL, -, hroot, hstep⟩ := lies hs hn _ js c q ck rfl hsub
  by_cases hj : js = []
  · obtain ⟨-, rfl, rfl, -, -, -⟩ := hroot hj
    refine ⟨par, none, none, .nil, .nil, none, hL.here, hL.kids, rfl, rfl, trivial, trivial, fun fwd e => ?_⟩
    subst hj
    simp only [sibK, List.getLast?_nil, rowK]
    cases fwd <;> rfl
  · obtain ⟨js', i, rfl⟩ : ∃ js' i, js = js' ++ [i] := ⟨js.dropLast, js.getLast hj, (List.dropLast_concat_getLast hj).symm⟩
    obtain ⟨n, nq, nk, a, r, hn1, hn2, hai, rfl, rfl, rfl⟩ := hstep js' i rfl
    obtain ⟨np, nv, nx, hNL, -, -, -⟩ := lies hs hn _ js' n nq nk rfl hn1
    have hkids := hNL.kids
    rw [hn2] at hkids
    obtain ⟨hsa, hd, hck, hsr⟩ := (sits_app H a _ _ _ _).1 hkids
    have e1 : i.toNat = a.len := by omega
    refine ⟨some n, a.lastOr none, r.headOr none, a, r, some n, hL.here, hL.kids, rfl, rfl, hsa, hsr, fun fwd e => ?_⟩
    have h1 : nk.takeF a.len = a := by rw [hn2]; exact takeF_app a _
    have h2 : nk.dropF (a.len + 1) = r := F.dropF_succ _ _ _ _ _ _ (by rw [hn2]; exact F.dropF_app a _)
    simp only [sibK, List.getLast?_append, List.getLast?_singleton, Option.some_or, List.dropLast_concat, hn1, e1, h1, h2, Option.map_map]
    rfl
theorem nextNode_C : SibC 121 true false := fun w H b p k hw hs hn js c q ck hsub => by
  obtain ⟨par, prev, next, a, r, pp, h1, _, h3, h4, h5, h6, h7⟩ := sib_at hs hn hsub
  rw [h7, if_pos rfl, rowK_head, ← h4]
  exact nextNode_any hw h1
theorem prevNode_C : SibC 119 false false := fun w H b p k hw hs hn js c q ck hsub => by
  obtain ⟨par, prev, next, a, r, pp, h1, _, h3, h4, h5, h6, h7⟩ := sib_at hs hn hsub
  rw [h7, if_neg (by decide), rowK_last, ← h3]
  exact prevNode_any hw h1
theorem nextElement_C : SibC 122 true true := fun w H b p k hw hs hn js c q ck hsub => by
  obtain ⟨par, prev, next, a, r, pp, h1, _, h3, h4, h5, h6, h7⟩ := sib_at hs hn hsub
  rw [h7, if_pos rfl]
  exact nextElement_any hw h1 h4 h6 _
theorem prevElement_C : SibC 120 false true := fun w H b p k hw hs hn js c q ck hsub => by
  obtain ⟨par, prev, next, a, r, pp, h1, _, h3, h4, h5, h6, h7⟩ := sib_at hs hn hsub
  rw [h7, if_neg (by decide)]
  exact prevElement_any hw h1 h3 h5
theorem firstNode_C : FirstC 117 (some false) := fun w H b p k hw hs hn js c q ck hsub => by
  obtain ⟨par, prev, next, a, r, pp, h1, h2, _⟩ := sib_at hs hn hsub
  simp only [firstK, Option.map_map]
  have h := firstNode_any hw h1
  rw [← rowK_head ck 0] at h
  exact h
theorem firstElement_C : FirstC 118 (some true) := fun w H b p k hw hs hn js c q ck hsub => by
  obtain ⟨par, prev, next, a, r, pp, h1, h2, _⟩ := sib_at hs hn hsub
  simp only [firstK, Option.map_map]
  exact firstElement_any hw h1 rfl h2 0
theorem skip_C : FirstC 153 none := fun w H b p k hw hs hn js c q ck hsub => skip_any w _
set_option maxRecDepth 100000 in
set_option maxHeartbeats 3200000 in
theorem closure_any {F1 S : Nat} {ch : Option Bool} {fwd e : Bool} (hF : FirstC F1 ch) (hS : SibC S fwd e) (hentF : ∀ (v : Value) W, (callFunc F1 #[v]).run Try.prog W = .ok (.enter F1 #[v]) W) (hentS : ∀ (v : Value) W, (callFunc S #[v]).run Try.prog W = .ok (.enter S #[v]) W)
    {w : World} {H : NMap} {b : Nat} {p : Pay} {k : F Pay} (hw : Holds w H) (hs : Sits H none none none (.node b p k .nil)) (hn : Neat (.node b p k .nil)) {js : List Int} {c : Nat} {q : Pay} {ck : F Pay} (hsub : subF b p k js = some (c, q, ck)) (B1 B2 B3 : Nat)
    (h1 : w.cell? ⟨B1, 0, none⟩ = some (.func (.func F1) #[] #[])) (h2 : w.cell? ⟨B2, 0, none⟩ = some (.func (.func S) #[] #[])) (h3 : w.cell? ⟨B3, 0, none⟩ = some (.func (.func 152) #[] #[])) :
    Calls Try.prog 170 #[.pointer (some ⟨c, 0, none⟩), .pointer (some ⟨B1, 0, none⟩), .pointer (some ⟨B2, 0, none⟩), .pointer (some ⟨B3, 0, none⟩)] w fun en w' => en = .returned (ptrV ((nearK ch fwd e b p k js ck).map Prod.fst)) ∧ w' = w := by
  have hf := hF w H b p k hw hs hn js c q ck hsub
  have hsb := hS w H b p k hw hs hn js c q ck hsub
  have hsall := fun (js : List Int) (c : Nat) (q : Pay) (ck : F Pay) (h : subF b p k js = some (c, q, ck)) => hS w H b p k hw hs hn js c q ck h
  obtain ⟨R, hR⟩ : ∃ R, R = (nearK ch fwd e b p k js ck).map Prod.fst := ⟨_, rfl⟩
  rw [← hR]
  obtain ⟨f0, hf0⟩ : ∃ f0, f0 = firstK ch js ck := ⟨_, rfl⟩
  obtain ⟨s0, hs0⟩ : ∃ s0, s0 = sibK fwd e b p k js := ⟨_, rfl⟩
  rw [← hf0] at hf
  rw [← hs0] at hsb
  rw [nearK, ← hf0, ← hs0] at hR
  have HF := Lib.hid hf
  have HSB := Lib.hid hsb
  have HSA := Lib.hid hsall
  have HW := Lib.hid hw
  have HS := Lib.hid hs
  have HN := Lib.hid hn
  have HSUB := Lib.hid hsub
  clear hf hsb hsall hw hs hn hsub hF hS hf0 hs0
  cases f0 with
  | some t =>
    replace hR : R = some t.1 := hR
    subst hR
    go_enter Try.func170, Try.ntmps170
    go_wp2_with (refine HF.out.mono ?_; rintro en w1 ⟨rfl, rfl⟩; simp only [Option.map_some, ptrV])
    go_ret
    exact ⟨rfl, rfl⟩
  | none =>
    cases s0 with
    | some t =>
      replace hR : R = some t.1 := hR
      subst hR
      go_enter Try.func170, Try.ntmps170
      go_wp2_with (first
        | (refine HF.out.mono ?_; rintro en w1 ⟨rfl, rfl⟩; simp only [Option.map_none, ptrV])
        | (refine HSB.out.mono ?_; rintro en w1 ⟨rfl, rfl⟩; simp only [Option.map_some, ptrV]))
      go_ret
      exact ⟨rfl, rfl⟩
    | none =>
      replace hR : R = (upK fwd e b p k js js.length).map Prod.fst := hR
      have HR := Lib.hid hR
      clear hR
      go_enter Try.func170, Try.ntmps170
      go_wp2_with (first
        | (refine HF.out.mono ?_; rintro en w1 ⟨rfl, rfl⟩; simp only [Option.map_none, ptrV])
        | (refine HSB.out.mono ?_; rintro en w1 ⟨rfl, rfl⟩; simp only [Option.map_none, ptrV]))
      go_loopg [0] js.length (fun gk c0 wr => ∃ (m cb : Nat) (cq : Pay) (cck : F Pay), m ≤ js.length ∧ gk = m ∧ c0 = .pointer (some ⟨cb, 0, none⟩) ∧ subF b p k (js.take m) = some (cb, cq, cck) ∧ R = (upK fwd e b p k js m).map Prod.fst ∧ wr = w1)
      case atStart => exact ⟨js.length, c, q, ck, Nat.le_refl _, rfl, rfl, by rw [List.take_length]; exact HSUB.out, HR.out, rfl⟩
      case round =>
        obtain ⟨m, cb, cq, cck, hm, rfl, rfl, hsub, hR, rfl⟩ := hrel
        obtain ⟨par, prev, next, hL, -, hroot, hstep⟩ := lies HS.out HN.out _ (js.take gk) cb cq cck rfl hsub
        have n0 := (HW.out.opened hL.here).1
        cases gk with
        | zero =>
          obtain ⟨rfl, -⟩ := hroot (by simp)
          replace hR : R = none := hR
          subst hR
          simp only [ptrV] at n0
          clear hL hroot hstep hsub HR
          go_wp2
          go_ret
          exact ⟨rfl, rfl⟩
        | succ m =>
          obtain ⟨n, nq, nk, a, r, hn1, -, -, rfl, -, -⟩ := hstep (js.take m) (rd js (m : Int)) (take_rd js m (by omega))
          simp only [show ptrV (some n) = .pointer (some ⟨n, 0, none⟩) from rfl] at n0
          have hc := HSA.out _ n nq nk hn1
          obtain ⟨s1, hs1⟩ : ∃ s1, s1 = sibK fwd e b p k (js.take m) := ⟨_, rfl⟩
          rw [← hs1] at hc
          rw [upK, ← hs1] at hR
          have HC := Lib.hid hc
          have HN1 := Lib.hid hn1
          clear hL hroot hstep hsub HR hc hn1 hs1
          cases s1 with
          | some t =>
            replace hR : R = some t.1 := hR
            subst hR
            go_wp2_with (first | (go_at_call 152; refine (up_any _ _).mono ?_; rintro en w3 ⟨rfl, rfl⟩) | (refine HC.out.mono ?_; rintro en w2 ⟨rfl, rfl⟩; simp only [Option.map_some, ptrV]))
            go_ret
            exact ⟨rfl, rfl⟩
          | none =>
            replace hR : R = (upK fwd e b p k js m).map Prod.fst := hR
            have HR := Lib.hid hR
            clear hR
            go_wp2_with (first | (go_at_call 152; refine (up_any _ _).mono ?_; rintro en w3 ⟨rfl, rfl⟩) | (refine HC.out.mono ?_; rintro en w2 ⟨rfl, rfl⟩; simp only [Option.map_none, ptrV]))
            go_roundg m
            case measure => omega
            case rel => exact ⟨m, n, nq, nk, by omega, rfl, rfl, HN1.out, HR.out, rfl⟩
end Go.Proofs.Ytlallihdiffheaa.Dom
