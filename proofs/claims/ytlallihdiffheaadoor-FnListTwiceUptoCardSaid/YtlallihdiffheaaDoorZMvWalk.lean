import Derived.Test.YtlallihdiffheaaDoorZMvWrap
import Derived.Test.YtlallihdiffheaaDoorZLtPure
import Derived.Test.YtlallihdiffheaaDoorZMvKids
import Derived.Test.YtlallihdiffheaaDoorZMvTrim
import Derived.Deep.LoopGhost
section
/- The sweep over a list's children: its states and steps. -/
namespace Go.Proofs.YtlallihdiffheaaDoor.Hand
open Go.RowKit Go.Proofs.YtlallihdiffheaaDoorW.PrintWords Go.Proofs.YtlallihdiffheaaDoorW.PrintLast Go.Proofs.YtlallihdiffheaaDoor.GT Go.Proofs.YtlallihdiffheaaDoor.Dom
set_option linter.unusedVariables false
set_option linter.unusedSimpArgs false

/-- What has become of a node's children, and of nothing else. -/
structure Mv (H : NMap) (w : World) (k : F Pay) (n : Nat) (K : NMap) (w' : World) (kk : F Pay) : Prop where
  holds : Holds w' K
  stays : Stays H w w'
  dom : ∀ x, x < w.heap.size → (K x = none ↔ H x = none)
  others : ∀ x, x ∉ n :: k.blocks → x < w.heap.size → K x = H x
  fresh : ∀ x ∈ kk.blocks, x ∈ k.blocks ∨ w.heap.size ≤ x
  nodup : (n :: kk.blocks).Nodup
  neat : Neat kk
  fit : FitM kk
/-- The item that takes what comes: none yet, and all so far is blank; or the last one but for blanks. -/
def LP (lp : Option Nat) (done : F Pay) : Prop :=
  match lp with
  | none => BlK done
  | some L => ∃ (a : F Pay) (ql : Pay) (lk b : F Pay), done = a.app (.node L ql lk b) ∧ OkK a ∧ isLi ql = true ∧ BlK b
def Sw (H : NMap) (w : World) (n : Nat) (p : Pay) (par prev next : Option Nat) (k k0 rest : F Pay) (lp : Option Nat) (K : NMap) (wr : World) : Prop :=
  ∃ done : F Pay, Mv H w k n K wr (done.app rest) ∧ Sits K par prev next (.node n p (done.app rest) .nil) ∧ LP lp done ∧ (OkK k → done = k0) ∧ cost done + cost rest ≤ cost k + (if lp = none then 0 else 8)
theorem Mv.below {H K : NMap} {w wr w' : World} {k kk : F Pay} {n : Nat} (h : Mv H w k n K wr kk) (hb : Below wr.heap.size wr w') : Mv H w k n K w' kk :=
  ⟨h.holds.below hb, h.stays.trans' (Stays.of_below (H := K) hb) (fun i hi hn => (h.dom i hi).2 hn), h.dom, h.others, h.fresh, h.nodup, h.neat, h.fit⟩
theorem Sw.below {H K : NMap} {w wr w' : World} {n : Nat} {p : Pay} {par prev next lp : Option Nat} {k k0 rest : F Pay} (h : Sw H w n p par prev next k k0 rest lp K wr) (hb : Below wr.heap.size wr w') : Sw H w n p par prev next k k0 rest lp K w' := by
  obtain ⟨done, h1, h2, h3, h4, h5⟩ := h
  exact ⟨done, h1.below hb, h2, h3, h4, h5⟩
theorem Sw.start {H : NMap} {w : World} {n : Nat} {p : Pay} {par prev next : Option Nat} {k : F Pay} (hw : Holds w H) (hs : Sits H par prev next (.node n p k .nil)) (hd : (n :: k.blocks).Nodup) (hn : Neat k) (hf : FitM k) :
    Sw H w n p par prev next k .nil k none H w :=
  ⟨.nil, ⟨hw, Stays.refl _ _, fun _ _ => Iff.rfl, fun _ _ _ => rfl, fun x hx => .inl hx, hd, hn, hf⟩, hs, trivial, fun _ => rfl, by simp [cost]⟩
section
variable {H K : NMap} {w wr : World} {n d : Nat} {p dq : Pay} {par prev next lp : Option Nat} {k k0 dk r : F Pay}
/-- The child's record. -/
theorem Sw.child (h : Sw H w n p par prev next k k0 (.node d dq dk r) lp K wr) : ∃ f l v x, K d = some ⟨some n, f, l, v, x, dq⟩ ∧ Holds wr K ∧ (dq.type = 1 ∨ dq.type = 4 ∨ dq.type = 3 ∨ dq.type = 2) ∧ dq.data.size ≤ 3000000 := by
  obtain ⟨done, h1, h2, _⟩ := h
  have h := ((sits_app K done _ _ _ _).1 h2.2.1).2.1
  have hn := ((neat_app done _).1 h1.neat).2.1
  exact ⟨_, _, _, _, h, h1.holds, by rcases hn with ⟨e, _⟩ | ⟨e, _⟩ | e | e <;> simp [e], ((fitM_app done _).1 h1.fit).2.1.2.1⟩
theorem Sw.li (h : Sw H w n p par prev next k k0 (.node d dq dk r) lp K wr) (hli : isLi dq = true) : Sw H w n p par prev next k (k0.app (.node d dq dk .nil)) r (some d) K wr := by
  obtain ⟨done, h1, h2, h3, h4, h5⟩ := h
  have e : (done.app (.node d dq dk .nil)).app r = done.app (.node d dq dk r) := by rw [F.app_assoc]; rfl
  refine ⟨done.app (.node d dq dk .nil), by rw [e]; exact h1, by rw [e]; exact h2, ⟨done, dq, dk, .nil, rfl, ?_, hli, trivial⟩, fun ho => by rw [h4 ho], ?_⟩
  · cases lp with
    | none => exact BlK.ok h3
    | some L =>
      obtain ⟨a, ql, lk, b, rfl, b1, b2, b3⟩ := h3
      exact (okK_app a _).2 ⟨b1, .inl b2, b3.ok⟩
  · have hl : (if lp = none then 0 else 8) ≤ 8 := by split <;> omega
    simp only [cost_app, cost] at h5 ⊢
    rw [if_neg (show ¬ (some d = none) from fun e => by cases e)]
    omega
theorem Sw.bl (h : Sw H w n p par prev next k k0 (.node d dq dk r) lp K wr) (hbl : isBl dq = true) : Sw H w n p par prev next k (k0.app (.node d dq dk .nil)) r lp K wr := by
  obtain ⟨done, h1, h2, h3, h4, h5⟩ := h
  have e : (done.app (.node d dq dk .nil)).app r = done.app (.node d dq dk r) := by rw [F.app_assoc]; rfl
  refine ⟨done.app (.node d dq dk .nil), by rw [e]; exact h1, by rw [e]; exact h2, ?_, fun ho => by rw [h4 ho], ?_⟩
  · cases lp with
    | none => exact (blK_app done _).2 ⟨h3, hbl, trivial⟩
    | some L =>
      obtain ⟨a, ql, lk, b, rfl, b1, b2, b3⟩ := h3
      exact ⟨a, ql, lk, b.app (.node d dq dk .nil), by rw [F.app_assoc]; rfl, b1, b2, (blK_app b _).2 ⟨b3, hbl, trivial⟩⟩
  · simp only [cost_app, cost] at h5 ⊢
    omega
/-- A child that is neither: the children aren't right. -/
theorem not_ok (hk : k = k0.app (.node d dq dk r)) (hli : isLi dq = false) (hbl : isBl dq = false) : ¬ OkK k := by
  intro h
  rw [hk] at h
  rcases ((okK_app k0 _).1 h).2.1 with e | e
  · rw [hli] at e; cases e
  · rw [hbl] at e; cases e
theorem nodup_parts {a x r : F Pay} (h : (n :: (a.app (x.app r)).blocks).Nodup) : (n :: (a.app r).blocks).Nodup ∧ x.blocks.Nodup ∧ (∀ y ∈ x.blocks, y ∉ n :: (a.app r).blocks) := by
  have hp : (n :: (a.app (x.app r)).blocks).Perm (x.blocks ++ (n :: (a.app r).blocks)) := by
    simp only [F.blocks_app]
    refine (List.Perm.cons n ?_).trans (List.perm_middle.symm)
    exact List.perm_append_comm_assoc a.blocks x.blocks r.blocks
  obtain ⟨h1, h2, h3⟩ := List.nodup_append.1 ((hp.nodup_iff).1 h)
  exact ⟨h2, h1, fun y hy hz => h3 y hy y hz rfl⟩
theorem nodup_back {a x r : F Pay} (h1 : (n :: (a.app r).blocks).Nodup) (h2 : x.blocks.Nodup) (h3 : ∀ y ∈ x.blocks, y ∉ n :: (a.app r).blocks) : (n :: (a.app (x.app r)).blocks).Nodup := by
  have hp : (n :: (a.app (x.app r)).blocks).Perm (x.blocks ++ (n :: (a.app r).blocks)) := by
    simp only [F.blocks_app]
    refine (List.Perm.cons n ?_).trans (List.perm_middle.symm)
    exact List.perm_append_comm_assoc a.blocks x.blocks r.blocks
  exact (hp.nodup_iff).2 (List.nodup_append.2 ⟨h2, h1, fun y hy z hz e => h3 y hy (e ▸ hz)⟩)
/-- Behind the removal: the child stands alone. -/
def Sw1 (H : NMap) (w : World) (n : Nat) (p : Pay) (par prev next : Option Nat) (k : F Pay) (L d : Nat) (dq : Pay) (dk r : F Pay) (K : NMap) (wr : World) : Prop :=
  ∃ (a : F Pay) (ql : Pay) (lk b : F Pay), OkK a ∧ isLi ql = true ∧ BlK b ∧ Mv H w k n K wr ((a.app (.node L ql lk b)).app r) ∧ Sits K par prev next (.node n p ((a.app (.node L ql lk b)).app r) .nil) ∧ Sits K none none none (.node d dq dk .nil) ∧
    (d :: dk.blocks).Nodup ∧ (∀ x ∈ d :: dk.blocks, x ∉ n :: ((a.app (.node L ql lk b)).app r).blocks) ∧ (∀ x ∈ d :: dk.blocks, x ∈ k.blocks ∨ w.heap.size ≤ x) ∧ Neat (.node d dq dk .nil) ∧ FitM (.node d dq dk .nil) ∧ cost (a.app (.node L ql lk b)) + cost (.node d dq dk r) ≤ cost k + 8
theorem sw_remove {L : Nat} (h : Sw H w n p par prev next k k0 (.node d dq dk r) (some L) K wr) (hk : k = k0.app (.node d dq dk r)) :
    Calls Tryd.prog 68 #[.pointer (some ⟨n, 0, none⟩), .pointer (some ⟨d, 0, none⟩)] wr fun e w' => e = .returned (.tuple #[]) ∧ ∃ K', Sw1 H w n p par prev next k L d dq dk r K' w' ∧ Stays K wr w' := by
  obtain ⟨done, h1, h2, ⟨a, ql, lk, b, rfl, b1, b2, b3⟩, h4, h5⟩ := h
  have hfb : ∀ X : F Pay, (F.node n p X .nil).blocks = n :: X.blocks := fun X => by simp [F.blocks]
  refine (removeChild_sits h1.holds h2 (by rw [hfb]; exact h1.nodup) (one_kids n p _)).mono ?_
  rintro e w' ⟨rfl, K', ht, hs, hc⟩
  rw [one_set] at hs
  have e1 : F.node d dq dk r = (F.node d dq dk .nil).app r := rfl
  have hnd := h1.nodup
  rw [e1] at hnd
  obtain ⟨c1, c2, c3⟩ := nodup_parts hnd
  have hdb : (F.node d dq dk .nil).blocks = d :: dk.blocks := by simp [F.blocks]
  rw [hdb] at c2 c3
  have hfr : ∀ x ∈ ((a.app (.node L ql lk b)).app (.node d dq dk r)).blocks, x ∈ k.blocks ∨ w.heap.size ≤ x := h1.fresh
  rw [e1, F.blocks_app, F.blocks_app, F.blocks_app, hdb] at hfr
  have hne := (neat_app (a.app (.node L ql lk b)) (.node d dq dk r)).1 h1.neat
  have hfi := (fitM_app (a.app (.node L ql lk b)) (.node d dq dk r)).1 h1.fit
  refine ⟨rfl, K', ⟨a, ql, lk, b, b1, b2, b3, ⟨ht.holds, h1.stays.trans' ht.stays (fun i hi hn => (h1.dom i hi).2 hn), fun x hx => (ht.dom x).trans (h1.dom x hx), fun x hx hlt => ?_, fun x hx => ?_, c1, ?_, ?_⟩, hs, hc, c2, c3, fun x hx => hfr x (by simp only [List.mem_append]; exact .inr (.inl hx)), ⟨hne.2.1, hne.2.2.1, trivial⟩, ⟨hfi.2.1, hfi.2.2.1, trivial⟩, ?_⟩, ht.stays⟩
  · rw [ht.others x ?_, h1.others x hx hlt]
    rw [hfb]
    intro hm
    rcases List.mem_cons.1 hm with hm | hm
    · exact hx (by rw [hm]; simp)
    · rcases h1.fresh x hm with hm | hm
      · exact hx (by simp [hm])
      · omega
  · rw [F.blocks_app, F.blocks_app] at hx
    refine hfr x ?_
    simp only [List.mem_append] at hx ⊢
    rcases hx with (h | h) | h <;> simp [h]
  · exact (neat_app _ _).2 ⟨hne.1, hne.2.2.2⟩
  · exact (fitM_app _ _).2 ⟨hfi.1, hfi.2.2.2⟩
  · simpa using h5
theorem sw_append {L : Nat} (h : Sw1 H w n p par prev next k L d dq dk r K wr) (hno : ¬ OkK k) :
    Calls Tryd.prog 57 #[.pointer (some ⟨L, 0, none⟩), .pointer (some ⟨d, 0, none⟩)] wr fun e w' => e = .returned (.tuple #[]) ∧ ∃ K', Sw H w n p par prev next k (k0.app (.node d dq dk .nil)) r (some L) K' w' ∧ Stays K wr w' := by
  obtain ⟨a, ql, lk, b, b1, b2, b3, h1, h2, hc, c2, c3, c4, c5, c6, h5⟩ := h
  have hfb : ∀ X : F Pay, (F.node n p X .nil).blocks = n :: X.blocks := fun X => by simp [F.blocks]
  have e2 : (a.app (.node L ql lk b)).app r = a.app (.node L ql lk (b.app r)) := by rw [F.app_assoc]; rfl
  have hnd := h1.nodup
  rw [e2] at h2
  have hnd2 := hnd
  rw [e2, F.blocks_app, F.blocks] at hnd2
  obtain ⟨d1, d2⟩ := List.nodup_cons.1 hnd2
  obtain ⟨d3, d4, d5⟩ := List.nodup_append.1 d2
  have hLn : L ≠ n := fun e => d1 (by rw [← e]; simp)
  have hLa : L ∉ a.blocks := fun e => d5 L e L (by simp) rfl
  refine (appendChild_sits (L := L) (lk := lk) h1.holds h2 (by rw [hfb, ← e2]; exact hnd) (in_kids hLn p ql a lk _ hLa) hc c2 (by rw [hfb, ← e2]; exact c3)).mono ?_
  rintro e w' ⟨rfl, K', hl, hs⟩
  rw [in_set hLn p ql a lk _ _ hLa] at hs
  have e3 : (a.app (.node L ql (lk.app (.node d dq dk .nil)) b)).app r = a.app (.node L ql (lk.app (.node d dq dk .nil)) (b.app r)) := by rw [F.app_assoc]; rfl
  have hdb : (F.node d dq dk .nil).blocks = d :: dk.blocks := by simp [F.blocks]
  have hperm : (n :: ((a.app (.node L ql (lk.app (.node d dq dk .nil)) b)).app r).blocks).Perm ((d :: dk.blocks) ++ (n :: ((a.app (.node L ql lk b)).app r).blocks)) := by
    rw [e3, e2]
    simp only [F.blocks_app, F.blocks, List.append_nil]
    refine (List.Perm.cons n ?_).trans (List.perm_middle.symm)
    have q1 : (L :: (lk.blocks ++ (d :: dk.blocks) ++ (b.blocks ++ r.blocks))).Perm ((d :: dk.blocks) ++ (L :: (lk.blocks ++ (b.blocks ++ r.blocks)))) := by
      refine (List.Perm.cons L ?_).trans List.perm_middle.symm
      rw [List.append_assoc]
      exact List.perm_append_comm_assoc lk.blocks (d :: dk.blocks) (b.blocks ++ r.blocks)
    exact (List.Perm.append_left a.blocks q1).trans (List.perm_append_comm_assoc a.blocks (d :: dk.blocks) _)
  have hne := (neat_app (a.app (.node L ql lk b)) r).1 h1.neat
  have hne1 := (neat_app a (.node L ql lk b)).1 hne.1
  have hfi := (fitM_app (a.app (.node L ql lk b)) r).1 h1.fit
  have hfi1 := (fitM_app a (.node L ql lk b)).1 hfi.1
  have h3l : ql.type = 3 := by
    simp only [isLi, Bool.and_eq_true, decide_eq_true_eq] at b2
    exact b2.1
  refine ⟨rfl, K', ⟨a.app (.node L ql (lk.app (.node d dq dk .nil)) b), ⟨hl.holds, h1.stays.trans' hl.stays (fun i hi hn => (h1.dom i hi).2 hn), fun x hx => (hl.dom x).trans (h1.dom x hx), fun x hx hlt => ?_, fun x hx => ?_, ?_, ?_, ?_⟩, by rw [e3]; exact hs, ⟨a, ql, _, b, rfl, b1, b2, b3⟩, fun ho => absurd ho hno, ?_⟩, hl.stays⟩
  · rw [hl.others x ?_ ?_, h1.others x hx hlt]
    · rw [hfb, ← e2]
      intro hm
      rcases List.mem_cons.1 hm with hm | hm
      · exact hx (by rw [hm]; simp)
      · rcases h1.fresh x hm with hm | hm
        · exact hx (by simp [hm])
        · omega
    · intro e
      rcases c4 x (by rw [e]; simp) with hm | hm
      · exact hx (by simp [hm])
      · omega
  · have hm := hperm.mem_iff.1 (List.mem_cons_of_mem n hx)
    rcases List.mem_append.1 hm with hm | hm
    · exact c4 x hm
    · rcases List.mem_cons.1 hm with hm | hm
      · exfalso
        have hnn : (n :: ((a.app (.node L ql (lk.app (.node d dq dk .nil)) b)).app r).blocks).Nodup := hperm.nodup_iff.2 (List.nodup_append.2 ⟨c2, hnd, fun y hy z hz e => c3 y hy (e ▸ hz)⟩)
        exact (List.nodup_cons.1 hnn).1 (hm ▸ hx)
      · exact h1.fresh x hm
  · exact hperm.nodup_iff.2 (List.nodup_append.2 ⟨c2, hnd, fun y hy z hz e => c3 y hy (e ▸ hz)⟩)
  · exact (neat_app _ _).2 ⟨(neat_app a _).2 ⟨hne1.1, .inr (.inr (.inl h3l)), (neat_app lk _).2 ⟨hne1.2.2.1, c5⟩, hne1.2.2.2⟩, hne.2⟩
  · exact (fitM_app _ _).2 ⟨(fitM_app a _).2 ⟨hfi1.1, hfi1.2.1, (fitM_app lk _).2 ⟨hfi1.2.2.1, c6⟩, hfi1.2.2.2⟩, hfi.2⟩
  · simp only [cost_app, cost] at h5 ⊢
    simp
    omega
/-- A new item. -/
def liPay : Pay := ⟨3, 45570, ⟨#[108, 105]⟩, .slice none 0 0, []⟩
theorem sw_wrap (h : Sw H w n p par prev next k k0 (.node d dq dk r) none K wr) (hno : ¬ OkK k) :
    Calls Tryd.prog 69 #[.pointer (some ⟨d, 0, none⟩), .pointer (some ⟨wr.heap.size, 0, none⟩)] (wr.alloc (.cells (NR.cells ⟨none, none, none, none, none, liPay⟩) 81 (0, 0))) fun e w' => e = .returned (.pointer (some ⟨wr.heap.size, 0, none⟩)) ∧ ∃ K', Sw H w n p par prev next k (k0.app (.node d dq dk .nil)) r (some wr.heap.size) K' w' ∧ Stays K wr w' := by
  obtain ⟨done, h1, h2, h3, h4, h5⟩ := h
  have hW : Holds (wr.alloc (.cells (NR.cells ⟨none, none, none, none, none, liPay⟩) 81 (0, 0))) (upd K wr.heap.size ⟨none, none, none, none, none, liPay⟩) := h1.holds.new (AttrsAt.nil _)
  have hsz := h1.stays.size
  have hblt : ∀ x ∈ n :: (done.app (.node d dq dk r)).blocks, x < wr.heap.size := fun x hx => by
    obtain ⟨rr, hrr⟩ := h2.has _ _ _ _ x (by simpa [F.blocks] using hx)
    exact h1.holds.lt hrr
  have hnew : wr.heap.size ∉ n :: (done.app (.node d dq dk r)).blocks := fun hm => Nat.lt_irrefl _ (hblt _ hm)
  have hs' : Sits (upd K wr.heap.size ⟨none, none, none, none, none, liPay⟩) par prev next (.node n p (done.app (.node d dq dk r)) .nil) := h2.upd_out (by simpa [F.blocks] using hnew) _
  refine (wrapNode_any (nn := wr.heap.size) (lq := liPay) hW hs' h1.nodup ⟨upd_same _ _ _, trivial, trivial⟩ hnew).mono ?_
  rintro e w' ⟨rfl, K', a1, a2, a3, a4, a5⟩
  have e3 : (done.app (.node wr.heap.size liPay (.node d dq dk .nil) .nil)).app r = done.app (.node wr.heap.size liPay (.node d dq dk .nil) r) := by rw [F.app_assoc]; rfl
  have hperm : (n :: (done.app (.node wr.heap.size liPay (.node d dq dk .nil) r)).blocks).Perm (wr.heap.size :: (n :: (done.app (.node d dq dk r)).blocks)) := by
    simp only [F.blocks_app, F.blocks, List.append_nil, List.cons_append]
    exact (List.Perm.cons n List.perm_middle).trans (List.Perm.swap _ _ _)
  have hnd : (n :: (done.app (.node wr.heap.size liPay (.node d dq dk .nil) r)).blocks).Nodup := hperm.nodup_iff.2 (List.nodup_cons.2 ⟨hnew, h1.nodup⟩)
  have hne := (neat_app done (.node d dq dk r)).1 h1.neat
  have hfi := (fitM_app done (.node d dq dk r)).1 h1.fit
  have hst : Stays H w (wr.alloc (.cells (NR.cells ⟨none, none, none, none, none, liPay⟩) 81 (0, 0))) := h1.stays.trans' (Stays.of_below (H := K) (below_alloc (Below.refl _ _) _)) (fun i hi hn => (h1.dom i hi).2 hn)
  have hupd : ∀ x, x < w.heap.size → upd K wr.heap.size ⟨none, none, none, none, none, liPay⟩ x = K x := fun x hx => upd_other _ _ (by omega)
  refine ⟨rfl, K', ⟨done.app (.node wr.heap.size liPay (.node d dq dk .nil) .nil), ⟨a1, hst.trans' a2 (fun i hi hn => by rw [hupd i hi]; exact (h1.dom i hi).2 hn), fun x hx => (a3 x).trans (by rw [hupd x hx]; exact h1.dom x hx), fun x hx hlt => ?_, fun x hx => ?_, by rw [e3]; exact hnd, ?_, ?_⟩, by rw [e3]; exact a5, ⟨done, liPay, _, .nil, rfl, BlK.ok h3, by decide +kernel, trivial⟩, fun ho => absurd ho hno, ?_⟩, (Stays.of_below (H := K) (below_alloc (Below.refl wr.heap.size wr) _)).trans' a2 (fun i hi hn => by rw [upd_other _ _ (by omega)]; exact hn)⟩
  · rw [a4 x ?_ (by omega), hupd x hlt, h1.others x hx hlt]
    intro hm
    rcases List.mem_cons.1 hm with hm | hm
    · exact hx (by rw [hm]; simp)
    · rcases h1.fresh x hm with hm | hm
      · exact hx (by simp [hm])
      · omega
  · rw [e3] at hx
    have hm := hperm.mem_iff.1 (List.mem_cons_of_mem n hx)
    rcases List.mem_cons.1 hm with hm | hm
    · right; omega
    · rcases List.mem_cons.1 hm with hm | hm
      · exact absurd (hm ▸ hx) (List.nodup_cons.1 hnd).1
      · exact h1.fresh x hm
  · exact (neat_app _ _).2 ⟨(neat_app done _).2 ⟨hne.1, .inr (.inr (.inl rfl)), ⟨hne.2.1, hne.2.2.1, trivial⟩, trivial⟩, hne.2.2.2⟩
  · exact (fitM_app _ _).2 ⟨(fitM_app done _).2 ⟨hfi.1, ⟨fun _ => by simp [liPay], by decide +kernel⟩, ⟨hfi.2.1, hfi.2.2.1, trivial⟩, trivial⟩, hfi.2.2.2⟩
  · have hll : isList liPay = false := by decide +kernel
    have hpw : payW liPay = 8 := by decide +kernel
    simp only [cost_app, cost, hll, hpw] at h5 ⊢
    simp at h5 ⊢
    omega
end
end Go.Proofs.YtlallihdiffheaaDoor.Hand
end
section
/- What a turn of domutils.MoveListItems leaves, and its steps. -/
namespace Go.Proofs.YtlallihdiffheaaDoor.Hand
open Go.RowKit Go.Proofs.YtlallihdiffheaaDoorW.PrintWords Go.Proofs.YtlallihdiffheaaDoorW.PrintLast Go.Proofs.YtlallihdiffheaaDoorW.PrintMore Go.Proofs.YtlallihdiffheaaDoor.GT Go.Proofs.YtlallihdiffheaaDoor.Dom
set_option linter.unusedVariables false
set_option linter.unusedSimpArgs false

/-- What the children have become, ahead of the children's own turn. -/
def Swept (H : NMap) (w : World) (n : Nat) (p : Pay) (par prev next : Option Nat) (k : F Pay) (wx : World) : Prop :=
  ∃ (kk : F Pay) (K : NMap), Mv H w k n K wx kk ∧ Sits K par prev next (.node n p kk .nil) ∧ (isList p = true → OkK kk) ∧ (Settled (.node n p k .nil) → kk = k) ∧ cost kk + payW p ≤ cost (.node n p k .nil)
/-- What the call leaves. -/
def MvOut (H : NMap) (w : World) (n : Nat) (p : Pay) (par prev next : Option Nat) (k : F Pay) (wx : World) : Prop :=
  ∃ (kk : F Pay) (K : NMap), Mv H w k n K wx kk ∧ Sits K par prev next (.node n p kk .nil) ∧ Settled (.node n p kk .nil) ∧ (Settled (.node n p k .nil) → kk = k) ∧ wF kk + payW p ≤ cost (.node n p k .nil)
def MvP (W0 : World) (cv : Value) (m : Nat) : Prop := ∀ (k : F Pay) (n : Nat) (p : Pay) (par prev next : Option Nat) (H : NMap) (w : World), cost (.node n p k .nil) ≤ m → m ≤ 4500000 → Holds w H → Sits H par prev next (.node n p k .nil) → (n :: k.blocks).Nodup → Neat (.node n p k .nil) → FitM (.node n p k .nil) →
    Below W0.heap.size W0 w → (∀ i, i < W0.heap.size → H i = none) →
    Calls Tryd.prog 42 #[cv, .pointer (some ⟨n, 0, none⟩)] w fun e w' => e = .returned (.tuple #[]) ∧ MvOut H w n p par prev next k w'
theorem no_sweep {H : NMap} {w : World} {n : Nat} {p : Pay} {par prev next : Option Nat} {k : F Pay} (hw : Holds w H) (hs : Sits H par prev next (.node n p k .nil)) (hd : (n :: k.blocks).Nodup) (hn : Neat k) (hf : FitM k) (hl : isList p = false) : Swept H w n p par prev next k w :=
  ⟨k, H, ⟨hw, Stays.refl _ _, fun _ _ => Iff.rfl, fun _ _ _ => rfl, fun x hx => .inl hx, hd, hn, hf⟩, hs, fun h => (by rw [hl] at h; cases h), fun _ => rfl, by simp only [cost]; omega⟩
theorem Sw.done {H K : NMap} {w wr : World} {n : Nat} {p : Pay} {par prev next lp : Option Nat} {k : F Pay} (h : Sw H w n p par prev next k k .nil lp K wr) (hl : isList p = true) : Swept H w n p par prev next k wr := by
  obtain ⟨done, h1, h2, h3, h4, h5⟩ := h
  rw [F.app_nil] at h1 h2
  refine ⟨done, K, h1, h2, fun _ => ?_, fun hs => h4 (hs.1 hl), ?_⟩
  · cases lp with
    | none => exact BlK.ok h3
    | some L =>
      obtain ⟨a, ql, lk, b, rfl, b1, b2, b3⟩ := h3
      exact (okK_app a _).2 ⟨b1, .inl b2, b3.ok⟩
  · have hle : (if lp = none then 0 else 8) ≤ 8 := by split <;> omega
    simp only [cost, hl] at h5 ⊢
    simp only [if_true]
    omega
theorem Mv.low {H K : NMap} {w wr W0 : World} {k kk : F Pay} {n : Nat} (h : Mv H w k n K wr kk) (hB : Below W0.heap.size W0 w) (hlow : ∀ i, i < W0.heap.size → H i = none) : Below W0.heap.size W0 wr ∧ ∀ i, i < W0.heap.size → K i = none :=
  ⟨hB.trans (h.stays.below hB.size hlow), fun i hi => (h.dom i (Nat.lt_of_lt_of_le hi hB.size)).2 (hlow i hi)⟩
theorem row_at {w : World} {base n c : Nat} {A : Option Addr} {l : List Nat} {j d : Nat} (h : w.ownsRow base 49 1 (.slice A n c) n (ptrs l)) (hl : l.length = n) (hj : l[j]? = some d) : ∃ ad, A = some ad ∧ w.cell? (ad.add j) = some (.pointer (some ⟨d, 0, none⟩)) := by
  have hlt := (List.getElem?_eq_some_iff.1 hj).1
  obtain ⟨g, cap, he, _, _⟩ := h.form (by omega)
  injection he with he _ _
  subst he
  exact ⟨_, rfl, h.cells (g := g) rfl j _ (by rw [ptrs, List.getElem?_map, hj]; rfl)⟩
theorem tops_at (k0 : F Pay) (d : Nat) (dq : Pay) (dk r : F Pay) : (tops (k0.app (.node d dq dk r)))[k0.len]? = some d := by
  rw [tops_app, List.getElem?_append_right (by rw [tops_len]; exact Nat.le_refl _), tops_len, Nat.sub_self]
  rfl
theorem next_idx {k : F Pay} (k0 : F Pay) (d : Nat) (dq : Pay) (dk : F Pay) (h : k0.len < k.len) (hk : k.len ≤ 1000000) : Value.int .i64 (wrap64 ((k0.len : Int) + 1)) = .int .i64 ((k0.app (.node d dq dk .nil)).len : Int) := by
  have e : (k0.app (.node d dq dk .nil)).len = k0.len + 1 := by rw [F.len_app]; rfl
  have e2 : wrap64 ((k0.len : Int) + 1) = ((k0.len + 1 : Nat) : Int) := by
    unfold wrap64
    omega
  rw [e, e2]
theorem app_len1 (k0 : F Pay) (d : Nat) (dq : Pay) (dk : F Pay) : (k0.app (.node d dq dk .nil)).len = k0.len + 1 := by rw [F.len_app]; rfl
theorem sw1_holds {H K : NMap} {w wr : World} {n L d : Nat} {p dq : Pay} {par prev next : Option Nat} {k dk r : F Pay} (h : Sw1 H w n p par prev next k L d dq dk r K wr) : Holds wr K := by
  obtain ⟨a, ql, lk, b, _, _, _, h1, _⟩ := h
  exact h1.holds
theorem Sw.mv {H K : NMap} {w wr : World} {n : Nat} {p : Pay} {par prev next lp : Option Nat} {k k0 rest : F Pay} (h : Sw H w n p par prev next k k0 rest lp K wr) : ∃ kk, Mv H w k n K wr kk := by
  obtain ⟨done, h1, _⟩ := h
  exact ⟨_, h1⟩

theorem ptrV_form (o : Option Nat) : ∃ u, ptrV o = .pointer u := by cases o <;> exact ⟨_, rfl⟩
/-- A child's own children are turned. -/
theorem child_sits {H K : NMap} {n c : Nat} {p q : Pay} {a ck ck' r : F Pay} {par prev next : Option Nat} (hs : Sits H par prev next (.node n p (a.app (.node c q ck r)) .nil)) (hd : (n :: (a.app (.node c q ck r)).blocks).Nodup)
    (hK : ∀ x ∈ n :: (a.app (.node c q ck r)).blocks, x ∉ c :: ck.blocks → K x = H x) (hc : Sits K (some n) (a.lastOr none) (r.headOr none) (.node c q ck' .nil)) : Sits K par prev next (.node n p (a.app (.node c q ck' r)) .nil) := by
  obtain ⟨h1, h2, _⟩ := hs
  rw [F.blocks_app, F.blocks] at hd hK
  obtain ⟨hn, hd2⟩ := List.nodup_cons.1 hd
  obtain ⟨hda, hdcb, hacb⟩ := List.nodup_append.1 hd2
  obtain ⟨hcb0, hdckb⟩ := List.nodup_cons.1 hdcb
  obtain ⟨hdck, hdr, hckr⟩ := List.nodup_append.1 hdckb
  simp only [List.mem_append, List.mem_cons, not_or] at hn hcb0
  obtain ⟨h3, h4, h5, h6⟩ := (sits_app H a _ _ _ _).1 h2
  refine ⟨?_, (sits_app K a _ _ _ _).2 ⟨h3.congr a _ _ _ fun x hx => hK x (by simp [hx]) ?_, hc.1, hc.2.1, h6.congr r _ _ _ fun x hx => hK x (by simp [hx]) ?_⟩, trivial⟩
  · rw [hK n (by simp) (by simp [hn.2.1, hn.2.2.1]), h1, F.headOr_app, F.headOr_app, F.lastOr_app, F.lastOr_app]
    rfl
  · intro hh
    exact hacb x hx x (by rcases List.mem_cons.1 hh with hh | hh <;> simp [hh]) rfl
  · intro hh
    rcases List.mem_cons.1 hh with hh | hh
    · exact hcb0.2 (hh ▸ hx)
    · exact hckr x hh x hx rfl
/-- The state between two turns of the children. -/
def Rd (H : NMap) (w : World) (n : Nat) (p : Pay) (par prev next : Option Nat) (k d rest : F Pay) (K : NMap) (wr : World) : Prop :=
  Mv H w k n K wr (d.app rest) ∧ Sits K par prev next (.node n p (d.app rest) .nil) ∧ (isList p = true → OkK (d.app rest)) ∧ Settled d ∧ (Settled (.node n p k .nil) → d.app rest = k) ∧ wF d + cost rest + payW p ≤ cost (.node n p k .nil)
theorem Rd.done {H K : NMap} {w wr : World} {n : Nat} {p : Pay} {par prev next : Option Nat} {k d : F Pay} (h : Rd H w n p par prev next k d .nil K wr) : MvOut H w n p par prev next k wr := by
  obtain ⟨h1, h2, h3, h4, h5, h6⟩ := h
  rw [F.app_nil] at h1 h2 h3 h5
  exact ⟨d, K, h1, h2, ⟨h3, h4, trivial⟩, h5, by simpa [cost] using h6⟩
theorem cost_head (c : Nat) (q : Pay) (ck r : F Pay) : cost (.node c q ck r) = cost (.node c q ck .nil) + cost r := by simp only [cost]; omega
theorem Rd.step {H K K' : NMap} {w wr w' : World} {n c : Nat} {p q : Pay} {par prev next : Option Nat} {k d ck ckk r : F Pay} (h : Rd H w n p par prev next k d (.node c q ck r) K wr)
    (m : Mv K wr ck c K' w' ckk) (hs : Sits K' (some n) (d.lastOr none) (r.headOr none) (.node c q ckk .nil)) (hset : Settled (.node c q ckk .nil)) (hun : Settled (.node c q ck .nil) → ckk = ck) (hc : wF ckk + payW q ≤ cost (.node c q ck .nil)) :
    Rd H w n p par prev next k (d.app (.node c q ckk .nil)) r K' w' := by
  obtain ⟨h1, h2, h3, h4, h5, h6⟩ := h
  have e : (d.app (.node c q ckk .nil)).app r = d.app (.node c q ckk r) := by rw [F.app_assoc]; rfl
  have e1 : F.node c q ck r = (F.node c q ck .nil).app r := rfl
  have e2 : F.node c q ckk r = (F.node c q ckk .nil).app r := rfl
  have hsz := h1.stays.size
  have hlt : ∀ x ∈ n :: (d.app (.node c q ck r)).blocks, x < wr.heap.size := fun x hx => by
    obtain ⟨rr, hrr⟩ := h2.has _ _ _ _ x (by simpa [F.blocks] using hx)
    exact h1.holds.lt hrr
  have hcl : ∀ x ∈ c :: ck.blocks, x ∈ (d.app (.node c q ck r)).blocks := fun x hx => by
    rw [F.blocks_app, F.blocks]
    rcases List.mem_cons.1 hx with hx | hx <;> simp [hx]
  have hnd := h1.nodup
  rw [e1] at hnd
  obtain ⟨c1, c2, c3⟩ := nodup_parts hnd
  have hne := (neat_app d (.node c q ck r)).1 h1.neat
  have hfi := (fitM_app d (.node c q ck r)).1 h1.fit
  have hb : (F.node c q ckk .nil).blocks = c :: ckk.blocks := by simp [F.blocks]
  have hb0 : (F.node c q ck .nil).blocks = c :: ck.blocks := by simp [F.blocks]
  rw [hb0] at c2 c3
  unfold Rd
  rw [e]
  refine ⟨⟨m.holds, h1.stays.trans' m.stays (fun i hi hn => (h1.dom i hi).2 hn), fun x hx => (m.dom x (by omega)).trans (h1.dom x hx), fun x hx hxl => ?_, fun x hx => ?_, ?_, ?_, ?_⟩, child_sits h2 h1.nodup (fun x hx hxc => m.others x hxc (hlt x hx)) hs, fun hl => ?_, (settled_app _ _).2 ⟨h4, hset⟩, fun hst => ?_, ?_⟩
  · rw [m.others x ?_ (by omega), h1.others x hx hxl]
    intro hm
    rcases h1.fresh x (hcl x hm) with hm | hm
    · exact hx (by simp [hm])
    · omega
  · rw [F.blocks_app, F.blocks] at hx
    have hf := h1.fresh
    rw [F.blocks_app, F.blocks] at hf
    simp only [List.mem_append, List.mem_cons] at hx hf
    rcases hx with hx | hx | hx | hx
    · exact hf x (.inl hx)
    · exact hf x (.inr (.inl hx))
    · rcases m.fresh x hx with hx | hx
      · exact hf x (.inr (.inr (.inl hx)))
      · right; omega
    · exact hf x (.inr (.inr (.inr hx)))
  · rw [e2]
    refine nodup_back c1 (by rw [hb]; exact m.nodup) (fun y hy hyn => ?_)
    rw [hb] at hy
    have hyl : y < wr.heap.size := hlt y (by
      rcases List.mem_cons.1 hyn with hyn | hyn
      · simp [hyn]
      · rw [F.blocks_app] at hyn ⊢
        rw [F.blocks]
        rcases List.mem_append.1 hyn with hyn | hyn <;> simp [hyn])
    rcases List.mem_cons.1 hy with hy | hy
    · exact c3 y (by simp [hy]) hyn
    · rcases m.fresh y hy with hy | hy
      · exact c3 y (by simp [hy]) hyn
      · omega
  · refine (neat_app _ _).2 ⟨hne.1, ?_, m.neat, hne.2.2.2⟩
    rcases hne.2.1 with ⟨a, b⟩ | ⟨a, b⟩ | a | a
    · exact .inl ⟨a, by rw [hun (by rw [b]; exact ⟨fun _ => trivial, trivial, trivial⟩), b]⟩
    · exact .inr (.inl ⟨a, by rw [hun (by rw [b]; exact ⟨fun _ => trivial, trivial, trivial⟩), b]⟩)
    · exact .inr (.inr (.inl a))
    · exact .inr (.inr (.inr a))
  · exact (fitM_app _ _).2 ⟨hfi.1, hfi.2.1, m.fit, hfi.2.2.2⟩
  · have := (okK_app _ _).1 (h3 hl)
    exact (okK_app _ _).2 ⟨this.1, this.2.1, this.2.2⟩
  · have hk := h5 hst
    have hsk := hst.2.1
    rw [← hk] at hsk
    have := (settled_app _ _).1 hsk
    rw [hun ⟨this.2.1, this.2.2.1, trivial⟩, hk]
  · rw [wF_app]
    rw [cost_head] at h6
    simp only [wF]
    omega
/-- The call on the next child. -/
theorem Rd.call {W0 : World} {cv : Value} {H K : NMap} {w wr : World} {n c : Nat} {p q : Pay} {par prev next : Option Nat} {k d ck r : F Pay} {m : Nat} (h : Rd H w n p par prev next k d (.node c q ck r) K wr)
    (ih : ∀ j, j < m → MvP W0 cv j) (hm : cost (.node n p k .nil) ≤ m) (hm2 : m ≤ 4500000) (hB : Below W0.heap.size W0 w) (hlow : ∀ i, i < W0.heap.size → H i = none) :
    Calls Tryd.prog 42 #[cv, .pointer (some ⟨c, 0, none⟩)] wr fun e w' => e = .returned (.tuple #[]) ∧ w'.cell? ⟨c, 4, none⟩ = some (ptrV (r.headOr none)) ∧ ∃ (d' : F Pay) (K' : NMap), Rd H w n p par prev next k d' r K' w' := by
  have h0 := h
  obtain ⟨h1, h2, h3, h4, h5, h6⟩ := h
  have hsp := ((sits_app K d _ _ _ _).1 h2.2.1).2
  have hne := (neat_app d (.node c q ck r)).1 h1.neat
  have hfi := (fitM_app d (.node c q ck r)).1 h1.fit
  have e1 : F.node c q ck r = (F.node c q ck .nil).app r := rfl
  have hnd := h1.nodup
  rw [e1] at hnd
  obtain ⟨c1, c2, c3⟩ := nodup_parts hnd
  have hb0 : (F.node c q ck .nil).blocks = c :: ck.blocks := by simp [F.blocks]
  rw [hb0] at c2
  have hl := h1.low hB hlow
  have hcc := cost_head c q ck r
  have hpp := payW_pos p
  refine (ih (cost (.node c q ck .nil)) (by omega) ck c q (some n) (d.lastOr none) (r.headOr none) K wr (Nat.le_refl _) (by omega) h1.holds ⟨hsp.1, hsp.2.1, trivial⟩ c2 ⟨hne.2.1, hne.2.2.1, trivial⟩ ⟨hfi.2.1, hfi.2.2.1, trivial⟩ hl.1 hl.2).mono ?_
  rintro e w' ⟨rfl, ckk, K', a1, a2, a3, a4, a5⟩
  obtain ⟨-, -, -, -, b4, -⟩ := a1.holds.opened a2.1
  exact ⟨rfl, b4, _, K', h0.step a1 a2 a3 a4 a5⟩
/-- The children's turn begins. -/
theorem Swept.rd {H : NMap} {w wc : World} {n : Nat} {p : Pay} {par prev next : Option Nat} {k : F Pay} (h : Swept H w n p par prev next k wc) :
    ∃ (kk : F Pay) (K : NMap), wc.cell? ⟨n, 1, none⟩ = some (ptrV (kk.headOr none)) ∧ Rd H w n p par prev next k .nil kk K wc := by
  obtain ⟨kk, K, h1, h2, h3, h4, h5⟩ := h
  obtain ⟨-, b1, -⟩ := h1.holds.opened h2.1
  exact ⟨kk, K, b1, h1, h2, h3, trivial, h4, by simpa [wF] using h5⟩
end Go.Proofs.YtlallihdiffheaaDoor.Hand
end
section
/- domutils.MoveListItems by hand. -/
namespace Go.Proofs.YtlallihdiffheaaDoor.Hand
open Go.RowKit Go.Proofs.YtlallihdiffheaaDoorW.PrintWords Go.Proofs.YtlallihdiffheaaDoorW.PrintLast Go.Proofs.YtlallihdiffheaaDoorW.PrintMore Go.Proofs.YtlallihdiffheaaDoor.GT Go.Proofs.YtlallihdiffheaaDoor.Dom
set_option linter.unusedVariables false
set_option linter.unusedSimpArgs false

set_option maxRecDepth 100000 in
set_option maxHeartbeats 6400000 in
theorem mv_sweep (W0 : World) (hT0 : TabL W0) (cv : Value) (k : F Pay) (n : Nat) (p : Pay) (par prev next : Option Nat) (H : NMap) (w : World) (hw : Holds w H) (hs : Sits H par prev next (.node n p k .nil)) (hd : (n :: k.blocks).Nodup) (hn : Neat (.node n p k .nil)) (hf : FitM (.node n p k .nil))
    (hB : Below W0.heap.size W0 w) (hlow : ∀ i, i < W0.heap.size → H i = none) (hlen : k.len ≤ 1000000) (m : Nat) (ih : ∀ j, j < m → MvP W0 cv j) (hm : cost (.node n p k .nil) ≤ m) (hm2 : m ≤ 4500000) :
    Calls Tryd.prog 42 #[cv, .pointer (some ⟨n, 0, none⟩)] w fun e w' => e = .returned (.tuple #[]) ∧ MvOut H w n p par prev next k w' := by
  obtain ⟨-, -, -, -, -, b5, -, b7, -⟩ := hw.opened hs.1
  have hnl := hw.lt hs.1
  have hkids := childNodes_any hw hs.1 hs.2.1 hlen
  have hst0 := Sw.start hw hs hd hn.2.1 hf.2.1
  have hno := fun (hl : isList p = false) => no_sweep hw hs hd hn.2.1 hf.2.1 hl
  rw [show (rowK false k 0).length = k.len from by rw [← tops_len, ← rowK_tops k 0, List.length_map], rowK_tops] at hkids
  have HKI := Lib.hid hkids
  have HST := Lib.hid hst0
  have HNO := Lib.hid hno
  have HW := Lib.hid (And.intro hw (And.intro hs (And.intro hd (And.intro hn (And.intro hf (And.intro hB hlow))))))
  have HT := Lib.hid hT0
  have HIH := Lib.hid (And.intro ih (And.intro hm hm2))
  have HL := Lib.hid hlen
  clear hkids hst0 hno hw hs hd hn hf hB hlow hT0 ih hm hm2 hlen
  go_enter Tryd.func42, Tryd.ntmps42
  go_upto_region 0 with (fail)
  go_cut [28] from 10 to 28 (fun v wx => v = .bool (isList p) ∧ wx = w)
  case first =>
    by_cases h3 : p.type = 3
    · have h3b : decide (p.type = 3) = true := decide_eq_true h3
      cases hol : (p.data.toList == [111, 108]) with
      | true =>
        have hl : isList p = true := by simp only [isList, h3b, hol, Bool.true_or, Bool.and_true]
        have HLS := Lib.hid hl
        clear hl
        go_wp2_with fail
        go_meet
        rw [HLS.out]
        exact ⟨rfl, rfl⟩
      | false =>
        cases hul : (p.data.toList == [117, 108]) with
        | true =>
          have hl : isList p = true := by simp only [isList, h3b, hol, hul, Bool.or_true, Bool.and_true]
          have HLS := Lib.hid hl
          clear hl
          go_wp2_with fail
          go_meet
          rw [HLS.out]
          exact ⟨rfl, rfl⟩
        | false =>
          have hl : isList p = false := by simp only [isList, h3b, hol, hul, Bool.or_false, Bool.and_false]
          have HLS := Lib.hid hl
          clear hl
          go_wp2_with fail
          go_meet
          rw [HLS.out]
          exact ⟨rfl, rfl⟩
    · have h3b : decide (p.type = 3) = false := decide_eq_false h3
      have hl : isList p = false := by simp only [isList, h3b, Bool.false_and]
      have HLS := Lib.hid hl
      clear hl
      go_wp2_with fail
      go_meet
      rw [HLS.out]
      exact ⟨rfl, rfl⟩
  case rest =>
    obtain ⟨rfl, hwc⟩ := hcut
    obtain rfl : w = wc := hwc.symm
    go_upto_if 28 with (fail)
    go_cut [] from 4 to 89 (fun wx => Swept H w n p par prev next k wx)
    case first =>
      cases hls : isList p with
      | false =>
        have HS0 := Lib.hid (HNO.out hls)
        go_wp2_with fail
        go_meet
        exact HS0.out
      | true =>
        have HLS := Lib.hid hls
        clear hls
        go_wp2_with (go_at_call 67; refine HKI.out.mono ?_; rintro e w1 ⟨Ar, cr, rfl, hrow, hb1⟩; have HROW := Lib.hid hrow; have HB1 := Lib.hid hb1; clear hrow hb1)
        have hrow0 : w1.ownsRow w.heap.size 49 1 (.slice Ar k.len cr) k.len (ptrs (tops k)) := HROW.out
        go_loopg [4, 33] k.len (fun gk v4 v33 wr => ∃ (k0 rest : F Pay) (lp : Option Nat) (K : NMap), v33 = .int .i64 (k0.len : Int) ∧ v4 = ptrV lp ∧ gk = rest.len ∧ k = k0.app rest ∧ Sw H w n p par prev next k k0 rest lp K wr ∧ wr.ownsRow w.heap.size 49 1 (.slice Ar k.len cr) k.len (ptrs (tops k)))
        case atStart => exact ⟨.nil, k, none, H, rfl, rfl, rfl, rfl, HST.out.below HB1.out, hrow0⟩
        case round =>
          clear hrow0
          obtain ⟨k0, rest, lp, K, rfl, rfl, rfl, hkk, hsw, hrowr⟩ := hrel
          have hlk : k0.len + rest.len = k.len := by rw [hkk, F.len_app]
          rcases headOr_cases rest with hg | ⟨d, dq, dk, r, hg⟩
          · subst hg
            have hle : ¬ ((k0.len : Int) < (k.len : Int)) := by simp only [F.len] at hlk; omega
            have HX := Lib.hid (And.intro hsw hkk)
            clear hsw hkk hrowr hlk
            go_wp2_with fail
            go_meet
            have h8 := HX.out.1
            have h9 := HX.out.2
            rw [F.app_nil] at h9
            subst h9
            exact Sw.done h8 HLS.out
          · subst hg
            have h0 : (0 : Int) ≤ (k0.len : Int) := by omega
            have h1 : (k0.len : Int) < (k.len : Int) := by simp only [F.len] at hlk; omega
            obtain ⟨ad, hA, hcell⟩ := row_at hrowr (by rw [tops_len]) (show (tops k)[k0.len]? = some d from by rw [hkk]; exact tops_at k0 d dq dk r)
            subst hA
            obtain ⟨fd, ld, vd, xd, hkd, hh, hty, hsz⟩ := hsw.child
            obtain ⟨-, -, -, -, -, c5, -, c7, -⟩ := hh.opened hkd
            obtain ⟨kkm, hmv⟩ := hsw.mv
            have hlw := hmv.low HW.out.2.2.2.2.2.1 HW.out.2.2.2.2.2.2
            have htr := trim_any dq.data (by omega) wr (tabL_below HT.out hlw.1)
            have HTR := Lib.hid htr
            have HKK := Lib.hid hkk
            have HSW0 := Lib.hid hsw
            have HROWR0 := Lib.hid hrowr
            have HH0 := Lib.hid hh
            have HIX := Lib.hid (next_idx (k := k) k0 d dq dk (by omega) HL.out)
            clear htr hkk hsw hrowr hh hkd hmv hlw hsz
            rcases hty with ht | ht | ht | ht
            · -- a text
              rw [ht] at c5
              have hli2 : isLi dq = false := by simp [isLi, ht]
              cases hbe : (trimB dq.data).toList.isEmpty with
              | true =>
                have hbl : isBl dq = true := by simp only [isBl, ht, hbe]; rfl
                have HBL := Lib.hid hbl
                clear hbl hli2 ht
                go_wp2_with (go_at_call 55; refine HTR.out.mono ?_; rintro e w3 ⟨rfl, hb3⟩; have HB3 := Lib.hid hb3; clear hb3)
                go_roundg r.len
                case measure => simp [F.len]
                case rel => exact ⟨k0.app (.node d dq dk .nil), r, lp, K, HIX.out, rfl, rfl, by rw [F.app_assoc]; exact HKK.out, (HSW0.out.below HB3.out).bl HBL.out, pw_own_below HROWR0.out HB3.out⟩
              | false =>
                have hbl2 : isBl dq = false := by simp only [isBl, ht, hbe]; rfl
                clear ht
                go_upto_if 62 with (go_at_call 55; refine HTR.out.mono ?_; rintro e w3 ⟨rfl, hb3⟩; have HB3 := Lib.hid hb3; clear hb3)
                have HS2 := Lib.hid (HSW0.out.below HB3.out)
                have HH2 := Lib.hid (HH0.out.below HB3.out)
                have HROWR := Lib.hid (pw_own_below HROWR0.out HB3.out)
                have HNB := Lib.hid (not_ok HKK.out hli2 hbl2)
                clear hli2 hbl2
                cases lp with
                | none =>
                  simp only [show ptrV none = .pointer none from rfl]
                  have hwr := sw_wrap HS2.out HNB.out
                  have HWR := Lib.hid (show Calls Tryd.prog 69 #[.pointer (some ⟨d, 0, none⟩), .pointer (some ⟨w3.heap.size, 0, none⟩)] (w3.alloc (.cells #[.pointer none, .pointer none, .pointer none, .pointer none, .pointer none, .int .u32 3, .int .u32 45570, .string ⟨#[108, 105]⟩, .string ⟨#[]⟩, .slice none 0 0] 81 (0, 0))) _ from hwr)
                  clear hwr
                  go_wp2_with (go_at_call 69; refine HWR.out.mono ?_; rintro e w4 ⟨rfl, K4, hsw, hst⟩; have HSW := Lib.hid (And.intro hsw hst); clear hsw hst)
                  go_roundg r.len
                  case measure => simp [F.len]
                  case rel => exact ⟨k0.app (.node d dq dk .nil), r, some w3.heap.size, K4, HIX.out, rfl, rfl, by rw [F.app_assoc]; exact HKK.out, HSW.out.1, own_stays HROWR.out HH2.out HSW.out.2 (by decide)⟩
                | some L =>
                  simp only [show ptrV (some L) = .pointer (some ⟨L, 0, none⟩) from rfl]
                  have hrm := sw_remove HS2.out HKK.out
                  have HRM := Lib.hid hrm
                  clear hrm
                  go_wp2_with (first
                    | (go_at_call 68; refine HRM.out.mono ?_; rintro e w4 ⟨rfl, K4, hsw, hst⟩; have HAP := Lib.hid (fun ho => sw_append (k0 := k0) hsw ho); have HST4 := Lib.hid (And.intro hsw hst); clear hsw hst)
                    | (go_at_call 57; refine (HAP.out HNB.out).mono ?_; rintro e w5 ⟨rfl, K5, hsw, hst⟩; have HSW := Lib.hid (And.intro hsw hst); clear hsw hst))
                  go_roundg r.len
                  case measure => simp [F.len]
                  case rel => exact ⟨k0.app (.node d dq dk .nil), r, some L, K5, HIX.out, rfl, rfl, by rw [F.app_assoc]; exact HKK.out, HSW.out.1, own_stays (own_stays HROWR.out HH2.out HST4.out.2 (by decide)) (sw1_holds HST4.out.1) HSW.out.2 (by decide)⟩
            · rw [ht] at c5
              have hli2 : isLi dq = false := by simp [isLi, ht]
              have hbl2 : isBl dq = false := by simp [isBl, ht]
              have HS2 := HSW0
              have HH2 := HH0
              have HROWR := HROWR0
              clear ht
              have HNB := Lib.hid (not_ok HKK.out hli2 hbl2)
              clear hli2 hbl2
              cases lp with
              | none =>
                simp only [show ptrV none = .pointer none from rfl]
                have hwr := sw_wrap HS2.out HNB.out
                have HWR := Lib.hid (show Calls Tryd.prog 69 #[.pointer (some ⟨d, 0, none⟩), .pointer (some ⟨wr.heap.size, 0, none⟩)] (wr.alloc (.cells #[.pointer none, .pointer none, .pointer none, .pointer none, .pointer none, .int .u32 3, .int .u32 45570, .string ⟨#[108, 105]⟩, .string ⟨#[]⟩, .slice none 0 0] 81 (0, 0))) _ from hwr)
                clear hwr
                go_wp2_with (go_at_call 69; refine HWR.out.mono ?_; rintro e w4 ⟨rfl, K4, hsw, hst⟩; have HSW := Lib.hid (And.intro hsw hst); clear hsw hst)
                go_roundg r.len
                case measure => simp [F.len]
                case rel => exact ⟨k0.app (.node d dq dk .nil), r, some wr.heap.size, K4, HIX.out, rfl, rfl, by rw [F.app_assoc]; exact HKK.out, HSW.out.1, own_stays HROWR.out HH2.out HSW.out.2 (by decide)⟩
              | some L =>
                simp only [show ptrV (some L) = .pointer (some ⟨L, 0, none⟩) from rfl]
                have hrm := sw_remove HS2.out HKK.out
                have HRM := Lib.hid hrm
                clear hrm
                go_wp2_with (first
                  | (go_at_call 68; refine HRM.out.mono ?_; rintro e w4 ⟨rfl, K4, hsw, hst⟩; have HAP := Lib.hid (fun ho => sw_append (k0 := k0) hsw ho); have HST4 := Lib.hid (And.intro hsw hst); clear hsw hst)
                  | (go_at_call 57; refine (HAP.out HNB.out).mono ?_; rintro e w5 ⟨rfl, K5, hsw, hst⟩; have HSW := Lib.hid (And.intro hsw hst); clear hsw hst))
                go_roundg r.len
                case measure => simp [F.len]
                case rel => exact ⟨k0.app (.node d dq dk .nil), r, some L, K5, HIX.out, rfl, rfl, by rw [F.app_assoc]; exact HKK.out, HSW.out.1, own_stays (own_stays HROWR.out HH2.out HST4.out.2 (by decide)) (sw1_holds HST4.out.1) HSW.out.2 (by decide)⟩
            · rw [ht] at c5
              cases hle : (dq.data.toList == [108, 105]) with
              | true =>
                have hli : isLi dq = true := by simp only [isLi, ht, hle]; rfl
                have HLI := Lib.hid hli
                clear hli ht
                go_wp2_with fail
                go_roundg r.len
                case measure => simp [F.len]
                case rel => exact ⟨k0.app (.node d dq dk .nil), r, some d, K, HIX.out, rfl, rfl, by rw [F.app_assoc]; exact HKK.out, HSW0.out.li HLI.out, HROWR0.out⟩
              | false =>
                have hli2 : isLi dq = false := by simp only [isLi, ht, hle]; rfl
                have hbl2 : isBl dq = false := by simp [isBl, ht]
                have HS2 := HSW0
                have HH2 := HH0
                have HROWR := HROWR0
                clear ht
                have HNB := Lib.hid (not_ok HKK.out hli2 hbl2)
                clear hli2 hbl2
                cases lp with
                | none =>
                  simp only [show ptrV none = .pointer none from rfl]
                  have hwr := sw_wrap HS2.out HNB.out
                  have HWR := Lib.hid (show Calls Tryd.prog 69 #[.pointer (some ⟨d, 0, none⟩), .pointer (some ⟨wr.heap.size, 0, none⟩)] (wr.alloc (.cells #[.pointer none, .pointer none, .pointer none, .pointer none, .pointer none, .int .u32 3, .int .u32 45570, .string ⟨#[108, 105]⟩, .string ⟨#[]⟩, .slice none 0 0] 81 (0, 0))) _ from hwr)
                  clear hwr
                  go_wp2_with (go_at_call 69; refine HWR.out.mono ?_; rintro e w4 ⟨rfl, K4, hsw, hst⟩; have HSW := Lib.hid (And.intro hsw hst); clear hsw hst)
                  go_roundg r.len
                  case measure => simp [F.len]
                  case rel => exact ⟨k0.app (.node d dq dk .nil), r, some wr.heap.size, K4, HIX.out, rfl, rfl, by rw [F.app_assoc]; exact HKK.out, HSW.out.1, own_stays HROWR.out HH2.out HSW.out.2 (by decide)⟩
                | some L =>
                  simp only [show ptrV (some L) = .pointer (some ⟨L, 0, none⟩) from rfl]
                  have hrm := sw_remove HS2.out HKK.out
                  have HRM := Lib.hid hrm
                  clear hrm
                  go_wp2_with (first
                    | (go_at_call 68; refine HRM.out.mono ?_; rintro e w4 ⟨rfl, K4, hsw, hst⟩; have HAP := Lib.hid (fun ho => sw_append (k0 := k0) hsw ho); have HST4 := Lib.hid (And.intro hsw hst); clear hsw hst)
                    | (go_at_call 57; refine (HAP.out HNB.out).mono ?_; rintro e w5 ⟨rfl, K5, hsw, hst⟩; have HSW := Lib.hid (And.intro hsw hst); clear hsw hst))
                  go_roundg r.len
                  case measure => simp [F.len]
                  case rel => exact ⟨k0.app (.node d dq dk .nil), r, some L, K5, HIX.out, rfl, rfl, by rw [F.app_assoc]; exact HKK.out, HSW.out.1, own_stays (own_stays HROWR.out HH2.out HST4.out.2 (by decide)) (sw1_holds HST4.out.1) HSW.out.2 (by decide)⟩
            · rw [ht] at c5
              have hli2 : isLi dq = false := by simp [isLi, ht]
              have hbl2 : isBl dq = false := by simp [isBl, ht]
              have HS2 := HSW0
              have HH2 := HH0
              have HROWR := HROWR0
              clear ht
              have HNB := Lib.hid (not_ok HKK.out hli2 hbl2)
              clear hli2 hbl2
              cases lp with
              | none =>
                simp only [show ptrV none = .pointer none from rfl]
                have hwr := sw_wrap HS2.out HNB.out
                have HWR := Lib.hid (show Calls Tryd.prog 69 #[.pointer (some ⟨d, 0, none⟩), .pointer (some ⟨wr.heap.size, 0, none⟩)] (wr.alloc (.cells #[.pointer none, .pointer none, .pointer none, .pointer none, .pointer none, .int .u32 3, .int .u32 45570, .string ⟨#[108, 105]⟩, .string ⟨#[]⟩, .slice none 0 0] 81 (0, 0))) _ from hwr)
                clear hwr
                go_wp2_with (go_at_call 69; refine HWR.out.mono ?_; rintro e w4 ⟨rfl, K4, hsw, hst⟩; have HSW := Lib.hid (And.intro hsw hst); clear hsw hst)
                go_roundg r.len
                case measure => simp [F.len]
                case rel => exact ⟨k0.app (.node d dq dk .nil), r, some wr.heap.size, K4, HIX.out, rfl, rfl, by rw [F.app_assoc]; exact HKK.out, HSW.out.1, own_stays HROWR.out HH2.out HSW.out.2 (by decide)⟩
              | some L =>
                simp only [show ptrV (some L) = .pointer (some ⟨L, 0, none⟩) from rfl]
                have hrm := sw_remove HS2.out HKK.out
                have HRM := Lib.hid hrm
                clear hrm
                go_wp2_with (first
                  | (go_at_call 68; refine HRM.out.mono ?_; rintro e w4 ⟨rfl, K4, hsw, hst⟩; have HAP := Lib.hid (fun ho => sw_append (k0 := k0) hsw ho); have HST4 := Lib.hid (And.intro hsw hst); clear hsw hst)
                  | (go_at_call 57; refine (HAP.out HNB.out).mono ?_; rintro e w5 ⟨rfl, K5, hsw, hst⟩; have HSW := Lib.hid (And.intro hsw hst); clear hsw hst))
                go_roundg r.len
                case measure => simp [F.len]
                case rel => exact ⟨k0.app (.node d dq dk .nil), r, some L, K5, HIX.out, rfl, rfl, by rw [F.app_assoc]; exact HKK.out, HSW.out.1, own_stays (own_stays HROWR.out HH2.out HST4.out.2 (by decide)) (sw1_holds HST4.out.1) HSW.out.2 (by decide)⟩
    case rest =>
      obtain ⟨kk, K, c1, hrd⟩ := Swept.rd hcut
      obtain ⟨u, hu⟩ := ptrV_form (kk.headOr none)
      rw [hu] at c1
      have HU := Lib.hid hu
      have HRD := Lib.hid hrd
      clear hu hrd hcut HKI HST HNO HT HL b5 b7
      go_wp2_with fail
      go_loopg [9] kk.len (fun gk c0 wr => ∃ (d rest : F Pay) (K1 : NMap), c0 = ptrV (rest.headOr none) ∧ gk = rest.len ∧ Rd H w n p par prev next k d rest K1 wr)
      case atStart => exact ⟨.nil, kk, K, HU.out.symm, rfl, HRD.out⟩
      case round =>
        obtain ⟨d, rest, K1, rfl, rfl, hrd1⟩ := hrel
        rcases headOr_cases rest with hg | ⟨c, q, ck, r, hg⟩
        · subst hg
          have HR := Lib.hid hrd1
          clear hrd1
          simp only [show ptrV ((F.nil : F Pay).headOr none) = .pointer none from rfl]
          go_wp2_with fail
          go_end0
          exact ⟨rfl, HR.out.done⟩
        · subst hg
          simp only [show ptrV ((F.node c q ck r).headOr none) = .pointer (some ⟨c, 0, none⟩) from rfl]
          obtain ⟨u4, hu4⟩ := ptrV_form (r.headOr none)
          have hcall := hrd1.call HIH.out.1 HIH.out.2.1 HIH.out.2.2 HW.out.2.2.2.2.2.1 HW.out.2.2.2.2.2.2
          rw [hu4] at hcall
          have HU4 := Lib.hid hu4
          have HC := Lib.hid hcall
          clear hu4 hcall hrd1 HRD
          go_wp2_with (go_at_call 42; refine HC.out.mono ?_; rintro e w4 ⟨rfl, c4, d', K', hrd4⟩; have HR4 := Lib.hid hrd4; clear hrd4)
          go_roundg r.len
          case measure => simp [F.len]
          case rel => exact ⟨d', r, K', HU4.out.symm, rfl, HR4.out⟩
end Go.Proofs.YtlallihdiffheaaDoor.Hand
end
