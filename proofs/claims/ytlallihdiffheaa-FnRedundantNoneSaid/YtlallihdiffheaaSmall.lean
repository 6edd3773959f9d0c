/- Texts that follow one another are one: on forests. Plain Lean, no program in sight. domutils.MergeAdjacentTextNodes by hand: what it does to a forest. Small trees: so many nodes at most, no attributes, texts of 300 bytes at most; their forests. -/
import Derived.Test.YtlallihdiffheaaTold
import Derived.Test.YtlallihdiffheaaForest
import Derived.RegionTactic
namespace Go.Proofs.Ytlallihdiffheaa.Hand
open Go.RowKit Go.Proofs.Ytlallihdiffheaa.GT
set_option linter.unusedVariables false

/-- Whether the last tree is a text. -/
def lastT (d : Bool) : F Pay → Bool
  | .nil => d
  | .node _ p _ r => lastT (p.type == 1) r
def addLast (s : ByteArray) : F Pay → F Pay
  | .nil => .nil
  | .node b p k r => if r.len = 0 then .node b { p with data := p.data ++ s } k .nil else .node b p k (addLast s r)
def mergeG : F Pay → F Pay → F Pay
  | .nil, done => done
  | .node b p k r, done => if ((p.type == 1) && lastT false done) = true then mergeG r (addLast p.data done) else mergeG r (done.app (.node b p (mergeG k .nil) .nil))
theorem lastT_app : ∀ (a g : F Pay) (d : Bool), lastT d (a.app g) = lastT (lastT d a) g
  | .nil, g, d => rfl
  | .node b p k r, g, d => lastT_app r g _
theorem snoc_cases : ∀ f : F Pay, f = .nil ∨ ∃ (a : F Pay) (l : Nat) (q : Pay) (k : F Pay), f = a.app (.node l q k .nil)
  | .nil => .inl rfl
  | .node b p k r => by
    rcases snoc_cases r with h | ⟨a, l, q, k', h⟩
    · exact .inr ⟨.nil, b, p, k, by rw [h]; rfl⟩
    · exact .inr ⟨.node b p k a, l, q, k', by rw [h]; rfl⟩
theorem lastT_snoc (a : F Pay) (l : Nat) (q : Pay) (k : F Pay) (d : Bool) : lastT d (a.app (.node l q k .nil)) = (q.type == 1) := by rw [lastT_app]; rfl
theorem lastOr_snoc (a : F Pay) (l : Nat) (q : Pay) (k : F Pay) (d : Option Nat) : (a.app (.node l q k .nil)).lastOr d = some l := by rw [F.lastOr_app]; rfl
theorem addLast_snoc (s : ByteArray) : ∀ (a : F Pay) (l : Nat) (q : Pay) (k : F Pay), addLast s (a.app (.node l q k .nil)) = a.app (.node l { q with data := q.data ++ s } k .nil)
  | .nil, l, q, k => by simp [F.app, addLast, F.len]
  | .node b p kk r, l, q, k => by
    rw [F.app, addLast, if_neg (by rw [F.len_app]; simp [F.len]), addLast_snoc s r l q k]
    rfl
theorem addLast_blocks (s : ByteArray) : ∀ f : F Pay, (addLast s f).blocks = f.blocks
  | .nil => rfl
  | .node b p k r => by
    rw [addLast]
    split
    · rename_i h
      cases r with
      | nil => rfl
      | node _ _ _ _ => simp [F.len] at h
    · simp only [F.blocks, addLast_blocks s r]
def heft : F Pay → Nat
  | .nil => 0
  | .node _ p k r => (if p.type == 1 then p.data.size else 0) + heft k + heft r
theorem heft_app : ∀ f g : F Pay, heft (f.app g) = heft f + heft g
  | .nil, g => by simp [F.app, heft]
  | .node b p k r, g => by simp only [F.app, heft, heft_app r g]; omega
theorem heft_addLast (s : ByteArray) (f : F Pay) : heft (addLast s f) ≤ heft f + s.size := by
  rcases snoc_cases f with h | ⟨a, l, q, k, h⟩
  · rw [h]; simp [addLast, heft]
  · rw [h, addLast_snoc, heft_app, heft_app]
    simp only [heft, ByteArray.size_append]
    split <;> omega
theorem mergeG_sub : ∀ (f done : F Pay), List.Sublist (mergeG f done).blocks (done.blocks ++ f.blocks)
  | .nil, done => by simp [mergeG, F.blocks]
  | .node b p k r, done => by
    rw [mergeG]
    split
    · refine (mergeG_sub r (addLast p.data done)).trans ?_
      rw [addLast_blocks]
      refine List.Sublist.append_left ?_ _
      simp only [F.blocks]
      exact (List.sublist_append_right _ _).trans (List.sublist_cons_self _ _)
    · refine (mergeG_sub r _).trans ?_
      rw [F.blocks_app]
      simp only [F.blocks, List.append_nil, List.append_assoc, List.cons_append]
      refine List.Sublist.append_left (List.Sublist.cons_cons _ (List.Sublist.append_right ?_ _)) _
      have := mergeG_sub k .nil
      simpa [F.blocks] using this
theorem mergeG_heft : ∀ (f done : F Pay), heft (mergeG f done) ≤ heft done + heft f
  | .nil, done => by simp [mergeG, heft]
  | .node b p k r, done => by
    rw [mergeG]
    split
    · rename_i hc
      have hp : (p.type == 1) = true := (Bool.and_eq_true _ _ ▸ hc).1
      have h1 := mergeG_heft r (addLast p.data done)
      have h2 := heft_addLast p.data done
      simp only [heft]
      rw [hp, if_pos rfl]
      omega
    · have h1 := mergeG_heft r (done.app (.node b p (mergeG k .nil) .nil))
      have h2 := mergeG_heft k .nil
      rw [heft_app] at h1
      simp only [heft] at h1 h2 ⊢
      omega
theorem setPay_out (n : Nat) (q : Pay) : ∀ (f : F Pay), n ∉ f.blocks → f.setPay n q = f
  | .nil, h => rfl
  | .node b p k r, h => by
    simp only [F.blocks, List.mem_cons, List.mem_append, not_or] at h
    rw [F.setPay, if_neg (fun e => h.1 e.symm), setPay_out n q k h.2.1, setPay_out n q r h.2.2]
theorem setPay_app (n : Nat) (q : Pay) : ∀ (f g : F Pay), (f.app g).setPay n q = (f.setPay n q).app (g.setPay n q)
  | .nil, g => rfl
  | .node b p k r, g => by simp only [F.app, F.setPay, setPay_app n q r g]
end Go.Proofs.Ytlallihdiffheaa.Hand
namespace Go.Proofs.Ytlallihdiffheaa.Hand
open Go.RowKit Go.Proofs.YtlallihdiffheaaW.PrintWords Go.Proofs.YtlallihdiffheaaW.PrintLast Go.Proofs.Ytlallihdiffheaa.GT
set_option linter.unusedVariables false
set_option linter.unusedSimpArgs false

/-- What the walk shows of a node's children. -/
def MergeP (k : F Pay) : Prop := ∀ (n : Nat) (p : Pay) (par prev next : Option Nat) (H : NMap) (w : World), Holds w H → Sits H par prev next (.node n p k .nil) → (n :: k.blocks).Nodup → heft k ≤ 1000000000 →
  Calls Try.prog 74 #[.pointer (some ⟨n, 0, none⟩)] w fun e w' => e = .returned (.tuple #[]) ∧ ∃ H', Holds w' H' ∧ Sits H' par prev next (.node n p (mergeG k .nil) .nil) ∧ (∀ x, x ∉ n :: k.blocks → H' x = H x) ∧ Stays H w w' ∧ (∀ x, H' x = none ↔ H x = none)
def AllK (P : F Pay → Prop) : F Pay → Prop
  | .nil => True
  | .node b p k r => P k ∧ AllK P r
theorem allK_app (P : F Pay → Prop) : ∀ (a g : F Pay), AllK P (a.app g) → AllK P g
  | .nil, g, h => h
  | .node b p k r, g, h => allK_app P r g h.2
theorem ptrV_form (o : Option Nat) : ∃ u, ptrV o = .pointer u := by cases o <;> exact ⟨_, rfl⟩
/-- A child's own children are turned. -/
theorem child_sits {H K : NMap} {n c : Nat} {p q : Pay} {a ck ck' r : F Pay} {par prev next : Option Nat} (hs : Sits H par prev next (.node n p (a.app (.node c q ck r)) .nil)) (hd : (n :: (a.app (.node c q ck r)).blocks).Nodup)
    (hK : ∀ x, x ∉ c :: ck.blocks → K x = H x) (hc : Sits K (some n) (a.lastOr none) (r.headOr none) (.node c q ck' .nil)) : Sits K par prev next (.node n p ((a.app (.node c q ck' .nil)).app r) .nil) := by
  obtain ⟨h1, h2, _⟩ := hs
  rw [F.app_assoc]
  rw [F.blocks_app, F.blocks] at hd
  obtain ⟨hn, hd2⟩ := List.nodup_cons.1 hd
  obtain ⟨hda, hdcb, hacb⟩ := List.nodup_append.1 hd2
  obtain ⟨hcb0, hdckb⟩ := List.nodup_cons.1 hdcb
  obtain ⟨hdck, hdr, hckr⟩ := List.nodup_append.1 hdckb
  simp only [List.mem_append, List.mem_cons, not_or] at hn hcb0
  obtain ⟨h3, h4, h5, h6⟩ := (sits_app H a _ _ _ _).1 h2
  refine ⟨?_, (sits_app K a _ _ _ _).2 ⟨h3.congr a _ _ _ fun x hx => hK x ?_, hc.1, hc.2.1, h6.congr r _ _ _ fun x hx => hK x ?_⟩, trivial⟩
  · rw [hK n (by simp [hn.2.1, hn.2.2.1]), h1, F.headOr_app, F.headOr_app, F.lastOr_app, F.lastOr_app]
    rfl
  · intro hh
    exact hacb x hx x (by rcases List.mem_cons.1 hh with hh | hh <;> simp [hh]) rfl
  · intro hh
    rcases List.mem_cons.1 hh with hh | hh
    · exact hcb0.2 (hh ▸ hx)
    · exact hckr x hh x hx rfl
/-- The last child's text is turned. -/
theorem last_sits {H : NMap} {n l : Nat} {p ql : Pay} {a lk g : F Pay} {par prev next : Option Nat} {rl : NRec} (s : ByteArray) (hs : Sits H par prev next (.node n p ((a.app (.node l ql lk .nil)).app g) .nil)) (hd : (n :: ((a.app (.node l ql lk .nil)).app g).blocks).Nodup)
    (hl : H l = some rl) : Sits (upd H l { rl with pay := { ql with data := ql.data ++ s } }) par prev next (.node n p ((addLast s (a.app (.node l ql lk .nil))).app g) .nil) := by
  have h := Sits.setPay (q := { ql with data := ql.data ++ s }) hl _ _ _ _ hs
  rw [F.blocks_app, F.blocks_app, F.blocks] at hd
  obtain ⟨hn, hd2⟩ := List.nodup_cons.1 hd
  obtain ⟨hdl, hdg, hlg⟩ := List.nodup_append.1 hd2
  obtain ⟨hda, hdl2, hal⟩ := List.nodup_append.1 hdl
  obtain ⟨hl0, _⟩ := List.nodup_cons.1 hdl2
  simp only [List.mem_append, List.mem_cons, not_or] at hn
  have e : (F.node l ql lk .nil).setPay l { ql with data := ql.data ++ s } = .node l { ql with data := ql.data ++ s } lk .nil := by
    rw [F.setPay, if_pos rfl, setPay_out l _ lk (fun hh => hl0 (by simp [hh]))]
    rfl
  rw [F.setPay, if_neg (fun e => hn.1.2.1 e), setPay_app, setPay_app, setPay_out l _ a (fun hh => hal l hh l List.mem_cons_self rfl), setPay_out l _ g (fun hh => hlg l (by simp) l hh rfl), e] at h
  rw [addLast_snoc]
  exact h
set_option maxRecDepth 100000 in
set_option maxHeartbeats 3200000 in
theorem merge_step (k : F Pay) (hall : AllK MergeP k) : MergeP k := by
  intro n p par prev next H w hw hs hd hh
  obtain ⟨n0, n1, n2, n3, n4, n5, n6, n7, n9⟩ := hw.opened hs.1
  obtain ⟨u, hu⟩ := ptrV_form (k.headOr none)
  rw [hu] at n1
  have HU := Lib.hid hu
  have HW := Lib.hid hw
  have HS := Lib.hid hs
  have HD := Lib.hid hd
  have HH := Lib.hid hh
  have HA := Lib.hid hall
  clear hw hs hd hh hall hu n0 n2 n3 n4 n5 n6 n7 n9
  go_enter Try.func74, Try.ntmps74
  go_wp2
  go_loopg [2, 3] k.len (fun gk p0 c0 wr => ∃ (k0 rest done : F Pay) (H1 : NMap), p0 = ptrV (done.lastOr none) ∧ c0 = ptrV (rest.headOr none) ∧ gk = rest.len ∧ (k = k0.app rest ∧ mergeG rest done = mergeG k .nil ∧ List.Sublist done.blocks k0.blocks ∧ heft done ≤ heft k0) ∧
    Holds wr H1 ∧ Sits H1 par prev next (.node n p (done.app rest) .nil) ∧ (∀ x, x ∉ n :: k.blocks → H1 x = H x) ∧ Stays H w wr ∧ (∀ x, H1 x = none ↔ H x = none))
  case atStart => exact ⟨.nil, k, .nil, H, rfl, HU.out.symm, rfl, ⟨rfl, rfl, List.Sublist.refl _, Nat.le_refl _⟩, HW.out, HS.out, fun _ _ => rfl, Stays.refl _ _, fun _ => Iff.rfl⟩
  case round =>
    obtain ⟨k0, rest, done, H1, rfl, rfl, rfl, hgh, hw1, hs1, ho1, hst1, hdm1⟩ := hrel
    have HG := Lib.hid hgh
    have HW1 := Lib.hid hw1
    have HS1 := Lib.hid hs1
    have HO1 := Lib.hid ho1
    have HST := Lib.hid hst1
    have HDM := Lib.hid hdm1
    have hnd : (n :: (done.app rest).blocks).Nodup := by
      have h := HD.out
      rw [hgh.1, F.blocks_app] at h
      rw [F.blocks_app]
      exact h.sublist (List.Sublist.cons_cons _ (List.Sublist.append_right hgh.2.2.1 _))
    have HND := Lib.hid hnd
    clear hgh hw1 hs1 ho1 hst1 hdm1 hnd
    rcases headOr_cases rest with hg | ⟨c, q, ck, r, hg⟩
    · subst hg
      simp only [show ptrV ((F.nil : F Pay).headOr none) = .pointer none from rfl]
      obtain ⟨v, hv⟩ := ptrV_form (done.lastOr none)
      rw [hv]
      clear hv
      go_wp2
      go_end0
      have h := HS1.out
      rw [F.app_nil] at h
      have hm : mergeG k .nil = done := HG.out.2.1.symm
      rw [← hm] at h
      exact ⟨rfl, H1, HW1.out, h, HO1.out, HST.out, HDM.out⟩
    · subst hg
      simp only [show ptrV ((F.node c q ck r).headOr none) = .pointer (some ⟨c, 0, none⟩) from rfl]
      obtain ⟨hsd, hc, hck, hsr⟩ := (sits_app H1 done _ _ _ _).1 HS1.out.2.1
      obtain ⟨c0, c1, c2, c3, c4, c5, c6, c7, c9⟩ := HW1.out.opened hc
      obtain ⟨u4, hu4⟩ := ptrV_form (r.headOr none)
      rw [hu4] at c4
      have HU4 := Lib.hid hu4
      have HC := Lib.hid (And.intro hc hck)
      have HAc := Lib.hid (allK_app MergeP k0 _ (HG.out.1 ▸ HA.out))
      clear hsd hc hck hsr hu4 c0 c1 c2 c3 c6 c9
      have hheft : heft (done.app (.node c q ck r)) ≤ 1000000000 := by
        have h1 := HH.out
        rw [HG.out.1, heft_app] at h1
        rw [heft_app]
        have := HG.out.2.2.2
        omega
      have HHF := Lib.hid hheft
      clear hheft
      have hrec : Calls Try.prog 74 #[.pointer (some ⟨c, 0, none⟩)] wr _ := HAc.out.1 c q (some n) (done.lastOr none) (r.headOr none) H1 wr HW1.out ⟨HC.out.1, HC.out.2, trivial⟩ (by
          have h := HND.out
          rw [F.blocks_app, F.blocks] at h
          exact (List.nodup_cons.1 (((List.nodup_cons.1 h).2).sublist (List.sublist_append_right _ _) |> fun h => h.sublist (List.Sublist.cons_cons c (List.sublist_append_left _ _)))) |> fun h2 => List.nodup_cons.2 h2) (by
          have h := HHF.out
          rw [heft_app] at h
          simp only [heft] at h
          omega)
      have HREC := Lib.hid hrec
      clear hrec
      -- behind the recursion
      have hfin : ∀ (w1 : World) (H2 : NMap), Holds w1 H2 → Sits H2 (some n) (done.lastOr none) (r.headOr none) (.node c q (mergeG ck .nil) .nil) → (∀ x, x ∉ c :: ck.blocks → H2 x = H1 x) → Stays H1 wr w1 → (∀ x, H2 x = none ↔ H1 x = none) → ((q.type == 1) && lastT false done) = false →
          ∃ (k0 rest done' : F Pay) (H1 : NMap), ptrV (some c) = ptrV (done'.lastOr none) ∧ Value.pointer u4 = ptrV (rest.headOr none) ∧ r.len = rest.len ∧ (k = k0.app rest ∧ mergeG rest done' = mergeG k .nil ∧ List.Sublist done'.blocks k0.blocks ∧ heft done' ≤ heft k0) ∧
    Holds w1 H1 ∧ Sits H1 par prev next (.node n p (done'.app rest) .nil) ∧ (∀ x, x ∉ n :: k.blocks → H1 x = H x) ∧ Stays H w w1 ∧ (∀ x, H1 x = none ↔ H x = none) := by
        intro w1 H2 a1 a2 a3 a4 a5 a6
        have hg := HG.out
        have hsub := mergeG_sub ck .nil
        have hhf := mergeG_heft ck .nil
        refine ⟨k0.app (.node c q ck .nil), r, done.app (.node c q (mergeG ck .nil) .nil), H2, by rw [lastOr_snoc], HU4.out.symm, rfl, ⟨?_, ?_, ?_, ?_⟩, a1, child_sits HS1.out HND.out a3 a2, fun x hx => ?_, HST.out.trans' a4 (fun i _ hi => (HDM.out i).2 hi), fun x => (a5 x).trans (HDM.out x)⟩
        · rw [F.app_assoc]
          exact hg.1
        · rw [← hg.2.1, mergeG, if_neg (by rw [a6]; decide)]
        · rw [F.blocks_app, F.blocks_app]
          simp only [F.blocks, List.append_nil]
          exact List.Sublist.append hg.2.2.1 (List.Sublist.cons_cons _ (by simpa [F.blocks] using hsub))
        · rw [heft_app, heft_app]
          simp only [heft] at hhf ⊢
          have := hg.2.2.2
          omega
        · rw [a3 x (fun hh => hx (by
            rw [hg.1, F.blocks_app, F.blocks]
            rcases List.mem_cons.1 hh with hh | hh <;> simp [hh])), HO1.out x hx]
      have HFIN := Lib.hid hfin
      clear hfin
      by_cases hq : q.type = 1
      · rw [hq] at c5
        have HQ := Lib.hid hq
        clear hq
        rcases snoc_cases done with hdn | ⟨a, l, ql, lk, hdn⟩
        · have HDN := Lib.hid hdn
          rw [show ptrV (done.lastOr none) = .pointer none by rw [hdn]; rfl]
          clear hdn
          go_wp2_with (go_at_call 74; refine HREC.out.mono ?_; rintro e w1 ⟨rfl, H2, a1, a2, a3, a4, a5⟩; have HF := Lib.hid (HFIN.out w1 H2 a1 a2 a3 a4 a5 (by rw [HDN.out]; simp [lastT])); clear a1 a2 a3 a4 a5)
          go_roundg r.len
          case measure => simp [F.len]
          case rel => exact HF.out
        · have hs2 := HS1.out
          rw [hdn] at hs2
          obtain ⟨hsl, hsg⟩ := (sits_app H1 _ _ _ _ _).1 hs2.2.1
          obtain ⟨hsa, hl, hlk, _⟩ := (sits_app H1 a _ _ _ _).1 hsl
          obtain ⟨l0, l1, l2, l3, l4, l5, l6, l7, l9⟩ := HW1.out.opened hl
          have fl := HW1.out.frozen hl
          have HDN := Lib.hid hdn
          rw [show ptrV (done.lastOr none) = .pointer (some ⟨l, 0, none⟩) by rw [hdn, lastOr_snoc]; rfl]
          have HSL := Lib.hid (And.intro hs2 hl)
          clear hdn hs2 hsl hsg hsa hl hlk l0 l1 l2 l3 l4 l6 l9
          by_cases hql : ql.type = 1
          · rw [hql] at l5
            have HQL := Lib.hid hql
            have hsz : ql.data.size + q.data.size ≤ 1000000000 := by
              have h := HHF.out
              rw [HDN.out, heft_app, heft_app] at h
              simp only [heft] at h
              rw [hql, HQ.out] at h
              simp only [beq_self_eq_true, if_true] at h
              omega
            clear hql
            obtain ⟨W1, K1, hW1, hT1, hS1, hK1⟩ : ∃ (W1 : World) (K1 : NMap), W1 = (wr.setCell ⟨l, 7, none⟩ (.string (ql.data ++ q.data))).drew ∧ Turn H1 K1 wr W1 ∧ Sits K1 par prev next (.node n p ((addLast q.data done).app (.node c q ck r)) .nil) ∧ (∀ x, x ≠ l → K1 x = H1 x) := by
              refine ⟨_, modN H1 l (fun r => { r with pay := { r.pay with data := ql.data ++ q.data } }), rfl, ((Turn.refl HW1.out).data HSL.out.2 (ql.data ++ q.data)).drew, ?_, fun x hx => modN_other _ _ hx⟩
              rw [modN_some HSL.out.2, HDN.out]
              exact last_sits q.data HSL.out.1 (HDN.out ▸ HND.out) HSL.out.2
            have hnd1 : (F.node n p ((addLast q.data done).app (.node c q ck r)) .nil).blocks.Nodup := by
              have h := HND.out
              rw [F.blocks_app] at h
              simp only [F.blocks, List.append_nil]
              rw [F.blocks_app, addLast_blocks]
              exact h
            have hrm := removeChild_sits (n := n) hT1.holds hS1 hnd1 (by rw [F.kidsOf, if_pos rfl])
            rw [hW1] at hrm
            have HRM := Lib.hid hrm
            have HT1 := Lib.hid (And.intro hW1 hT1)
            have HND1 := Lib.hid hnd1
            have HK1 := Lib.hid hK1
            clear hrm hW1 hT1 hS1 hnd1 hK1
            go_wp2
            go_region
            go_wp2_with (go_at_call 102; refine HRM.out.mono ?_; rintro e w2 ⟨rfl, H3, ht3, hs3, -⟩; have HT3 := Lib.hid ht3; have HS3 := Lib.hid hs3; clear ht3 hs3)
            go_roundg r.len
            case measure => simp [F.len]
            case rel =>
              have hg := HG.out
              have hst := HT1.out.2.stays
              rw [HT1.out.1] at hst
              have hT3 := HT3.out
              have hs3 := HS3.out
              rw [F.setKids, if_pos rfl] at hs3
              refine ⟨k0.app (.node c q ck .nil), r, addLast q.data done, H3, ?_, HU4.out.symm, rfl, ⟨?_, ?_, ?_, ?_⟩, hT3.holds, hs3, fun x hx => ?_, ?_, fun x => ?_⟩
              · rw [HDN.out, addLast_snoc, lastOr_snoc]
                rfl
              · rw [F.app_assoc]
                exact hg.1
              · rw [← hg.2.1, mergeG, if_pos]
                rw [HQ.out, HDN.out, lastT_snoc, HQL.out]
                rfl
              · rw [F.blocks_app, addLast_blocks]
                exact hg.2.2.1.trans (List.sublist_append_left _ _)
              · have h1 := heft_addLast q.data done
                rw [heft_app]
                simp only [heft]
                rw [HQ.out]
                simp only [beq_self_eq_true, if_true]
                have := hg.2.2.2
                omega
              · have hsubk : ∀ y ∈ done.blocks, y ∈ k.blocks := fun y hy => by
                  rw [hg.1, F.blocks_app]
                  exact List.mem_append_left _ (hg.2.2.1.mem hy)
                have hxl : x ≠ l := fun e => hx (List.mem_cons_of_mem _ (hsubk x (by rw [HDN.out, F.blocks_app, e]; simp [F.blocks])))
                rw [hT3.others x ?_, HK1.out x hxl, HO1.out x hx]
                intro hh
                simp only [F.blocks, List.append_nil] at hh
                rw [F.blocks_app, addLast_blocks] at hh
                rcases List.mem_cons.1 hh with hh | hh
                · exact hx (by simp [hh])
                · rcases List.mem_append.1 hh with hh | hh
                  · exact hx (List.mem_cons_of_mem _ (hsubk x hh))
                  · exact hx (List.mem_cons_of_mem _ (by rw [hg.1, F.blocks_app]; exact List.mem_append_right _ hh))
              · exact HST.out.trans' ((hst.trans' hT3.stays (fun i _ hi => (HT1.out.2.dom i).2 hi))) (fun i _ hi => (HDM.out i).2 hi)
              · exact (hT3.dom x).trans ((HT1.out.2.dom x).trans (HDM.out x))
          · have HQL := Lib.hid hql
            go_wp2_with (go_at_call 74; refine HREC.out.mono ?_; rintro e w1 ⟨rfl, H2, a1, a2, a3, a4, a5⟩; have HF := Lib.hid (HFIN.out w1 H2 a1 a2 a3 a4 a5 (by rw [HDN.out, lastT_snoc, beq_eq_false_iff_ne.2 HQL.out, Bool.and_false])); clear a1 a2 a3 a4 a5)
            go_roundg r.len
            case measure => simp [F.len]
            case rel => exact HF.out
      · obtain ⟨v, hv⟩ := ptrV_form (done.lastOr none)
        rw [hv]
        have HQ := Lib.hid hq
        clear hv
        go_wp2_with (go_at_call 74; refine HREC.out.mono ?_; rintro e w1 ⟨rfl, H2, a1, a2, a3, a4, a5⟩; have HF := Lib.hid (HFIN.out w1 H2 a1 a2 a3 a4 a5 (by rw [beq_eq_false_iff_ne.2 HQ.out, Bool.false_and])); clear a1 a2 a3 a4 a5)
        go_roundg r.len
        case measure => simp [F.len]
        case rel => exact HF.out
theorem merge_both : ∀ f : F Pay, MergeP f ∧ AllK MergeP f
  | .nil => ⟨merge_step .nil trivial, trivial⟩
  | .node b p k r => by
    have h1 := merge_both k
    have h2 := merge_both r
    have h3 : AllK MergeP (.node b p k r) := ⟨h1.1, h2.2⟩
    exact ⟨merge_step _ h3, h3⟩
theorem merge_any (k : F Pay) : MergeP k := (merge_both k).1
end Go.Proofs.Ytlallihdiffheaa.Hand
namespace Go.Proofs.Ytlallihdiffheaa.Hand
open Go.RowKit Go.Proofs.Ytlallihdiffheaa.GT
set_option linter.unusedVariables false

mutual
inductive Sm : Nat → S25 → Prop
  | text (t : ByteArray) (h : t.size ≤ 300) : Sm 1 ⟨1, ⟨#[]⟩, t, [], []⟩
  | comment (t : ByteArray) (h : t.size ≤ 300) : Sm 1 ⟨2, ⟨#[]⟩, t, [], []⟩
  | elem (n : Nat) (name : ByteArray) (kids : List S25) (h : SmL n kids) : Sm (n + 1) ⟨0, name, ⟨#[]⟩, [], kids⟩
inductive SmL : Nat → List S25 → Prop
  | nil : SmL 0 []
  | cons (m n : Nat) (y : S25) (l : List S25) (hy : Sm m y) (hl : SmL n l) : SmL (m + n) (y :: l)
end
theorem SmL.snoc {m : Nat} {y : S25} (hy : Sm m y) : ∀ {l : List S25} {n : Nat}, SmL n l → SmL (n + m) (l ++ [y])
  | [], _, .nil => by
    have := SmL.cons m 0 y [] hy .nil
    rw [Nat.zero_add]
    exact this
  | z :: l, _, .cons a b _ _ hz hl => by
    have := SmL.snoc hy hl
    rw [Nat.add_assoc]
    exact .cons a (b + m) z (l ++ [y]) hz this
theorem SmL.mem : ∀ {l : List S25} {n : Nat}, SmL n l → ∀ y ∈ l, ∃ m, Sm m y
  | [], _, .nil, y, h => by cases h
  | z :: l, _, .cons a b _ _ hz hl, y, h => by
    rcases List.mem_cons.1 h with rfl | h
    · exact ⟨a, hz⟩
    · exact SmL.mem (n := b) hl y h
/-- A forest that tells small trees. -/
theorem sm_forest : ∀ (f : F Pay) (n : Nat), Neat f → SmL n (erase f) → f.blocks.length ≤ n ∧ heft f ≤ 300 * n ∧ Plain f
  | .nil, n, _, _ => ⟨Nat.zero_le _, Nat.zero_le _, trivial⟩
  | .node b p k r, n, hn, h => by
    obtain ⟨h1, h2, h3⟩ := hn
    cases h with
    | cons a c _ _ hy hl =>
      obtain ⟨r1, r2, r3⟩ := sm_forest r c h3 hl
      rcases h1 with ⟨ht, hk⟩ | ⟨ht, hk⟩ | ht | ht
      · subst hk
        have e : nodeOf p (erase .nil) = ⟨1, ⟨#[]⟩, p.data, [], []⟩ := by simp [nodeOf, ht]
        rw [e] at hy
        cases hy with
        | text _ hs =>
          refine ⟨by simp only [F.blocks, List.length_cons, List.length_append, List.length_nil]; omega, ?_, .inl ht, trivial, r3⟩
          simp only [heft]
          rw [ht]
          simp only [beq_self_eq_true, if_true]
          omega
      · subst hk
        have e : nodeOf p (erase .nil) = ⟨2, ⟨#[]⟩, p.data, [], []⟩ := by simp [nodeOf, ht]
        rw [e] at hy
        cases hy with
        | comment _ hs =>
          refine ⟨by simp only [F.blocks, List.length_cons, List.length_append, List.length_nil]; omega, ?_, .inr (.inr ht), trivial, r3⟩
          simp only [heft]
          rw [ht]
          simp only [show ((4 : Int) == 1) = false from rfl, Bool.false_eq_true, if_false]
          omega
      · have e : nodeOf p (erase k) = ⟨0, p.data, ⟨#[]⟩, p.attrs.map attrTo, erase k⟩ := by simp [nodeOf, ht]
        rw [e] at hy
        generalize hat : p.attrs.map attrTo = at0 at hy
        generalize hek : erase k = ek at hy
        cases hy with
        | elem m _ _ hk =>
          subst hek
          obtain ⟨q1, q2, q3⟩ := sm_forest k m h2 hk
          refine ⟨by simp only [F.blocks, List.length_cons, List.length_append]; omega, ?_, .inr (.inl ⟨ht, by simpa using hat⟩), q3, r3⟩
          simp only [heft]
          rw [ht]
          simp only [show ((3 : Int) == 1) = false from rfl, Bool.false_eq_true, if_false]
          omega
      · have e : nodeOf p (erase k) = ⟨3, ⟨#[]⟩, ⟨#[]⟩, [], erase k⟩ := by simp [nodeOf, ht]
        rw [e] at hy
        cases hy
mutual
theorem Sm.wf : ∀ {n : Nat} {x : S25}, Sm n x → WF0 x
  | _, _, .text t h => .text t
  | _, _, .comment t h => .comment t
  | _, _, .elem n name kids h => .elem name kids (SmL.wf h)
theorem SmL.wf : ∀ {n : Nat} {l : List S25}, SmL n l → ∀ y ∈ l, WF0 y
  | _, _, .nil, y, h => by cases h
  | _, _, .cons m n z l hz hl, y, h => by
    rcases List.mem_cons.1 h with h | h
    · rw [h]
      exact Sm.wf hz
    · exact SmL.wf hl y h
end
end Go.Proofs.Ytlallihdiffheaa.Hand
