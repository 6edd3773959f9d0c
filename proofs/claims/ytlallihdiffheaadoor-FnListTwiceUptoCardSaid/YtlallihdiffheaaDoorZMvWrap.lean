import Derived.Test.YtlallihdiffheaaDoorForest
section
/- AppendChild and InsertBefore over a forest: a tree that stands alone becomes a node's last child, or a child ahead of another one. -/
namespace Go.Proofs.YtlallihdiffheaaDoor.Hand
open Go.RowKit Go.Proofs.YtlallihdiffheaaDoorW.PrintWords Go.Proofs.YtlallihdiffheaaDoorW.PrintLast
set_option linter.unusedVariables false
set_option linter.unusedSimpArgs false

/-- What becomes of the map when one tree is laid into a forest. -/
structure Laid (H : NMap) (w : World) (f : F Pay) (c : Nat) (K : NMap) (w' : World) : Prop where
  holds : Holds w' K
  stays : Stays H w w'
  dom : ∀ x, K x = none ↔ H x = none
  others : ∀ x, x ∉ f.blocks → x ≠ c → K x = H x
theorem appendChild_sits {w : World} {H : NMap} {f lk ck : F Pay} {L c : Nat} {q : Pay} {par prev next : Option Nat} (hw : Holds w H) (hs : Sits H par prev next f) (hd : f.blocks.Nodup) (hk : f.kidsOf L = some lk)
    (hc : Sits H none none none (.node c q ck .nil)) (hcd : (c :: ck.blocks).Nodup) (hdis : ∀ x ∈ c :: ck.blocks, x ∉ f.blocks) :
    Calls Tryd.prog 57 #[.pointer (some ⟨L, 0, none⟩), .pointer (some ⟨c, 0, none⟩)] w fun e w' => e = .returned (.tuple #[]) ∧ ∃ K, Laid H w f c K w' ∧ Sits K par prev next (f.setKids L (lk.app (.node c q ck .nil))) := by
  have hk2 : f.kidsOf L = some (lk.app .nil) := by rw [F.app_nil]; exact hk
  obtain ⟨hnk, hdk⟩ := F.kidsOf_nodup hk hd
  have hm := F.kidsOf_mem hk
  obtain ⟨hi1, hi2⟩ := insert_sits hs hd hk2 (by rw [F.app_nil]; exact hnk) (by rw [F.app_nil]; exact hdk) hc hcd hdis
  obtain ⟨rn, hn, e1, e2, hks⟩ := hs.at_kids hk
  obtain ⟨pn, fn, ln, vn, xn, qn⟩ := rn
  have hLc : L ≠ c := fun e => hdis c (by simp) (e ▸ hm.1)
  have e2' : ln = lk.lastOr none := e2
  subst e2'
  refine (appendChild_any hw hn hc.1 hLc ?_).mono ?_
  · intro l hl
    have hlm : l ∈ lk.blocks := by
      rcases F.lastOr_mem lk none l hl with h | h
      · exact h
      · cases h
    exact ⟨fun e => hdis c (by simp) (e ▸ hm.2 l hlm), hs.has _ _ _ _ l (hm.2 l hlm)⟩
  · rintro e w' ⟨h1, ht⟩
    exact ⟨h1, _, ⟨ht.holds, ht.stays, ht.dom, hi2⟩, hi1⟩
theorem insertBefore_sits {w : World} {H : NMap} {f a r ck dk : F Pay} {n c d : Nat} {q dq : Pay} {par prev next : Option Nat} (hw : Holds w H) (hs : Sits H par prev next f) (hd : f.blocks.Nodup) (hk : f.kidsOf n = some (a.app (.node d dq dk r)))
    (hc : Sits H none none none (.node c q ck .nil)) (hcd : (c :: ck.blocks).Nodup) (hdis : ∀ x ∈ c :: ck.blocks, x ∉ f.blocks) :
    Calls Tryd.prog 88 #[.pointer (some ⟨n, 0, none⟩), .pointer (some ⟨c, 0, none⟩), .pointer (some ⟨d, 0, none⟩)] w fun e w' => e = .returned (.tuple #[]) ∧ ∃ K, Laid H w f c K w' ∧ Sits K par prev next (f.setKids n (a.app (.node c q ck (.node d dq dk r)))) := by
  obtain ⟨hnk, hdk⟩ := F.kidsOf_nodup hk hd
  have hm := F.kidsOf_mem hk
  obtain ⟨hi1, hi2⟩ := insert_sits hs hd hk hnk hdk hc hcd hdis
  obtain ⟨rn, hn, e1, e2, hks⟩ := hs.at_kids hk
  obtain ⟨pn, fn, ln, vn, xn, qn⟩ := rn
  have hnc : n ≠ c := fun e => hdis c (by simp) (e ▸ hm.1)
  obtain ⟨hsa, hsd⟩ := (sits_app H a _ _ _ _).1 hks
  refine (insertBefore_any (old := some d) (prev := a.lastOr none) hw hn hc.1 hnc ?_ (fun h => by cases h) ?_).mono ?_
  · intro o ho
    obtain rfl := Option.some.inj ho
    refine ⟨fun e => hdis c (by simp) (e ▸ hm.2 d (by rw [F.blocks_app]; simp [F.blocks])), _, hsd.1, rfl⟩
  · intro l hl
    have hlm : l ∈ a.blocks := by
      rcases F.lastOr_mem a none l hl with h | h
      · exact h
      · cases h
    have hlf := hm.2 l (by rw [F.blocks_app]; exact List.mem_append_left _ hlm)
    exact ⟨fun e => hdis c (by simp) (e ▸ hlf), hs.has _ _ _ _ l hlf⟩
  · rintro e w' ⟨h1, ht⟩
    exact ⟨h1, _, ⟨ht.holds, ht.stays, ht.dom, hi2⟩, hi1⟩
theorem one_kids (n : Nat) (p : Pay) (k : F Pay) : (F.node n p k .nil).kidsOf n = some k := by simp [F.kidsOf]
theorem one_set (n : Nat) (p : Pay) (k x : F Pay) : (F.node n p k .nil).setKids n x = .node n p x .nil := by simp [F.setKids]
theorem in_kids {n L : Nat} (hL : L ≠ n) (p ql : Pay) (a lk b : F Pay) (ha : L ∉ a.blocks) : (F.node n p (a.app (.node L ql lk b)) .nil).kidsOf L = some lk := by
  have h := F.kidsOf_app L a (.node L ql lk b) ha
  simp only [F.kidsOf, if_neg (Ne.symm hL)]
  rw [h]
  simp [F.kidsOf]
theorem in_set {n L : Nat} (hL : L ≠ n) (p ql : Pay) (a lk b x : F Pay) (ha : L ∉ a.blocks) : (F.node n p (a.app (.node L ql lk b)) .nil).setKids L x = .node n p (a.app (.node L ql x b)) .nil := by
  have h := F.setKids_app L x a (.node L ql lk b) ha
  simp only [F.setKids, if_neg (Ne.symm hL)]
  rw [h]
  simp [F.setKids]
end Go.Proofs.YtlallihdiffheaaDoor.Hand
end
section
/- dom.WrapNode over a forest: a child gets a new node around it. -/
namespace Go.Proofs.YtlallihdiffheaaDoor.Hand
open Go.RowKit Go.Proofs.YtlallihdiffheaaDoorW.PrintWords Go.Proofs.YtlallihdiffheaaDoorW.PrintLast
set_option linter.unusedVariables false
set_option linter.unusedSimpArgs false

theorem nodup_ins {n nn : Nat} {a X : F Pay} {lq : Pay} (h : (n :: (a.app X).blocks).Nodup) (hn : nn ∉ n :: (a.app X).blocks) : (n :: (a.app (.node nn lq .nil X)).blocks).Nodup := by
  have hp : (n :: (a.app (.node nn lq .nil X)).blocks).Perm (nn :: (n :: (a.app X).blocks)) := by
    simp only [F.blocks_app, F.blocks, List.nil_append]
    exact (List.Perm.cons n List.perm_middle).trans (List.Perm.swap _ _ _)
  rw [hp.nodup_iff]
  exact List.nodup_cons.2 ⟨hn, h⟩
theorem Stays.after {H K : NMap} {a b c : World} (h : Stays H a b) (k : Stays K b c) (hd : ∀ x, K x = none ↔ H x = none) : Stays H a c := h.trans' k (fun i _ hi => (hd i).2 hi)
set_option maxRecDepth 100000 in
set_option maxHeartbeats 1600000 in
theorem wrapNode_any {w : World} {H : NMap} {n nn c : Nat} {p q lq : Pay} {a r ck : F Pay} {par prev next : Option Nat} (hw : Holds w H) (hs : Sits H par prev next (.node n p (a.app (.node c q ck r)) .nil))
    (hd : (n :: (a.app (.node c q ck r)).blocks).Nodup) (hnn : Sits H none none none (.node nn lq .nil .nil)) (hnew : nn ∉ n :: (a.app (.node c q ck r)).blocks) :
    Calls Tryd.prog 69 #[.pointer (some ⟨c, 0, none⟩), .pointer (some ⟨nn, 0, none⟩)] w fun e w' => e = .returned (.pointer (some ⟨nn, 0, none⟩)) ∧ ∃ K, Holds w' K ∧ Stays H w w' ∧ (∀ x, K x = none ↔ H x = none) ∧ (∀ x, x ∉ n :: (a.app (.node c q ck r)).blocks → x ≠ nn → K x = H x) ∧ Sits K par prev next (.node n p (a.app (.node nn lq (.node c q ck .nil) r)) .nil) := by
  have hfb : ∀ X : F Pay, (F.node n p X .nil).blocks = n :: X.blocks := fun X => by simp [F.blocks]
  have hd0 : (F.node n p (a.app (.node c q ck r)) .nil).blocks.Nodup := by rw [hfb]; exact hd
  have hdn := nodup_ins (lq := lq) hd hnew
  -- the three contracts
  have h1 := insertBefore_sits hw hs hd0 (one_kids n p _) hnn (by simp [F.blocks]) (fun x hx => by
    have : x = nn := by simpa [F.blocks] using hx
    rw [this, hfb]
    exact hnew)
  simp only [one_set] at h1
  have h2 := fun (K1 : NMap) (w1 : World) (hK : Laid H w (.node n p (a.app (.node c q ck r)) .nil) nn K1 w1) (hs1 : Sits K1 par prev next (.node n p (a.app (.node nn lq .nil (.node c q ck r))) .nil)) =>
    removeChild_sits (a := a.app (.node nn lq .nil .nil)) (b := r) (ck := ck) (c := c) (q := q) (n := n) hK.holds hs1 (by rw [hfb]; exact hdn) (by rw [one_kids, F.app_assoc]; rfl)
  have hnnn : nn ≠ n := fun e => hnew (by rw [e]; simp)
  have hnna : nn ∉ a.blocks := fun h => hnew (by rw [F.blocks_app]; simp [h])
  obtain ⟨hnn1, hdk⟩ := List.nodup_cons.1 hd
  rw [F.blocks_app, F.blocks] at hdk hnn1
  obtain ⟨hda, hdc, hac⟩ := List.nodup_append.1 hdk
  obtain ⟨hc0, hdcr⟩ := List.nodup_cons.1 hdc
  obtain ⟨hdck, hdr, hckr⟩ := List.nodup_append.1 hdcr
  simp only [List.mem_append, List.mem_cons, not_or] at hnn1 hc0
  have hcout : ∀ x ∈ c :: ck.blocks, x ∉ (F.node n p (a.app (.node nn lq .nil r)) .nil).blocks := by
    intro x hx
    rw [hfb, F.blocks_app, F.blocks, F.blocks]
    simp only [List.mem_append, List.mem_cons, List.nil_append, not_or]
    have hxf : x ∈ n :: (a.app (.node c q ck r)).blocks := by
      rw [F.blocks_app, F.blocks]
      rcases List.mem_cons.1 hx with h | h <;> simp [h]
    refine ⟨?_, ?_, fun e => hnew (e ▸ hxf), ?_⟩
    · intro e
      rcases List.mem_cons.1 hx with h | h
      · exact hnn1.2.1 (by rw [← e, h])
      · exact hnn1.2.2.1 (e ▸ h)
    · intro h
      exact hac x h x (by rcases List.mem_cons.1 hx with h | h <;> simp [h]) rfl
    · intro h
      rcases List.mem_cons.1 hx with h9 | h9
      · exact hc0.2 (h9 ▸ h)
      · exact hckr x h9 x h rfl
  have hd2 : (F.node n p (a.app (.node nn lq .nil r)) .nil).blocks.Nodup := by
    rw [hfb]
    refine nodup_ins (lq := lq) ?_ (fun h => hnew ?_)
    · rw [F.blocks_app]
      refine List.nodup_cons.2 ⟨by simp only [List.mem_append, not_or]; exact ⟨hnn1.1, hnn1.2.2.2⟩, List.nodup_append.2 ⟨hda, hdr, fun x hx y hy => hac x hx y (by simp [hy])⟩⟩
    · rw [F.blocks_app] at h ⊢
      rw [F.blocks]
      rcases List.mem_cons.1 h with h | h
      · simp [h]
      · rcases List.mem_append.1 h with h | h <;> simp [h]
  have h3 := fun (K2 : NMap) (w2 : World) (hK : Holds w2 K2) (hs2 : Sits K2 par prev next (.node n p (a.app (.node nn lq .nil r)) .nil)) (hsc : Sits K2 none none none (.node c q ck .nil)) =>
    appendChild_sits (L := nn) (lk := .nil) hK hs2 hd2 (in_kids hnnn p lq a .nil r hnna) hsc (List.nodup_cons.2 ⟨hc0.1, hdck⟩) hcout
  simp only [in_set hnnn p lq a .nil r _ hnna, F.app] at h3
  simp only [one_set, F.app_assoc, F.app] at h2
  have c0 := (hw.opened ((sits_app H a _ _ _ _).1 hs.2.1).2.1).1
  have hcp : ∀ (K : NMap) (W : World), Holds W K → Sits K par prev next (.node n p (a.app (.node nn lq .nil (.node c q ck r))) .nil) → W.cell? ⟨c, 0, none⟩ = some (.pointer (some ⟨n, 0, none⟩)) := fun K W hK hS => by
    have h := ((sits_app K a _ _ _ _).1 hS.2.1).2.2.2.1
    exact (hK.opened h).1
  have H1 := Lib.hid h1
  have H2 := Lib.hid h2
  have H3 := Lib.hid h3
  have HCP := Lib.hid hcp
  have hout : ∀ (K1 K2 K3 : NMap) (w1 w2 w3 : World), Laid H w (.node n p (a.app (.node c q ck r)) .nil) nn K1 w1 → Turned K1 w1 (.node n p (a.app (.node nn lq .nil (.node c q ck r))) .nil) K2 w2 → Laid K2 w2 (.node n p (a.app (.node nn lq .nil r)) .nil) c K3 w3 →
      Holds w3 K3 ∧ Stays H w w3 ∧ (∀ x, K3 x = none ↔ H x = none) ∧ (∀ x, x ∉ n :: (a.app (.node c q ck r)).blocks → x ≠ nn → K3 x = H x) := by
    intro K1 K2 K3 w1 w2 w3 a1 a2 a3
    refine ⟨a3.holds, (a1.stays.after a2.stays a1.dom).after a3.stays (fun x => (a2.dom x).trans (a1.dom x)), fun x => (a3.dom x).trans ((a2.dom x).trans (a1.dom x)), fun x hx hne => ?_⟩
    rw [F.blocks_app, F.blocks] at hx
    simp only [List.mem_cons, List.mem_append, not_or] at hx
    rw [a3.others x (by rw [hfb, F.blocks_app, F.blocks, F.blocks]; simp [hx, hne]) hx.2.2.1, a2.others x (by rw [hfb, F.blocks_app, F.blocks, F.blocks, F.blocks]; simp [hx, hne]), a1.others x (by rw [hfb, F.blocks_app, F.blocks]; simp [hx]) hne]
  have HOUT := Lib.hid hout
  clear h1 h2 h3 hcp hout hw hs hd hnn hnew hfb hd0 hdn hnnn hnna hnn1 hdk hda hdc hac hc0 hdcr hdck hdr hckr hcout hd2
  simp only [ptrV] at c0
  go_enter Tryd.func69, Tryd.ntmps69
  go_wp2_with (first
    | (go_at_call 88; refine H1.out.mono ?_; rintro e w1 ⟨rfl, K1, hl1, hs1⟩; have c1 := HCP.out K1 w1 hl1.holds hs1; have HL1 := Lib.hid (And.intro hl1 hs1); clear hl1 hs1)
    | (go_at_call 68; refine (H2.out K1 w1 HL1.out.1 HL1.out.2).mono ?_; rintro e w2 ⟨rfl, K2, ht2, hs2, hc2⟩; have HL2 := Lib.hid (And.intro ht2 (And.intro hs2 hc2)); clear ht2 hs2 hc2)
    | (go_at_call 57; refine (H3.out K2 w2 HL2.out.1.holds HL2.out.2.1 HL2.out.2.2).mono ?_; rintro e w3 ⟨rfl, K3, hl3, hs3⟩; have HL3 := Lib.hid (And.intro hl3 hs3); clear hl3 hs3))
  go_ret
  obtain ⟨b1, b2, b3, b4⟩ := HOUT.out K1 K2 K3 w1 w2 w3 HL1.out.1 HL2.out.1 HL3.out.1
  exact ⟨rfl, K3, b1, b2, b3, b4, HL3.out.2⟩
end Go.Proofs.YtlallihdiffheaaDoor.Hand
end
