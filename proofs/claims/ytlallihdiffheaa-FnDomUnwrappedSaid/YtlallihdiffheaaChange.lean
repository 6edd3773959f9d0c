/- dom.RemoveNode and dom.UnwrapNode by hand: what they do to the forest at a path. -/
import Derived.Test.YtlallihdiffheaaPath
import Derived.Test.YtlallihdiffheaaAt
namespace Go.Proofs.Ytlallihdiffheaa.Dom
open Go.RowKit Go.Proofs.YtlallihdiffheaaW.PrintWords Go.Proofs.YtlallihdiffheaaW.PrintLast Go.Proofs.Ytlallihdiffheaa.GT Go.Proofs.Ytlallihdiffheaa.Hand
set_option linter.unusedVariables false
set_option linter.unusedSimpArgs false

/-- What sits somewhere is known by its head. -/
theorem sits_unique {H : NMap} : ∀ (f g : F Pay) (par prev : Option Nat), Sits H par prev none f → Sits H par prev none g → f.headOr none = g.headOr none → f = g
  | .nil, g, par, prev, _, _, h => (F.headOr_none h.symm).symm
  | .node b p k r, .nil, par, prev, _, _, h => by cases h
  | .node b p k r, .node b' p' k' r', par, prev, hf, hg, h => by
    obtain rfl : b = b' := Option.some.inj h
    obtain ⟨h1, h2, h3⟩ := hf
    obtain ⟨g1, g2, g3⟩ := hg
    have e := Option.some.inj (h1.symm.trans g1)
    injection e with _ e1 _ _ e2 e3
    rw [sits_unique k k' _ _ h2 g2 e1, sits_unique r r' _ _ h3 g3 e2, e3]
/-- The node at a path below the root: where it stands among its parent's children. -/
theorem sub_edit {H : NMap} {b : Nat} {p : Pay} {k : F Pay} (hs : Sits H none none none (.node b p k .nil)) (hd : (b :: k.blocks).Nodup) {i : Int} {is : List Int} {c : Nat} {q : Pay} {ck : F Pay} (hsub : subF b p k (i :: is) = some (c, q, ck)) (hn : Neat (.node b p k .nil)) :
    ∃ (n : Nat) (a r : F Pay), (F.node b p k .nil).kidsOf n = some (a.app (.node c q ck r)) ∧ (∀ x : F Pay, (F.node b p k .nil).setKids n (a.app (x.app r)) = .node b p (F.editF x k (i :: is)) .nil) ∧ n ∉ (a.app (.node c q ck r)).blocks ∧ (a.app (.node c q ck r)).blocks.Nodup ∧ H c = some ⟨some n, ck.headOr none, ck.lastOr none, a.lastOr none, r.headOr none, q⟩ := by
  have hat : k.atF b (i :: is) = some c := by rw [subF_at _ b p k, hsub]; rfl
  obtain ⟨n, a, q', ck', r, h1, h2, h3, h4⟩ := F.atF_edit is i b p k hat hd
  obtain ⟨rn, hrn, _, _, hks⟩ := hs.at_kids h1
  obtain ⟨-, hc⟩ := (sits_app H a _ _ _ _).1 hks
  obtain ⟨par, prev, next, hL, -, -, -⟩ := lies hs hn _ _ c q ck rfl hsub
  have e := Option.some.inj (hc.1.symm.trans hL.here)
  injection e with e1 e2 e3 e4 e5 e6
  obtain rfl := sits_unique ck' ck _ _ hc.2.1 hL.kids e2
  subst e6
  exact ⟨n, a, r, h1, h2, h3, h4, hc.1⟩
/-- What a function does to the node at a path: what Z makes of its children stands in its place. -/
def EditSpec (K : Nat) (Z : F Pay → F Pay) : Prop := ∀ (W : World) (H : NMap) (b : Nat) (p : Pay) (k : F Pay) (i : Int) (is : List Int) (c : Nat) (q : Pay) (ck : F Pay), Holds W H → Sits H none none none (.node b p k .nil) → Neat (.node b p k .nil) → (b :: k.blocks).Nodup → subF b p k (i :: is) = some (c, q, ck) → k.blocks.length ≤ 1000000 →
  Calls Try.prog K #[.pointer (some ⟨c, 0, none⟩)] W fun e W' => e = .returned (.tuple #[]) ∧ ∃ H', Holds W' H' ∧ Sits H' none none none (.node b p (F.editF (Z ck) k (i :: is)) .nil) ∧ Stays H W W'
set_option maxRecDepth 100000 in
set_option maxHeartbeats 1600000 in
theorem removeNode_edit : EditSpec 56 (fun _ => .nil) := by
  intro W H b p k i is c q ck hw hs hn hd hsub hl
  obtain ⟨n, a, r, h1, h2, h3, h4, hc⟩ := sub_edit hs hd hsub hn
  obtain ⟨c0, -, -, -, -, -, -, -, -⟩ := hw.opened hc
  simp only [show ptrV (some n) = .pointer (some ⟨n, 0, none⟩) from rfl] at c0
  have HC := Lib.hid (removeChild_sits hw hs (by simpa [F.blocks] using hd) h1)
  have H2 := Lib.hid (h2 .nil)
  clear hw hs hn hd hsub h1 h2 h3 h4 hc
  go_enter Try.func56, Try.ntmps56
  go_wp2_with (go_at_call 102; refine HC.out.mono ?_; rintro e w1 ⟨rfl, H', ht, hs1, -⟩; have HT := Lib.hid ht; have HS1 := Lib.hid hs1; clear ht hs1)
  go_end0
  have h := HS1.out
  have e := H2.out
  rw [show (F.nil : F Pay).app r = r from rfl] at e
  rw [e] at h
  exact ⟨rfl, H', HT.out.holds, h, HT.out.stays⟩
theorem kidsOf_inner {n c : Nat} (hc : c ≠ n) {y : F Pay} : ∀ (f K : F Pay), f.kidsOf n = some K → f.blocks.Nodup → K.kidsOf c = some y → f.kidsOf c = some y
  | .nil, K, h, hd, hk => by cases h
  | .node b p kk r, K, h, hd, hk => by
    simp only [F.blocks, List.nodup_cons, List.nodup_append, List.mem_append, not_or] at hd
    obtain ⟨⟨hbk, hbr⟩, hdk, hdr, hkr⟩ := hd
    have hcK := (F.kidsOf_mem hk).1
    rw [F.kidsOf] at h ⊢
    split at h
    · rename_i e
      obtain rfl := Option.some.inj h
      rw [if_neg (fun e' : b = c => hbk (e' ▸ hcK)), hk]
    · rename_i e
      split at h
      · rename_i z hz
        obtain rfl := Option.some.inj h
        have hck := (F.kidsOf_mem hz).2 c hcK
        rw [if_neg (fun e' : b = c => hbk (e' ▸ hck)), kidsOf_inner hc kk z hz hdk hk]
      · rename_i hz
        have hcr := (F.kidsOf_mem h).2 c hcK
        rw [if_neg (fun e' : b = c => hbr (e' ▸ hcr)), F.kidsOf_out c kk (fun hh => hkr c hh c hcr rfl)]
        exact kidsOf_inner hc r K h hdr hk
theorem setKids_same {n : Nat} : ∀ {f K : F Pay}, f.kidsOf n = some K → f.blocks.Nodup → f.setKids n K = f
  | .nil, K, h, hd => rfl
  | .node b p kk r, K, h, hd => by
    simp only [F.blocks, List.nodup_cons, List.nodup_append, List.mem_append, not_or] at hd
    obtain ⟨⟨hbk, hbr⟩, hdk, hdr, hkr⟩ := hd
    rw [F.kidsOf] at h
    rw [F.setKids]
    split at h
    · rename_i e
      obtain rfl := Option.some.inj h
      rw [if_pos e]
    · rename_i e
      rw [if_neg e]
      split at h
      · rename_i z hz
        obtain rfl := Option.some.inj h
        have hm := (F.kidsOf_mem hz).1
        rw [setKids_same hz hdk, F.setKids_out n _ r (fun hh => hkr n hm n hh rfl)]
      · have hm := (F.kidsOf_mem h).1
        rw [setKids_same h hdr, F.setKids_out n _ kk (fun hh => hkr n hh n hm rfl)]
/-- A node on the way out of its children: some stand ahead of it already. -/
structure Half (H : NMap) (f : F Pay) (n c : Nat) (q : Pay) (a r ck : F Pay) (dn todo : F Pay) (Hj : NMap) (wr : World) : Prop where
  holds : Holds wr Hj
  sits : Sits Hj none none none (f.setKids n (a.app (dn.app (.node c q todo r))))
section
variable {f : F Pay} {n c : Nat} {q : Pay} {a r ck : F Pay} (hd : f.blocks.Nodup) (hk : f.kidsOf n = some (a.app (.node c q ck r)))
include hd hk
theorem half_perm {dn todo : F Pay} (e : ck = dn.app todo) : (a.app (dn.app (.node c q todo r))).blocks.Perm (a.app (.node c q ck r)).blocks := by
  have _h := hd
  subst e
  simp only [F.blocks_app, F.blocks]
  refine List.Perm.append_left _ ?_
  rw [List.append_assoc]
  exact List.perm_middle
theorem half_nodup {dn todo : F Pay} (e : ck = dn.app todo) : (f.setKids n (a.app (dn.app (.node c q todo r)))).blocks.Nodup := by
  have hp := half_perm hd hk e
  exact F.setKids_nodup hk hd ((hp.nodup_iff).2 (F.kidsOf_nodup hk hd).2) (fun b hb => .inl (hp.mem_iff.1 hb))
theorem half_kids {dn todo : F Pay} : (f.setKids n (a.app (dn.app (.node c q todo r)))).kidsOf n = some (a.app (dn.app (.node c q todo r))) := (fun _ => F.kidsOf_setKids n _ f (F.kidsOf_mem hk).1) hd
theorem half_own {dn todo : F Pay} (e : ck = dn.app todo) : c ≠ n ∧ c ∉ a.blocks ∧ c ∉ dn.blocks ∧ (f.setKids n (a.app (dn.app (.node c q todo r)))).kidsOf c = some todo := by
  have hp := half_perm hd hk e
  have hnd := (hp.nodup_iff).2 (F.kidsOf_nodup hk hd).2
  have hcn : c ≠ n := fun h => (F.kidsOf_nodup hk hd).1 (by rw [F.blocks_app, F.blocks]; simp [h])
  have h1 := hnd
  rw [F.blocks_app, F.blocks_app, F.blocks] at h1
  obtain ⟨ha, h2, h3⟩ := List.nodup_append.1 h1
  obtain ⟨hdn, h4, h5⟩ := List.nodup_append.1 h2
  have hca : c ∉ a.blocks := fun h => h3 c h c (by simp) rfl
  have hcd : c ∉ dn.blocks := fun h => h5 c h c (by simp) rfl
  refine ⟨hcn, hca, hcd, kidsOf_inner hcn _ _ (half_kids hd hk) (half_nodup hd hk e) ?_⟩
  rw [F.kidsOf_app c a _ hca, F.kidsOf_app c dn _ hcd, F.kidsOf, if_pos rfl]
/-- What the map says of the node meanwhile. -/
theorem half_at {H : NMap} {dn todo : F Pay} {Hj : NMap} {wr : World} (h : Half H f n c q a r ck dn todo Hj wr) : Hj c = some ⟨some n, todo.headOr none, todo.lastOr none, dn.lastOr (a.lastOr none), r.headOr none, q⟩ := by
  obtain ⟨rn, _, _, _, hks⟩ := h.sits.at_kids (half_kids hd hk)
  obtain ⟨-, h1⟩ := (sits_app Hj a _ _ _ _).1 hks
  obtain ⟨-, h2⟩ := (sits_app Hj dn _ _ _ _).1 h1
  exact h2.1
/-- The next child is taken out. -/
theorem half_out {H : NMap} {dn dk rest : F Pay} {d : Nat} {dq : Pay} {Hj : NMap} {wr : World} (h : Half H f n c q a r ck dn (.node d dq dk rest) Hj wr) (e : ck = dn.app (.node d dq dk rest)) :
    Calls Try.prog 102 #[.pointer (some ⟨c, 0, none⟩), .pointer (some ⟨d, 0, none⟩)] wr fun e w' => e = .returned (.tuple #[]) ∧ ∃ H1, Half H f n c q a r ck dn rest H1 w' ∧ Sits H1 none none none (.node d dq dk .nil) ∧ Stays Hj wr w' ∧ (∀ x, H1 x = none ↔ Hj x = none) := by
  obtain ⟨hcn, hca, hcd, hkc⟩ := half_own hd hk e
  refine (removeChild_sits (a := .nil) h.holds h.sits (half_nodup hd hk e) hkc).mono ?_
  rintro e' w' ⟨rfl, H1, ht, hs1, hs2⟩
  refine ⟨rfl, H1, ⟨ht.holds, ?_⟩, hs2, ht.stays, ht.dom⟩
  have e1 : ((f.setKids n (a.app (dn.app (.node c q (.node d dq dk rest) r)))).setKids c ((F.nil : F Pay).app rest)) = f.setKids n (a.app (dn.app (.node c q rest r))) := by
    rw [F.setKids_inner hcn f _ hk hd (by rw [F.blocks_app, F.blocks]; simp), F.setKids_app c _ a _ hca, F.setKids_app c _ dn _ hcd, F.setKids, if_pos rfl]
    rfl
  rw [e1] at hs1
  exact hs1
/-- And put ahead of the node. -/
theorem half_in {H : NMap} {dn dk rest : F Pay} {d : Nat} {dq : Pay} {H1 : NMap} {wr : World} (h : Half H f n c q a r ck dn rest H1 wr) (e : ck = dn.app (.node d dq dk rest)) (hsd : Sits H1 none none none (.node d dq dk .nil)) :
    Calls Try.prog 107 #[.pointer (some ⟨n, 0, none⟩), .pointer (some ⟨d, 0, none⟩), .pointer (some ⟨c, 0, none⟩)] wr fun e w' => e = .returned (.tuple #[]) ∧ ∃ H2, Half H f n c q a r ck (dn.app (.node d dq dk .nil)) rest H2 w' ∧ Stays H1 wr w' ∧ (∀ x, H2 x = none ↔ H1 x = none) := by
  have hp := half_perm hd hk e
  have hnd := (F.kidsOf_nodup hk hd).2
  have hnn := (F.kidsOf_nodup hk hd).1
  obtain ⟨o, ho1, ho2, ho3⟩ := F.outer f _ hk hd
  have hdis0 := (List.nodup_append.1 ((ho1.nodup_iff).1 hd)).2.2
  -- the children meanwhile: without d's tree
  have hx1 : (a.app (dn.app (.node c q rest r))).blocks.Nodup ∧ n ∉ (a.app (dn.app (.node c q rest r))).blocks ∧ (d :: dk.blocks).Nodup ∧ (∀ x ∈ d :: dk.blocks, x ∉ (f.setKids n (a.app (dn.app (.node c q rest r)))).blocks) ∧ d ≠ n := by
    subst e
    simp only [F.blocks_app, F.blocks] at hnd hnn hdis0
    have hpp : (a.blocks ++ c :: (dn.blocks ++ d :: (dk.blocks ++ rest.blocks) ++ r.blocks)).Perm ((d :: dk.blocks) ++ (a.blocks ++ (dn.blocks ++ c :: (rest.blocks ++ r.blocks)))) := by
      rw [List.perm_iff_count]
      intro x
      simp only [List.count_append, List.count_cons]
      omega
    have h1 := (hpp.nodup_iff).1 hnd
    obtain ⟨h2, h3, h4⟩ := List.nodup_append.1 h1
    have hsub : ∀ x, x ∈ a.blocks ++ (dn.blocks ++ c :: (rest.blocks ++ r.blocks)) → x ∈ a.blocks ++ c :: (dn.blocks ++ d :: (dk.blocks ++ rest.blocks) ++ r.blocks) := fun x hx => hpp.mem_iff.2 (List.mem_append.2 (.inr hx))
    have hsub2 : ∀ x, x ∈ d :: dk.blocks → x ∈ a.blocks ++ c :: (dn.blocks ++ d :: (dk.blocks ++ rest.blocks) ++ r.blocks) := fun x hx => hpp.mem_iff.2 (List.mem_append.2 (.inl hx))
    have eb : (a.app (dn.app (.node c q rest r))).blocks = a.blocks ++ (dn.blocks ++ c :: (rest.blocks ++ r.blocks)) := by simp only [F.blocks_app, F.blocks]
    refine ⟨by rw [eb]; exact h3, by rw [eb]; exact fun hh => hnn (hsub n hh), h2, fun x hx hg => ?_, fun hh => hnn (hsub2 n (by simp [hh]))⟩
    have hg := (ho3 _).mem_iff.1 hg
    rw [eb] at hg
    rcases List.mem_append.1 hg with hg | hg
    · exact hdis0 x hg x (hsub2 x hx) rfl
    · exact h4 x hx x hg rfl
  obtain ⟨hx1, hx2, hx3, hx4, hdn⟩ := hx1
  have hg1d : (f.setKids n (a.app (dn.app (.node c q rest r)))).blocks.Nodup := F.setKids_nodup hk hd hx1 (fun x hx => by
    left
    subst e
    simp only [F.blocks_app, F.blocks, List.mem_append, List.mem_cons] at hx ⊢
    rcases hx with h | h | h | h | h
    · exact .inl h
    · exact .inr (.inr (.inl (.inl h)))
    · exact .inr (.inl h)
    · exact .inr (.inr (.inl (.inr (.inr (.inr h)))))
    · exact .inr (.inr (.inr h)))
  have hkn : (f.setKids n (a.app (dn.app (.node c q rest r)))).kidsOf n = some ((a.app dn).app (.node c q rest r)) := by
    rw [F.app_assoc]
    exact half_kids hd hk
  have hcrec := half_at hd hk h
  have hcn : c ≠ n := fun hh => hx2 (by rw [F.blocks_app, F.blocks_app, F.blocks]; simp [hh])
  obtain ⟨rn, hrn, _, _, hks⟩ := h.sits.at_kids (half_kids hd hk)
  obtain ⟨pn, fn, ln, vn, xn, qn⟩ := rn
  have hall : ∀ x ∈ (a.app (dn.app (.node c q rest r))).blocks, ∃ r, H1 x = some r := fun x hx => hks.has _ _ _ _ x hx
  have hxg : ∀ x ∈ (a.app (dn.app (.node c q rest r))).blocks, x ≠ d := fun x hx e' => hx4 d (by simp) ((ho3 _).mem_iff.2 (List.mem_append.2 (.inr (e' ▸ hx))))
  have hins := insert_sits h.sits hg1d hkn (by rw [F.app_assoc]; exact hx2) (by rw [F.app_assoc]; exact hx1) hsd hx3 hx4
  have hlast : (a.app dn).lastOr none = dn.lastOr (a.lastOr none) := F.lastOr_app a dn none
  refine (insertBefore_any (w := wr) (H := H1) (old := some c) (prev := (a.app dn).lastOr none) h.holds hrn hsd.1 (fun hh => hdn hh.symm) (fun z hz => ?_) (fun hh => by cases hh) (fun l hl => ?_)).mono ?_
  · obtain rfl := Option.some.inj hz
    refine ⟨hxg c (by rw [F.blocks_app, F.blocks_app, F.blocks]; simp), _, hcrec, ?_⟩
    rw [hlast]
  · have hm := (F.lastOr_mem (a.app dn) none l hl).resolve_right (by simp)
    rw [F.blocks_app] at hm
    have hm2 : l ∈ (a.app (dn.app (.node c q rest r))).blocks := by
      rw [F.blocks_app, F.blocks_app]
      simp only [List.mem_append] at hm ⊢
      rcases hm with hm | hm
      · exact .inl hm
      · exact .inr (.inl hm)
    exact ⟨hxg l hm2, hall l hm2⟩
  · rintro e' w' ⟨rfl, ht⟩
    refine ⟨rfl, _, ⟨ht.holds, ?_⟩, ht.stays, ht.dom⟩
    have h1 := hins.1
    rw [F.setKids_setKids] at h1
    have e2 : (a.app dn).app (.node d dq dk (.node c q rest r)) = a.app ((dn.app (.node d dq dk .nil)).app (.node c q rest r)) := by
      rw [F.app_assoc, F.app_assoc]
      rfl
    rw [e2] at h1
    exact h1
/-- At the end the node itself goes. -/
theorem half_end {H : NMap} {dn : F Pay} {Hj : NMap} {wr : World} (h : Half H f n c q a r ck dn .nil Hj wr) (e : ck = dn.app .nil) :
    Calls Try.prog 102 #[.pointer (some ⟨n, 0, none⟩), .pointer (some ⟨c, 0, none⟩)] wr fun e w' => e = .returned (.tuple #[]) ∧ ∃ H1, Holds w' H1 ∧ Sits H1 none none none (f.setKids n (a.app (ck.app r))) ∧ Stays Hj wr w' := by
  have hkn : (f.setKids n (a.app (dn.app (.node c q .nil r)))).kidsOf n = some ((a.app dn).app (.node c q .nil r)) := by
    rw [F.app_assoc]
    exact half_kids hd hk
  refine (removeChild_sits h.holds h.sits (half_nodup hd hk e) hkn).mono ?_
  rintro e' w' ⟨rfl, H1, ht, hs1, -⟩
  refine ⟨rfl, H1, ht.holds, ?_, ht.stays⟩
  rw [F.setKids_setKids, F.app_assoc] at hs1
  rw [e, F.app_nil]
  exact hs1
end
theorem ptrV_form1 (o : Option Nat) : ∃ u, ptrV o = .pointer u := by cases o <;> exact ⟨_, rfl⟩
set_option maxRecDepth 100000 in
set_option maxHeartbeats 3200000 in
theorem unwrapNode_edit : EditSpec 68 (fun ck => ck) := by
  intro W H b p k i is c q ck hw hs hn hd hsub hl
  obtain ⟨n, a, r, h1, h2, h3, h4, hc⟩ := sub_edit hs hd hsub hn
  obtain ⟨c0, c1, -, -, -, -, -, -, -⟩ := hw.opened hc
  simp only [show ptrV (some n) = .pointer (some ⟨n, 0, none⟩) from rfl] at c0
  have hd2 : (F.node b p k .nil).blocks.Nodup := by simpa [F.blocks] using hd
  have hset : (F.node b p k .nil).setKids n (a.app (.node c q ck r)) = .node b p k .nil := by
    have h := F.setKids_setKids n (a.app (.node c q ck r)) (a.app (.node c q ck r)) (.node b p k .nil)
    exact setKids_same h1 hd2
  have hhalf : Half H (.node b p k .nil) n c q a r ck .nil ck H W := ⟨hw, by
    show Sits H none none none ((F.node b p k .nil).setKids n (a.app (.node c q ck r)))
    rw [hset]
    exact hs⟩
  have H2 := Lib.hid (h2 ck)
  have HH := Lib.hid hhalf
  have HD := Lib.hid hd2
  have HK := Lib.hid h1
  obtain ⟨u, hu⟩ := ptrV_form1 (ck.headOr none)
  rw [hu] at c1
  have HU := Lib.hid hu
  clear hw hs hn hd hsub h1 h2 h3 h4 hc hd2 hset hhalf hu
  go_enter Try.func68, Try.ntmps68
  go_wp2
  go_loopg [2] ck.len (fun gk x0 wr => ∃ (dn todo : F Pay) (Hj : NMap), ck = dn.app todo ∧ gk = todo.len ∧ x0 = ptrV (todo.headOr none) ∧ Half H (.node b p k .nil) n c q a r ck dn todo Hj wr ∧ Stays H W wr ∧ (∀ x, Hj x = none ↔ H x = none))
  case atStart => exact ⟨.nil, ck, H, rfl, rfl, HU.out.symm, HH.out, Stays.refl _ _, fun _ => Iff.rfl⟩
  case round =>
    obtain ⟨dn, todo, Hj, he, rfl, rfl, hhalf, hst, hdom⟩ := hrel
    have hrec := half_at HD.out HK.out hhalf
    obtain ⟨m0, m1, -, -, -, -, -, -, -⟩ := hhalf.holds.opened hrec
    simp only [show ptrV (some n) = .pointer (some ⟨n, 0, none⟩) from rfl] at m0
    have HE := Lib.hid he
    have HF := Lib.hid hhalf
    have HST := Lib.hid hst
    have HDOM := Lib.hid hdom
    cases todo with
    | nil =>
      simp only [show ptrV ((F.nil : F Pay).headOr none) = .pointer none from rfl] at m1 ⊢
      clear he hhalf hst hdom hrec c0 c1
      go_wp2_with (go_at_call 102; refine (half_end HD.out HK.out HF.out HE.out).mono ?_; rintro e w1 ⟨rfl, H1, hh1, hs1, hst1⟩; have HR := Lib.hid (And.intro hh1 (And.intro hs1 hst1)); clear hh1 hs1 hst1)
      go_end0
      have e := H2.out
      have h := HR.out.2.1
      rw [e] at h
      exact ⟨rfl, H1, HR.out.1, h, HST.out.trans' HR.out.2.2 (fun x _ hx => (HDOM.out x).2 hx)⟩
    | node d dq dk rest =>
      simp only [show ptrV ((F.node d dq dk rest).headOr none) = .pointer (some ⟨d, 0, none⟩) from rfl] at m1 ⊢
      clear he hhalf hst hdom hrec c0 c1
      go_wp2_with (first
        | (go_at_call 102; refine (half_out HD.out HK.out HF.out HE.out).mono ?_; rintro e w1 ⟨rfl, H1, hh1, hsd, hst1, hdom1⟩; have hrec1 := half_at HD.out HK.out hh1; obtain ⟨r0, -, -, -, -, -, -, -, -⟩ := hh1.holds.opened hrec1; simp only [show ptrV (some n) = .pointer (some ⟨n, 0, none⟩) from rfl] at r0; have HH1 := Lib.hid hh1; have HSD := Lib.hid hsd; have HST1 := Lib.hid (HST.out.trans' hst1 (fun x _ hx => (HDOM.out x).2 hx)); have HDOM1 := Lib.hid (fun x => (hdom1 x).trans (HDOM.out x)); clear hh1 hsd hst1 hdom1 hrec1)
        | (go_at_call 107; refine (half_in HD.out HK.out HH1.out HE.out HSD.out).mono ?_; rintro e w2 ⟨rfl, Hx, hh2, hst2, hdom2⟩; have hrec2 := half_at HD.out HK.out hh2; obtain ⟨-, s1, -, -, -, -, -, -, -⟩ := hh2.holds.opened hrec2; obtain ⟨u2, hu2⟩ := ptrV_form1 (rest.headOr none); rw [hu2] at s1; have HU2 := Lib.hid hu2; have HH2 := Lib.hid hh2; have HST2 := Lib.hid (HST1.out.trans' hst2 (fun x _ hx => (HDOM1.out x).2 hx)); have HDOM2 := Lib.hid (fun x => (hdom2 x).trans (HDOM1.out x)); clear hh2 hst2 hdom2 hrec2 hu2))
      go_roundg rest.len
      case measure => simp [F.len]
      case rel => exact ⟨dn.app (.node d dq dk .nil), rest, Hx, by rw [HE.out, F.app_assoc]; rfl, rfl, HU2.out.symm, HH2.out, HST2.out, HDOM2.out⟩
end Go.Proofs.Ytlallihdiffheaa.Dom
