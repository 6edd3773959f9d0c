/- impl.Neighbor by hand. -/
import Derived.Test.YtlallihdiffheaaNeighbor
namespace Go.Proofs.Ytlallihdiffheaa.Dom
open Go.RowKit Go.Proofs.YtlallihdiffheaaW.PrintWords Go.Proofs.YtlallihdiffheaaW.PrintLast Go.Proofs.YtlallihdiffheaaW.PrintMore Go.Proofs.Ytlallihdiffheaa.GT Go.Proofs.Ytlallihdiffheaa.Hand
set_option linter.unusedVariables false
set_option linter.unusedSimpArgs false

theorem neighborKind_any {w : World} {H : NMap} {b : Nat} {p : Pay} {k : F Pay} (hw : Holds w H) (hs : Sits H none none none (.node b p k .nil)) (hn : Neat (.node b p k .nil)) {js : List Int} {c : Nat} {q : Pay} {ck : F Pay} (hsub : subF b p k js = some (c, q, ck)) {kd : Int} {t : Option Bool × Bool × Bool} (hk : kindOf kd = some t) :
    Calls Try.prog 71 #[.pointer (some ⟨c, 0, none⟩), .int .i64 kd] w fun en w' => en = .returned (ptrV ((nearK t.1 t.2.1 t.2.2 b p k js ck).map Prod.fst)) ∧ Below w.heap.size w w' := by
  unfold kindOf at hk
  split at hk
  · rename_i e; subst e; obtain rfl := Option.some.inj hk; exact neighbor0_any hw hs hn hsub
  split at hk
  · rename_i e; subst e; obtain rfl := Option.some.inj hk; exact neighbor1_any hw hs hn hsub
  split at hk
  · rename_i e; subst e; obtain rfl := Option.some.inj hk; exact neighbor2_any hw hs hn hsub
  split at hk
  · rename_i e; subst e; obtain rfl := Option.some.inj hk; exact neighbor3_any hw hs hn hsub
  split at hk
  · rename_i e; subst e; obtain rfl := Option.some.inj hk; exact neighbor4_any hw hs hn hsub
  split at hk
  · rename_i e; subst e; obtain rfl := Option.some.inj hk; exact neighbor5_any hw hs hn hsub
  split at hk
  · rename_i e; subst e; obtain rfl := Option.some.inj hk; exact neighbor6_any hw hs hn hsub
  split at hk
  · rename_i e; subst e; obtain rfl := Option.some.inj hk; exact neighbor7_any hw hs hn hsub
  · cases hk
def nearAt (t : Option Bool × Bool × Bool) (x : Nd) (path : List Int) : Option (List Int) := match atN x path with
  | none => none
  | some _ => nearN t.1 t.2.1 t.2.2 x path
set_option maxRecDepth 100000 in
set_option maxHeartbeats 3200000 in
theorem implNeighbor_any {n : Nat} (hn : n ≤ 300) {x : Nd} (hx : Tn n x) (h0 : x.f0 = 0 ∨ x.f0 = 3) (w : World) (A3 A4 Ap : Option Addr) (c3 c4 cp : Nat) (h3 : k34.C w A3 x.f3.length x.f3) (l3 : x.f3.length ≤ c3) (h4 : k25.C w A4 x.f4.length x.f4) (l4 : x.f4.length ≤ c4) (path : List Int) (hp : Kd.C (Kd.int .i64) w Ap path.length path) (kd : Int) (t : Option Bool × Bool × Bool) (hk : kindOf kd = some t) :
    Calls Try.prog 29 #[.agg #[.int .i64 x.f0, .string x.f1, .string x.f2, .slice A3 x.f3.length c3, .slice A4 x.f4.length c4], .slice Ap path.length cp, .int .i64 kd] w fun e w' => ∃ v, e = .returned (.tuple #[v, .bool (nearAt t x path).isSome]) ∧ (Kd.int .i64).R 3 w' w.heap.size (fun _ => True) v ((nearAt t x path).getD []) ∧ Below w.heap.size w w' := by
  have hpm := hp.2.1
  obtain ⟨R, hR⟩ : ∃ R, R = nearAt t x path := ⟨_, rfl⟩
  rw [← hR]
  have HR := Lib.hid hR
  have HK := Lib.hid hk
  have H3 := Lib.hid h3
  have H4 := Lib.hid h4
  have HP := Lib.hid hp
  clear h3 h4 hp hR hk
  go_enter Try.func29, Try.ntmps29
  go_wp2_with (go_at_call 58; refine (made_root hx h0 _ (fun _ => none) A3 A4 c3 c4 (Holds.empty _) (Kd.C_alloc H3.out _) l3 (Kd.C_alloc H4.out _) l4).mono ?_; rintro e w1 ⟨b, p, k, K, rfl, hm, hpp⟩; have HM := Lib.hid hm; have HB1 := Lib.hid (below_then (below_alloc (Below.refl w.heap.size w) (.cells #[.int .i64 x.f0, .string x.f1, .string x.f2, .slice A3 x.f3.length c3, .slice A4 x.f4.length c4] 25 (0, 0))) (by rw [World.size_alloc]; omega) hm.below); have HLEN := Lib.hid (node_tn hm.neat hm.tells hx).1; clear hm hpp)
  have hbk : k.blocks.length ≤ 300 := by have := HLEN.out; simp only [List.length_cons] at this; omega
  have hsub0 := atN_sub path b p k .nil HM.out.neat
  have hat0 := subF_at path b p k
  rw [HM.out.tells] at hsub0
  have hcall := implAt_any HM.out.holds HM.out.sits HM.out.neat path Ap cp (Kd.C_below HP.out HB1.out) hpm (by omega)
  rw [hat0] at hcall
  have hb1s := HB1.out.size
  rcases hsub : subF b p k path with _ | ⟨c, q, ck⟩
  · rw [hsub] at hcall hsub0
    have hR : R = none := by rw [HR.out, nearAt, hsub0]; rfl
    subst hR
    have HC := Lib.hid hcall
    clear hcall hsub0 hat0 hsub HR
    go_wp2_with (go_at_call 64; refine HC.out.mono ?_; rintro e w2 ⟨rfl, rfl⟩; simp only [Option.map_none, ptrV])
    go_ret2
    exact ⟨.slice none 0 0, rfl, Kd.R_nil _ _ _ _ _, HB1.out⟩
  · rw [hsub] at hcall hsub0
    have hnb := neighborKind_any HM.out.holds HM.out.sits HM.out.neat hsub HK.out
    have hR : R = (nearK t.1 t.2.1 t.2.2 b p k path ck).map Prod.snd := by
      rw [HR.out, nearAt, hsub0, near_tells HM.out.sits HM.out.neat HM.out.tells t.1 t.2.1 t.2.2 hsub]
      rfl
    have hns := fun u => near_sub HM.out.sits HM.out.neat HM.out.tells t.1 t.2.1 t.2.2 hsub (t := u)
    obtain ⟨N, hN⟩ : ∃ N, N = nearK t.1 t.2.1 t.2.2 b p k path ck := ⟨_, rfl⟩
    rw [← hN] at hnb hR hns
    have HC := Lib.hid hcall
    have HNB := Lib.hid hnb
    have HBK := Lib.hid (show k.blocks.length ≤ 1000000 by omega)
    clear hcall hsub0 hat0 hsub HR hnb hN
    cases N with
    | none =>
      have hR2 : R = none := hR
      subst hR2
      clear hR hns
      go_wp2_with (first
        | (go_at_call 64; refine HC.out.mono ?_; rintro e w2 ⟨rfl, rfl⟩; simp only [Option.map_some, ptrV])
        | (go_at_call 71; refine HNB.out.mono ?_; rintro e w2 ⟨rfl, hb2⟩; simp only [Option.map_none, ptrV]; have HB2 := Lib.hid hb2; clear hb2))
      go_ret2
      exact ⟨.slice none 0 0, rfl, Kd.R_nil _ _ _ _ _, below_then HB1.out hb1s HB2.out⟩
    | some u =>
      have hR2 : R = some u.2 := hR
      subst hR2
      obtain ⟨q2, ck2, hsub2⟩ := hns u rfl
      have HSUB2 := Lib.hid hsub2
      clear hR hns hsub2
      go_wp2_with (first
        | (go_at_call 64; refine HC.out.mono ?_; rintro e w2 ⟨rfl, rfl⟩; simp only [Option.map_some, ptrV])
        | (go_at_call 71; refine HNB.out.mono ?_; rintro e w2 ⟨rfl, hb2⟩; simp only [Option.map_some, ptrV]; have HB2 := Lib.hid hb2; clear hb2)
        | (go_at_call 67; refine (pathOf_any (HM.out.holds.below HB2.out) HM.out.sits HM.out.neat HBK.out HSUB2.out).mono ?_; rintro e w3 ⟨v, rfl, hrow, hb3⟩; have HROW := Lib.hid hrow; have HB3 := Lib.hid hb3; clear hrow hb3))
      go_ret2
      obtain ⟨g, cap, rfl, hu⟩ := HROW.out
      have hs2 := HB2.out.size
      exact ⟨_, rfl, Kd.R_lower (Kd.R_of_own (ok := fun _ => True) hu (fun _ _ => trivial)) (by omega), below_then (below_then HB1.out hb1s HB2.out) (by omega) HB3.out⟩
end Go.Proofs.Ytlallihdiffheaa.Dom
