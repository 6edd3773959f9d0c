/- impl.Children by hand. -/
import Derived.Test.YtlallihdiffheaaKids
namespace Go.Proofs.Ytlallihdiffheaa.Dom
open Go.RowKit Go.Proofs.YtlallihdiffheaaW.PrintWords Go.Proofs.YtlallihdiffheaaW.PrintLast Go.Proofs.YtlallihdiffheaaW.PrintMore Go.Proofs.Ytlallihdiffheaa.GT Go.Proofs.Ytlallihdiffheaa.Hand
set_option linter.unusedVariables false
set_option linter.unusedSimpArgs false

/-- The paths of the children that count. -/
def rowN (e : Bool) (path : List Int) : List Nd → Nat → List (List Int)
  | [], _ => []
  | y :: l, i => if e = false ∨ y.f0 = 0 then (path ++ [(i : Int)]) :: rowN e path l (i + 1) else rowN e path l (i + 1)
def kidsN (e : Bool) (x : Nd) (path : List Int) : List (List Int) := match atN x path with
  | none => []
  | some y => rowN e path y.f4 0
theorem rowN_erase (e : Bool) (path : List Int) : ∀ (r : F Pay) (i : Nat), Neat r → rowN e path (erase r) i = (rowK e r i).map (fun t => path ++ [(t.2 : Int)])
  | .nil, i, _ => rfl
  | .node b p k r, i, hn => by
    have ht : (nodeOf p (erase k)).f0 = 0 ↔ p.type = 3 := by
      rcases nodeOf_cases hn with ⟨h, _, e⟩ | ⟨h, _, e⟩ | ⟨h, e⟩ | ⟨h, e⟩ <;> rw [e, h] <;> simp
    have hr := rowN_erase e path r (i + 1) hn.2.2
    have hx : erase (.node b p k r) = nodeOf p (erase k) :: erase r := rfl
    rw [hx]
    simp only [rowN, rowK, ht, hr]
    split <;> rfl
/-- A path of the call's own, as an element of a row of paths. -/
theorem path_M {w : World} {base b1 : Nat} {g c : Nat} {l : List Int} (h : w.ownsRow b1 3 1 (.slice (some ⟨g, 0, none⟩) l.length c) l.length (nums .i64 l)) (hb : base ≤ b1) : (Kd.slice 3 (Kd.int .i64)).M w base (fun k => some k = (Value.slice (some ⟨g, 0, none⟩) l.length c).ownBlock) l [.slice (some ⟨g, 0, none⟩) l.length c] :=
  Kd.M_row (Kd.R_tight rfl (Kd.R_lower (Kd.R_of_own (ok := fun _ => True) h (fun _ _ => trivial)) hb))
set_option maxRecDepth 100000 in
set_option maxHeartbeats 3200000 in
theorem children_any {n : Nat} (hn : n ≤ 300) {x : Nd} (hx : Tn n x) (h0 : x.f0 = 0 ∨ x.f0 = 3) (w : World) (A3 A4 Ap : Option Addr) (c3 c4 cp : Nat) (h3 : k34.C w A3 x.f3.length x.f3) (l3 : x.f3.length ≤ c3) (h4 : k25.C w A4 x.f4.length x.f4) (l4 : x.f4.length ≤ c4) (path : List Int) (hp : Kd.C (Kd.int .i64) w Ap path.length path) (el : Bool) :
    Calls Try.prog 25 #[.agg #[.int .i64 x.f0, .string x.f1, .string x.f2, .slice A3 x.f3.length c3, .slice A4 x.f4.length c4], .slice Ap path.length cp, .bool el] w fun e w' => ∃ v, e = .returned (.tuple #[v, .bool (atN x path).isSome]) ∧ Kd.S (Kd.slice 3 (Kd.int .i64)) 26 w' w.heap.size (fun _ => True) v (kidsN el x path) ∧ Below w.heap.size w w' := by
  have hpm := hp.2.1
  obtain ⟨R, hR⟩ : ∃ R, R = kidsN el x path := ⟨_, rfl⟩
  obtain ⟨B, hB⟩ : ∃ B, B = (atN x path).isSome := ⟨_, rfl⟩
  rw [← hR, ← hB]
  have HR := Lib.hid hR
  have HBB := Lib.hid hB
  have H3 := Lib.hid h3
  have H4 := Lib.hid h4
  have HP := Lib.hid hp
  clear h3 h4 hp hR hB
  cases el with
  | false =>
    go_enter Try.func25, Try.ntmps25
    go_wp2_with (go_at_call 58; refine (made_root hx h0 _ (fun _ => none) A3 A4 c3 c4 (Holds.empty _) (Kd.C_alloc H3.out _) l3 (Kd.C_alloc H4.out _) l4).mono ?_; rintro e w1 ⟨b, p, k, K, rfl, hm, hpp⟩; have HM := Lib.hid hm; have HB1 := Lib.hid (below_then (below_alloc (Below.refl w.heap.size w) (.cells #[.int .i64 x.f0, .string x.f1, .string x.f2, .slice A3 x.f3.length c3, .slice A4 x.f4.length c4] 25 (0, 0))) (by rw [World.size_alloc]; omega) hm.below); have HLEN := Lib.hid (node_tn hm.neat hm.tells hx).1; clear hm hpp)
    have hbk : k.blocks.length ≤ 300 := by have := HLEN.out; simp only [List.length_cons] at this; omega
    have hsub0 := atN_sub path b p k .nil HM.out.neat
    have hat0 := subF_at path b p k
    rw [HM.out.tells] at hsub0
    have hcall := implAt_any HM.out.holds HM.out.sits HM.out.neat path Ap cp (Kd.C_below HP.out HB1.out) hpm (by omega)
    rw [hat0] at hcall
    have hb1s := HB1.out.size
    rcases hsub : subF b p k path with _ | ⟨c, q, ck⟩
    · rw [hsub] at hcall hsub0
      have hB : B = false := by rw [HBB.out, hsub0]; rfl
      have hR : R = [] := by rw [HR.out, kidsN, hsub0]; rfl
      subst hB hR
      have HC := Lib.hid hcall
      clear hcall hsub0 hat0 hsub HBB HR
      go_wp2_with (go_at_call 64; refine HC.out.mono ?_; rintro e w2 ⟨rfl, rfl⟩; simp only [Option.map_none, ptrV])
      go_ret2
      exact ⟨.slice none 0 0, rfl, Kd.S_nil _ _ _ _ _, HB1.out⟩
    · rw [hsub] at hcall hsub0
      obtain ⟨par, prev, next, hL, hcn, -, -⟩ := lies HM.out.sits HM.out.neat _ path c q ck rfl hsub
      have hckl : ck.len ≤ 300 := by
        have h1 := subF_len hsub
        have h2 := len_le_blocks ck
        omega
      obtain ⟨L, hLL⟩ : ∃ L, L = rowK false ck 0 := ⟨_, rfl⟩
      have hLlen : L.length ≤ 300 := by
        have := rowK_len false ck 0
        rw [hLL]
        omega
      have hLat : ∀ t ∈ L, ∃ q' ck', subF b p k (path ++ [(t.2 : Int)]) = some (t.1, q', ck') := by
        intro t ht
        rw [hLL] at ht
        obtain ⟨q', ck', r', -, h⟩ := rowK_at false ck 0 t ht
        refine ⟨q', ck', ?_⟩
        rw [subF_snoc, hsub, Option.bind_some, subF, if_neg (by omega), Int.toNat_natCast]
        rw [Nat.sub_zero] at h
        rw [h]
        rfl
      have hB : B = true := by rw [HBB.out, hsub0]; rfl
      have hR : R = L.map (fun t => path ++ [(t.2 : Int)]) := by
        rw [HR.out, kidsN, hsub0, Option.map_some]
        simp only
        rw [kids_nodeOf hcn, rowN_erase false path ck 0 hcn.2.1, hLL]
      subst hB
      have hnodes : ∀ W, Below w1.heap.size w1 W → Calls Try.prog 65 #[.pointer (some ⟨c, 0, none⟩)] W fun e w' => ∃ A cc, e = .returned (.slice A L.length cc) ∧ w'.ownsRow W.heap.size 70 1 (.slice A L.length cc) L.length (ptrs (L.map Prod.fst)) ∧ Below W.heap.size W w' := fun W hb => by rw [hLL]; exact childNodes_any (HM.out.holds.below hb) hL.here hL.kids (by omega)
      have HC := Lib.hid hcall
      have HND := Lib.hid hnodes
      have HLAT := Lib.hid hLat
      have HRR := Lib.hid hR
      clear hcall hsub0 hat0 hsub HBB HR hL hcn hLL hLat hnodes hR
      go_wp2_with (first
        | (go_at_call 64; refine HC.out.mono ?_; rintro e w2 ⟨rfl, rfl⟩; simp only [Option.map_some, ptrV])
        | (go_at_call 65; refine (HND.out _ (Below.refl _ _)).mono ?_; rintro e wl ⟨A9, cc9, rfl, hbx, hbx2⟩; have HOW := Lib.hid hbx; have HBX := Lib.hid hbx2; clear hbx hbx2))
      have hsl := HBX.out.size
      go_loopw [10, 26] (fun o0 j0 wr => ∃ (j : Nat) (v : Value) (xs : List (List Int)), j0 = .int .i64 j ∧ j ≤ L.length ∧ xs = (L.take j).map (fun t => path ++ [(t.2 : Int)]) ∧ o0 = v ∧ Kd.S (Kd.slice 3 (Kd.int .i64)) 26 wr wl.heap.size (fun _ => True) v xs ∧ Below wl.heap.size wl wr) (fun _ j0 _ => L.length - (intOf j0).toNat)
      case atStart => exact ⟨0, .slice none 0 0, [], rfl, Nat.zero_le _, rfl, rfl, Kd.S_nil _ _ _ _ _, Below.refl _ _⟩
      case round =>
        obtain ⟨j, v, xs, rfl, hj, hxs, rfl, hS, hb⟩ := hrel
        obtain ⟨Av, cv, rfl⟩ := Kd.S_slice hS
        by_cases hlt : j < L.length
        · obtain ⟨ad, d, rfl, hd, hcell⟩ := ptrs_cell (l := L.map Prod.fst) (by have h := HOW.out; rw [List.length_map]; exact h) j (by rw [List.length_map]; exact hlt)
          have hcl := World.block_lt_of_cell? wl _ hcell
          replace hcell := (hb.cell hcl).trans hcell
          obtain ⟨t, ht⟩ : ∃ t, L[j]? = some t := ⟨_, List.getElem?_eq_getElem hlt⟩
          obtain ⟨q', ck', hsub⟩ := HLAT.out t (List.mem_of_getElem? ht)
          have htd : d = t.1 := by
            rw [List.getElem?_map, ht] at hd
            exact (Option.some.inj hd).symm
          subst htd
          obtain ⟨pp, hpp⟩ : ∃ pp, pp = path ++ [(t.2 : Int)] := ⟨_, rfl⟩
          rw [← hpp] at hsub
          have hxl : xs.length ≤ 300 := by rw [hxs, List.length_map, List.length_take]; omega
          have hxs2 : (L.take (j + 1)).map (fun t => path ++ [(t.2 : Int)]) = xs ++ [pp] := by rw [List.take_add_one, ht, List.map_append, ← hxs, hpp]; rfl
          have HSUB := Lib.hid hsub
          have HS := Lib.hid hS
          have HB := Lib.hid hb
          have HXS2 := Lib.hid hxs2
          have HXS := Lib.hid hxs
          have HBK := Lib.hid (show k.blocks.length ≤ 1000000 by omega)
          have hwr := hb.size
          clear hd ht hsub hb hS hpp hxs2 hxs
          go_wp2_with (first
            | (go_at_call 67; refine (pathOf_any (HM.out.holds.below (below_then HBX.out HBX.out.size HB.out)) HM.out.sits HM.out.neat HBK.out HSUB.out).mono ?_; rintro e w3 ⟨u, rfl, hrow, hb3⟩; obtain ⟨gu, cu, rfl, hu⟩ := hrow; have hgu := own_base hu gu rfl; have HB3 := Lib.hid hb3; have hb3s := hb3.size; have HU := Lib.hid hu; have HS3 := Lib.hid (Kd.S_mono (Kd.S_old HS.out hb3) (ok' := fun k => True ∧ ¬ (some k = (Value.slice (some ⟨gu, 0, none⟩) pp.length cu).ownBlock)) (fun k hk => ⟨trivial, fun e => by have e' : k = gu := Option.some.inj e; have := hk.2; omega⟩)); have hvb : ∀ k, (Value.slice Av xs.length cv).ownBlock = some k → k < wr.heap.size := (fun k hk => by obtain ⟨cells, hcs⟩ := Kd.S_typed HS.out k hk; exact World.heap_lt hcs); have HVB := Lib.hid hvb; clear hb3 hu hvb)
            | (at_builtin; refine Kd.S_append (Kd.slice 3 (Kd.int .i64)) (w0 := wl) wl.heap.size rfl (.tmp 30) (.tmp 33) 40 26 (.slice none 0 0) 24 rfl Try.underlying40 infoInts rfl (by decide) (by omega) (.slice Av xs.length cv) xs pp [.slice (some ⟨gu, 0, none⟩) pp.length cu] (fun _ => True) (fun k => some k = (Value.slice (some ⟨gu, 0, none⟩) pp.length cu).ownBlock) (by simp [Act.eval, Act.put]) (by simp [Act.eval, Act.put]) (path_M HU.out (by omega)) (fun k hk => ⟨trivial, fun e => by have e' : k = gu := Option.some.inj hk; have := HVB.out k e.symm; omega⟩) (fun _ _ => trivial) HS3.out (below_then HB.out HB.out.size HB3.out) (by omega) (by omega) ?_; intro v1 w4 hs4 hb4 hg4 hat4; have HS4 := Lib.hid hs4; have HB4 := Lib.hid hb4; clear hs4 hb4 hg4 hat4))
          go_roundw
          case rel => exact ⟨j + 1, v1, xs ++ [pp], by go_num, hlt, HXS2.out.symm, rfl, HS4.out, HB4.out⟩
          case measure => simp [intOf]; omega
        · obtain rfl : j = L.length := by omega
          have hxx : xs = R := by rw [HRR.out, hxs, List.take_length]
          have hbw : Below w.heap.size w wr := below_then HB1.out hb1s (below_then HBX.out hsl hb)
          have hSA := fun (Y : List (List Int)) (hY : Y = xs) => (show Kd.S (Kd.slice 3 (Kd.int .i64)) 26 wr w.heap.size (fun _ => True) (.slice Av xs.length cv) Y by rw [hY]; exact Kd.S_lower hS (show w.heap.size ≤ wl.heap.size by omega))
          have hSS := hSA R hxx.symm
          have HSS := Lib.hid hSS
          have HBW := Lib.hid hbw
          clear hSS hSA hbw hS hb hxs
          go_wp2
          go_ret2
          exact ⟨_, rfl, HSS.out, HBW.out⟩
  | true =>
    go_enter Try.func25, Try.ntmps25
    go_wp2_with (go_at_call 58; refine (made_root hx h0 _ (fun _ => none) A3 A4 c3 c4 (Holds.empty _) (Kd.C_alloc H3.out _) l3 (Kd.C_alloc H4.out _) l4).mono ?_; rintro e w1 ⟨b, p, k, K, rfl, hm, hpp⟩; have HM := Lib.hid hm; have HB1 := Lib.hid (below_then (below_alloc (Below.refl w.heap.size w) (.cells #[.int .i64 x.f0, .string x.f1, .string x.f2, .slice A3 x.f3.length c3, .slice A4 x.f4.length c4] 25 (0, 0))) (by rw [World.size_alloc]; omega) hm.below); have HLEN := Lib.hid (node_tn hm.neat hm.tells hx).1; clear hm hpp)
    have hbk : k.blocks.length ≤ 300 := by have := HLEN.out; simp only [List.length_cons] at this; omega
    have hsub0 := atN_sub path b p k .nil HM.out.neat
    have hat0 := subF_at path b p k
    rw [HM.out.tells] at hsub0
    have hcall := implAt_any HM.out.holds HM.out.sits HM.out.neat path Ap cp (Kd.C_below HP.out HB1.out) hpm (by omega)
    rw [hat0] at hcall
    have hb1s := HB1.out.size
    rcases hsub : subF b p k path with _ | ⟨c, q, ck⟩
    · rw [hsub] at hcall hsub0
      have hB : B = false := by rw [HBB.out, hsub0]; rfl
      have hR : R = [] := by rw [HR.out, kidsN, hsub0]; rfl
      subst hB hR
      have HC := Lib.hid hcall
      clear hcall hsub0 hat0 hsub HBB HR
      go_wp2_with (go_at_call 64; refine HC.out.mono ?_; rintro e w2 ⟨rfl, rfl⟩; simp only [Option.map_none, ptrV])
      go_ret2
      exact ⟨.slice none 0 0, rfl, Kd.S_nil _ _ _ _ _, HB1.out⟩
    · rw [hsub] at hcall hsub0
      obtain ⟨par, prev, next, hL, hcn, -, -⟩ := lies HM.out.sits HM.out.neat _ path c q ck rfl hsub
      have hckl : ck.len ≤ 300 := by
        have h1 := subF_len hsub
        have h2 := len_le_blocks ck
        omega
      obtain ⟨L, hLL⟩ : ∃ L, L = rowK true ck 0 := ⟨_, rfl⟩
      have hLlen : L.length ≤ 300 := by
        have := rowK_len true ck 0
        rw [hLL]
        omega
      have hLat : ∀ t ∈ L, ∃ q' ck', subF b p k (path ++ [(t.2 : Int)]) = some (t.1, q', ck') := by
        intro t ht
        rw [hLL] at ht
        obtain ⟨q', ck', r', -, h⟩ := rowK_at true ck 0 t ht
        refine ⟨q', ck', ?_⟩
        rw [subF_snoc, hsub, Option.bind_some, subF, if_neg (by omega), Int.toNat_natCast]
        rw [Nat.sub_zero] at h
        rw [h]
        rfl
      have hB : B = true := by rw [HBB.out, hsub0]; rfl
      have hR : R = L.map (fun t => path ++ [(t.2 : Int)]) := by
        rw [HR.out, kidsN, hsub0, Option.map_some]
        simp only
        rw [kids_nodeOf hcn, rowN_erase true path ck 0 hcn.2.1, hLL]
      subst hB
      have hnodes : ∀ W, Below w1.heap.size w1 W → Calls Try.prog 65 #[.pointer (some ⟨c, 0, none⟩)] W fun e w' => ∃ A n cc, e = .returned (.slice A n cc) ∧ Below W.heap.size W w' := fun W hb => (childNodes_any (HM.out.holds.below hb) hL.here hL.kids (by omega)).mono (fun e w' h => by obtain ⟨A, cc, h1, _, h2⟩ := h; exact ⟨A, _, cc, h1, h2⟩)
      have helems : ∀ W, Below w1.heap.size w1 W → Calls Try.prog 66 #[.pointer (some ⟨c, 0, none⟩)] W fun e w' => ∃ A cc, e = .returned (.slice A L.length cc) ∧ w'.ownsRow W.heap.size 70 1 (.slice A L.length cc) L.length (ptrs (L.map Prod.fst)) ∧ Below W.heap.size W w' := fun W hb => by rw [hLL]; exact childElements_any (HM.out.holds.below hb) hL.here hL.kids (by omega)
      have HEL := Lib.hid helems
      clear helems
      have HC := Lib.hid hcall
      have HND := Lib.hid hnodes
      have HLAT := Lib.hid hLat
      have HRR := Lib.hid hR
      clear hcall hsub0 hat0 hsub HBB HR hL hcn hLL hLat hnodes hR
      go_wp2_with (first
        | (go_at_call 64; refine HC.out.mono ?_; rintro e w2 ⟨rfl, rfl⟩; simp only [Option.map_some, ptrV])
        | (go_at_call 65; refine (HND.out _ (Below.refl _ _)).mono ?_; rintro e w5 ⟨A8, n8, cc8, rfl, hb5⟩; have HB5 := Lib.hid hb5; clear hb5)
        | (go_at_call 66; refine (HEL.out _ HB5.out).mono ?_; rintro e wl ⟨A9, cc9, rfl, hbx, hbx2⟩; have HOW := Lib.hid hbx; have HBX := Lib.hid (below_then HB5.out HB5.out.size hbx2); clear hbx hbx2))
      have hsl := HBX.out.size
      go_loopw [10, 26] (fun o0 j0 wr => ∃ (j : Nat) (v : Value) (xs : List (List Int)), j0 = .int .i64 j ∧ j ≤ L.length ∧ xs = (L.take j).map (fun t => path ++ [(t.2 : Int)]) ∧ o0 = v ∧ Kd.S (Kd.slice 3 (Kd.int .i64)) 26 wr wl.heap.size (fun _ => True) v xs ∧ Below wl.heap.size wl wr) (fun _ j0 _ => L.length - (intOf j0).toNat)
      case atStart => exact ⟨0, .slice none 0 0, [], rfl, Nat.zero_le _, rfl, rfl, Kd.S_nil _ _ _ _ _, Below.refl _ _⟩
      case round =>
        obtain ⟨j, v, xs, rfl, hj, hxs, rfl, hS, hb⟩ := hrel
        obtain ⟨Av, cv, rfl⟩ := Kd.S_slice hS
        by_cases hlt : j < L.length
        · obtain ⟨ad, d, rfl, hd, hcell⟩ := ptrs_cell (l := L.map Prod.fst) (by have h := HOW.out; rw [List.length_map]; exact h) j (by rw [List.length_map]; exact hlt)
          have hcl := World.block_lt_of_cell? wl _ hcell
          replace hcell := (hb.cell hcl).trans hcell
          obtain ⟨t, ht⟩ : ∃ t, L[j]? = some t := ⟨_, List.getElem?_eq_getElem hlt⟩
          obtain ⟨q', ck', hsub⟩ := HLAT.out t (List.mem_of_getElem? ht)
          have htd : d = t.1 := by
            rw [List.getElem?_map, ht] at hd
            exact (Option.some.inj hd).symm
          subst htd
          obtain ⟨pp, hpp⟩ : ∃ pp, pp = path ++ [(t.2 : Int)] := ⟨_, rfl⟩
          rw [← hpp] at hsub
          have hxl : xs.length ≤ 300 := by rw [hxs, List.length_map, List.length_take]; omega
          have hxs2 : (L.take (j + 1)).map (fun t => path ++ [(t.2 : Int)]) = xs ++ [pp] := by rw [List.take_add_one, ht, List.map_append, ← hxs, hpp]; rfl
          have HSUB := Lib.hid hsub
          have HS := Lib.hid hS
          have HB := Lib.hid hb
          have HXS2 := Lib.hid hxs2
          have HXS := Lib.hid hxs
          have HBK := Lib.hid (show k.blocks.length ≤ 1000000 by omega)
          have hwr := hb.size
          clear hd ht hsub hb hS hpp hxs2 hxs
          go_wp2_with (first
            | (go_at_call 67; refine (pathOf_any (HM.out.holds.below (below_then HBX.out HBX.out.size HB.out)) HM.out.sits HM.out.neat HBK.out HSUB.out).mono ?_; rintro e w3 ⟨u, rfl, hrow, hb3⟩; obtain ⟨gu, cu, rfl, hu⟩ := hrow; have hgu := own_base hu gu rfl; have HB3 := Lib.hid hb3; have hb3s := hb3.size; have HU := Lib.hid hu; have HS3 := Lib.hid (Kd.S_mono (Kd.S_old HS.out hb3) (ok' := fun k => True ∧ ¬ (some k = (Value.slice (some ⟨gu, 0, none⟩) pp.length cu).ownBlock)) (fun k hk => ⟨trivial, fun e => by have e' : k = gu := Option.some.inj e; have := hk.2; omega⟩)); have hvb : ∀ k, (Value.slice Av xs.length cv).ownBlock = some k → k < wr.heap.size := (fun k hk => by obtain ⟨cells, hcs⟩ := Kd.S_typed HS.out k hk; exact World.heap_lt hcs); have HVB := Lib.hid hvb; clear hb3 hu hvb)
            | (at_builtin; refine Kd.S_append (Kd.slice 3 (Kd.int .i64)) (w0 := wl) wl.heap.size rfl (.tmp 30) (.tmp 33) 40 26 (.slice none 0 0) 24 rfl Try.underlying40 infoInts rfl (by decide) (by omega) (.slice Av xs.length cv) xs pp [.slice (some ⟨gu, 0, none⟩) pp.length cu] (fun _ => True) (fun k => some k = (Value.slice (some ⟨gu, 0, none⟩) pp.length cu).ownBlock) (by simp [Act.eval, Act.put]) (by simp [Act.eval, Act.put]) (path_M HU.out (by omega)) (fun k hk => ⟨trivial, fun e => by have e' : k = gu := Option.some.inj hk; have := HVB.out k e.symm; omega⟩) (fun _ _ => trivial) HS3.out (below_then HB.out HB.out.size HB3.out) (by omega) (by omega) ?_; intro v1 w4 hs4 hb4 hg4 hat4; have HS4 := Lib.hid hs4; have HB4 := Lib.hid hb4; clear hs4 hb4 hg4 hat4))
          go_roundw
          case rel => exact ⟨j + 1, v1, xs ++ [pp], by go_num, hlt, HXS2.out.symm, rfl, HS4.out, HB4.out⟩
          case measure => simp [intOf]; omega
        · obtain rfl : j = L.length := by omega
          have hxx : xs = R := by rw [HRR.out, hxs, List.take_length]
          have hbw : Below w.heap.size w wr := below_then HB1.out hb1s (below_then HBX.out hsl hb)
          have hSA := fun (Y : List (List Int)) (hY : Y = xs) => (show Kd.S (Kd.slice 3 (Kd.int .i64)) 26 wr w.heap.size (fun _ => True) (.slice Av xs.length cv) Y by rw [hY]; exact Kd.S_lower hS (show w.heap.size ≤ wl.heap.size by omega))
          have hSS := hSA R hxx.symm
          have HSS := Lib.hid hSS
          have HBW := Lib.hid hbw
          clear hSS hSA hbw hS hb hxs
          go_wp2
          go_ret2
          exact ⟨_, rfl, HSS.out, HBW.out⟩
end Go.Proofs.Ytlallihdiffheaa.Dom
