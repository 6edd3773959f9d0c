/- laws.changes29 by hand: the reference of changes. -/
import Derived.Test.YtnhcocjdkmelhaaChAppend
namespace Go.Proofs.Ytnhcocjdkmelhaa.Hand
open Go.RowKit Go.Proofs.YtnhcocjdkmelhaaW.PrintWords Go.Proofs.YtnhcocjdkmelhaaW.PrintLast Go.Proofs.YtnhcocjdkmelhaaW.PrintMore
set_option linter.unusedVariables false
set_option linter.unusedSimpArgs false

abbrev RS29 := RT DS 9 28
theorem new_of {w : World} {v u : Value} {N : Nat} (hv : v.ownBlock = u.ownBlock ∨ ∃ b, v.ownBlock = some b ∧ w.heap.size ≤ b) (hu : ∀ k, u.ownBlock = some k → N ≤ k) (hN : N ≤ w.heap.size) : ∀ k, v.ownBlock = some k → N ≤ k := by
  intro k hk
  rcases hv with h | ⟨b, h, hb⟩
  · exact hu k (h.symm.trans hk)
  · rw [hk] at h
    obtain rfl := Option.some.inj h
    omega
theorem new_of2 {w : World} {v u : Value} {N : Nat} (hv : v.ownBlock = u.ownBlock ∨ ∃ b, v.ownBlock = some b ∧ w.heap.size ≤ b) (hu : ∀ k, u.ownBlock = some k → N ≤ k) (hN : N ≤ w.heap.size) : ∀ k, v.ownBlock = some k → N ≤ k := new_of hv hu hN
theorem one_cell {w : World} {k : Nat} {v : Value} {t : TypeId} {fr : Nat × Nat} (h : w.heap[k]? = some (.cells #[v] t fr)) : ∀ j u, [v][j]? = some u → w.cell? ((⟨k, 0, none⟩ : Addr).add j) = some u := by
  intro j u hj
  cases j with
  | zero =>
    obtain rfl : v = u := by simpa using hj
    simp [Addr.add, World.cell?, h]
  | succ j => simp at hj
theorem own_part_take {w W : World} {base n c m : Nat} {e : TypeId} {A : Option Addr} {rt : List ByteArray} (h : w.ownsRow base e 1 (.slice A n c) n (rt.map Value.string)) (hb : Below w.heap.size w W) (hm : m ≤ n) : 0 < m → ∃ ad, A = some ad ∧ ∀ j u, ((rt.take m).map Value.string)[j]? = some u → W.cell? (ad.add j) = some u := by
  intro h0
  have hl := h.1
  rw [List.length_map, Nat.mul_one] at hl
  obtain ⟨g, cap, he, hg, hgl⟩ := h.form (by omega)
  injection he with he _ _
  subst he
  refine ⟨_, rfl, fun j u hj => ?_⟩
  have hW := pw_own_below h hb
  rw [List.map_take, List.getElem?_take] at hj
  split at hj
  · exact hW.cells (g := g) rfl j u hj
  · cases hj
theorem own_part_drop {w W : World} {base n c m : Nat} {e : TypeId} {A : Option Addr} {rt : List ByteArray} (h : w.ownsRow base e 1 (.slice A n c) n (rt.map Value.string)) (hb : Below w.heap.size w W) (hm : m ≤ n) (hc : n ≤ c) : 0 < n - m → ∃ ad, (if c = m then A else Option.map (fun z => z.add m) A) = some ad ∧ ∀ j u, ((rt.drop m).map Value.string)[j]? = some u → W.cell? (ad.add j) = some u := by
  intro h0
  obtain ⟨g, cap, he, hg, hgl⟩ := h.form (by omega)
  injection he with he _ _
  subst he
  refine ⟨(⟨g, 0, none⟩ : Addr).add m, by rw [if_neg (by omega)]; rfl, fun j u hj => ?_⟩
  have hW := pw_own_below h hb
  rw [List.map_drop, List.getElem?_drop] at hj
  rw [add_add]
  exact hW.cells (g := g) rfl (m + j) u hj
set_option maxRecDepth 100000 in
set_option maxHeartbeats 8000000 in
theorem changes29_any (A : Option Addr) (cp : Nat) (sss : List (List ByteArray)) (B : Option Addr) (cm : Nat) (l : List Ch) (w : World) (hl : sss.length ≤ 2147483647) (hll : ∀ ss ∈ sss, ss.length ≤ 2147483647) (hr : StrRows w A sss) (hl2 : l.length ≤ 2147483647) (hm : ∀ c ∈ l, (0 ≤ c.f0 ∧ c.f0 ≤ 100) ∧ 0 ≤ c.f1 ∧ c.f1 ≤ 100) (hC : kCh.C w B l.length l) :
    Calls Try.prog 10 #[.slice A sss.length cp, .slice B l.length cm] w fun e w' => ∃ v vs, e = .returned v ∧ RS29 w.heap.size w' v vs ((l.map tri).foldl chg sss) ∧ Below w.heap.size w w' := by
  have HR := Lib.hid hr
  have HL := Lib.hid hll
  have HM := Lib.hid hm
  have HC := Lib.hid hC
  clear hr hll hm hC
  go_enter Try.func10, Try.ntmps10
  go_wp2
  go_loopw [5, 15] (fun v0 k0 wr => ∃ (v : Value) (k : Nat) (vs : List Value), v = v0 ∧ k0 = .int .i64 k ∧ k ≤ sss.length ∧ RS29 w.heap.size wr v vs (sss.take k) ∧ Below w.heap.size w wr) (fun _ k0 _ => sss.length - (intOf k0).toNat)
  case atStart =>
    refine ⟨_, 0, [], rfl, rfl, Nat.zero_le _, ?_, below_alloc (Below.refl _ _) _⟩
    rw [List.take_zero]
    exact ⟨own_empty (heap_alloc_new _ _) (Nat.le_refl _), fun i u ss hu => by simp at hu, fun i j u v b _ hu => by simp at hu⟩
  case round =>
    obtain ⟨v, k, vs, rfl, rfl, hk, hR, hB⟩ := hrel
    have HR1 := Lib.hid hR
    have HB1 := Lib.hid hB
    by_cases hlt : k < sss.length
    · obtain ⟨ad, rfl, hcells⟩ := HR.out (by omega)
      obtain ⟨ss, hs⟩ : ∃ s, sss[k]? = some s := ⟨_, List.getElem?_eq_getElem hlt⟩
      obtain ⟨A', c', hc0, hS0⟩ := hcells k ss hs
      have hc : wr.cell? (ad.add k) = some (.slice A' ss.length c') := (hB.cell (p := ad.add k) (World.block_lt_of_cell? w _ hc0)).trans hc0
      have htl : (sss.take k).length = k := by rw [List.length_take]; omega
      obtain ⟨Av, cv, rfl⟩ : ∃ A c, v = .slice A k c := by
        obtain ⟨A, c, h⟩ := own_slice hR.own
        rw [htl] at h
        exact ⟨A, c, h⟩
      have hvl : vs.length = k := by have := hR.own.1; omega
      have hb1 := below_alloc (Below.refl wr.heap.size wr) (.cells #[] 9 (0, 0))
      have HBA := Lib.hid hb1
      have HO0 := Lib.hid (own_empty (base := w.heap.size) (e := 9) (heap_alloc_new wr (.cells #[] 9 (0, 0))) hB.size)
      have HS0 := Lib.hid ((hS0.below (hB.mono (Nat.le_refl _))).below hb1)
      have hssl := HL.out ss (List.mem_of_getElem? hs)
      have HSSL := Lib.hid hssl
      have HS := Lib.hid hs
      have HVL := Lib.hid hvl
      have HOW := Lib.hid (show wr.ownsRow w.heap.size 28 1 (.slice Av k cv) k vs by have h := hR.own; rwa [htl] at h)
      have HTL := Lib.hid htl
      clear hs hc0 hS0 hcells hb1 hvl htl hR hB hssl
      go_wp2_with (first
        | (at_builtin; refine wpList_append_many rfl w.heap.size (.tmp 20) (.tmp 21) 28 9 _ 16 rfl Try.underlying28 infoStr rfl (.slice (some ⟨wr.heap.size, 0, none⟩) 0 0) 0 [] A' ss.length c' (ss.map Value.string) rfl rfl (by rw [List.length_map]) HS0.out.cells (strs_one _) HO0.out (Nat.le_trans HB1.out.size HBA.out.size) (by have := HSSL.out; omega) (by have := HSSL.out; omega) ?_; intro v1 w1 hown hg hv; rw [Nat.zero_add, List.nil_append] at hown; obtain ⟨A1, c1, rfl⟩ := own_slice hown; have HO1 := Lib.hid hown; have HG1 := Lib.hid hg; have HV1 := Lib.hid hv; clear hown hg hv)
        | (at_builtin; refine print_append (w0 := w1) w.heap.size rfl _ _ 22 28 (.slice none 0 0) 24 rfl Try.underlying22 infoStrs rfl (by decide) (.slice Av k cv) vs (.slice A1 ss.length c1) rfl rfl rfl ?own ?bel ?base ?len ?_; (case own => rw [HVL.out]; exact pw_own_below HOW.out (HBA.out.grown HG1.out (HBA.out.size) (fun k hk => by obtain rfl := Option.some.inj hk; exact Nat.le_refl _))); (case bel => exact Below.refl _ _); (case base => exact Nat.le_trans HB1.out.size (Nat.le_trans HBA.out.size HG1.out.size)); (case len => rw [HVL.out]; omega); intro v2 w2 hown hb2 hg2 _; have HO2 := Lib.hid hown; have HG2 := Lib.hid hg2; clear hown hb2 hg2))
      have hbw : Below wr.heap.size wr w1 := HBA.out.grown HG1.out (HBA.out.size) (fun k hk => by obtain rfl := Option.some.inj hk; exact Nat.le_refl _)
      have hR1 := HR1.out.below DS_kp hbw
      have hR2 := hR1.snoc (w1 := w2) (v1 := v2) (x := .slice A1 ss.length c1) (ws := ss.map Value.string) (ss := ss) (by decide) DS_kp HO1.out (cells_strs _ _) (fun b hb u hu hub => by
        obtain ⟨i, hi⟩ := List.mem_iff_getElem?.1 hu
        have h1 := HR1.out.lt hi b hub
        rcases HV1.out with h2 | ⟨b', h2, h3⟩
        · rw [hb] at h2
          obtain rfl := Option.some.inj h2
          exact absurd h1 (Nat.lt_irrefl _)
        · rw [hb] at h2
          obtain rfl := Option.some.inj h2
          have := HBA.out.size
          omega) (by have := HO2.out; rwa [List.length_append, List.length_singleton] at this) HG2.out
      rw [show sss.take k ++ [ss] = sss.take (k + 1) by rw [List.take_add_one, HS.out]; rfl] at hR2
      have HR2 := Lib.hid hR2
      have HB2 := Lib.hid ((below_then HB1.out HB1.out.size hbw).grown HG2.out (Nat.le_trans HB1.out.size hbw.size) (fun k hk => own_base HR1.out.own k hk))
      clear hbw hR1 hR2
      go_wp2
      go_roundw
      case rel => exact ⟨v2, k + 1, _, rfl, by go_num, hlt, HR2.out, HB2.out⟩
      case measure => simp [intOf]; omega
    · obtain rfl : k = sss.length := by omega
      rw [List.take_length] at hR
      have HR1 := Lib.hid hR
      obtain ⟨A0, c0, rfl⟩ := own_slice hR.own
      clear hR hB
      have hb0 : (∀ j, j ≤ l.length → (((l.take j).map tri).foldl chg sss).length ≤ 2147484700 ∧ ∀ ss ∈ ((l.take j).map tri).foldl chg sss, ss.length ≤ 2147483647 + j) := by
        intro j
        induction j with
        | zero => exact fun _ => ⟨by simpa using Nat.le_trans hl (by decide), by simpa using HL.out⟩
        | succ j ih =>
          intro hj
          obtain ⟨h1, h2⟩ := ih (by omega)
          obtain ⟨m, hmj⟩ : ∃ m, l[j]? = some m := ⟨_, List.getElem?_eq_getElem (by omega)⟩
          have hp := HM.out m (List.mem_of_getElem? hmj)
          have ht : l.take (j + 1) = l.take j ++ [m] := by rw [List.take_add_one, hmj]; rfl
          rw [ht, List.map_append, List.foldl_append]
          refine ⟨?_, ?_⟩
          · show (chg _ (tri m)).length ≤ _
            rw [chg_length]
            simp only [tri]
            omega
          · exact chg_bound _ (tri m) (2147483647 + j) (by simp only [tri]; omega) h2
      have HBD := Lib.hid hb0
      clear hb0
      go_wp2
      go_loopw [5, 28] (fun v0 k0 wx => ∃ (v : Value) (j : Nat) (vs : List Value), v = v0 ∧ k0 = .int .i64 j ∧ j ≤ l.length ∧ RS29 w.heap.size wx v vs (((l.take j).map tri).foldl chg sss) ∧ Below w.heap.size w wx) (fun _ k0 _ => l.length - (intOf k0).toNat)
      case atStart => exact ⟨_, 0, vs, rfl, rfl, Nat.zero_le _, HR1.out, HB1.out⟩
      case round =>
        obtain ⟨v, j, vs1, rfl, rfl, hj, hR, hB⟩ := hrel
        have HR2 := Lib.hid hR
        have HB2 := Lib.hid hB
        clear hR
        by_cases hlt2 : j < l.length
        · obtain ⟨ad, rfl, q0, q1, q2⟩ := GCh.at_T36 (Kd.C_below HC.out hB) (j : Int) (by omega) (by omega)
          have hks : l.take (j + 1) = l.take j ++ [GCh.rd_T36 l (j : Int)] := by
            rw [List.take_add_one, List.getElem?_eq_getElem hlt2]
            simp [GCh.rd_T36, hlt2]
          have hmem : GCh.rd_T36 l (j : Int) ∈ l := by simp [GCh.rd_T36, hlt2]
          generalize GCh.rd_T36 l (j : Int) = c at *
          obtain ⟨⟨hy0, hy1⟩, hx0, hx1⟩ := HM.out c hmem
          obtain ⟨y, hy⟩ := Int.eq_ofNat_of_zero_le hy0
          obtain ⟨x, hx⟩ := Int.eq_ofNat_of_zero_le hx0
          simp only [Int.toNat_natCast] at q0 q1 q2
          rw [hy] at q0 hy1
          rw [hx] at q1 hx1
          have hnx : ((l.take (j + 1)).map tri).foldl chg sss = chg (((l.take j).map tri).foldl chg sss) (y, x, c.f2) := by
            rw [hks, List.map_append, List.foldl_append]
            simp only [List.map_cons, List.map_nil, List.foldl_cons, List.foldl_nil, tri, hy, hx, Int.toNat_natCast]
          obtain ⟨hbl, hbr⟩ := HBD.out j (by omega)
          generalize (((l.take j).map tri).foldl chg sss) = cur at *
          obtain ⟨A1, c1, rfl⟩ := own_slice HR2.out.own
          have HNX := Lib.hid hnx
          have HBL := Lib.hid (show cur.length ≤ 1099511627776 by omega)
          have HBR := Lib.hid hbr
          have HY := Lib.hid hy1
          have HX := Lib.hid hx1
          have hj31 : j ≤ 2147483647 := by omega
          clear hnx hbl hbr hy0 hx0 hy hx hks hmem hB hy1 hx1
          go_wp2
          obtain ⟨SX, hsx⟩ : ∃ z, z = wr.heap.size := ⟨_, rfl⟩
          have hba := below_alloc (Below.refl wr.heap.size wr) (.cells #[.int .i64 (y : Nat), .int .i64 (x : Nat), .string c.f2] 36 (0, 0))
          have HST := Lib.hid (And.intro (HR2.out.below DS_kp hba) (And.intro (show _ = some (Obj.cells #[.int .i64 (y : Nat), .int .i64 (x : Nat), .string c.f2] 36 (0, 0)) from hsx ▸ heap_alloc_new wr _) (below_then HB2.out HB2.out.size hba)))
          have hsl : w.heap.size ≤ SX := hsx ▸ HB2.out.size
          have HSL := Lib.hid hsl
          rw [← hsx]
          generalize wr.alloc (.cells #[.int .i64 (y : Nat), .int .i64 (x : Nat), .string c.f2] 36 (0, 0)) = wb at HST ⊢
          obtain ⟨G, hG⟩ : ∃ G : Nat, G = y + 1 - cur.length := ⟨_, rfl⟩
          have HG := Lib.hid hG
          clear hba hsx hsl hG q0 q1 q2
          go_loopg [5] G (fun gk v0 wr => ∃ (v : Value) (vs : List Value) (g : Nat), v0 = v ∧ g ≤ G ∧ gk = G - g ∧ RS29 w.heap.size wr v vs (cur ++ List.replicate g []) ∧ wr.heap[SX]? = some (.cells #[.int .i64 (y : Nat), .int .i64 (x : Nat), .string c.f2] 36 (0, 0)) ∧ Below w.heap.size w wr)
          case atStart => exact ⟨_, vs1, 0, rfl, Nat.zero_le _, rfl, by rw [List.replicate_zero, List.append_nil]; exact HST.out.1, HST.out.2.1, HST.out.2.2⟩
          case round =>
            obtain ⟨v, vs2, g, rfl, hgG, hgk, hR3, hS3, hB3⟩ := hrel
            have HGK := Lib.hid hgk
            have HR3 := Lib.hid hR3
            have HS3 := Lib.hid hS3
            have HB3 := Lib.hid hB3
            obtain ⟨p0, p1, p2⟩ := cells3 hS3
            obtain ⟨st, hst⟩ : ∃ z, z = cur ++ List.replicate g ([] : List ByteArray) := ⟨_, rfl⟩
            have hsl : st.length = cur.length + g := by rw [hst]; simp
            rw [← hst] at HR3
            obtain ⟨A3, c3', rfl⟩ := own_slice HR3.out.own
            have HST2 := Lib.hid hst
            have HSTL := Lib.hid hsl
            have hst40 : st.length ≤ 1099511627776 := by have := HBL.out; have := HG.out; have := HY.out; omega
            clear hgk hR3 hS3 hB3 hst hsl
            by_cases hle : st.length ≤ y
            · have hba := below_alloc (Below.refl wr.heap.size wr) (.cells #[] 9 (0, 0))
              have HBA := Lib.hid hba
              have HR4 := Lib.hid (HR3.out.below DS_kp hba)
              have HO0 := Lib.hid (own_empty (base := w.heap.size) (e := 9) (heap_alloc_new wr (.cells #[] 9 (0, 0))) HB3.out.size)
              have hvl : vs2.length = st.length := by have := HR3.out.own.1; omega
              have HVL := Lib.hid hvl
              have hgl : g < G := by have := HG.out; have := HSTL.out; omega
              clear hba hvl
              go_wp2_with (at_builtin; refine print_append (w0 := wr.alloc (.cells #[] 9 (0, 0))) w.heap.size rfl _ _ 22 28 (.slice none 0 0) 24 rfl Try.underlying22 infoStrs rfl (by decide) (.slice A3 st.length c3') vs2 (.slice (some ⟨wr.heap.size, 0, none⟩) 0 0) rfl (by first | rfl | simp [Act.eval]) (by first | rfl | simp [Act.eval]) ?own ?bel ?base ?len ?_; (case own => rw [HVL.out]; exact HR4.out.own); (case bel => exact Below.refl _ _); (case base => exact Nat.le_trans HB3.out.size HBA.out.size); (case len => rw [HVL.out]; omega); intro v2 w2 hown hb2 hg2 _; have HO2 := Lib.hid hown; have HG2 := Lib.hid hg2; clear hown hb2 hg2)
              have hlt4 := fun (i : Nat) (u : Value) (hu : vs2[i]? = some u) (b : Nat) (hb : u.ownBlock = some b) => HR3.out.lt hu b hb
              have hR5 := HR4.out.snoc (w1 := w2) (v1 := v2) (x := .slice (some ⟨wr.heap.size, 0, none⟩) 0 0) (ws := []) (ss := []) (by decide) DS_kp HO0.out (fun i x s hx => by simp at hx) (fun b hb u hu hub => by
                obtain ⟨i, hi⟩ := List.mem_iff_getElem?.1 hu
                have h1 := hlt4 i u hi b hub
                obtain rfl := Option.some.inj hb
                exact absurd h1 (Nat.lt_irrefl _)) (by have := HO2.out; rwa [List.length_append, List.length_singleton] at this) HG2.out
              have HR5 := Lib.hid hR5
              have hS5 : w2.heap[SX]? = some (.cells #[.int .i64 (y : Nat), .int .i64 (x : Nat), .string c.f2] 36 (0, 0)) := Kp.grown2 (e1 := 9) HG2.out HR4.out.own SX _ _ _ ((HBA.out.block SX (lt_of_block HS3.out)).trans HS3.out) (by decide) (by decide)
              have HS5 := Lib.hid hS5
              clear hlt4 hR5 hS5
              go_roundg (G - (g + 1))
              case measure => have := HGK.out; omega
              case rel =>
                refine ⟨v2, vs2 ++ [.slice (some ⟨wr.heap.size, 0, none⟩) 0 0], g + 1, rfl, hgl, rfl, ?_, HS5.out, (below_then HB3.out HB3.out.size HBA.out).grown HG2.out (Nat.le_trans HB3.out.size HBA.out.size) (fun k hk => own_base HR3.out.own k hk)⟩
                have := HR5.out
                rw [HST2.out, List.append_assoc] at this
                rw [List.replicate_succ']
                exact this
            · have hgG2 : g = G := by have := HG.out; have := HSTL.out; omega
              obtain ⟨g0, c3'', he0, hg0b, hg0l⟩ := HR3.out.own.form (by omega)
              injection he0 with he0 _ he1
              subst he0 he1
              obtain ⟨A5, c5, ws5, hu5, hO5, hC5, hcell5, hfroz5⟩ := HR3.out.cell rfl (i := y) (by omega)
              obtain ⟨r, hr⟩ : ∃ z, z = st.getD y [] := ⟨_, rfl⟩
              rw [← hr] at hu5 hO5 hC5 hcell5
              have hylt : y < st.length := by omega
              have hrl : r.length ≤ 2147483647 + j := by
                rw [hr, List.getD_eq_getElem?_getD, List.getElem?_eq_getElem hylt]
                have hm2 : st[y] ∈ cur ++ List.replicate g [] := by
                  have := List.getElem_mem hylt
                  rw [← HST2.out]
                  exact this
                rcases List.mem_append.1 hm2 with h | h
                · exact HBR.out _ h
                · rw [Option.getD_some, (List.mem_replicate.1 h).2]
                  exact Nat.zero_le _
              have hchg : chg cur (y, x, c.f2) = st.set y ((r ++ List.replicate (x - r.length) ByteArray.empty).take x ++ [c.f2] ++ (r ++ List.replicate (x - r.length) ByteArray.empty).drop x) := by
                simp only [chg]
                rw [hr, HST2.out, hgG2, HG.out]
              have HCHG := Lib.hid hchg
              have HU5 := Lib.hid hu5
              have HT0 := Lib.hid (Turned.refl (D := DS) hO5 hC5)
              have HO5 := Lib.hid hO5
              have HRL := Lib.hid (show r.length ≤ 1099511627776 by omega)
              have HGB0 := Lib.hid hg0b
              have HGL0 := Lib.hid hg0l
              have HYL := Lib.hid hylt
              clear hchg hu5 hO5 hC5 hr hrl hgG2 hg0b hg0l hylt
              go_wp2
              obtain ⟨G2, hG2⟩ : ∃ G2 : Nat, G2 = x - r.length := ⟨_, rfl⟩
              rw [← hG2] at HCHG
              have HG2 := Lib.hid hG2
              have HSA := Lib.hid HS3.out
              obtain ⟨wo, hwo⟩ : ∃ z, z = wr := ⟨_, rfl⟩
              have HWO := Lib.hid hwo
              rw [← hwo] at HR3 HS3 HB3 HT0 HO5 HGL0 HSA
              clear hG2 hwo p0 p1 p2
              go_loopg [10] G2 (fun gk v0 wr => ∃ (v : Value) (g : Nat), v0 = v ∧ g ≤ G2 ∧ gk = G2 - g ∧ Turned DS 9 w.heap.size wo wr (.slice A5 r.length c5) v (r ++ List.replicate g ByteArray.empty))
              case atStart => exact ⟨_, 0, rfl, Nat.zero_le _, rfl, by rw [List.replicate_zero, List.append_nil, ← HWO.out]; exact HT0.out⟩
              case round =>
                obtain ⟨v, g2, rfl, hg2, hgk2, hT⟩ := hrel
                have HGK2 := Lib.hid hgk2
                have hkp := Kp.grown1 (e2 := 28) hT.grown HO5.out
                have hS6 := hkp SX _ _ _ HS3.out (by decide) (by decide)
                obtain ⟨p0, p1, p2⟩ := cells3 hS6
                obtain ⟨rt, hrt⟩ : ∃ z, z = r ++ List.replicate g2 ByteArray.empty := ⟨_, rfl⟩
                have hrtl : rt.length = r.length + g2 := by rw [hrt]; simp
                have HRTL := Lib.hid hrtl
                have HRT := Lib.hid hrt
                rw [← hrt] at hT
                obtain ⟨A6, c6, ws6, rfl, hO6, hC6⟩ := hT.slice
                have HT := Lib.hid hT
                have HKP := Lib.hid hkp
                have HS6 := Lib.hid hS6
                have HO6 := Lib.hid hO6
                have HC6 := Lib.hid hC6
                have HW6 := Lib.hid (show ws6.length = rt.length by have := hO6.1; omega)
                have hrt40 : rt.length ≤ 1099511628776 := by have := HRL.out; have := HG2.out; have := HX.out; omega
                have HRT40 := Lib.hid hrt40
                have HBS := Lib.hid (Nat.le_trans HB3.out.size hT.grown.size)
                clear hgk2 hkp hS6 hrtl hrt hT hO6 hC6
                by_cases hlt6 : rt.length < x
                · have hg3 : g2 < G2 := by have := HG2.out; have := HRTL.out; omega
                  go_wp2_with (at_builtin; refine print_append (w0 := wr) w.heap.size rfl _ _ 28 9 (.string ⟨#[]⟩) 16 rfl Try.underlying28 infoStr rfl (by decide) (.slice A6 rt.length c6) ws6 (.string ⟨#[]⟩) rfl (by first | rfl | simp [Act.eval]) (by first | rfl | simp [Act.eval]) ?own ?bel ?base ?len ?_; (case own => rw [HW6.out]; exact HO6.out); (case bel => exact Below.refl _ _); (case base => exact HBS.out); (case len => rw [HW6.out]; have := HRT40.out; omega); intro v2 w2 hown hb2 hg2 hv2; have HT7 := Lib.hid (Turned.append DS_kp HO6.out HC6.out (show DS wr (.string ⟨#[]⟩) ByteArray.empty from rfl) hown hg2 hv2); clear hown hb2 hg2 hv2)
                  go_roundg (G2 - (g2 + 1))
                  case measure => have := HGK2.out; omega
                  case rel =>
                    refine ⟨v2, g2 + 1, rfl, hg3, rfl, ?_⟩
                    rw [List.replicate_succ', ← List.append_assoc, ← HRT.out]
                    exact HT.out.step HT7.out
                · have hgg : g2 = G2 := by have := HG2.out; have := HRTL.out; omega
                  have hx6 : x ≤ rt.length := by omega
                  have hc6 : rt.length ≤ c6 := by
                    rcases HO6.out.2 with ⟨hv, hn⟩ | ⟨_, _, _, hv, _, _, hc, _⟩
                    · injection hv with _ hv hv2
                      omega
                    · injection hv with _ _ hv
                      omega
                  have hc63 : c6 ≤ 9223372036854775807 := by
                    rcases HO6.out.2 with ⟨hv, hn⟩ | ⟨_, _, _, hv, _, _, _, hm, _⟩
                    · injection hv with _ hv hv2
                      omega
                    · injection hv with _ _ hv
                      simp only [maxLen] at hm
                      omega
                  have hsk : ∀ W', Below wr.heap.size wr W' → W'.cell? ⟨SX, 0, none⟩ = some (.int .i64 (y : Nat)) ∧ W'.cell? ⟨SX, 1, none⟩ = some (.int .i64 (x : Nat)) ∧ W'.cell? ⟨SX, 2, none⟩ = some (.string c.f2) ∧ Below wr.heap.size wr W' := by
                    intro W' hb
                    obtain ⟨t0, t1, t2⟩ := cells3 ((hb.block _ (lt_of_block HS6.out)).trans HS6.out)
                    exact ⟨t0, t1, t2, hb⟩
                  have HSK := Lib.hid hsk
                  have hws6 : ws6 = rt.map Value.string := HC6.out.strs HW6.out
                  have HAT := Lib.hid (fun W' (hb : Below wr.heap.size wr W') => own_part_take (W := W') (m := x) (hws6 ▸ HO6.out) hb hx6)
                  have HAD := Lib.hid (fun W' (hb : Below wr.heap.size wr W') => own_part_drop (W := W') (m := x) (hws6 ▸ HO6.out) hb hx6 hc6)
                  have HOU := Lib.hid (own_other HR3.out.own HT.out.grown (own_type_ne HR3.out.own HO5.out (by decide)))
                  have HTK := Lib.hid (show ((rt.take x).map Value.string).length = x by rw [List.length_map, List.length_take]; omega)
                  have hbs := HBS.out
                  have HWA := Lib.hid (show ((wr.alloc (.cells #[] 9 (0, 0))).drew).heap[wr.heap.size]? = some (.cells #[] 9 (0, 0)) from heap_alloc_new wr _)
                  have HWB := Lib.hid (show (((wr.alloc (.cells #[] 9 (0, 0))).alloc (.cells #[.string c.f2] 9 (0, 0))).drew).heap[wr.heap.size]? = some (.cells #[] 9 (0, 0)) from (Below.heap_alloc _ _ _ (by simp)).trans (heap_alloc_new wr _))
                  have HWC := Lib.hid (show (((wr.alloc (.cells #[.string c.f2] 9 (0, 0))).alloc (.cells #[] 9 (0, 0))).drew).heap[wr.heap.size + 1]? = some (.cells #[] 9 (0, 0)) from by have h := heap_alloc_new (wr.alloc (.cells #[.string c.f2] 9 (0, 0))) (.cells #[] 9 (0, 0)); rw [World.size_alloc] at h; exact h)
                  have HWD := Lib.hid (show (((wr.alloc (.cells #[] 9 (0, 0))).alloc (.cells #[.string c.f2] 9 (0, 0))).drew).heap[wr.heap.size + 1]? = some (.cells #[.string c.f2] 9 (0, 0)) from by have h := heap_alloc_new (wr.alloc (.cells #[] 9 (0, 0))) (.cells #[.string c.f2] 9 (0, 0)); rw [World.size_alloc] at h; exact h)
                  have HWE := Lib.hid (show (((wr.alloc (.cells #[.string c.f2] 9 (0, 0))).alloc (.cells #[] 9 (0, 0))).drew).heap[wr.heap.size]? = some (.cells #[.string c.f2] 9 (0, 0)) from (Below.heap_alloc _ _ _ (by simp)).trans (heap_alloc_new wr _))
                  have hxc : x ≤ c6 := by omega
                  have hxci : (x : Int) ≤ (c6 : Int) := by omega
                  have hx0i : (0 : Int) ≤ (x : Int) := by omega
                  clear hsk hws6
                  go_wp2_with fail
                  clear p0 p1 p2
                  first | go_region_held3 (fun W' => W'.cell? ⟨SX, 0, none⟩ = some (.int .i64 (y : Nat)) ∧ W'.cell? ⟨SX, 1, none⟩ = some (.int .i64 (x : Nat)) ∧ W'.cell? ⟨SX, 2, none⟩ = some (.string c.f2) ∧ Below wr.heap.size wr W') (first | exact HSK.out _ (Below.refl _ _).drew | exact HSK.out _ (below_alloc (Below.refl _ _) _).drew | exact HSK.out _ (below_alloc (below_alloc (Below.refl _ _) _) _).drew | exact HSK.out _ HBW2.out | exact HSK.out _ HBW1.out | exact HSK.out _ (below_alloc HBW1.out _))
                    (first
                    | (refine step_append_many rfl w.heap.size (.tmp 54) (.tmp 58) 28 9 _ 16 rfl Try.underlying28 infoStr rfl (.slice (some ⟨wr.heap.size, 0, none⟩) 0 0) 0 [] A6 x c6 ((rt.take x).map Value.string) rfl rfl HTK.out (HAT.out _ (below_alloc (Below.refl wr.heap.size wr) (.cells #[] 9 (0, 0))).drew) (strs_one _) (own_empty HWA.out (by omega)) (Nat.le_trans hbs (below_alloc (Below.refl wr.heap.size wr) (.cells #[] 9 (0, 0))).drew.size) (by omega) (by omega) ?_
                       intro v1 w1 hown hg hv
                       rw [Nat.zero_add, List.nil_append] at hown
                       obtain ⟨A7, c7, rfl⟩ := own_slice hown
                       have HO1 := Lib.hid hown
                       have HV1 := Lib.hid (new_of (N := wr.heap.size) hv (fun k hk => by obtain rfl := Option.some.inj hk; simp) (below_alloc (Below.refl wr.heap.size wr) (.cells #[] 9 (0, 0))).drew.size)
                       have HBW1 := Lib.hid (Below.grown (below_alloc (Below.refl wr.heap.size wr) (.cells #[] 9 (0, 0))).drew hg (below_alloc (Below.refl wr.heap.size wr) (.cells #[] 9 (0, 0))).drew.size (fun k hk => by obtain rfl := Option.some.inj hk; simp))
                       clear hown hg hv)
                    | (refine step_append_many rfl w.heap.size (.tmp 54) (.tmp 58) 28 9 _ 16 rfl Try.underlying28 infoStr rfl (.slice (some ⟨wr.heap.size, 0, none⟩) 0 0) 0 [] A6 x c6 ((rt.take x).map Value.string) rfl rfl HTK.out (HAT.out _ (below_alloc (below_alloc (Below.refl wr.heap.size wr) (.cells #[] 9 (0, 0))) (.cells #[.string c.f2] 9 (0, 0))).drew) (strs_one _) (own_empty HWB.out (by omega)) (Nat.le_trans hbs (below_alloc (below_alloc (Below.refl wr.heap.size wr) (.cells #[] 9 (0, 0))) (.cells #[.string c.f2] 9 (0, 0))).drew.size) (by omega) (by omega) ?_
                       intro v1 w1 hown hg hv
                       rw [Nat.zero_add, List.nil_append] at hown
                       obtain ⟨A7, c7, rfl⟩ := own_slice hown
                       have HO1 := Lib.hid hown
                       have HV1 := Lib.hid (new_of (N := wr.heap.size) hv (fun k hk => by obtain rfl := Option.some.inj hk; simp) (below_alloc (below_alloc (Below.refl wr.heap.size wr) (.cells #[] 9 (0, 0))) (.cells #[.string c.f2] 9 (0, 0))).drew.size)
                       have HBW1 := Lib.hid (Below.grown (below_alloc (below_alloc (Below.refl wr.heap.size wr) (.cells #[] 9 (0, 0))) (.cells #[.string c.f2] 9 (0, 0))).drew hg (below_alloc (below_alloc (Below.refl wr.heap.size wr) (.cells #[] 9 (0, 0))) (.cells #[.string c.f2] 9 (0, 0))).drew.size (fun k hk => by obtain rfl := Option.some.inj hk; simp))
                       have HX1 := Lib.hid ((hg.block (wr.heap.size + 1) (lt_of_block HWD.out) (by simp [Value.ownBlock])).trans HWD.out)
                       clear hown hg hv)
                    | (refine step_append_many rfl w.heap.size (.tmp 54) (.tmp 58) 28 9 _ 16 rfl Try.underlying28 infoStr rfl (.slice (some ⟨wr.heap.size + 1, 0, none⟩) 0 0) 0 [] A6 x c6 ((rt.take x).map Value.string) rfl rfl HTK.out (HAT.out _ (below_alloc (below_alloc (Below.refl wr.heap.size wr) (.cells #[.string c.f2] 9 (0, 0))) (.cells #[] 9 (0, 0))).drew) (strs_one _) (own_empty HWC.out (by omega)) (Nat.le_trans hbs (below_alloc (below_alloc (Below.refl wr.heap.size wr) (.cells #[.string c.f2] 9 (0, 0))) (.cells #[] 9 (0, 0))).drew.size) (by omega) (by omega) ?_
                       intro v1 w1 hown hg hv
                       rw [Nat.zero_add, List.nil_append] at hown
                       obtain ⟨A7, c7, rfl⟩ := own_slice hown
                       have HO1 := Lib.hid hown
                       have HV1 := Lib.hid (new_of (N := wr.heap.size) hv (fun k hk => by obtain rfl := Option.some.inj hk; simp) (below_alloc (below_alloc (Below.refl wr.heap.size wr) (.cells #[.string c.f2] 9 (0, 0))) (.cells #[] 9 (0, 0))).drew.size)
                       have HBW1 := Lib.hid (Below.grown (below_alloc (below_alloc (Below.refl wr.heap.size wr) (.cells #[.string c.f2] 9 (0, 0))) (.cells #[] 9 (0, 0))).drew hg (below_alloc (below_alloc (Below.refl wr.heap.size wr) (.cells #[.string c.f2] 9 (0, 0))) (.cells #[] 9 (0, 0))).drew.size (fun k hk => by obtain rfl := Option.some.inj hk; simp))
                       have HX2 := Lib.hid ((hg.block wr.heap.size (lt_of_block HWE.out) (by simp [Value.ownBlock])).trans HWE.out)
                       clear hown hg hv)
                    | (refine step_append_many rfl w.heap.size (.tmp 59) (.tmp 62) 28 9 _ 16 rfl Try.underlying28 infoStr rfl (.slice A7 x c7) x ((rt.take x).map Value.string) (some ⟨w1.heap.size, 0, none⟩) 1 1 [.string c.f2] rfl rfl rfl (fun _ => ⟨_, rfl, one_cell (heap_alloc_new w1 _)⟩) (by simp [Value.oneCell']) (HO1.out.alloc _) (Nat.le_trans hbs (below_alloc HBW1.out (.cells #[.string c.f2] 9 (0, 0))).size) (by omega) (by omega) ?_
                       intro v2 w2 hown hg hv
                       obtain ⟨A8, c8, rfl⟩ := own_slice hown
                       have HO2 := Lib.hid hown
                       have HV2 := Lib.hid (new_of2 (N := wr.heap.size) hv HV1.out (below_alloc HBW1.out (.cells #[.string c.f2] 9 (0, 0))).size)
                       have HBW2 := Lib.hid (Below.grown (below_alloc HBW1.out (.cells #[.string c.f2] 9 (0, 0))) hg (below_alloc HBW1.out (.cells #[.string c.f2] 9 (0, 0))).size HV1.out)
                       clear hown hg hv)
                    | (refine step_append_many rfl w.heap.size (.tmp 59) (.tmp 62) 28 9 _ 16 rfl Try.underlying28 infoStr rfl (.slice A7 x c7) x ((rt.take x).map Value.string) (some ⟨wr.heap.size + 1, 0, none⟩) 1 1 [.string c.f2] rfl rfl rfl (fun _ => ⟨_, rfl, one_cell HX1.out⟩) (by simp [Value.oneCell']) HO1.out (Nat.le_trans hbs HBW1.out.size) (by omega) (by omega) ?_
                       intro v2 w2 hown hg hv
                       obtain ⟨A8, c8, rfl⟩ := own_slice hown
                       have HO2 := Lib.hid hown
                       have HV2 := Lib.hid (new_of2 (N := wr.heap.size) hv HV1.out HBW1.out.size)
                       have HBW2 := Lib.hid (Below.grown HBW1.out hg HBW1.out.size HV1.out)
                       clear hown hg hv)
                    | (refine step_append_many rfl w.heap.size (.tmp 59) (.tmp 62) 28 9 _ 16 rfl Try.underlying28 infoStr rfl (.slice A7 x c7) x ((rt.take x).map Value.string) (some ⟨wr.heap.size, 0, none⟩) 1 1 [.string c.f2] rfl rfl rfl (fun _ => ⟨_, rfl, one_cell HX2.out⟩) (by simp [Value.oneCell']) HO1.out (Nat.le_trans hbs HBW1.out.size) (by omega) (by omega) ?_
                       intro v2 w2 hown hg hv
                       obtain ⟨A8, c8, rfl⟩ := own_slice hown
                       have HO2 := Lib.hid hown
                       have HV2 := Lib.hid (new_of2 (N := wr.heap.size) hv HV1.out HBW1.out.size)
                       have HBW2 := Lib.hid (Below.grown HBW1.out hg HBW1.out.size HV1.out)
                       clear hown hg hv)) | skip
                  all_goals (
                    go_wp2_with fail
                    have hyl := HYL.out
                    refine start_ (n := 11) (S := fun W' => W'.cell? ⟨SX, 0, none⟩ = some (.int .i64 (y : Nat)) ∧ W'.cell? ⟨SX, 1, none⟩ = some (.int .i64 (x : Nat)) ∧ W'.cell? ⟨SX, 2, none⟩ = some (.string c.f2) ∧ Below wr.heap.size wr W') (ds := [10]) #[false, false, false, false, false, false, false, false, false, false, false] rfl rfl rfl (HSK.out _ HBW2.out.drew) (fun hHeld => ?_)
                    refine pure_ (i := 0) (N := some 64) (v := ?_) (a' := ?_) #[true, false, false, false, false, false, false, false, false, false, false] rfl rfl (by kernel_rfl) (fun _ _ _ h => h) (Or.inl ⟨by rfl, ?_⟩) ?_ ?_
                    rotate_left
                    · intro w'
                      go_simp
                      with_reducible rfl
                    rotate_left
                    · simp only [Act.put, List.setIfInBounds_toArray, List.set_cons_zero, List.set_cons_succ]
                      rfl
                    refine pure_ (i := 1) (N := some 65) (v := ?_) (a' := ?_) #[true, true, false, false, false, false, false, false, false, false, false] rfl rfl (by kernel_rfl) (fun _ _ _ h => h) (Or.inl ⟨by rfl, ?_⟩) ?_ ?_
                    rotate_left
                    · intro w'
                      go_simp
                      with_reducible rfl
                    rotate_left
                    · simp only [Act.put, List.setIfInBounds_toArray, List.set_cons_zero, List.set_cons_succ]
                      rfl
                    refine take_ (i := 2) (N := some 66) (v := ?_) (a' := ?_) #[true, true, true, false, false, false, false, false, false, false, false] rfl rfl (by kernel_rfl) (fun _ _ _ h => h) (Or.inl ⟨by rfl, ?_⟩) hHeld ?_ ?_
                    rotate_left
                    · rintro w' ⟨s0_, s1_, s2_, s3_⟩
                      go_simp
                      with_reducible rfl
                    rotate_left
                    · simp only [Act.put, List.setIfInBounds_toArray, List.set_cons_zero, List.set_cons_succ]
                      rfl
                    refine pure_ (i := 3) (N := some 67) (v := ?_) (a' := ?_) #[true, true, true, true, false, false, false, false, false, false, false] rfl rfl (by kernel_rfl) (fun _ _ _ h => h) (Or.inl ⟨by rfl, ?_⟩) ?_ ?_
                    rotate_left
                    · intro w'
                      go_simp
                      with_reducible rfl
                    rotate_left
                    · simp only [Act.put, List.setIfInBounds_toArray, List.set_cons_zero, List.set_cons_succ]
                      rfl
                    refine pure_ (i := 4) (N := some 68) (v := ?_) (a' := ?_) #[true, true, true, true, true, false, false, false, false, false, false] rfl rfl (by kernel_rfl) (fun _ _ _ h => h) (Or.inl ⟨by rfl, ?_⟩) ?_ ?_
                    rotate_left
                    · intro w'
                      go_simp
                      with_reducible rfl
                    rotate_left
                    · simp only [Act.put, List.setIfInBounds_toArray, List.set_cons_zero, List.set_cons_succ]
                      rfl
                    refine pure_ (i := 5) (N := some 69) (v := ?_) (a' := ?_) #[true, true, true, true, true, true, false, false, false, false, false] rfl rfl (by kernel_rfl) (fun _ _ _ h => h) (Or.inl ⟨by rfl, ?_⟩) ?_ ?_
                    rotate_left
                    · intro w'
                      go_simp
                      with_reducible rfl
                    rotate_left
                    · simp only [Act.put, List.setIfInBounds_toArray, List.set_cons_zero, List.set_cons_succ]
                      rfl
                    refine take_ (i := 6) (N := some 70) (v := ?_) (a' := ?_) #[true, true, true, true, true, true, true, false, false, false, false] rfl rfl (by kernel_rfl) (fun _ _ _ h => h) (Or.inl ⟨by rfl, ?_⟩) hHeld ?_ ?_
                    rotate_left
                    · rintro w' ⟨s0_, s1_, s2_, s3_⟩
                      go_simp
                      with_reducible rfl
                    rotate_left
                    · simp only [Act.put, List.setIfInBounds_toArray, List.set_cons_zero, List.set_cons_succ]
                      rfl
                    refine pure_ (i := 7) (N := some 71) (v := ?_) (a' := ?_) #[true, true, true, true, true, true, true, true, false, false, false] rfl rfl (by kernel_rfl) (fun _ _ _ h => h) (Or.inl ⟨by rfl, ?_⟩) ?_ ?_
                    rotate_left
                    · intro w'
                      go_simp
                      with_reducible rfl
                    rotate_left
                    · simp only [Act.put, List.setIfInBounds_toArray, List.set_cons_zero, List.set_cons_succ]
                      rfl
                    refine one_ (i := 8) (N := some 72) #[true, true, true, true, true, true, true, true, true, false, false] rfl rfl (by kernel_rfl) (by decide) (fun K hK => ?_)
                    refine step_append_many rfl w.heap.size (.tmp 67) (.tmp 71) 28 9 _ 16 rfl Try.underlying28 infoStr rfl (.slice A8 (x + 1) c8) (x + 1) ((rt.take x).map Value.string ++ [.string c.f2]) (if c6 = x then A6 else Option.map (fun z => z.add x) A6) (rt.length - x) (c6 - x) ((rt.drop x).map Value.string) rfl rfl (by rw [List.length_map, List.length_drop]) (HAD.out _ HBW2.out.drew) (strs_one _) (own_drew HO2.out) (Nat.le_trans hbs HBW2.out.size) (by omega) (by omega) ?_
                    intro v3 w3 hown hg hv
                    obtain ⟨A9, c9, rfl⟩ := own_slice hown
                    have HO3 := Lib.hid hown
                    have hbw3 : Below wr.heap.size wr w3 := HBW2.out.drew.grown hg HBW2.out.drew.size HV2.out
                    have HV3 := Lib.hid (new_of (N := wr.heap.size) hv HV2.out HBW2.out.drew.size)
                    have hou := pw_own_below HOU.out hbw3
                    have hcell3 := hou.cells (g := g0) rfl y _ HU5.out
                    rw [add_plain] at hcell3
                    have hfroz3 := hou.frozenAt (g := g0) y
                    have HBW3 := Lib.hid hbw3
                    have HOU3 := Lib.hid hou
                    clear hown hg hv hbw3 hou
                    refine hK.out _ _ ?_ (fun hHeld => ?_)
                    · exact HSK.out _ HBW3.out
                    clear hK K
                    try simp only [Act.put, List.setIfInBounds_toArray, List.set_cons_zero, List.set_cons_succ]
                    refine pure_ (i := 9) (N := some 73) (v := ?_) (a' := ?_) #[true, true, true, true, true, true, true, true, true, true, false] rfl rfl (by kernel_rfl) (fun _ _ _ h => h) (Or.inl ⟨by rfl, ?_⟩) ?_ ?_
                    rotate_left
                    · intro w'
                      go_simp
                      with_reducible rfl
                    rotate_left
                    · simp only [Act.put, List.setIfInBounds_toArray, List.set_cons_zero, List.set_cons_succ]
                      rfl
                    refine last_ (i := 10) (N := none) #[true, true, true, true, true, true, true, true, true, true, true] rfl rfl (by kernel_rfl) (by decide) (fun K hK => ?_)
                    go_simp
                    refine hK.out _ _ ?_
                    clear hK K
                    try simp only [Act.put, List.setIfInBounds_toArray, List.set_cons_zero, List.set_cons_succ]
                    refine done_ (by kernel_rfl) ?_
                    go_wp2_with fail
                    go_roundw
                    case rel =>
                      obtain ⟨g9, _, he9, _, hg9⟩ := HO3.out.form (by omega)
                      injection he9 with he9 _ _
                      subst he9
                      have hT3 : Turned DS 9 w.heap.size wo w3 (.slice A5 r.length c5) (.slice (some ⟨g9, 0, none⟩) (x + 1 + (rt.length - x)) c9) (rt.take x ++ [c.f2] ++ rt.drop x) := by
                        have hxl : x + 1 + (rt.length - x) = (rt.take x ++ [c.f2] ++ rt.drop x).length := by simp only [List.length_append, List.length_take, List.length_drop, List.length_singleton]; omega
                        refine ⟨⟨_, ?_, cells_strs _ _⟩, grown_then HT.out.grown (grown_below HBW3.out none) (fun k hk => by cases hk), .inr ⟨g9, rfl, Nat.le_trans HT.out.grown.size (HV3.out g9 rfl)⟩⟩
                        rw [← hxl]
                        have h := HO3.out
                        simp only [List.map_append, List.map_cons, List.map_nil]
                        exact h
                      refine ⟨_, j + 1, vs2.set y (.slice (some ⟨g9, 0, none⟩) (x + 1 + (rt.length - x)) c9), rfl, by go_num, hlt2, ?_, ?_⟩
                      · rw [HNX.out, HCHG.out, ← hgg, ← HRT.out]
                        exact HR3.out.put (by decide) DS_kp rfl HU5.out hT3
                      · exact ((HB3.out.grown HT.out.grown HB3.out.size (fun k hk => own_base HO5.out k hk)).trans (HBW3.out.mono hbs)).setCell (p := ⟨g0, y, none⟩) HGB0.out _
                    case measure => simp [intOf]; omega)
        · obtain rfl : j = l.length := by omega
          go_wp2
          go_ret
          exact ⟨_, vs1, rfl, by have := HR2.out; rwa [List.take_length] at this, HB2.out⟩
end Go.Proofs.Ytnhcocjdkmelhaa.Hand
