/- table.applyModifications by hand: each change puts its cell into its row at its column. -/
import Derived.Test.YtnhcocjdkmelhaaChGrow
import Derived.Test.YtnhcocjdkmelhaaChInsOwn
import Derived.Deep.RegionLaw
import Derived.Deep.RegionHeld3
import Derived.Deep.CutRange
namespace Go.Proofs.Ytnhcocjdkmelhaa.Hand
open Go.RowKit Go.Proofs.YtnhcocjdkmelhaaW.PrintWords Go.Proofs.YtnhcocjdkmelhaaW.PrintLast Go.Proofs.YtnhcocjdkmelhaaW.PrintMore
set_option linter.unusedVariables false

/-- What one change (row, column, text) makes of rows. -/
def chg (sss : List (List ByteArray)) (m : Nat × Nat × ByteArray) : List (List ByteArray) :=
  let s1 := sss ++ List.replicate (m.1 + 1 - sss.length) []
  let r := s1.getD m.1 []
  let r1 := r ++ List.replicate (m.2.1 - r.length) ByteArray.empty
  s1.set m.1 (r1.take m.2.1 ++ [m.2.2] ++ r1.drop m.2.1)
/-- A row of three cells each: row, column, and a row of bytes. -/
def MAt (t : TypeId) (w : World) (A : Option Addr) (l : List (Nat × Nat × ByteArray)) : Prop :=
  0 < l.length → ∃ g, A = some ⟨g, 0, none⟩ ∧ (∃ cells fr, w.heap[g]? = some (.cells cells t fr)) ∧ ∀ j y x s, l[j]? = some (y, x, s) → ∃ v, w.cell? ⟨g, j * 3, none⟩ = some (.int .i64 (y : Nat)) ∧ w.cell? ⟨g, j * 3 + 1, none⟩ = some (.int .i64 (x : Nat)) ∧ w.cell? ⟨g, j * 3 + 2, none⟩ = some v ∧ BRow w v s
theorem BRow.kp {w w1 : World} {x : Value} {s : ByteArray} (h : Kp 46 50 w w1) (hd : BRow w x s) : BRow w1 x s := by
  obtain ⟨k, cap, cur, fr, rfl, h1, h2, h3⟩ := hd
  exact ⟨k, cap, cur, fr, rfl, h1, h k _ _ _ h2 (by decide) (by decide), h3⟩
theorem MAt.kp {t : TypeId} {w w1 : World} {A : Option Addr} {l : List (Nat × Nat × ByteArray)} (ht : t ≠ 46 ∧ t ≠ 50) (h : Kp 46 50 w w1) (hm : MAt t w A l) : MAt t w1 A l := by
  intro h0
  obtain ⟨g, rfl, ⟨cells, fr, hb⟩, hc⟩ := hm h0
  refine ⟨g, rfl, ⟨cells, fr, h g _ _ _ hb ht.1 ht.2⟩, fun j y x s hj => ?_⟩
  obtain ⟨v, h1, h2, h3, h4⟩ := hc j y x s hj
  have hk : ∀ o, w1.cell? ⟨g, o, none⟩ = w.cell? ⟨g, o, none⟩ := fun o => World.cell?_of_block (w := w) (a := ⟨g, o, none⟩) ((h g _ _ _ hb ht.1 ht.2).trans hb.symm)
  exact ⟨v, (hk _).trans h1, (hk _).trans h2, (hk _).trans h3, h4.kp h⟩
theorem chg_length (sss : List (List ByteArray)) (m : Nat × Nat × ByteArray) : (chg sss m).length = max sss.length (m.1 + 1) := by
  unfold chg
  simp
  omega
theorem chg_bound (sss : List (List ByteArray)) (m : Nat × Nat × ByteArray) (B : Nat) (hB : m.2.1 ≤ B) (h : ∀ ss ∈ sss, ss.length ≤ B) : ∀ ss ∈ chg sss m, ss.length ≤ B + 1 := by
  intro ss hs
  unfold chg at hs
  obtain ⟨s1, h1⟩ : ∃ x, x = sss ++ List.replicate (m.1 + 1 - sss.length) ([] : List ByteArray) := ⟨_, rfl⟩
  rw [← h1] at hs
  have hb : ∀ st ∈ s1, st.length ≤ B := by
    intro st hst
    rw [h1] at hst
    rcases List.mem_append.1 hst with hst | hst
    · exact h st hst
    · rw [(List.mem_replicate.1 hst).2]
      exact Nat.zero_le _
  rcases List.mem_or_eq_of_mem_set hs with hs | hs
  · exact Nat.le_succ_of_le (hb ss hs)
  · have hr : (s1.getD m.1 []).length ≤ B := by
      rw [List.getD_eq_getElem?_getD]
      cases he : s1[m.1]? with
      | none => exact Nat.zero_le _
      | some x => exact hb x (List.mem_of_getElem? he)
    rw [hs]
    simp only [List.length_append, List.length_take, List.length_drop, List.length_singleton, List.length_replicate]
    omega
theorem heap_setCell_ne (w : World) {b k : Nat} (i : Nat) (v : Value) (h : k ≠ b) : (w.setCell ⟨b, i, none⟩ v).heap[k]? = w.heap[k]? := Below.heap_setCell _ _ _ _ (by show k ≠ b; exact h)
theorem cells3 {w : World} {S : Nat} {a b c : Value} {t : TypeId} {fr : Nat × Nat} (h : w.heap[S]? = some (.cells #[a, b, c] t fr)) : w.cell? ⟨S, 0, none⟩ = some a ∧ w.cell? ⟨S, 1, none⟩ = some b ∧ w.cell? ⟨S, 2, none⟩ = some c := by
  simp [World.cell?, h]
theorem RT.cell {w : World} {base g n cap i : Nat} {vs : List Value} {sss : List (List ByteArray)} {e1 e2 : TypeId} {D : World → Value → ByteArray → Prop} (h : RT D e1 e2 base w (.slice (some ⟨g, 0, none⟩) n cap) vs sss) (hn : n = sss.length) (hi : i < n) :
    ∃ A c ws, vs[i]? = some (.slice A (sss.getD i []).length c) ∧ w.ownsRow base e1 1 (.slice A (sss.getD i []).length c) (sss.getD i []).length ws ∧ Cells D w ws (sss.getD i []) ∧ w.cell? ⟨g, i, none⟩ = some (.slice A (sss.getD i []).length c) ∧ w.frozen? ⟨g, i, none⟩ = false := by
  subst hn
  have hl := h.own.1
  obtain ⟨u, hu⟩ : ∃ u, vs[i]? = some u := ⟨_, List.getElem?_eq_getElem (by omega)⟩
  have hs : sss[i]? = some (sss.getD i []) := by rw [List.getD_eq_getElem?_getD, List.getElem?_eq_getElem hi]; rfl
  obtain ⟨ws, h1, h2⟩ := h.rows i u _ hu hs
  obtain ⟨A, c, rfl⟩ := own_slice h1
  have hc := h.own.cells (g := g) rfl i _ hu
  rw [add_plain] at hc
  exact ⟨A, c, ws, hu, h1, h2, hc, h.own.frozenAt i⟩

theorem Cells.insert {D : World → Value → ByteArray → Prop} {w : World} {ws : List Value} {ss : List ByteArray} {d : Value} {s : ByteArray} {i : Nat} (h : Cells D w ws ss) (hl : ws.length = ss.length) (hi : i ≤ ws.length) (hd : D w d s) : Cells D w (ws.take i ++ [d] ++ ws.drop i) (ss.take i ++ [s] ++ ss.drop i) := by
  intro j x t hx ht
  rcases drop_cell hi hx with ⟨h1, h2⟩ | ⟨h1, h2⟩ | ⟨h1, h2⟩ <;> rcases drop_cell (hl ▸ hi) ht with ⟨h3, h4⟩ | ⟨h3, h4⟩ | ⟨h3, h4⟩ <;> try omega
  · exact h j x t h2 h4
  · rw [h2, h4]
    exact hd
  · rw [List.getElem?_drop] at h2 h4
    exact h _ x t h2 h4
theorem Cells.one {w : World} {ws : List Value} {ss : List ByteArray} (h : Cells DB w ws ss) (hl : ws.length = ss.length) : ∀ x ∈ ws, x.oneCell' = true := by
  intro x hx
  obtain ⟨j, hj⟩ := List.mem_iff_getElem?.1 hx
  have hjl := (List.getElem?_eq_some_iff.1 hj).1
  exact (h j x _ hj (List.getElem?_eq_getElem (by omega))).one

set_option maxRecDepth 100000 in
set_option maxHeartbeats 8000000 in
theorem apply_any (v : Value) (vs : List Value) (sss : List (List ByteArray)) (A : Option Addr) (cm : Nat) (l : List (Nat × Nat × ByteArray)) (base : Nat) (w : World) (hl : l.length ≤ 2147483647) (hsl : sss.length ≤ 2147483647) (hsr : ∀ ss ∈ sss, ss.length ≤ 2147483647) (hm : ∀ m ∈ l, m.1 ≤ 1000 ∧ m.2.1 ≤ 1000) (hbase : base ≤ w.heap.size)
    (hR : RT DB 46 50 base w v vs sss) (hM : MAt 72 w A l) :
    Calls Try.prog 27 #[v, .slice A l.length cm] w fun e w' => ∃ v' vs', e = .returned v' ∧ RT DB 46 50 base w' v' vs' (l.foldl chg sss) ∧ Below base w w' := by
  obtain ⟨A0, c0, rfl⟩ := own_slice hR.own
  have HR := Lib.hid hR
  have HM := Lib.hid hM
  have HPL := Lib.hid hm
  have hb0 : (∀ j, j ≤ l.length → ((l.take j).foldl chg sss).length ≤ 2147484700 ∧ ∀ ss ∈ (l.take j).foldl chg sss, ss.length ≤ 2147483647 + j) := by
    intro j
    induction j with
    | zero => exact fun _ => ⟨by simpa using Nat.le_trans hsl (by decide), by simpa using hsr⟩
    | succ j ih =>
      intro hj
      obtain ⟨h1, h2⟩ := ih (by omega)
      obtain ⟨m, hmj⟩ : ∃ m, l[j]? = some m := ⟨_, List.getElem?_eq_getElem (by omega)⟩
      have hp := hm m (List.mem_of_getElem? hmj)
      have ht : l.take (j + 1) = l.take j ++ [m] := by rw [List.take_add_one, hmj]; rfl
      rw [ht, List.foldl_append]
      refine ⟨?_, ?_⟩
      · show (chg _ m).length ≤ _
        rw [chg_length]
        omega
      · exact chg_bound _ m (2147483647 + j) (by omega) h2
  have HBD := Lib.hid hb0
  clear hR hM hm hb0 hsr hsl
  go_enter Try.func27, Try.ntmps27
  go_wp2
  go_loopw [0, 9] (fun v0 k0 wr => ∃ (v : Value) (j : Nat) (vs : List Value), v = v0 ∧ k0 = .int .i64 j ∧ j ≤ l.length ∧ RT DB 46 50 base wr v vs ((l.take j).foldl chg sss) ∧ Kp 46 50 w wr ∧ Below base w wr) (fun _ k0 _ => l.length - (intOf k0).toNat)
  case atStart => exact ⟨_, 0, vs, rfl, rfl, Nat.zero_le _, HR.out, Kp.refl _ _ _, Below.refl _ _⟩
  case round =>
    obtain ⟨v, j, vs1, rfl, rfl, hj, hR, hK, hB⟩ := hrel
    have HR1 := Lib.hid hR
    have HK1 := Lib.hid hK
    have HB1 := Lib.hid hB
    clear hR hK hB
    by_cases hlt : j < l.length
    · obtain ⟨⟨y, x, s⟩, hmj⟩ : ∃ m, l[j]? = some m := ⟨_, List.getElem?_eq_getElem hlt⟩
      obtain ⟨gm, rfl, ⟨mcells, mfr, hmb⟩, hmc⟩ := (HM.out.kp (by decide) HK1.out) (by omega)
      obtain ⟨dv, m0, m1, m2, hdv⟩ := hmc j y x s hmj
      obtain ⟨hy1, hx1⟩ := HPL.out _ (List.mem_of_getElem? hmj)
      simp only at hy1 hx1
      obtain ⟨hbl, hbr⟩ := HBD.out j (by omega)
      have hnx : (l.take (j + 1)).foldl chg sss = chg ((l.take j).foldl chg sss) (y, x, s) := by
        rw [List.take_add_one, hmj, List.foldl_append]
        rfl
      generalize (l.take j).foldl chg sss = cur at *
      have HNX := Lib.hid hnx
      obtain ⟨A1, c1, rfl⟩ := own_slice HR1.out.own
      have HDV := Lib.hid hdv
      obtain ⟨dk, dcap, dcur, dfr, rfl, _⟩ := hdv
      have hgml : gm < wr.heap.size := lt_of_block hmb
      have hbw : base ≤ wr.heap.size := Nat.le_trans hbase HB1.out.size
      have HBW := Lib.hid hbw
      have HBL := Lib.hid (show cur.length ≤ 1099511627776 by omega)
      have HBR := Lib.hid hbr
      have hj31 : j ≤ 2147483647 := by omega
      have HY := Lib.hid hy1
      have HX := Lib.hid hx1
      clear hmc hmb hmj hnx hbl hbr hbw hy1 hx1 hbase hl
      obtain ⟨s1, hs1⟩ : ∃ z, z = cur ++ List.replicate ((y : Int) + 1 - (cur.length : Int)).toNat ([] : List ByteArray) := ⟨_, rfl⟩
      have hs1l : y < s1.length := by rw [hs1, List.length_append, List.length_replicate]; omega
      have hs1b : ∀ ss ∈ s1, ss.length ≤ 2147483647 + j := by
        intro ss hss
        rw [hs1] at hss
        rcases List.mem_append.1 hss with hss | hss
        · exact HBR.out ss hss
        · rw [(List.mem_replicate.1 hss).2]
          exact Nat.zero_le _
      obtain ⟨r, hr⟩ : ∃ z, z = s1.getD y [] := ⟨_, rfl⟩
      have hrl : r.length ≤ 2147483647 + j := by
        rw [hr, List.getD_eq_getElem?_getD, List.getElem?_eq_getElem hs1l]
        exact hs1b _ (List.getElem_mem hs1l)
      obtain ⟨r1, hr1⟩ : ∃ z, z = r ++ List.replicate ((x : Int) - 1 + 1 - (r.length : Int)).toNat ByteArray.empty := ⟨_, rfl⟩
      have hr1l : r1.length = max r.length x := by rw [hr1, List.length_append, List.length_replicate]; omega
      obtain ⟨xm, hxm⟩ : ∃ z : Int, z = (x : Int) - 1 := ⟨_, rfl⟩
      have hwx : IntKind.i64.wrap ((x : Int) - 1) = xm := by
        have := HX.out
        rw [hxm, IntKind.wrap_i64]
        omega
      have hchg : chg cur (y, x, s) = s1.set y (r1.take x ++ [s] ++ r1.drop x) := by
        simp only [chg]
        rw [hr1, hr, hs1, show ((y : Int) + 1 - (cur.length : Int)).toNat = y + 1 - cur.length by omega]
        rw [show ∀ n : Nat, ((x : Int) - 1 + 1 - (n : Int)).toNat = x - n by intro n; omega]
      have HS1 := Lib.hid hs1
      have HR1E := Lib.hid hr1
      have HRL := Lib.hid (show r.length ≤ 1099511627776 by omega)
      have HR1L := Lib.hid (show x ≤ r1.length ∧ r1.length ≤ 1099511627776 by have := HX.out; omega)
      have HXM := Lib.hid hxm
      have HXK := Lib.hid (show -1 ≤ xm ∧ xm ≤ 1000 by have := HX.out; omega)
      have HCHG := Lib.hid hchg
      have HRE := Lib.hid hr
      clear hs1 hs1b hrl hr1 hr1l hxm hchg hr
      go_upto_region 5 with (
        go_at_call 32
        refine (growRows_any (.slice A1 cur.length c1) vs1 cur y base _ ⟨by omega, by have := HY.out; omega⟩ HBL.out (by simp; exact Nat.le_succ_of_le HBW.out) (HR1.out.below DB_kp (below_alloc (Below.refl _ _) _))).mono ?_
        rintro e w1 ⟨v1, vs2, rfl, hR2, hg2⟩
        rw [← HS1.out] at hR2
        obtain ⟨g, c2, rfl, hgb, hgl⟩ := hR2.own.form (by omega)
        have hhs := (Kp.grown2 (e1 := 46) hg2 (HR1.out.below DB_kp (below_alloc (Below.refl _ _) (.cells #[.int .i64 (y : Nat), .int .i64 (x : Nat), .slice (some ⟨dk, 0, none⟩) s.size dcap] 72))).own) wr.heap.size _ _ _ (heap_alloc_new wr _) (by decide) (by decide)
        obtain ⟨q0, q1, q2⟩ := cells3 hhs
        obtain ⟨A2, c3, ws, hu2, hO2, hC2, hcell, hfroz⟩ := hR2.cell rfl hs1l
        rw [← HRE.out] at hu2 hO2 hC2 hcell
        have hsz1 : wr.heap.size < w1.heap.size := lt_of_block hhs
        have HR2 := Lib.hid hR2
        have HG2 := Lib.hid hg2
        have HHS := Lib.hid hhs
        have HU2 := Lib.hid hu2
        have HO2 := Lib.hid hO2
        have HC2 := Lib.hid hC2
        clear hR2 hg2 hhs hu2 hO2 hC2)
      have hSg : wr.heap.size ≠ g := fun e => by
        obtain ⟨c, hc⟩ := own_typed HR2.out.own g rfl
        have h := HHS.out
        rw [e, hc] at h
        injection h with h
        injection h with _ h
        exact absurd h (by decide)
      have hgS : g ≠ wr.heap.size := fun e => hSg e.symm
      have HBS1 := Lib.hid (show base ≤ w1.drew.heap.size from Nat.le_trans HBW.out (Nat.le_of_lt hsz1))
      have HR2D := Lib.hid (HR2.out.below DB_kp (below_drew (Below.refl _ w1)))
      have HO2D := Lib.hid (own_drew HO2.out)
      have HC2D := Lib.hid (HC2.out.mono fun x s hx => DB_kp w1 w1.drew x s (Kp.below (below_drew (Below.refl _ w1))) hx)
      have HHSD := Lib.hid (show w1.drew.heap[wr.heap.size]? = some (.cells #[.int .i64 (y : Nat), .int .i64 (x : Nat), .slice (some ⟨dk, 0, none⟩) s.size dcap] 72 (0, 0)) from HHS.out)
      go_cut [] from 17 to 29 (fun wx => (∃ vs3, RT DB 46 50 base wx (.slice (some ⟨g, 0, none⟩) s1.length c2) vs3 (s1.set y r1)) ∧ Kp 46 50 w1.drew wx ∧ Below base w1.drew wx)
      case first =>
        go_region_law (
          go_simp
          go_at_call 33
          refine (growCells_any (.slice A2 r.length c3) ws r xm base w1.drew HXK.out HRL.out HBS1.out HO2D.out HC2D.out).mono ?_
          rintro e w2 ⟨v2, rfl, hT⟩
          rw [HXM.out, ← HR1E.out] at hT
          have hkp := Kp.grown1 (e2 := 50) hT.grown HO2D.out
          have hhs2 := hkp wr.heap.size _ _ _ HHSD.out (by decide) (by decide)
          obtain ⟨p0, p1, p2⟩ := cells3 hhs2
          have hown2 := own_other HR2D.out.own hT.grown (own_type_ne HR2D.out.own HO2D.out (by decide))
          have hcell2 := hown2.cells (g := g) rfl y _ HU2.out
          rw [add_plain] at hcell2
          have hfroz2 := hown2.frozenAt (g := g) y
          obtain ⟨A4, c4, ws2, rfl, hO3, hC3⟩ := hT.slice
          have HT := Lib.hid hT
          have HKP := Lib.hid hkp
          have HOWN2 := Lib.hid hown2
          clear hT hkp hhs2 hown2 hO3 hC3 hcell hfroz q0 q1 q2)
        all_goals (
          go_wp2_with fail
          go_meet
          refine ⟨⟨_, HR2D.out.put (by decide) DB_kp rfl HU2.out HT.out⟩, HKP.out.trans (Kp.grown2 (u := .slice (some ⟨g, 0, none⟩) s1.length c2) (put_row HOWN2.out hs1l _).2 HOWN2.out), ?_⟩
          exact ((Below.refl _ _).grown HT.out.grown HBS1.out (fun k hk => own_base HO2D.out k hk)).grown (put_row HOWN2.out hs1l _).2 (Nat.le_trans HBS1.out HT.out.grown.size) (fun k hk => by obtain rfl := Option.some.inj hk; exact hgb))
      case rest =>
        obtain ⟨⟨vs3, hR3⟩, hk3, hb3⟩ := hcut
        have hn3 : s1.length = (s1.set y r1).length := by rw [List.length_set]
        obtain ⟨A4, c4, ws2, hu3, hO3, hC3, hcell3, hfroz3⟩ := hR3.cell hn3 hs1l
        rw [show (s1.set y r1).getD y [] = r1 by rw [List.getD_eq_getElem?_getD, List.getElem?_set, if_pos rfl, if_pos hs1l]; rfl] at hu3 hO3 hC3 hcell3
        have hhs3 := hk3 wr.heap.size _ _ _ HHSD.out (by decide) (by decide)
        obtain ⟨p0, p1, p2⟩ := cells3 hhs3
        have hws : ws2.length = r1.length := by have := hO3.1; omega
        have hbW : base ≤ wc.heap.size := Nat.le_trans HBS1.out hb3.size
        have hBA : Below wc.heap.size wc (wc.alloc (.cells #[.slice (some ⟨dk, 0, none⟩) s.size dcap] 46)).drew := (below_alloc (Below.refl _ _) _).drew
        have hR4 := hR3.below DB_kp hBA
        have hO4 := pw_own_below hO3 hBA
        have hC4 := hC3.mono fun x s hx => DB_kp _ _ x s (Kp.below hBA) hx
        have hdb : BRow (wc.alloc (.cells #[.slice (some ⟨dk, 0, none⟩) s.size dcap] 46)).drew (.slice (some ⟨dk, 0, none⟩) s.size dcap) s :=
          ((((HDV.out.kp (Kp.below (below_alloc (Below.refl _ _) (.cells #[.int .i64 (y : Nat), .int .i64 (x : Nat), .slice (some ⟨dk, 0, none⟩) s.size dcap] 72)))).kp (Kp.grown2 HG2.out (HR1.out.below DB_kp (below_alloc (Below.refl _ _) _)).own)).kp (Kp.below (below_drew (Below.refl _ w1)))).kp hk3).kp (Kp.below hBA)
        obtain ⟨ws5, hws5⟩ : ∃ z, z = ws2.take x ++ [Value.slice (some ⟨dk, 0, none⟩) s.size dcap] ++ ws2.drop x := ⟨_, rfl⟩
        obtain ⟨n5, hn5⟩ : ∃ z, z = ws5.length := ⟨_, rfl⟩
        have hI := insert_own base (.slice A4 r1.length c4) ws2 x wc.heap.size (.slice (some ⟨dk, 0, none⟩) s.size dcap) (wc.alloc (.cells #[.slice (some ⟨dk, 0, none⟩) s.size dcap] 46)).drew (by rw [hws]; exact hO4) (by rw [hws]; exact HR1L.out.1) (by rw [hws]; exact HR1L.out.2) (Nat.le_trans hbW hBA.size) (heap_alloc_new wc _) (fun e => Nat.lt_irrefl _ (own_lt hO3 _ e)) rfl (hC3.one hws)
        rw [← hws5, ← hn5] at hI
        have HI := Lib.hid hI
        have HTN := Lib.hid (fun (w3 : World) (v3 : Value) (h1 : w3.ownsRow base 46 1 v3 n5 ws5) (h2 : (wc.alloc (.cells #[.slice (some ⟨dk, 0, none⟩) s.size dcap] 46)).drew.grownBy w3 (Value.slice A4 r1.length c4).ownBlock) (h3 : v3.ownBlock = (Value.slice A4 r1.length c4).ownBlock ∨ ∃ b, v3.ownBlock = some b ∧ (wc.alloc (.cells #[.slice (some ⟨dk, 0, none⟩) s.size dcap] 46)).drew.heap.size ≤ b) =>
          (⟨⟨ws5, by
            have hle : n5 = (r1.take x ++ [s] ++ r1.drop x).length := by rw [hn5, hws5]; simp [hws]
            rw [← hle]
            exact h1, by rw [hws5]; exact (hC4.insert hws (by rw [hws]; exact HR1L.out.1) (.inl hdb)).mono fun x s hx => DB_kp _ _ x s (Kp.grown1 h2 hO4) hx⟩, h2, h3⟩ : Turned DB 46 base (wc.alloc (.cells #[.slice (some ⟨dk, 0, none⟩) s.size dcap] 46)).drew w3 (.slice A4 r1.length c4) v3 (r1.take x ++ [s] ++ r1.drop x)))
        clear hws5 hn5
        have hgl3 : g < wc.heap.size := own_lt hR3.own g rfl
        have hsk : ∀ W', Below wc.heap.size wc W' → W'.cell? ⟨wr.heap.size, 0, none⟩ = some (.int .i64 (y : Nat)) ∧ W'.cell? ⟨wr.heap.size, 1, none⟩ = some (.int .i64 (x : Nat)) ∧ W'.cell? ⟨wr.heap.size, 2, none⟩ = some (.slice (some ⟨dk, 0, none⟩) s.size dcap) ∧ W'.cell? ⟨g, y, none⟩ = some (.slice A4 r1.length c4) := by
          intro W' hb
          obtain ⟨t0, t1, t2⟩ := cells3 ((hb.block _ (lt_of_block hhs3)).trans hhs3)
          exact ⟨t0, t1, t2, (hb.cell (p := ⟨g, y, none⟩) hgl3).trans hcell3⟩
        have HSK := Lib.hid hsk
        have HR4 := Lib.hid hR4
        have HO4 := Lib.hid hO4
        have HU3 := Lib.hid hu3
        have HHS3 := Lib.hid hhs3
        have HBA := Lib.hid hBA
        have HBW3 := Lib.hid hbW
        have HN3 := Lib.hid hn3
        have HK3 := Lib.hid hk3
        have HB3 := Lib.hid hb3
        have HSL := Lib.hid hs1l
        have HGB := Lib.hid hgb
        clear hsk hR3 hn3 hu3 hO3 hC3 hhs3 hws hbW hBA hR4 hO4 hC4 hdb hI hk3 hb3 hcell hfroz q0 q1 q2 m0 m1 m2 hfroz3
        go_upto_region 6 with fail
        refine start_ (n := 16) (S := fun W' => W'.cell? ⟨wr.heap.size, 0, none⟩ = some (.int .i64 (y : Nat)) ∧ W'.cell? ⟨wr.heap.size, 1, none⟩ = some (.int .i64 (x : Nat)) ∧ W'.cell? ⟨wr.heap.size, 2, none⟩ = some (.slice (some ⟨dk, 0, none⟩) s.size dcap) ∧ W'.cell? ⟨g, y, none⟩ = some (.slice A4 r1.length c4)) (ds := [15]) #[false, false, false, false, false, false, false, false, false, false, false, false, false, false, false, false] rfl rfl rfl (HSK.out _ (Below.refl _ _).drew) (fun hHeld => ?_)
        refine pure_ (i := 0) (N := some 30) (v := ?_) (a' := ?_) #[true, false, false, false, false, false, false, false, false, false, false, false, false, false, false, false] rfl rfl (by kernel_rfl) (fun _ _ _ h => h) (Or.inl ⟨by rfl, ?_⟩) ?_ ?_
        rotate_left
        · intro w'
          go_simp
          with_reducible rfl
        rotate_left
        · simp only [Act.put, List.setIfInBounds_toArray, List.set_cons_zero, List.set_cons_succ]
          rfl
        refine pure_ (i := 1) (N := some 31) (v := ?_) (a' := ?_) #[true, true, false, false, false, false, false, false, false, false, false, false, false, false, false, false] rfl rfl (by kernel_rfl) (fun _ _ _ h => h) (Or.inl ⟨by rfl, ?_⟩) ?_ ?_
        rotate_left
        · intro w'
          go_simp
          with_reducible rfl
        rotate_left
        · simp only [Act.put, List.setIfInBounds_toArray, List.set_cons_zero, List.set_cons_succ]
          rfl
        refine take_ (i := 2) (N := some 32) (v := ?_) (a' := ?_) #[true, true, true, false, false, false, false, false, false, false, false, false, false, false, false, false] rfl rfl (by kernel_rfl) (fun _ _ _ h => h) (Or.inl ⟨by rfl, ?_⟩) hHeld ?_ ?_
        rotate_left
        · rintro w' ⟨s0_, s1_, s2_, s3_⟩
          go_simp
          with_reducible rfl
        rotate_left
        · simp only [Act.put, List.setIfInBounds_toArray, List.set_cons_zero, List.set_cons_succ]
          rfl
        refine pure_ (i := 3) (N := some 33) (v := ?_) (a' := ?_) #[true, true, true, true, false, false, false, false, false, false, false, false, false, false, false, false] rfl rfl (by kernel_rfl) (fun _ _ _ h => h) (Or.inl ⟨by rfl, ?_⟩) ?_ ?_
        rotate_left
        · intro w'
          go_simp
          with_reducible rfl
        rotate_left
        · simp only [Act.put, List.setIfInBounds_toArray, List.set_cons_zero, List.set_cons_succ]
          rfl
        refine pure_ (i := 4) (N := some 34) (v := ?_) (a' := ?_) #[true, true, true, true, true, false, false, false, false, false, false, false, false, false, false, false] rfl rfl (by kernel_rfl) (fun _ _ _ h => h) (Or.inl ⟨by rfl, ?_⟩) ?_ ?_
        rotate_left
        · intro w'
          go_simp
          with_reducible rfl
        rotate_left
        · simp only [Act.put, List.setIfInBounds_toArray, List.set_cons_zero, List.set_cons_succ]
          rfl
        refine take_ (i := 5) (N := some 35) (v := ?_) (a' := ?_) #[true, true, true, true, true, true, false, false, false, false, false, false, false, false, false, false] rfl rfl (by kernel_rfl) (fun _ _ _ h => h) (Or.inl ⟨by rfl, ?_⟩) hHeld ?_ ?_
        rotate_left
        · rintro w' ⟨s0_, s1_, s2_, s3_⟩
          go_simp
          with_reducible rfl
        rotate_left
        · simp only [Act.put, List.setIfInBounds_toArray, List.set_cons_zero, List.set_cons_succ]
          rfl
        refine pure_ (i := 6) (N := some 36) (v := ?_) (a' := ?_) #[true, true, true, true, true, true, true, false, false, false, false, false, false, false, false, false] rfl rfl (by kernel_rfl) (fun _ _ _ h => h) (Or.inl ⟨by rfl, ?_⟩) ?_ ?_
        rotate_left
        · intro w'
          go_simp
          with_reducible rfl
        rotate_left
        · simp only [Act.put, List.setIfInBounds_toArray, List.set_cons_zero, List.set_cons_succ]
          rfl
        refine take_ (i := 7) (N := some 37) (v := ?_) (a' := ?_) #[true, true, true, true, true, true, true, true, false, false, false, false, false, false, false, false] rfl rfl (by kernel_rfl) (fun _ _ _ h => h) (Or.inl ⟨by rfl, ?_⟩) hHeld ?_ ?_
        rotate_left
        · rintro w' ⟨s0_, s1_, s2_, s3_⟩
          go_simp
          with_reducible rfl
        rotate_left
        · simp only [Act.put, List.setIfInBounds_toArray, List.set_cons_zero, List.set_cons_succ]
          rfl
        refine pure_ (i := 8) (N := some 38) (v := ?_) (a' := ?_) #[true, true, true, true, true, true, true, true, true, false, false, false, false, false, false, false] rfl rfl (by kernel_rfl) (fun _ _ _ h => h) (Or.inl ⟨by rfl, ?_⟩) ?_ ?_
        rotate_left
        · intro w'
          go_simp
          with_reducible rfl
        rotate_left
        · simp only [Act.put, List.setIfInBounds_toArray, List.set_cons_zero, List.set_cons_succ]
          rfl
        refine take_ (i := 9) (N := some 39) (v := ?_) (a' := ?_) #[true, true, true, true, true, true, true, true, true, true, false, false, false, false, false, false] rfl rfl (by kernel_rfl) (fun _ _ _ h => h) (Or.inl ⟨by rfl, ?_⟩) hHeld ?_ ?_
        rotate_left
        · rintro w' ⟨s0_, s1_, s2_, s3_⟩
          go_simp
          with_reducible rfl
        rotate_left
        · simp only [Act.put, List.setIfInBounds_toArray, List.set_cons_zero, List.set_cons_succ]
          rfl
        refine pure_ (i := 10) (N := some 40) (v := ?_) (a' := ?_) #[true, true, true, true, true, true, true, true, true, true, true, false, false, false, false, false] rfl rfl (by kernel_rfl) (fun _ _ _ h => h) (Or.inl ⟨by rfl, ?_⟩) ?_ ?_
        rotate_left
        · intro w'
          go_simp
          with_reducible rfl
        rotate_left
        · simp only [Act.put, List.setIfInBounds_toArray, List.set_cons_zero, List.set_cons_succ]
          rfl
        refine take_ (i := 11) (N := some 41) (v := ?_) (a' := ?_) #[true, true, true, true, true, true, true, true, true, true, true, true, false, false, false, false] rfl rfl (by kernel_rfl) (fun _ _ _ h => h) (Or.inl ⟨by rfl, ?_⟩) hHeld ?_ ?_
        rotate_left
        · rintro w' ⟨s0_, s1_, s2_, s3_⟩
          go_simp
          with_reducible rfl
        rotate_left
        · simp only [Act.put, List.setIfInBounds_toArray, List.set_cons_zero, List.set_cons_succ]
          rfl
        refine one_ (i := 12) (N := some 42) #[true, true, true, true, true, true, true, true, true, true, true, true, true, false, false, false] rfl rfl (by kernel_rfl) (by decide) (fun K hK => ?_)
        go_simp
        refine hK.out _ _ ?_ (fun hHeld => ?_)
        · exact HSK.out _ HBA.out
        clear hK K
        try simp only [Act.put, List.setIfInBounds_toArray, List.set_cons_zero, List.set_cons_succ]
        refine one_ (i := 13) (N := some 43) #[true, true, true, true, true, true, true, true, true, true, true, true, true, true, false, false] rfl rfl (by kernel_rfl) (by decide) (fun K hK => ?_)
        go_simp
        go_at_call 34
        refine HI.out.mono ?_
        rintro e w3 ⟨v3, rfl, hO5, hg5, hp5⟩
        have hT := HTN.out w3 v3 hO5 hg5 hp5
        have hkp := Kp.grown1 (e2 := 50) hg5 HO4.out
        have hhs4 := hkp wr.heap.size _ _ _ (((HBA.out.block _ (lt_of_block HHS3.out))).trans HHS3.out) (by decide) (by decide)
        have hown4 := own_other HR4.out.own hg5 (own_type_ne HR4.out.own HO4.out (by decide))
        rw [← HN3.out] at hown4
        have hcell4 := hown4.cells (g := g) rfl y _ HU3.out
        rw [add_plain] at hcell4
        have hfroz4 := hown4.frozenAt (g := g) y
        obtain ⟨A5, c5, rfl⟩ := own_slice hO5
        have HS3 := Lib.hid (cells3 hhs4)
        have HT := Lib.hid hT
        have HKP := Lib.hid hkp
        have HOWN4 := Lib.hid hown4
        have HG5 := Lib.hid hg5
        clear hT hkp hhs4 hown4 hO5 hg5 hp5
        refine hK.out _ _ ?_ (fun hHeld => ?_)
        · exact ⟨HS3.out.1, HS3.out.2.1, HS3.out.2.2, hcell4⟩
        clear hK K
        try simp only [Act.put, List.setIfInBounds_toArray, List.set_cons_zero, List.set_cons_succ]
        refine pure_ (i := 14) (N := some 44) (v := ?_) (a' := ?_) #[true, true, true, true, true, true, true, true, true, true, true, true, true, true, true, false] rfl rfl (by kernel_rfl) (fun _ _ _ h => h) (Or.inl ⟨by rfl, ?_⟩) ?_ ?_
        rotate_left
        · intro w'
          go_simp
          with_reducible rfl
        rotate_left
        · simp only [Act.put, List.setIfInBounds_toArray, List.set_cons_zero, List.set_cons_succ]
          rfl
        refine last_ (i := 15) (N := none) #[true, true, true, true, true, true, true, true, true, true, true, true, true, true, true, true] rfl rfl (by kernel_rfl) (by decide) (fun K hK => ?_)
        go_simp
        refine hK.out _ _ ?_
        clear hK K
        try simp only [Act.put, List.setIfInBounds_toArray, List.set_cons_zero, List.set_cons_succ]
        refine done_ (by kernel_rfl) ?_
        go_wp2_with fail
        go_roundw
        case rel =>
          refine ⟨_, j + 1, _, rfl, by go_num, hlt, by rw [HNX.out, HCHG.out]; have hput := HR4.out.put (by decide) DB_kp HN3.out HU3.out HT.out; rw [List.set_set] at hput; exact hput, ?_, ?_⟩
          · exact (HK1.out.trans ((Kp.below (below_alloc (Below.refl _ _) (.cells #[.int .i64 (y : Nat), .int .i64 (x : Nat), .slice (some ⟨dk, 0, none⟩) s.size dcap] 72))).trans ((Kp.grown2 HG2.out (HR1.out.below DB_kp (below_alloc (Below.refl _ _) _)).own).trans ((Kp.below (below_drew (Below.refl _ w1))).trans (HK3.out.trans ((Kp.below HBA.out).trans (HKP.out.trans (Kp.grown2 (u := .slice (some ⟨g, 0, none⟩) s1.length c2) (put_row HOWN4.out HSL.out _).2 HOWN4.out))))))))
          · exact ((((((HB1.out.alloc HBW.out _).grown HG2.out (by rw [World.size_alloc]; exact Nat.le_succ_of_le HBW.out) (fun k hk => own_base HR1.out.own k hk)).drew).trans HB3.out).trans (HBA.out.mono HBW3.out)).grown HG5.out (Nat.le_trans HBW3.out HBA.out.size) (fun k hk => own_base HO4.out k hk)).setCell (p := ⟨g, y, none⟩) HGB.out _
        case measure => simp [intOf]; omega
    · obtain rfl : j = l.length := by omega
      go_wp2
      go_ret
      refine ⟨_, vs1, rfl, ?_, HB1.out⟩
      have := HR1.out
      rwa [List.take_length] at this
end Go.Proofs.Ytnhcocjdkmelhaa.Hand
