import Derived.Test.YtlallihdiffheaaZClPos
import Derived.Test.YtlallihdiffheaaZMerged
import Derived.Deep.CutRange
import Derived.RegionTactic
import Derived.Deep.RegionLaw
section
/- spec.Full by hand: a tree without empty texts. -/
namespace Go.Proofs.Ytlallihdiffheaa.Hand
open Go.RowKit Go.Proofs.YtlallihdiffheaaW.PrintWords Go.Proofs.YtlallihdiffheaaW.PrintLast Go.Proofs.YtlallihdiffheaaW.PrintMore Go.Proofs.Ytlallihdiffheaa.GT
set_option linter.unusedVariables false
set_option linter.unusedSimpArgs false

def kpF (q : Pay) : Bool := !(decide (q.type = 1) && decide (q.data.size = 0))
theorem fullF_keep {q : Pay} (h : kpF q = true) {b : Nat} {k r : F Pay} : fullF (.node b q k r) = .node b q (fullF k) (fullF r) := by
  rw [fullF, if_neg]
  rintro ⟨h1, h2⟩
  simp [kpF, h1, h2] at h
theorem fullF_skip {q : Pay} (h : kpF q = false) {b : Nat} {k r : F Pay} : fullF (.node b q k r) = fullF r := by
  rw [fullF, if_pos]
  simpa [kpF] using h
theorem fullF_app : ∀ f g : F Pay, fullF (f.app g) = (fullF f).app (fullF g)
  | .nil, g => rfl
  | .node b p k r, g => by
    rw [F.app, fullF, fullF, fullF_app r g]
    split <;> rfl
theorem fullF_len : ∀ f : F Pay, (fullF f).len ≤ f.len
  | .nil => Nat.le_refl _
  | .node b p k r => by
    have := fullF_len r
    rw [fullF]
    split
    · simp only [F.len]; omega
    · simp only [F.len]; omega
theorem empty_size {s : ByteArray} (h : s.size = 0) : s = ⟨#[]⟩ := by
  obtain ⟨⟨l⟩⟩ := s
  cases l with
  | nil => rfl
  | cons a t => cases h
theorem fullF_form {p : Pay} {k r : F Pay} {b : Nat} (hn : Neat (.node b p k r)) (hp : Plain (.node b p k r)) : ∃ q0 q1 q2, nodeOf p (erase k) = ⟨q0, q1, q2, [], erase k⟩ ∧ nodeOf p (erase (fullF k)) = ⟨q0, q1, q2, [], erase (fullF k)⟩ ∧
    ((kpF p = true ∧ ¬ q0 = 1) ∨ (q0 = 1 ∧ kpF p = true ∧ (q2.toList == []) = false) ∨ (q0 = 1 ∧ kpF p = false ∧ q2 = ⟨#[]⟩)) := by
  obtain ⟨hn1, hn2, hn3⟩ := hn
  rcases hp.1 with ht | ⟨ht, ha⟩ | ht
  · have hk : k = .nil := by rcases hn1 with ⟨_, h⟩ | ⟨h, _⟩ | h | h <;> first | assumption | omega
    subst hk
    refine ⟨1, ⟨#[]⟩, p.data, by simp [nodeOf, ht, erase], by simp [nodeOf, ht, erase, fullF], ?_⟩
    by_cases hz : p.data.size = 0
    · exact .inr (.inr ⟨rfl, by simp [kpF, ht, hz], empty_size hz⟩)
    · refine .inr (.inl ⟨rfl, by simp [kpF, ht, hz], ?_⟩)
      rw [beq_eq_false_iff_ne]
      intro e
      rw [ByteArray.toList_eq] at e
      have := congrArg List.length e
      rw [Array.length_toList] at this
      exact hz this
  · refine ⟨0, p.data, ⟨#[]⟩, by simp [nodeOf, ht, ha], by simp [nodeOf, ht, ha], .inl ⟨by simp [kpF, ht], by decide⟩⟩
  · have hk : k = .nil := by rcases hn1 with ⟨h, _⟩ | ⟨_, h⟩ | h | h <;> first | assumption | omega
    subst hk
    exact ⟨2, ⟨#[]⟩, p.data, by simp [nodeOf, ht, erase], by simp [nodeOf, ht, erase, fullF], .inl ⟨by simp [kpF, ht], by decide⟩⟩
def FullK (k : F Pay) : Prop := ∀ (q0 : Int) (q1 q2 : ByteArray) (w : World) (A3 A4 : Option Addr) (c3 c4 : Nat), k25.C w A4 (erase k).length (erase k) → (erase k).length ≤ c4 → Neat k → Plain k → k.blocks.length ≤ 1000000 →
  Calls Try.prog 48 #[.agg #[.int .i64 q0, .string q1, .string q2, .slice A3 0 c3, .slice A4 (erase k).length c4]] w (ToldPost ⟨q0, q1, q2, [], erase (fullF k)⟩ w)
set_option maxRecDepth 100000 in
set_option maxHeartbeats 1600000 in
theorem full_step (k : F Pay) (hall : AllK FullK k) : FullK k := by
  intro q0 q1 q2 w A3 A4 c3 c4 h4 l4 hn hp hbl
  have hl : k.len ≤ 1000000 := Nat.le_trans (len_le_blocks k) hbl
  have HBLK := Lib.hid hbl
  clear hbl
  have hA3 := alloc3 w (.cells #[.int .i64 q0, .string q1, .string q2, .slice A3 0 c3, .slice A4 (erase k).length c4] 25 (0, 0)) (.cells #[.int .i64 0, .string ⟨#[]⟩, .string ⟨#[]⟩, .slice none 0 0, .slice none 0 0] 25 (0, 0)) (.cells #[.int .i64 q0, .string q1, .string q2, .slice A3 0 c3, .slice none 0 0] 25 (0, 0))
  have H4 := Lib.hid h4
  have HA := Lib.hid hall
  have HN := Lib.hid (And.intro hn hp)
  have HLEN := Lib.hid (erase_len k)
  have HA3 := Lib.hid hA3
  clear h4 hall hn hp hA3
  go_enter Try.func48, Try.ntmps48
  go_wp2
  obtain ⟨b1, b2, b3, b4, b5⟩ := HA3.out
  obtain ⟨o, ho⟩ : ∃ o, o = w.heap.size + 1 + 1 := ⟨_, rfl⟩
  obtain ⟨rv, hrv⟩ : ∃ o, o = w.heap.size + 1 := ⟨_, rfl⟩
  rw [← ho] at b3 ⊢
  rw [← hrv] at b2 ⊢
  have HRL := Lib.hid (And.intro ho hrv)
  have HO1 := Lib.hid b3
  have HR1 := Lib.hid b2
  have HB1 := Lib.hid (And.intro b4 b5)
  clear b1 b2 b3 b4 b5 ho hrv HA3
  go_loopg [18] k.len (fun gk i0 wr => ∃ (k0 rest : F Pay) (v : Value), i0 = .int .i64 (k0.len : Int) ∧ gk = rest.len ∧ k = k0.app rest ∧
    wr.heap[o]? = some (.cells #[.int .i64 q0, .string q1, .string q2, .slice A3 0 c3, v] 25 (0, 0)) ∧ wr.heap[rv]? = some (.cells #[.int .i64 0, .string ⟨#[]⟩, .string ⟨#[]⟩, .slice none 0 0, .slice none 0 0] 25 (0, 0)) ∧ KidsAt (w.heap.size + 3) wr v (erase (fullF k0)) ∧ w.heap.size + 3 ≤ wr.heap.size ∧ Below w.heap.size w wr)
  case atStart => exact ⟨.nil, k, _, rfl, rfl, rfl, HO1.out, HR1.out, KidsAt.nil _ _, by rw [HB1.out.1]; omega, HB1.out.2⟩
  case round =>
    obtain ⟨k0, rest, v, rfl, rfl, hgh, ho1, hr1, hka, hsz, hb⟩ := hrel
    have hbl0 : (erase (fullF k0)).length ≤ k0.len := by rw [erase_len]; exact fullF_len k0
    have HBL := Lib.hid hbl0
    obtain ⟨Av, cv, rfl⟩ : ∃ A c, v = .slice A (erase (fullF k0)).length c := by
      obtain ⟨css, h, _⟩ := hka
      exact own_slice h
    have HG := Lib.hid hgh
    have HKA := Lib.hid hka
    have HB := Lib.hid hb
    have hkl : k.len = k0.len + rest.len := by rw [hgh, F.len_app]
    obtain ⟨o4, fo4⟩ := out_cell ho1 4
    obtain ⟨o0, -⟩ := out_cell ho1 0
    obtain ⟨o1, -⟩ := out_cell ho1 1
    obtain ⟨o2, -⟩ := out_cell ho1 2
    obtain ⟨o3, -⟩ := out_cell ho1 3
    obtain ⟨r0, f0⟩ := out_cell hr1 0
    obtain ⟨r1, f1⟩ := out_cell hr1 1
    obtain ⟨r2, f2⟩ := out_cell hr1 2
    obtain ⟨r3, f3⟩ := out_cell hr1 3
    obtain ⟨r4, f4⟩ := out_cell hr1 4
    simp only [List.getElem?_toArray, List.getElem?_cons_succ, List.getElem?_cons_zero] at o0 o1 o2 o3 o4 r0 r1 r2 r3 r4
    have HO3 := Lib.hid ho1
    have HO4 := Lib.hid hr1
    clear hgh hka hb ho1 hr1
    rcases headOr_cases rest with hg | ⟨c, q, ck, r, hg⟩
    · subst hg
      simp only [F.len, Nat.add_zero] at hkl
      have hge : (erase k).length ≤ k0.len := by have := HLEN.out; omega
      have HKL := Lib.hid hkl
      clear hkl hbl0
      go_wp2
      obtain ⟨e4, hg, hszr⟩ := put5 (.int .i64 q0) (.string q1) (.string q2) (.slice A3 0 c3) (.slice Av (erase (fullF k0)).length cv) HO4.out
      refine bodyPost_ret (results_cell_row rfl _ _ rv 25 #[.int .i64 q0, .string q1, .string q2, .slice A3 0 c3, .slice Av (erase (fullF k0)).length cv] (0, 0) _ rfl e4 Try.underlying25 rfl (by kernel_rfl)) rfl ?_
      have hrl := HRL.out
      have hm : k = k0 := by rw [HG.out, F.app_nil]
      obtain ⟨A, c, he, hle, hT⟩ := HKA.out.tells (by have := HKL.out; have := HBL.out; omega)
      injection he with he1 _ he3
      subst he1 he3
      rw [hm]
      refine ⟨A3, c3, Av, cv, rfl, fun W hW => ?_, HB.out.grown hg HB.out.size (fun z hz => by have := Option.some.inj hz; omega)⟩
      refine k25_mk W ⟨q0, q1, q2, [], erase (fullF k0)⟩ (A3 := A3) (c3 := c3) (Nat.zero_le _) ⟨rfl, Nat.zero_le _, fun h => absurd h (Nat.lt_irrefl _)⟩ hle (hT W fun z hz1 hz2 => ?_)
      rw [hW z (by omega) (by omega)]
      exact hg.block z hz2 (fun e => by have := Option.some.inj e; omega)
    · subst hg
      have hnp := HN.out
      rw [HG.out] at hnp
      have hnk := (neat_app _ _).1 hnp.1
      have hpk := plain_app _ _ hnp.2
      obtain ⟨y0, y1, y2, hy, hyb, hyk⟩ := fullF_form hnk.2 hpk.2
      have hidx : rd_T25 (erase k) ((k0.len : Nat) : Int) = ⟨y0, y1, y2, [], erase ck⟩ := by
        rw [HG.out, erase_app, ← erase_len k0]
        rw [show erase (F.node c q ck r) = nodeOf q (erase ck) :: erase r from rfl, rd_mid, hy]
      obtain ⟨ad, A3', c3', A4', c4', rfl, p0, p1, p2, p3, p4, l3', g3, l4', g4⟩ := at_T25 (Kd.C_below H4.out HB.out) ((k0.len : Nat) : Int) (by omega) (by have := HLEN.out; simp only [F.len] at hkl; omega)
      rw [hidx] at p0 p1 p2 p3 p4 l3' g3 l4' g4
      simp only [Int.toNat_natCast, List.length_nil] at p0 p1 p2 p3 p4 l3' g3 l4' g4
      have HYB := Lib.hid hyb
      have HYK := Lib.hid hyk
      have HG4 := Lib.hid (And.intro l4' g4)
      have HNK := Lib.hid (And.intro hnk hpk)
      clear hnp hnk hpk hy hyb hyk hidx l3' g3 l4' g4
      have hlt : k0.len < (erase k).length := by have := HLEN.out; simp only [F.len] at hkl; omega
      have hdn6 : (erase (fullF k0)).length ≤ 1000000 := by simp only [F.len] at hkl; omega
      have hrl0 := HRL.out
      have hol : o < wr.heap.size := by omega
      have hrvl : rv < wr.heap.size := by omega
      have hro : rv ≠ o := by omega
      have HKL := Lib.hid hkl
      clear hrl0 hkl hbl0
      go_upto_region 5 with (fail)
      go_cut [18, 29] from 18 to 37 (fun ci v wx => ci = .int .i64 (k0.len : Int) ∧ v = .bool (kpF q) ∧ wx = (wr.alloc (.cells #[.int .i64 y0, .string y1, .string y2, .slice A3' 0 c3', .slice A4' (erase ck).length c4'] 25 (0, 0))))
      case first =>
        rcases HYK.out with ⟨hkp, hy1⟩ | ⟨rfl, hkp, hy2⟩ | ⟨rfl, hkp, rfl⟩
        · have hd1 : (y0 == 1) = false := by simpa using hy1
          have hd2 : decide (y0 = 1) = false := decide_eq_false hy1
          have HKP := Lib.hid hkp
          have HY1 := Lib.hid hy1
          clear hkp hy1
          go_wp2
          all_goals first
            | exact absurd (by assumption) HY1.out
            | (go_meet; exact ⟨rfl, by rw [HKP.out], rfl⟩)
        · have HKP := Lib.hid hkp
          clear hkp
          go_wp2
          go_meet
          exact ⟨rfl, by first | (rw [HKP.out]; done) | (rw [HKP.out]; simp [hy2]), rfl⟩
        · have HKP := Lib.hid hkp
          clear hkp
          go_wp2
          go_meet
          exact ⟨rfl, by first | (rw [HKP.out]; done) | (rw [HKP.out]; simp), rfl⟩
      case rest =>
        obtain ⟨rfl, rfl, rfl⟩ := hcut
        cases hkp : kpF q with
        | false =>
          have HKP := Lib.hid hkp
          clear hkp
          go_wp2
          go_roundg r.len
          case measure => simp [F.len]
          case rel =>
            have hrl := HRL.out
            have hAW := below_alloc (Below.refl wr.heap.size wr) (.cells #[.int .i64 y0, .string y1, .string y2, .slice A3' 0 c3', .slice A4' (erase ck).length c4'] 25 (0, 0))
            refine ⟨k0.app (.node c q ck .nil), r, .slice Av (erase (fullF k0)).length cv, ?_, rfl, ?_, (hAW.block o hol).trans HO3.out, (hAW.block rv (by omega)).trans HO4.out, ?_, by have := hAW.size; omega, below_then HB.out HB.out.size hAW⟩
            · rw [F.len_app]
              simp only [F.len]
              have hk6 : k0.len ≤ 1000000 := by have := HKL.out; simp only [F.len] at this; omega
              have hwr : wrap64 ((k0.len : Int) + 1) = ((k0.len + (0 + 1) : Nat) : Int) := by unfold wrap64; omega
              rw [hwr]
            · rw [F.app_assoc]
              exact HG.out
            · rw [fullF_app, fullF_skip HKP.out, show fullF .nil = .nil from rfl, F.app_nil]
              exact HKA.out.below hAW
        | true =>
          have HKP := Lib.hid hkp
          clear hkp
          have hAW : Below wr.heap.size wr (wr.alloc (.cells #[.int .i64 y0, .string y1, .string y2, .slice A3' 0 c3', .slice A4' (erase ck).length c4'] 25 (0, 0))).drew := (below_alloc (Below.refl _ _) _).drew
          have HAW := Lib.hid hAW
          have hcall : Calls Try.prog 48 #[.agg #[.int .i64 y0, .string y1, .string y2, .slice A3' 0 c3', .slice A4' (erase ck).length c4']] (wr.alloc (.cells #[.int .i64 y0, .string y1, .string y2, .slice A3' 0 c3', .slice A4' (erase ck).length c4'] 25 (0, 0))).drew _ :=
            (show AllK FullK (.node c q ck r) from allK_app FullK k0 _ (HG.out ▸ HA.out)).1 y0 y1 y2 (wr.alloc (.cells #[.int .i64 y0, .string y1, .string y2, .slice A3' 0 c3', .slice A4' (erase ck).length c4'] 25 (0, 0))).drew A3' A4' c3' c4' (Kd.C_below HG4.out.2 hAW) HG4.out.1 HNK.out.1.2.2.1 HNK.out.2.2.2.1 (by
              have h := HBLK.out
              rw [HG.out, F.blocks_app] at h
              simp only [F.blocks, List.length_append, List.length_cons] at h
              omega)
          have HCALL := Lib.hid hcall
          clear hcall hAW
          go_wp2
          go_region_law (first
            | (go_simp
               go_at_call 48
               refine HCALL.out.mono ?_
               rintro e w3 ⟨A3y, c3y, A4y, c4y, rfl, htl, hb3⟩
               have ho3 := (hb3.block o (by have := HAW.out.size; omega)).trans ((HAW.out.block o hol).trans HO3.out)
               obtain ⟨k4, -⟩ := out_cell ho3 4
               simp only [List.getElem?_toArray, List.getElem?_cons_succ, List.getElem?_cons_zero] at k4
               have hol3 : o < w3.heap.size := by have := HAW.out.size; have := hb3.size; omega
               have HTL := Lib.hid htl
               have HB3 := Lib.hid hb3
               have HOO := Lib.hid ho3
               clear htl hb3 ho3)
            | (obtain ⟨css, hcs1, hcs2, hcs3⟩ := (HKA.out.below HAW.out).below HB3.out
               refine step_append_cells (w0 := w3) (w.heap.size + 3) rfl (.tmp 31) (.tmp 34) 23 25 _ 5 88 rfl Try.underlying23 infoTree rfl (by decide) (by decide) (.slice Av (erase (fullF k0)).length cv) (erase (fullF k0)).length css.flatten [.int .i64 y0, .string y1, .string y2, .slice A3y 0 c3y, .slice A4y (erase (fullF ck)).length c4y] (by simp [Act.eval, Act.put]) (by simp [Act.eval, Act.put]) rfl (by simp [Value.oneCell']) hcs1 (Below.refl _ _) (by have := HAW.out.size; have := HB3.out.size; omega) (by omega) ?_
               intro v1 w4 hown hb4 hg4 hv4
               obtain ⟨A1, c1, rfl⟩ := own_slice hown
               have hne : ∀ z, z < w.heap.size + 3 → some z ≠ (Value.slice Av (erase (fullF k0)).length cv).ownBlock := fun z hz e => by have := own_base hcs1 z e.symm; omega
               have hoW := (hg4.block o hol3 (hne o (by have := HRL.out; omega))).trans HOO.out
               obtain ⟨k4', fk4'⟩ := out_cell hoW 4
               simp only [List.getElem?_toArray, List.getElem?_cons_succ, List.getElem?_cons_zero] at k4'
               have HOWN := Lib.hid hown
               have HG4' := Lib.hid hg4
               have HV4 := Lib.hid hv4
               have HOW := Lib.hid hoW
               have HCS := Lib.hid (And.intro hcs1 (And.intro hcs2 hcs3))
               have HNE := Lib.hid hne
               clear hown hb4 hg4 hv4 hoW hcs1 hcs2 hcs3 hne))
          all_goals (
            go_wp2
            go_roundg r.len
            case measure => simp [F.len]
            case rel =>
              have hrl := HRL.out
              have hs1 := HAW.out.size
              have hs2 := HB3.out.size
              have hs3 := HG4'.out.size
              obtain ⟨css0, hcs0, -, -⟩ := HKA.out
              refine ⟨k0.app (.node c q ck .nil), r, .slice A1 ((erase (fullF k0)).length + 1) c1, ?_, rfl, ?_, Lib.heap_setCell_same HOW.out _, ?_, ?_, ?_, ?_⟩
              · rw [F.len_app]
                simp only [F.len]
                have hk6 : k0.len ≤ 1000000 := by have := HKL.out; simp only [F.len] at this; omega
                have hwr : wrap64 ((k0.len : Int) + 1) = ((k0.len + (0 + 1) : Nat) : Int) := by unfold wrap64; omega
                rw [hwr]
              · rw [F.app_assoc]
                exact HG.out
              · exact (Below.heap_setCell _ _ _ _ (by exact hro)).trans ((HG4'.out.block rv (by omega) (HNE.out rv (by omega))).trans ((HB3.out.block rv (by omega)).trans ((HAW.out.block rv (by omega)).trans HO4.out)))
              · rw [fullF_app, erase_app, show erase (fullF (F.node c q ck .nil)) = [nodeOf q (erase (fullF ck))] from by rw [fullF_keep HKP.out]; rfl, HYB.out]
                exact (KidsAt.push HCS.out.2.1 HCS.out.2.2 rfl (by omega) (Nat.le_refl _) (fun g hg => by have := own_lt hcs0 g hg; omega) HTL.out HOWN.out HG4'.out HV4.out).store ⟨o, 4, none⟩ (by show o < _; omega) _
              · rw [World.size_setCell]
                omega
              · exact ((below_then (below_then HB.out HB.out.size HAW.out) (by omega) HB3.out).grown HG4'.out (by omega) (fun z hz => by have := own_base HCS.out.1 z hz; omega)).setCell (by show _ ≤ o; omega) _)
theorem full_any : ∀ k : F Pay, FullK k ∧ AllK FullK k
  | .nil => ⟨full_step .nil trivial, trivial⟩
  | .node b p k r => by
    have h : AllK FullK (.node b p k r) := ⟨(full_any k).1, (full_any r).2⟩
    exact ⟨full_step _ h, h⟩
end Go.Proofs.Ytlallihdiffheaa.Hand
end
section
/- laws.inlineApart by hand: a tree without comments, in which no text follows another one, and none is empty. -/
namespace Go.Proofs.Ytlallihdiffheaa.Hand
open Go.RowKit Go.Proofs.YtlallihdiffheaaW.PrintWords Go.Proofs.YtlallihdiffheaaW.PrintLast Go.Proofs.YtlallihdiffheaaW.PrintMore Go.Proofs.Ytlallihdiffheaa.GT
set_option linter.unusedVariables false
set_option linter.unusedSimpArgs false

def apF : F Pay → F Pay
  | .nil => .nil
  | .node b p k r => if p.type = 4 then apF r else .node b p (fullF (mergeG (apF k) .nil)) (apF r)
def apT (k : F Pay) : F Pay := fullF (mergeG (apF k) .nil)
def kpA (q : Pay) : Bool := !decide (q.type = 4)
theorem apF_keep {q : Pay} (h : kpA q = true) {b : Nat} {k r : F Pay} : apF (.node b q k r) = .node b q (apT k) (apF r) := by
  rw [apF, if_neg (by simpa [kpA] using h)]
  rfl
theorem apF_skip {q : Pay} (h : kpA q = false) {b : Nat} {k r : F Pay} : apF (.node b q k r) = apF r := by
  rw [apF, if_pos (by simpa [kpA] using h)]
theorem apF_app : ∀ f g : F Pay, apF (f.app g) = (apF f).app (apF g)
  | .nil, g => rfl
  | .node b p k r, g => by
    rw [F.app, apF, apF, apF_app r g]
    split <;> rfl
theorem apF_len : ∀ f : F Pay, (apF f).len ≤ f.len
  | .nil => Nat.le_refl _
  | .node b p k r => by
    have := apF_len r
    rw [apF]
    split
    · simp only [F.len]; omega
    · simp only [F.len]; omega
theorem apT_nil : apT .nil = .nil := rfl
theorem fullF_np : ∀ f : F Pay, Neat f → Plain f → Neat (fullF f) ∧ Plain (fullF f)
  | .nil, h, h2 => ⟨h, h2⟩
  | .node b p k r, h, h2 => by
    obtain ⟨r1, r2⟩ := fullF_np r h.2.2 h2.2.2
    obtain ⟨k1, k2⟩ := fullF_np k h.2.1 h2.2.1
    rw [fullF]
    split
    · exact ⟨r1, r2⟩
    · refine ⟨⟨?_, k1, r1⟩, h2.1, k2, r2⟩
      rcases h.1 with ⟨a, e⟩ | ⟨a, e⟩ | a | a
      · exact .inl ⟨a, by rw [e]; rfl⟩
      · exact .inr (.inl ⟨a, by rw [e]; rfl⟩)
      · exact .inr (.inr (.inl a))
      · exact .inr (.inr (.inr a))
theorem apF_np : ∀ f : F Pay, Neat f → Plain f → Neat (apF f) ∧ Plain (apF f)
  | .nil, h, h2 => ⟨h, h2⟩
  | .node b p k r, h, h2 => by
    obtain ⟨r1, r2⟩ := apF_np r h.2.2 h2.2.2
    obtain ⟨k1, k2⟩ := apF_np k h.2.1 h2.2.1
    obtain ⟨m1, m2⟩ := mergeG_np (apF k) .nil k1 k2 trivial trivial
    obtain ⟨f1, f2⟩ := fullF_np _ m1 m2
    rw [apF]
    split
    · exact ⟨r1, r2⟩
    · refine ⟨⟨?_, f1, r1⟩, h2.1, f2, r2⟩
      rcases h.1 with ⟨a, e⟩ | ⟨a, e⟩ | a | a
      · exact .inl ⟨a, by rw [e]; rfl⟩
      · exact .inr (.inl ⟨a, by rw [e]; rfl⟩)
      · exact .inr (.inr (.inl a))
      · exact .inr (.inr (.inr a))
theorem apF_sub : ∀ f : F Pay, List.Sublist (apF f).blocks f.blocks ∧ heft (apF f) ≤ heft f
  | .nil => ⟨List.Sublist.refl _, Nat.le_refl _⟩
  | .node b p k r => by
    obtain ⟨k1, k2⟩ := apF_sub k
    obtain ⟨r1, r2⟩ := apF_sub r
    have m1 := mergeG_sub (apF k) .nil
    have m2 := mergeG_heft (apF k) .nil
    simp only [F.blocks, List.nil_append] at m1
    simp only [heft, Nat.zero_add] at m2
    obtain ⟨f1, f2⟩ := full_sub (mergeG (apF k) .nil)
    rw [apF, F.blocks]
    split
    · exact ⟨(r1.trans (List.sublist_append_right _ _)).trans (List.sublist_cons_self _ _), by rw [heft]; omega⟩
    · exact ⟨by rw [F.blocks]; exact (((f1.trans m1).trans k1).append r1).cons_cons _, by rw [heft, heft]; omega⟩
theorem apT_sub (f : F Pay) : List.Sublist (apT f).blocks f.blocks ∧ heft (apT f) ≤ heft f := by
  obtain ⟨k1, k2⟩ := apF_sub f
  have m1 := mergeG_sub (apF f) .nil
  have m2 := mergeG_heft (apF f) .nil
  simp only [F.blocks, List.nil_append] at m1
  simp only [heft, Nat.zero_add] at m2
  obtain ⟨f1, f2⟩ := full_sub (mergeG (apF f) .nil)
  exact ⟨(f1.trans m1).trans k1, by unfold apT; omega⟩
theorem apF_form {p : Pay} {k r : F Pay} {b : Nat} (hn : Neat (.node b p k r)) (hp : Plain (.node b p k r)) : ∃ q0 q1 q2, nodeOf p (erase k) = ⟨q0, q1, q2, [], erase k⟩ ∧ nodeOf p (erase (apT k)) = ⟨q0, q1, q2, [], erase (apT k)⟩ ∧
    ((kpA p = true ∧ ¬ q0 = 2) ∨ (kpA p = false ∧ q0 = 2)) := by
  obtain ⟨hn1, hn2, hn3⟩ := hn
  rcases hp.1 with ht | ⟨ht, ha⟩ | ht
  · have hk : k = .nil := by rcases hn1 with ⟨_, h⟩ | ⟨h, _⟩ | h | h <;> first | assumption | omega
    subst hk
    exact ⟨1, ⟨#[]⟩, p.data, by simp [nodeOf, ht, erase], by simp [nodeOf, ht, erase, apT_nil], .inl ⟨by simp [kpA, ht], by decide⟩⟩
  · exact ⟨0, p.data, ⟨#[]⟩, by simp [nodeOf, ht, ha], by simp [nodeOf, ht, ha], .inl ⟨by simp [kpA, ht], by decide⟩⟩
  · have hk : k = .nil := by rcases hn1 with ⟨h, _⟩ | ⟨_, h⟩ | h | h <;> first | assumption | omega
    subst hk
    exact ⟨2, ⟨#[]⟩, p.data, by simp [nodeOf, ht, erase], by simp [nodeOf, ht, erase, apT_nil], .inr ⟨by simp [kpA, ht], rfl⟩⟩
def ApK (k : F Pay) : Prop := ∀ (q0 : Int) (q1 q2 : ByteArray) (w : World) (A3 A4 : Option Addr) (c3 c4 : Nat), k25.C w A4 (erase k).length (erase k) → (erase k).length ≤ c4 → Neat k → Plain k → k.blocks.length ≤ 1000000 → heft k ≤ 1000000 →
  Calls Try.prog 45 #[.agg #[.int .i64 q0, .string q1, .string q2, .slice A3 0 c3, .slice A4 (erase k).length c4]] w (ToldPost ⟨q0, q1, q2, [], erase (apT k)⟩ w)
set_option maxRecDepth 100000 in
set_option maxHeartbeats 3200000 in
theorem ap_step (k : F Pay) (hall : AllK ApK k) : ApK k := by
  intro q0 q1 q2 w A3 A4 c3 c4 h4 l4 hn hp hbl hhf
  have hl : k.len ≤ 1000000 := Nat.le_trans (len_le_blocks k) hbl
  have HBLK := Lib.hid hbl
  have HHF := Lib.hid hhf
  clear hbl hhf
  have hA3 := alloc3 w (.cells #[.int .i64 q0, .string q1, .string q2, .slice A3 0 c3, .slice A4 (erase k).length c4] 25 (0, 0)) (.cells #[.int .i64 0, .string ⟨#[]⟩, .string ⟨#[]⟩, .slice none 0 0, .slice none 0 0] 25 (0, 0)) (.cells #[.int .i64 q0, .string q1, .string q2, .slice A3 0 c3, .slice none 0 0] 25 (0, 0))
  have H4 := Lib.hid h4
  have HA := Lib.hid hall
  have HN := Lib.hid (And.intro hn hp)
  have HLEN := Lib.hid (erase_len k)
  have HA3 := Lib.hid hA3
  clear h4 hall hn hp hA3
  go_enter Try.func45, Try.ntmps45
  go_wp2
  obtain ⟨b1, b2, b3, b4, b5⟩ := HA3.out
  obtain ⟨o, ho⟩ : ∃ o, o = w.heap.size + 1 + 1 := ⟨_, rfl⟩
  obtain ⟨rv, hrv⟩ : ∃ o, o = w.heap.size + 1 := ⟨_, rfl⟩
  rw [← ho] at b3 ⊢
  rw [← hrv] at b2 ⊢
  have HRL := Lib.hid (And.intro ho hrv)
  have HO1 := Lib.hid b3
  have HR1 := Lib.hid b2
  have HB1 := Lib.hid (And.intro b4 b5)
  clear b1 b2 b3 b4 b5 ho hrv HA3
  go_loopg [18] k.len (fun gk i0 wr => ∃ (k0 rest : F Pay) (v : Value), i0 = .int .i64 (k0.len : Int) ∧ gk = rest.len ∧ k = k0.app rest ∧
    wr.heap[o]? = some (.cells #[.int .i64 q0, .string q1, .string q2, .slice A3 0 c3, v] 25 (0, 0)) ∧ wr.heap[rv]? = some (.cells #[.int .i64 0, .string ⟨#[]⟩, .string ⟨#[]⟩, .slice none 0 0, .slice none 0 0] 25 (0, 0)) ∧ KidsAt (w.heap.size + 3) wr v (erase (apF k0)) ∧ w.heap.size + 3 ≤ wr.heap.size ∧ Below w.heap.size w wr)
  case atStart => exact ⟨.nil, k, _, rfl, rfl, rfl, HO1.out, HR1.out, KidsAt.nil _ _, by rw [HB1.out.1]; omega, HB1.out.2⟩
  case round =>
    obtain ⟨k0, rest, v, rfl, rfl, hgh, ho1, hr1, hka, hsz, hb⟩ := hrel
    have hbl0 : (erase (apF k0)).length ≤ k0.len := by rw [erase_len]; exact apF_len k0
    have HBL := Lib.hid hbl0
    obtain ⟨Av, cv, rfl⟩ : ∃ A c, v = .slice A (erase (apF k0)).length c := by
      obtain ⟨css, h, _⟩ := hka
      exact own_slice h
    have HG := Lib.hid hgh
    have HKA := Lib.hid hka
    have HB := Lib.hid hb
    have hkl : k.len = k0.len + rest.len := by rw [hgh, F.len_app]
    obtain ⟨o4, fo4⟩ := out_cell ho1 4
    obtain ⟨o0, -⟩ := out_cell ho1 0
    obtain ⟨o1, -⟩ := out_cell ho1 1
    obtain ⟨o2, -⟩ := out_cell ho1 2
    obtain ⟨o3, -⟩ := out_cell ho1 3
    obtain ⟨r0, f0⟩ := out_cell hr1 0
    obtain ⟨r1, f1⟩ := out_cell hr1 1
    obtain ⟨r2, f2⟩ := out_cell hr1 2
    obtain ⟨r3, f3⟩ := out_cell hr1 3
    obtain ⟨r4, f4⟩ := out_cell hr1 4
    simp only [List.getElem?_toArray, List.getElem?_cons_succ, List.getElem?_cons_zero] at o0 o1 o2 o3 o4 r0 r1 r2 r3 r4
    have HO3 := Lib.hid ho1
    have HO4 := Lib.hid hr1
    clear hgh hka hb ho1 hr1
    rcases headOr_cases rest with hg | ⟨c, q, ck, r, hg⟩
    · subst hg
      simp only [F.len, Nat.add_zero] at hkl
      have hge : (erase k).length ≤ k0.len := by have := HLEN.out; omega
      have HKL := Lib.hid hkl
      have hm : k = k0 := by rw [HG.out, F.app_nil]
      obtain ⟨A, c, he, hle, hT⟩ := HKA.out.tells (by omega)
      injection he with he1 _ he3
      subst he1 he3
      have hC := hT wr (fun _ _ _ => rfl)
      have hnp := HN.out
      rw [hm] at hnp
      have hap := apF_np k0 hnp.1 hnp.2
      have hbd := apF_sub k0
      have hblk := HBLK.out
      have hhf := HHF.out
      rw [hm] at hblk hhf
      have hap3 : heft (apF k0) ≤ 1000000000 := by have := hbd.2; omega
      have hap4 : (apF k0).blocks.length ≤ 1000000 := Nat.le_trans hbd.1.length_le hblk
      have hcall := (merged_both (apF k0)).1 q0 q1 q2 wr A3 Av c3 cv hC hle hap.1 hap.2 hap3 hap4
      have hmnp := mergeG_np (apF k0) .nil hap.1 hap.2 trivial trivial
      have hmb : (mergeG (apF k0) .nil).blocks.length ≤ 1000000 := by
        have h1 := (mergeG_sub (apF k0) .nil).length_le
        simp only [F.blocks, List.nil_append] at h1
        omega
      have hfull := fun (w1 : World) (B3 B4 : Option Addr) (d3 d4 : Nat) (h4 : k25.C w1 B4 (erase (mergeG (apF k0) .nil)).length (erase (mergeG (apF k0) .nil))) (l4 : (erase (mergeG (apF k0) .nil)).length ≤ d4) => (full_any (mergeG (apF k0) .nil)).1 q0 q1 q2 w1 B3 B4 d3 d4 h4 l4 hmnp.1 hmnp.2 hmb
      have HMG := Lib.hid hcall
      have HFU := Lib.hid hfull
      have HM := Lib.hid hm
      have hrl := HRL.out
      have hrvl : rv < wr.heap.size := by omega
      clear hkl hbl0 hm hC hT hle hnp hap hbd hblk hhf hap3 hap4 hcall hmnp hmb hfull hrl
      go_wp2_with (first
        | (go_at_call 34
           refine HMG.out.mono ?_
           rintro e w5 ⟨B3, d3, B4, d4, rfl, htl, hb5⟩
           obtain ⟨E3, e3, E4, e4, he, -, -, l4', g4⟩ := k25_open (htl w5 (fun _ _ _ => rfl))
           simp only [treeCells] at he
           injection he with _ he
           injection he with _ he
           injection he with _ he
           injection he with he3 he
           injection he with he4 _
           injection he3 with x1 _ x2
           injection he4 with x3 _ x4
           subst x1 x2 x3 x4
           simp only [List.length_nil]
           have HG5 := Lib.hid (And.intro l4' g4)
           have HB5 := Lib.hid hb5
           clear htl hb5 l4' g4)
        | (go_at_call 48
           refine (HFU.out w5 B3 B4 d3 d4 HG5.out.2 HG5.out.1).mono ?_
           rintro e w6 ⟨C3, m3, C4, m4, rfl, htl, hb6⟩
           have hr6 := (hb6.block rv (by have := HB5.out.size; omega)).trans ((HB5.out.block rv hrvl).trans HO4.out)
           obtain ⟨s0, t0⟩ := out_cell hr6 0
           obtain ⟨s1, t1⟩ := out_cell hr6 1
           obtain ⟨s2, t2⟩ := out_cell hr6 2
           obtain ⟨s3, t3⟩ := out_cell hr6 3
           obtain ⟨s4, t4⟩ := out_cell hr6 4
           simp only [List.getElem?_toArray, List.getElem?_cons_succ, List.getElem?_cons_zero] at s0 s1 s2 s3 s4
           have HR6 := Lib.hid hr6
           have HTL := Lib.hid htl
           have HB6 := Lib.hid hb6
           clear htl hb6 hr6))
      obtain ⟨e4, hg, hsz2⟩ := put5 (.int .i64 q0) (.string q1) (.string q2) (.slice C3 0 m3) (.slice C4 (erase (fullF (mergeG (apF k0) .nil))).length m4) HR6.out
      refine bodyPost_ret (results_cell_row rfl _ _ rv 25 #[.int .i64 q0, .string q1, .string q2, .slice C3 0 m3, .slice C4 (erase (fullF (mergeG (apF k0) .nil))).length m4] (0, 0) _ rfl e4 Try.underlying25 rfl (by kernel_rfl)) rfl ?_
      have hrl := HRL.out
      have h5s := HB5.out.size
      have h6s := HB6.out.size
      have hbw : Below w.heap.size w w6 := below_then (below_then HB.out HB.out.size HB5.out) (by have := HB.out.size; omega) HB6.out
      rw [HM.out]
      refine ⟨C3, m3, C4, m4, rfl, fun W hW => HTL.out W fun z hz1 hz2 => ?_, hbw.grown hg hbw.size (fun z hz => by have := Option.some.inj hz; omega)⟩
      rw [hW z (by omega) (by omega)]
      exact hg.block z hz2 (fun e => by have := Option.some.inj e; omega)
    · subst hg
      have hnp := HN.out
      rw [HG.out] at hnp
      have hnk := (neat_app _ _).1 hnp.1
      have hpk := plain_app _ _ hnp.2
      obtain ⟨y0, y1, y2, hy, hyb, hyk⟩ := apF_form hnk.2 hpk.2
      have hidx : rd_T25 (erase k) ((k0.len : Nat) : Int) = ⟨y0, y1, y2, [], erase ck⟩ := by
        rw [HG.out, erase_app, ← erase_len k0]
        rw [show erase (F.node c q ck r) = nodeOf q (erase ck) :: erase r from rfl, rd_mid, hy]
      obtain ⟨ad, A3', c3', A4', c4', rfl, p0, p1, p2, p3, p4, l3', g3, l4', g4⟩ := at_T25 (Kd.C_below H4.out HB.out) ((k0.len : Nat) : Int) (by omega) (by have := HLEN.out; simp only [F.len] at hkl; omega)
      rw [hidx] at p0 p1 p2 p3 p4 l3' g3 l4' g4
      simp only [Int.toNat_natCast, List.length_nil] at p0 p1 p2 p3 p4 l3' g3 l4' g4
      have HYB := Lib.hid hyb
      have HYK := Lib.hid hyk
      have HG4 := Lib.hid (And.intro l4' g4)
      have HNK := Lib.hid (And.intro hnk hpk)
      clear hnp hnk hpk hy hyb hyk hidx l3' g3 l4' g4
      have hlt : k0.len < (erase k).length := by have := HLEN.out; simp only [F.len] at hkl; omega
      have hdn6 : (erase (apF k0)).length ≤ 1000000 := by simp only [F.len] at hkl; omega
      have hrl0 := HRL.out
      have hol : o < wr.heap.size := by omega
      have hrvl : rv < wr.heap.size := by omega
      have hro : rv ≠ o := by omega
      have HKL := Lib.hid hkl
      clear hrl0 hkl hbl0
      go_upto_region 5 with (fail)
      go_cut [18, 24] from 18 to 32 (fun ci v wx => ci = .int .i64 (k0.len : Int) ∧ v = .bool (kpA q) ∧ wx = (wr.alloc (.cells #[.int .i64 y0, .string y1, .string y2, .slice A3' 0 c3', .slice A4' (erase ck).length c4'] 25 (0, 0))))
      case first =>
        rcases HYK.out with ⟨hkp, hy1⟩ | ⟨hkp, rfl⟩
        · have hd1 : (y0 == 2) = false := by simpa using hy1
          have hd2 : decide (y0 = 2) = false := decide_eq_false hy1
          have HKP := Lib.hid hkp
          have HY1 := Lib.hid hy1
          clear hkp hy1
          go_wp2
          all_goals first
            | exact absurd (by assumption) HY1.out
            | (go_meet; exact ⟨rfl, by first | (rw [HKP.out]; done) | (rw [HKP.out]; simp [HY1.out]), rfl⟩)
        · have HKP := Lib.hid hkp
          clear hkp
          go_wp2
          go_meet
          exact ⟨rfl, by first | (rw [HKP.out]; done) | (rw [HKP.out]; simp), rfl⟩
      case rest =>
        obtain ⟨rfl, rfl, rfl⟩ := hcut
        cases hkp : kpA q with
        | false =>
          have HKP := Lib.hid hkp
          clear hkp
          go_wp2
          go_roundg r.len
          case measure => simp [F.len]
          case rel =>
            have hrl := HRL.out
            have hAW := below_alloc (Below.refl wr.heap.size wr) (.cells #[.int .i64 y0, .string y1, .string y2, .slice A3' 0 c3', .slice A4' (erase ck).length c4'] 25 (0, 0))
            refine ⟨k0.app (.node c q ck .nil), r, .slice Av (erase (apF k0)).length cv, ?_, rfl, ?_, (hAW.block o hol).trans HO3.out, (hAW.block rv (by omega)).trans HO4.out, ?_, by have := hAW.size; omega, below_then HB.out HB.out.size hAW⟩
            · rw [F.len_app]
              simp only [F.len]
              have hk6 : k0.len ≤ 1000000 := by have := HKL.out; simp only [F.len] at this; omega
              have hwr : wrap64 ((k0.len : Int) + 1) = ((k0.len + (0 + 1) : Nat) : Int) := by unfold wrap64; omega
              rw [hwr]
            · rw [F.app_assoc]
              exact HG.out
            · rw [apF_app, apF_skip HKP.out, show apF .nil = .nil from rfl, F.app_nil]
              exact HKA.out.below hAW
        | true =>
          have HKP := Lib.hid hkp
          clear hkp
          have hAW : Below wr.heap.size wr (wr.alloc (.cells #[.int .i64 y0, .string y1, .string y2, .slice A3' 0 c3', .slice A4' (erase ck).length c4'] 25 (0, 0))).drew := (below_alloc (Below.refl _ _) _).drew
          have HAW := Lib.hid hAW
          have hcall : Calls Try.prog 45 #[.agg #[.int .i64 y0, .string y1, .string y2, .slice A3' 0 c3', .slice A4' (erase ck).length c4']] (wr.alloc (.cells #[.int .i64 y0, .string y1, .string y2, .slice A3' 0 c3', .slice A4' (erase ck).length c4'] 25 (0, 0))).drew _ :=
            (show AllK ApK (.node c q ck r) from allK_app ApK k0 _ (HG.out ▸ HA.out)).1 y0 y1 y2 (wr.alloc (.cells #[.int .i64 y0, .string y1, .string y2, .slice A3' 0 c3', .slice A4' (erase ck).length c4'] 25 (0, 0))).drew A3' A4' c3' c4' (Kd.C_below HG4.out.2 hAW) HG4.out.1 HNK.out.1.2.2.1 HNK.out.2.2.2.1 (by
              have h := HBLK.out
              rw [HG.out, F.blocks_app] at h
              simp only [F.blocks, List.length_append, List.length_cons] at h
              omega) (by
              have h := HHF.out
              rw [HG.out, heft_app] at h
              simp only [heft] at h
              omega)
          have HCALL := Lib.hid hcall
          clear hcall hAW
          go_wp2
          go_region_law (first
            | (go_simp
               go_at_call 45
               refine HCALL.out.mono ?_
               rintro e w3 ⟨A3y, c3y, A4y, c4y, rfl, htl, hb3⟩
               have ho3 := (hb3.block o (by have := HAW.out.size; omega)).trans ((HAW.out.block o hol).trans HO3.out)
               obtain ⟨k4, -⟩ := out_cell ho3 4
               simp only [List.getElem?_toArray, List.getElem?_cons_succ, List.getElem?_cons_zero] at k4
               have hol3 : o < w3.heap.size := by have := HAW.out.size; have := hb3.size; omega
               have HTL := Lib.hid htl
               have HB3 := Lib.hid hb3
               have HOO := Lib.hid ho3
               clear htl hb3 ho3)
            | (obtain ⟨css, hcs1, hcs2, hcs3⟩ := (HKA.out.below HAW.out).below HB3.out
               refine step_append_cells (w0 := w3) (w.heap.size + 3) rfl (.tmp 26) (.tmp 29) 23 25 _ 5 88 rfl Try.underlying23 infoTree rfl (by decide) (by decide) (.slice Av (erase (apF k0)).length cv) (erase (apF k0)).length css.flatten [.int .i64 y0, .string y1, .string y2, .slice A3y 0 c3y, .slice A4y (erase (apT ck)).length c4y] (by simp [Act.eval, Act.put]) (by simp [Act.eval, Act.put]) rfl (by simp [Value.oneCell']) hcs1 (Below.refl _ _) (by have := HAW.out.size; have := HB3.out.size; omega) (by omega) ?_
               intro v1 w4 hown hb4 hg4 hv4
               obtain ⟨A1, c1, rfl⟩ := own_slice hown
               have hne : ∀ z, z < w.heap.size + 3 → some z ≠ (Value.slice Av (erase (apF k0)).length cv).ownBlock := fun z hz e => by have := own_base hcs1 z e.symm; omega
               have hoW := (hg4.block o hol3 (hne o (by have := HRL.out; omega))).trans HOO.out
               obtain ⟨k4', fk4'⟩ := out_cell hoW 4
               simp only [List.getElem?_toArray, List.getElem?_cons_succ, List.getElem?_cons_zero] at k4'
               have HOWN := Lib.hid hown
               have HG4' := Lib.hid hg4
               have HV4 := Lib.hid hv4
               have HOW := Lib.hid hoW
               have HCS := Lib.hid (And.intro hcs1 (And.intro hcs2 hcs3))
               have HNE := Lib.hid hne
               clear hown hb4 hg4 hv4 hoW hcs1 hcs2 hcs3 hne))
          all_goals (
            go_wp2
            go_roundg r.len
            case measure => simp [F.len]
            case rel =>
              have hrl := HRL.out
              have hs1 := HAW.out.size
              have hs2 := HB3.out.size
              have hs3 := HG4'.out.size
              obtain ⟨css0, hcs0, -, -⟩ := HKA.out
              refine ⟨k0.app (.node c q ck .nil), r, .slice A1 ((erase (apF k0)).length + 1) c1, ?_, rfl, ?_, Lib.heap_setCell_same HOW.out _, ?_, ?_, ?_, ?_⟩
              · rw [F.len_app]
                simp only [F.len]
                have hk6 : k0.len ≤ 1000000 := by have := HKL.out; simp only [F.len] at this; omega
                have hwr : wrap64 ((k0.len : Int) + 1) = ((k0.len + (0 + 1) : Nat) : Int) := by unfold wrap64; omega
                rw [hwr]
              · rw [F.app_assoc]
                exact HG.out
              · exact (Below.heap_setCell _ _ _ _ (by exact hro)).trans ((HG4'.out.block rv (by omega) (HNE.out rv (by omega))).trans ((HB3.out.block rv (by omega)).trans ((HAW.out.block rv (by omega)).trans HO4.out)))
              · rw [apF_app, erase_app, show erase (apF (F.node c q ck .nil)) = [nodeOf q (erase (apT ck))] from by rw [apF_keep HKP.out]; rfl, HYB.out]
                exact (KidsAt.push HCS.out.2.1 HCS.out.2.2 rfl (by omega) (Nat.le_refl _) (fun g hg => by have := own_lt hcs0 g hg; omega) HTL.out HOWN.out HG4'.out HV4.out).store ⟨o, 4, none⟩ (by show o < _; omega) _
              · rw [World.size_setCell]
                omega
              · exact ((below_then (below_then HB.out HB.out.size HAW.out) (by omega) HB3.out).grown HG4'.out (by omega) (fun z hz => by have := own_base HCS.out.1 z hz; omega)).setCell (by show _ ≤ o; omega) _)
theorem ap_any : ∀ k : F Pay, ApK k ∧ AllK ApK k
  | .nil => ⟨ap_step .nil trivial, trivial⟩
  | .node b p k r => by
    have h : AllK ApK (.node b p k r) := ⟨(ap_any k).1, (ap_any r).2⟩
    exact ⟨ap_step _ h, h⟩
end Go.Proofs.Ytlallihdiffheaa.Hand
end
