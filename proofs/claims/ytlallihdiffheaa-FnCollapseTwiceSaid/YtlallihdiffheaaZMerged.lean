/- spec.Merged by hand. -/
import Derived.Test.YtlallihdiffheaaZSmall
import Derived.Test.YtlallihdiffheaaZInline
import Derived.RegionTactic
import Derived.Deep.RegionLaw
namespace Go.Proofs.Ytlallihdiffheaa.Hand
open Go.RowKit Go.Proofs.YtlallihdiffheaaW.PrintWords Go.Proofs.YtlallihdiffheaaW.PrintLast Go.Proofs.Ytlallihdiffheaa.GT
set_option linter.unusedVariables false
set_option linter.unusedSimpArgs false

/-- A tree of a node without attributes, leaves without children. -/
theorem node_form {p : Pay} {k r : F Pay} {b : Nat} (hn : Neat (.node b p k r)) (hp : Plain (.node b p k r)) : ∃ q0 q1 q2, nodeOf p (erase k) = ⟨q0, q1, q2, [], erase k⟩ ∧ (∀ x, nodeOf p (erase (mergeG k .nil)) = ⟨q0, q1, q2, [], x⟩ ↔ erase (mergeG k .nil) = x) ∧ (q0 = 1 ↔ p.type = 1) ∧ (p.type = 1 → q1 = ⟨#[]⟩ ∧ q2 = p.data ∧ k = .nil) := by
  obtain ⟨hn1, hn2, hn3⟩ := hn
  rcases hp.1 with ht | ⟨ht, ha⟩ | ht
  · have hk : k = .nil := by rcases hn1 with ⟨_, h⟩ | ⟨h, _⟩ | h | h <;> first | assumption | omega
    subst hk
    exact ⟨1, ⟨#[]⟩, p.data, by simp [nodeOf, ht, erase], fun x => by simp [nodeOf, ht, erase, mergeG], by simp [ht], fun _ => ⟨rfl, rfl, rfl⟩⟩
  · refine ⟨0, p.data, ⟨#[]⟩, by simp [nodeOf, ht, ha], fun x => by simp [nodeOf, ht, ha], by simp [ht], fun h => by omega⟩
  · have hk : k = .nil := by rcases hn1 with ⟨h, _⟩ | ⟨_, h⟩ | h | h <;> first | assumption | omega
    subst hk
    exact ⟨2, ⟨#[]⟩, p.data, by simp [nodeOf, ht, erase], fun x => by simp [nodeOf, ht, erase, mergeG], by simp [ht], fun h => by omega⟩
def MgP (k : F Pay) : Prop := ∀ (q0 : Int) (q1 q2 : ByteArray) (w : World) (A3 A4 : Option Addr) (c3 c4 : Nat), k25.C w A4 (erase k).length (erase k) → (erase k).length ≤ c4 → Neat k → Plain k → heft k ≤ 1000000000 → k.blocks.length ≤ 1000000 →
  Calls Try.prog 34 #[.agg #[.int .i64 q0, .string q1, .string q2, .slice A3 0 c3, .slice A4 (erase k).length c4]] w (ToldPost ⟨q0, q1, q2, [], erase (mergeG k .nil)⟩ w)
theorem rd_mid (a b : List S25) (y : S25) : rd_T25 (a ++ y :: b) (a.length : Int) = y := by
  simp [rd_T25]
theorem neat_snoc {f : F Pay} {b : Nat} {p : Pay} {k : F Pay} (h1 : Neat f) (h2 : Neat (.node b p k .nil)) : Neat (f.app (.node b p k .nil)) := (neat_app _ _).2 ⟨h1, h2⟩
theorem plain_snoc : ∀ {f g : F Pay}, Plain f → Plain g → Plain (f.app g)
  | .nil, g, h1, h2 => h2
  | .node b p k r, g, h1, h2 => ⟨h1.1, h1.2.1, plain_snoc h1.2.2 h2⟩
theorem mergeG_np : ∀ (f done : F Pay), Neat f → Plain f → Neat done → Plain done → Neat (mergeG f done) ∧ Plain (mergeG f done)
  | .nil, done, _, _, h3, h4 => ⟨h3, h4⟩
  | .node b p k r, done, h1, h2, h3, h4 => by
    rw [mergeG]
    split
    · refine mergeG_np r _ h1.2.2 h2.2.2 ?_ ?_
      · rcases snoc_cases done with h | ⟨a, l, q, kk, h⟩
        · rw [h]; trivial
        · subst h
          rw [addLast_snoc]
          have h5 := (neat_app _ _).1 h3
          exact (neat_app _ _).2 ⟨h5.1, h5.2⟩
      · rcases snoc_cases done with h | ⟨a, l, q, kk, h⟩
        · rw [h]; trivial
        · subst h
          rw [addLast_snoc]
          have h5 := plain_app _ _ h4
          exact plain_snoc h5.1 h5.2
    · obtain ⟨h5, h6⟩ := mergeG_np k .nil h1.2.1 h2.2.1 trivial trivial
      have h7 : Neat (.node b p (mergeG k .nil) .nil) := by
        refine ⟨?_, h5, trivial⟩
        rcases h1.1 with ⟨a, e⟩ | ⟨a, e⟩ | a | a
        · exact .inl ⟨a, by rw [e]; rfl⟩
        · exact .inr (.inl ⟨a, by rw [e]; rfl⟩)
        · exact .inr (.inr (.inl a))
        · exact .inr (.inr (.inr a))
      exact mergeG_np r _ h1.2.2 h2.2.2 (neat_snoc h3 h7) (plain_snoc h4 ⟨h2.1, h6, trivial⟩)
theorem addLast_np (s : ByteArray) {done : F Pay} (h3 : Neat done) (h4 : Plain done) : Neat (addLast s done) ∧ Plain (addLast s done) ∧ (addLast s done).len = done.len := by
  rcases snoc_cases done with h | ⟨a, l, q, kk, h⟩
  · rw [h]; exact ⟨trivial, trivial, rfl⟩
  · subst h
    rw [addLast_snoc]
    have h5 := (neat_app _ _).1 h3
    have h6 := plain_app _ _ h4
    exact ⟨(neat_app _ _).2 ⟨h5.1, h5.2⟩, plain_snoc h6.1 h6.2, by rw [F.len_app, F.len_app]; rfl⟩
set_option maxRecDepth 100000 in
set_option maxHeartbeats 1200000 in
theorem merged_step (k : F Pay) (hall : AllK MgP k) : MgP k := by
  intro q0 q1 q2 w A3 A4 c3 c4 h4 l4 hn hp hh hbl
  have hl : k.len ≤ 1000000 := Nat.le_trans (len_le_blocks k) hbl
  have HBLK := Lib.hid hbl
  clear hbl
  have hA3 := alloc3 w (.cells #[.int .i64 q0, .string q1, .string q2, .slice A3 0 c3, .slice A4 (erase k).length c4] 25 (0, 0)) (.cells #[.int .i64 0, .string ⟨#[]⟩, .string ⟨#[]⟩, .slice none 0 0, .slice none 0 0] 25 (0, 0)) (.cells #[.int .i64 q0, .string q1, .string q2, .slice A3 0 c3, .slice none 0 0] 25 (0, 0))
  have H4 := Lib.hid h4
  have HA := Lib.hid hall
  have HN := Lib.hid (And.intro hn (And.intro hp hh))
  have HLEN := Lib.hid (erase_len k)
  have HA3 := Lib.hid hA3
  clear h4 hall hn hp hh hA3
  go_enter Try.func34, Try.ntmps34
  go_wp2
  obtain ⟨b1, b2, b3, b4, b5⟩ := HA3.out
  obtain ⟨o, ho⟩ : ∃ o, o = w.heap.size + 1 + 1 := ⟨_, rfl⟩
  obtain ⟨rv, hrv⟩ : ∃ o, o = w.heap.size + 1 := ⟨_, rfl⟩
  rw [← ho] at b3 ⊢
  rw [← hrv] at b2 ⊢
  have HRL := Lib.hid (And.intro ho hrv)
  have HO1 := Lib.hid b3
  have HR1 := Lib.hid b2
  have HB1 := Lib.hid (And.intro b4 b5)
  clear b1 b2 b3 b4 b5 ho hrv HA3
  go_loopg [19] k.len (fun gk i0 wr => ∃ (k0 rest done : F Pay) (v : Value), i0 = .int .i64 (k0.len : Int) ∧ gk = rest.len ∧ (k = k0.app rest ∧ mergeG rest done = mergeG k .nil ∧ heft done ≤ heft k0 ∧ done.len ≤ k0.len ∧ Neat done ∧ Plain done) ∧
    wr.heap[o]? = some (.cells #[.int .i64 q0, .string q1, .string q2, .slice A3 0 c3, v] 25 (0, 0)) ∧ wr.heap[rv]? = some (.cells #[.int .i64 0, .string ⟨#[]⟩, .string ⟨#[]⟩, .slice none 0 0, .slice none 0 0] 25 (0, 0)) ∧ KidsAt (w.heap.size + 3) wr v (erase done) ∧ w.heap.size + 3 ≤ wr.heap.size ∧ Below w.heap.size w wr)
  case atStart => exact ⟨.nil, k, .nil, _, rfl, rfl, ⟨rfl, rfl, Nat.le_refl _, Nat.le_refl _, trivial, trivial⟩, HO1.out, HR1.out, KidsAt.nil _ _, by rw [HB1.out.1]; omega, HB1.out.2⟩
  case round =>
    obtain ⟨k0, rest, done, v, rfl, rfl, hgh, ho1, hr1, hka, hsz, hb⟩ := hrel
    obtain ⟨Av, cv, rfl⟩ : ∃ A c, v = .slice A (erase done).length c := by
      obtain ⟨css, h, _⟩ := hka
      exact own_slice h
    have HG := Lib.hid hgh
    have HKA := Lib.hid hka
    have HB := Lib.hid hb
    have hkl : k.len = k0.len + rest.len := by rw [hgh.1, F.len_app]
    have hdl : (erase done).length ≤ k0.len := by rw [erase_len]; exact hgh.2.2.2.1
    obtain ⟨o4, fo4⟩ := out_cell ho1 4
    obtain ⟨o0, -⟩ := out_cell ho1 0
    obtain ⟨o1, -⟩ := out_cell ho1 1
    obtain ⟨o2, -⟩ := out_cell ho1 2
    obtain ⟨o3, -⟩ := out_cell ho1 3
    obtain ⟨r0, f0⟩ := out_cell hr1 0
    obtain ⟨r1, f1⟩ := out_cell hr1 1
    obtain ⟨r2, f2⟩ := out_cell hr1 2
    obtain ⟨r3, f3⟩ := out_cell hr1 3
    obtain ⟨r4, f4⟩ := out_cell hr1 4
    simp only [List.getElem?_toArray, List.getElem?_cons_succ, List.getElem?_cons_zero] at o0 o1 o2 o3 o4 r0 r1 r2 r3 r4
    have HO3 := Lib.hid ho1
    have HO4 := Lib.hid hr1
    clear hgh hka hb ho1 hr1
    rcases headOr_cases rest with hg | ⟨c, q, ck, r, hg⟩
    · subst hg
      simp only [F.len, Nat.add_zero] at hkl
      have hge : (erase k).length ≤ k0.len := by have := HLEN.out; omega
      have HKL := Lib.hid hkl
      clear hkl
      go_wp2
      obtain ⟨e4, hg, hszr⟩ := put5 (.int .i64 q0) (.string q1) (.string q2) (.slice A3 0 c3) (.slice Av (erase done).length cv) HO4.out
      refine bodyPost_ret (results_cell_row rfl _ _ rv 25 #[.int .i64 q0, .string q1, .string q2, .slice A3 0 c3, .slice Av (erase done).length cv] (0, 0) _ rfl e4 Try.underlying25 rfl (by kernel_rfl)) rfl ?_
      have hrl := HRL.out
      have hm : mergeG k .nil = done := HG.out.2.1.symm
      obtain ⟨A, c, he, hle, hT⟩ := HKA.out.tells (by have := HKL.out; omega)
      injection he with he1 _ he3
      subst he1 he3
      rw [hm]
      refine ⟨A3, c3, Av, cv, rfl, fun W hW => ?_, HB.out.grown hg HB.out.size (fun z hz => by have := Option.some.inj hz; omega)⟩
      refine k25_mk W ⟨q0, q1, q2, [], erase done⟩ (A3 := A3) (c3 := c3) (Nat.zero_le _) ⟨rfl, Nat.zero_le _, fun h => absurd h (Nat.lt_irrefl _)⟩ hle (hT W fun z hz1 hz2 => ?_)
      rw [hW z (by omega) (by omega)]
      exact hg.block z hz2 (fun e => by have := Option.some.inj e; omega)
    · subst hg
      have hnp := HN.out
      rw [HG.out.1] at hnp
      have hnk := (neat_app _ _).1 hnp.1
      have hpk := plain_app _ _ hnp.2.1
      obtain ⟨y0, y1, y2, hy, hym, hy1, hyt⟩ := node_form hnk.2 hpk.2
      have hidx : rd_T25 (erase k) ((k0.len : Nat) : Int) = ⟨y0, y1, y2, [], erase ck⟩ := by
        rw [HG.out.1, erase_app, ← erase_len k0]
        rw [show erase (F.node c q ck r) = nodeOf q (erase ck) :: erase r from rfl, rd_mid, hy]
      obtain ⟨ad, A3', c3', A4', c4', rfl, p0, p1, p2, p3, p4, l3', g3, l4', g4⟩ := at_T25 (Kd.C_below H4.out HB.out) ((k0.len : Nat) : Int) (by omega) (by have := HLEN.out; simp only [F.len] at hkl; omega)
      rw [hidx] at p0 p1 p2 p3 p4 l3' g3 l4' g4
      simp only [Int.toNat_natCast, List.length_nil] at p0 p1 p2 p3 p4 l3' g3 l4' g4
      have HYM := Lib.hid (And.intro hym (And.intro hy1 hyt))
      have HY := Lib.hid hy
      have HG4 := Lib.hid (And.intro l4' g4)
      have HNK := Lib.hid (And.intro hnk hpk)
      clear hnp hnk hpk hy hym hy1 hyt hidx l3' g3 l4' g4
      have hlt : k0.len < (erase k).length := by have := HLEN.out; simp only [F.len] at hkl; omega
      have hdn6 : (erase done).length ≤ 1000000 := by simp only [F.len] at hkl; omega
      have hrl0 := HRL.out
      have hol : o < wr.heap.size := by omega
      have hrvl : rv < wr.heap.size := by omega
      have hro : rv ≠ o := by omega
      have HKL := Lib.hid hkl
      clear hrl0 hkl
      have hAW : Below wr.heap.size wr (wr.alloc (.cells #[.int .i64 y0, .string y1, .string y2, .slice A3' 0 c3', .slice A4' (erase ck).length c4'] 25 (0, 0))).drew := (below_alloc (Below.refl _ _) _).drew
      have HAW := Lib.hid hAW
      have hcall : Calls Try.prog 34 #[.agg #[.int .i64 y0, .string y1, .string y2, .slice A3' 0 c3', .slice A4' (erase ck).length c4']] (wr.alloc (.cells #[.int .i64 y0, .string y1, .string y2, .slice A3' 0 c3', .slice A4' (erase ck).length c4'] 25 (0, 0))).drew _ :=
        (show AllK MgP (.node c q ck r) from allK_app MgP k0 _ (HG.out.1 ▸ HA.out)).1 y0 y1 y2 (wr.alloc (.cells #[.int .i64 y0, .string y1, .string y2, .slice A3' 0 c3', .slice A4' (erase ck).length c4'] 25 (0, 0))).drew A3' A4' c3' c4' (Kd.C_below HG4.out.2 hAW) HG4.out.1 HNK.out.1.2.2.1 HNK.out.2.2.2.1 (by
          have h := HN.out.2.2
          rw [HG.out.1, heft_app] at h
          simp only [heft] at h
          omega) (by
          have h := HBLK.out
          rw [HG.out.1, F.blocks_app] at h
          simp only [F.blocks, List.length_append, List.length_cons] at h
          omega)
      have HCALL := Lib.hid hcall
      clear hcall hAW
      -- the end of a round that appends
      have hfin : ∀ (w2 : World) (v2 : Value), w2.heap[o]? = some (.cells #[.int .i64 q0, .string q1, .string q2, .slice A3 0 c3, v2] 25 (0, 0)) → w2.heap[rv]? = some (.cells #[.int .i64 0, .string ⟨#[]⟩, .string ⟨#[]⟩, .slice none 0 0, .slice none 0 0] 25 (0, 0)) → KidsAt (w.heap.size + 3) w2 v2 (erase done ++ [⟨y0, y1, y2, [], erase (mergeG ck .nil)⟩]) → w.heap.size + 3 ≤ w2.heap.size → Below w.heap.size w w2 → ((q.type == 1) && lastT false done) = false →
          ∃ (k0' rest' done' : F Pay) (v : Value), Value.int .i64 (wrap64 ((k0.len : Int) + 1)) = .int .i64 (k0'.len : Int) ∧ r.len = rest'.len ∧ (k = k0'.app rest' ∧ mergeG rest' done' = mergeG k .nil ∧ heft done' ≤ heft k0' ∧ done'.len ≤ k0'.len ∧ Neat done' ∧ Plain done') ∧
    w2.heap[o]? = some (.cells #[.int .i64 q0, .string q1, .string q2, .slice A3 0 c3, v] 25 (0, 0)) ∧ w2.heap[rv]? = some (.cells #[.int .i64 0, .string ⟨#[]⟩, .string ⟨#[]⟩, .slice none 0 0, .slice none 0 0] 25 (0, 0)) ∧ KidsAt (w.heap.size + 3) w2 v (erase done') ∧ w.heap.size + 3 ≤ w2.heap.size ∧ Below w.heap.size w w2 := by
        intro w2 v2 a1 a2 a3 a4 a5 a6
        have hg := HG.out
        have hhf := mergeG_heft ck .nil
        have hnk := HNK.out
        have hnp := mergeG_np ck .nil hnk.1.2.2.1 hnk.2.2.2.1 trivial trivial
        have hnode : Neat (.node c q (mergeG ck .nil) .nil) := by
          refine ⟨?_, hnp.1, trivial⟩
          rcases hnk.1.2.1 with ⟨a, e⟩ | ⟨a, e⟩ | a | a
          · exact .inl ⟨a, by rw [e]; rfl⟩
          · exact .inr (.inl ⟨a, by rw [e]; rfl⟩)
          · exact .inr (.inr (.inl a))
          · exact .inr (.inr (.inr a))
        refine ⟨k0.app (.node c q ck .nil), r, done.app (.node c q (mergeG ck .nil) .nil), v2, ?_, rfl, ⟨?_, ?_, ?_, ?_, neat_snoc hg.2.2.2.2.1 hnode, plain_snoc hg.2.2.2.2.2 ⟨hnk.2.2.1, hnp.2, trivial⟩⟩, a1, a2, ?_, a4, a5⟩
        · rw [F.len_app]
          simp only [F.len]
          have hk6 : k0.len ≤ 1000000 := by have := HKL.out; omega
          have hwr : wrap64 ((k0.len : Int) + 1) = ((k0.len + (0 + 1) : Nat) : Int) := by unfold wrap64; omega
          rw [hwr]
        · rw [F.app_assoc]
          exact hg.1
        · rw [← hg.2.1, mergeG, if_neg (by rw [a6]; decide)]
        · rw [heft_app, heft_app]
          simp only [heft] at hhf ⊢
          have := hg.2.2.1
          omega
        · rw [F.len_app, F.len_app]
          simp only [F.len]
          have := hg.2.2.2.1
          omega
        · rw [erase_app, show erase (F.node c q (mergeG ck .nil) .nil) = [nodeOf q (erase (mergeG ck .nil))] from rfl, (HYM.out.1 _).2 rfl]
          exact a3
      have HFIN := Lib.hid hfin
      clear hfin
      by_cases hq : q.type = 1
      · have hyf : y0 = 1 := HYM.out.2.1.2 hq
        have hyt := HYM.out.2.2 hq
        have HQ := Lib.hid hq
        clear hq
        subst hyf
        rcases snoc_cases done with hdn | ⟨a, l, ql, lk, hdn⟩
        · have HDN := Lib.hid hdn
          have hd0 : (erase done).length ≤ 0 := by rw [hdn]; exact Nat.le_refl _
          clear hdn hyt
          go_wp2
          go_region_law (first
            | (go_simp
               go_at_call 34
               refine HCALL.out.mono ?_
               rintro e w3 ⟨A3y, c3y, A4y, c4y, rfl, htl, hb3⟩
               have ho3 := (hb3.block o (by have := HAW.out.size; omega)).trans ((HAW.out.block o hol).trans HO3.out)
               obtain ⟨k4, -⟩ := out_cell ho3 4
               simp only [List.getElem?_toArray, List.getElem?_cons_succ, List.getElem?_cons_zero] at k4
               have hol3 : o < w3.heap.size := by have := HAW.out.size; have := hb3.size; omega
               have HTL := Lib.hid htl
               have HB3 := Lib.hid hb3
               have HOO := Lib.hid ho3
               clear htl hb3 ho3)
            | (obtain ⟨css, hcs1, hcs2, hcs3⟩ := (HKA.out.below HAW.out).below HB3.out
               refine step_append_cells (w0 := w3) (w.heap.size + 3) rfl (.tmp 55) (.tmp 58) 23 25 _ 5 88 rfl Try.underlying23 infoTree rfl (by decide) (by decide) (.slice Av (erase done).length cv) (erase done).length css.flatten [.int .i64 1, .string y1, .string y2, .slice A3y 0 c3y, .slice A4y (erase (mergeG ck .nil)).length c4y] (by simp [Act.eval, Act.put]) (by simp [Act.eval, Act.put]) rfl (by simp [Value.oneCell']) hcs1 (Below.refl _ _) (by have := HAW.out.size; have := HB3.out.size; omega) (by omega) ?_
               intro v1 w4 hown hb4 hg4 hv4
               obtain ⟨A1, c1, rfl⟩ := own_slice hown
               have hne : ∀ z, z < w.heap.size + 3 → some z ≠ (Value.slice Av (erase done).length cv).ownBlock := fun z hz e => by have := own_base hcs1 z e.symm; omega
               have hoW := (hg4.block o hol3 (hne o (by have := HRL.out; omega))).trans HOO.out
               obtain ⟨k4', fk4'⟩ := out_cell hoW 4
               simp only [List.getElem?_toArray, List.getElem?_cons_succ, List.getElem?_cons_zero] at k4'
               have HOWN := Lib.hid hown
               have HG4' := Lib.hid hg4
               have HV4 := Lib.hid hv4
               have HOW := Lib.hid hoW
               have HCS := Lib.hid (And.intro hcs1 (And.intro hcs2 hcs3))
               have HNE := Lib.hid hne
               clear hown hb4 hg4 hv4 hoW hcs1 hcs2 hcs3 hne))
          all_goals (
            go_wp2
            go_roundg r.len
            case measure => simp [F.len]
            case rel =>
              have hrl := HRL.out
              have hs1 := HAW.out.size
              have hs2 := HB3.out.size
              have hs3 := HG4'.out.size
              obtain ⟨css0, hcs0, -, -⟩ := HKA.out
              refine HFIN.out (w4.setCell ⟨o, 4, none⟩ (.slice A1 ((erase done).length + 1) c1)) (.slice A1 ((erase done).length + 1) c1) (Lib.heap_setCell_same HOW.out _) ?_ ?_ ?_ ?_ (by rw [HDN.out]; simp [lastT])
              · exact (Below.heap_setCell _ _ _ _ (by exact hro)).trans ((HG4'.out.block rv (by omega) (HNE.out rv (by omega))).trans ((HB3.out.block rv (by omega)).trans ((HAW.out.block rv (by omega)).trans HO4.out)))
              · exact (KidsAt.push HCS.out.2.1 HCS.out.2.2 rfl (by omega) (Nat.le_refl _) (fun g hg => by have := own_lt hcs0 g hg; omega) HTL.out HOWN.out HG4'.out HV4.out).store ⟨o, 4, none⟩ (by show o < _; omega) _
              · rw [World.size_setCell]
                omega
              · exact ((below_then (below_then HB.out HB.out.size HAW.out) (by omega) HB3.out).grown HG4'.out (by omega) (fun z hz => by have := own_base HCS.out.1 z hz; omega)).setCell (by show _ ≤ o; omega) _)
        · have hnl := (neat_app _ _).1 (hdn ▸ HG.out.2.2.2.2.1)
          have hpl := plain_app _ _ (hdn ▸ HG.out.2.2.2.2.2)
          obtain ⟨z0, z1, z2, hz, hzm, hz1, hzt⟩ := node_form hnl.2 hpl.2
          have hed : erase done = erase a ++ [⟨z0, z1, z2, [], erase lk⟩] := by rw [hdn, erase_app, ← hz]; rfl
          obtain ⟨g, cap, hv, hgb, hgl, e0, e2, fg, hcap, hturn⟩ := KidsAt.last (hed ▸ HKA.out)
          have hlen2 : (erase done).length = (erase a).length + 1 := by rw [hed, List.length_append]; rfl
          have hav : Av = some ⟨g, 0, none⟩ := by injection hv
          subst hav
          have hgo : g ≠ o := by have := HRL.out; omega
          have hgr : g ≠ rv := by have := HRL.out; omega
          have hgw : g ≠ wr.heap.size := by omega
          have HED := Lib.hid hed
          have HTURN := Lib.hid hturn
          have HZ := Lib.hid (And.intro hz (And.intro hz1 hzt))
          have HDN := Lib.hid hdn
          have HNPL := Lib.hid (And.intro hnl hpl)
          have HL2 := Lib.hid hlen2
          obtain ⟨la, hla⟩ : ∃ la, la = (erase a).length := ⟨_, rfl⟩
          have hla6 : la ≤ 1000000 := by omega
          have HLA := Lib.hid hla
          have o4b := o4
          rw [hlen2, ← hla] at o4b
          rw [← hla] at e0 e2
          by_cases hql : ql.type = 1
          · have hz0 : z0 = 1 := hz1.2 hql
            subst hz0
            have hzq := hzt hql
            have hsz : z2.size + y2.size ≤ 1000000000 := by
              have h1 := HN.out.2.2
              have h2 := HG.out.2.2.1
              rw [HG.out.1, heft_app] at h1
              rw [hdn, heft_app] at h2
              simp only [heft] at h1 h2
              rw [hql] at h2
              rw [HQ.out] at h1
              simp only [beq_self_eq_true, if_true] at h1 h2
              rw [hzq.2.1, hyt.2.1]
              omega
            have HZQ := Lib.hid hzq
            have HYT := Lib.hid hyt
            have HQL := Lib.hid hql
            have fgw := fg (la * 5 + 2)
            have hgl2 : g < wr.heap.size := hgl
            clear hnl hpl hz hzm hz1 hzt hed hv hturn hdn hlen2 hla o4 hcap hyt hzq hql fg
            go_wp2
            go_region
            go_wp2
            go_roundg r.len
            case measure => simp [F.len]
            case rel =>
              have hg := HG.out
              have hz := HZQ.out
              have hy := HYT.out
              have hnk := HNK.out
              have hanp := addLast_np q.data hg.2.2.2.2.1 hg.2.2.2.2.2
              have hk6 : k0.len ≤ 1000000 := by have := HKL.out; omega
              have hwr : wrap64 ((k0.len : Int) + 1) = ((k0.len + (0 + 1) : Nat) : Int) := by unfold wrap64; omega
              have her : erase (addLast q.data done) = erase a ++ [⟨1, z1, z2 ++ y2, [], []⟩] := by
                rw [HDN.out, addLast_snoc, erase_app, hz.1, hz.2.1, hy.2.1]
                simp [erase, nodeOf, HQL.out]
              have hT := HTURN.out (z2 ++ y2) (by first | rfl | trivial) (by show erase lk = []; rw [hz.2.2]; rfl)
              rw [← HED.out] at hT
              rw [← HLA.out] at hT
              refine ⟨k0.app (.node c q ck .nil), r, addLast q.data done, _, ?_, rfl, ⟨?_, ?_, ?_, ?_, hanp.1, hanp.2.1⟩, (Below.heap_alloc _ _ _ (by rw [World.size_setCell]; exact hol)).trans ((Below.heap_setCell wr ⟨g, la * 5 + 2, none⟩ _ o (fun e => hgo e.symm)).trans HO3.out), (Below.heap_alloc _ _ _ (by rw [World.size_setCell]; exact hrvl)).trans ((Below.heap_setCell wr ⟨g, la * 5 + 2, none⟩ _ rv (fun e => hgr e.symm)).trans HO4.out), ?_, ?_, ?_⟩
              · rw [F.len_app]
                simp only [F.len]
                rw [hwr]
              · rw [F.app_assoc]
                exact hg.1
              · rw [← hg.2.1, mergeG, if_pos]
                rw [HQ.out, HDN.out, lastT_snoc, HQL.out]
                rfl
              · have h1 := heft_addLast q.data done
                rw [heft_app]
                simp only [heft]
                rw [HQ.out]
                simp only [beq_self_eq_true, if_true]
                have := hg.2.2.1
                omega
              · rw [hanp.2.2, F.len_app]
                exact Nat.le_trans hg.2.2.2.1 (Nat.le_add_right _ _)
              · rw [her]
                exact (hT.below (below_alloc (Below.refl _ _) _)).below (below_drew (Below.refl _ _))
              · rw [World.size_drew, World.size_alloc, World.size_setCell]
                omega
              · exact ((HB.out.setCell (p := ⟨g, la * 5 + 2, none⟩) (by show _ ≤ g; omega) _).alloc (by rw [World.size_setCell]; exact HB.out.size) _).drew
          · have hz0 : ¬ z0 = 1 := fun e => hql (hz1.1 e)
            have HQL := Lib.hid hql
            rw [hlen2, ← hla] at o4
            clear hnl hpl hz hzm hz1 hzt hed hv hturn hdn hlen2 hla hcap hyt hql o4b
            go_wp2
            go_region_law (first
              | (go_simp
                 go_at_call 34
                 refine HCALL.out.mono ?_
                 rintro e w3 ⟨A3y, c3y, A4y, c4y, rfl, htl, hb3⟩
                 have ho3 := (hb3.block o (by have := HAW.out.size; omega)).trans ((HAW.out.block o hol).trans HO3.out)
                 rw [HL2.out, ← HLA.out] at ho3
                 obtain ⟨k4, -⟩ := out_cell ho3 4
                 simp only [List.getElem?_toArray, List.getElem?_cons_succ, List.getElem?_cons_zero] at k4
                 have hol3 : o < w3.heap.size := by have := HAW.out.size; have := hb3.size; omega
                 have HTL := Lib.hid htl
                 have HB3 := Lib.hid hb3
                 have HOO := Lib.hid ho3
                 clear htl hb3 ho3)
              | (obtain ⟨css, hcs1, hcs2, hcs3⟩ := (HKA.out.below HAW.out).below HB3.out
                 rw [HL2.out, ← HLA.out] at hcs1
                 refine step_append_cells (w0 := w3) (w.heap.size + 3) rfl (.tmp 55) (.tmp 58) 23 25 _ 5 88 rfl Try.underlying23 infoTree rfl (by decide) (by decide) (.slice (some ⟨g, 0, none⟩) (la + 1) cv) (la + 1) css.flatten [.int .i64 1, .string y1, .string y2, .slice A3y 0 c3y, .slice A4y (erase (mergeG ck .nil)).length c4y] (by simp [Act.eval, Act.put]) (by simp [Act.eval, Act.put]) rfl (by simp [Value.oneCell']) hcs1 (Below.refl _ _) (by have := HAW.out.size; have := HB3.out.size; omega) (by omega) ?_
                 intro v1 w4 hown hb4 hg4 hv4
                 obtain ⟨A1, c1, rfl⟩ := own_slice hown
                 have hne : ∀ z, z < w.heap.size + 3 → some z ≠ (Value.slice (some ⟨g, 0, none⟩) (la + 1) cv).ownBlock := fun z hz e => by have := own_base hcs1 z e.symm; omega
                 have hoW := (hg4.block o hol3 (hne o (by have := HRL.out; omega))).trans HOO.out
                 obtain ⟨k4', fk4'⟩ := out_cell hoW 4
                 simp only [List.getElem?_toArray, List.getElem?_cons_succ, List.getElem?_cons_zero] at k4'
                 have HOWN := Lib.hid hown
                 have HG4' := Lib.hid hg4
                 have HV4 := Lib.hid hv4
                 have HOW := Lib.hid hoW
                 have HCS := Lib.hid (And.intro hcs1 (And.intro hcs2 hcs3))
                 have HNE := Lib.hid hne
                 clear hown hb4 hg4 hv4 hoW hcs1 hcs2 hcs3 hne))
            all_goals (
              go_wp2
              go_roundg r.len
              case measure => simp [F.len]
              case rel =>
                have hrl := HRL.out
                have hs1 := HAW.out.size
                have hs2 := HB3.out.size
                have hs3 := HG4'.out.size
                obtain ⟨css0, hcs0, -, -⟩ := HKA.out
                have e : la + 1 = (erase done).length := by rw [HLA.out]; exact HL2.out.symm
                have hown := HOWN.out
                have hg4 := HG4'.out
                have hv4 := HV4.out
                have hne := HNE.out
                have hown0 := HCS.out.1
                rw [e] at hown hg4 hv4 hne hown0
                rw [e]
                refine HFIN.out (w4.setCell ⟨o, 4, none⟩ (.slice A1 ((erase done).length + 1) c1)) (.slice A1 ((erase done).length + 1) c1) (Lib.heap_setCell_same HOW.out _) ?_ ?_ ?_ ?_ (by rw [HDN.out, lastT_snoc, beq_eq_false_iff_ne.2 HQL.out, Bool.and_false])
                · exact (Below.heap_setCell _ _ _ _ (by exact hro)).trans ((hg4.block rv (by omega) (hne rv (by omega))).trans ((HB3.out.block rv (by omega)).trans ((HAW.out.block rv (by omega)).trans HO4.out)))
                · exact (KidsAt.push HCS.out.2.1 HCS.out.2.2 rfl (by omega) (Nat.le_refl _) (fun g hg => by have := own_lt hcs0 g hg; omega) HTL.out hown hg4 hv4).store ⟨o, 4, none⟩ (by show o < _; omega) _
                · rw [World.size_setCell]
                  omega
                · exact ((below_then (below_then HB.out HB.out.size HAW.out) (by omega) HB3.out).grown hg4 (by omega) (fun z hz => by have := own_base hown0 z hz; omega)).setCell (by show _ ≤ o; omega) _)
      · have hyf : ¬ y0 = 1 := fun e => hq (HYM.out.2.1.1 e)
        have HQ := Lib.hid hq
        clear hq
        go_wp2
        go_region_law (first
          | (go_simp
             go_at_call 34
             refine HCALL.out.mono ?_
             rintro e w3 ⟨A3y, c3y, A4y, c4y, rfl, htl, hb3⟩
             have ho3 := (hb3.block o (by have := HAW.out.size; omega)).trans ((HAW.out.block o hol).trans HO3.out)
             obtain ⟨k4, -⟩ := out_cell ho3 4
             simp only [List.getElem?_toArray, List.getElem?_cons_succ, List.getElem?_cons_zero] at k4
             have hol3 : o < w3.heap.size := by have := HAW.out.size; have := hb3.size; omega
             have HTL := Lib.hid htl
             have HB3 := Lib.hid hb3
             have HOO := Lib.hid ho3
             clear htl hb3 ho3)
          | (obtain ⟨css, hcs1, hcs2, hcs3⟩ := (HKA.out.below HAW.out).below HB3.out
             refine step_append_cells (w0 := w3) (w.heap.size + 3) rfl (.tmp 55) (.tmp 58) 23 25 _ 5 88 rfl Try.underlying23 infoTree rfl (by decide) (by decide) (.slice Av (erase done).length cv) (erase done).length css.flatten [.int .i64 y0, .string y1, .string y2, .slice A3y 0 c3y, .slice A4y (erase (mergeG ck .nil)).length c4y] (by simp [Act.eval, Act.put]) (by simp [Act.eval, Act.put]) rfl (by simp [Value.oneCell']) hcs1 (Below.refl _ _) (by have := HAW.out.size; have := HB3.out.size; omega) (by omega) ?_
             intro v1 w4 hown hb4 hg4 hv4
             obtain ⟨A1, c1, rfl⟩ := own_slice hown
             have hne : ∀ z, z < w.heap.size + 3 → some z ≠ (Value.slice Av (erase done).length cv).ownBlock := fun z hz e => by have := own_base hcs1 z e.symm; omega
             have hoW := (hg4.block o hol3 (hne o (by have := HRL.out; omega))).trans HOO.out
             obtain ⟨k4', fk4'⟩ := out_cell hoW 4
             simp only [List.getElem?_toArray, List.getElem?_cons_succ, List.getElem?_cons_zero] at k4'
             have HOWN := Lib.hid hown
             have HG4' := Lib.hid hg4
             have HV4 := Lib.hid hv4
             have HOW := Lib.hid hoW
             have HCS := Lib.hid (And.intro hcs1 (And.intro hcs2 hcs3))
             have HNE := Lib.hid hne
             clear hown hb4 hg4 hv4 hoW hcs1 hcs2 hcs3 hne))
        all_goals (
          go_wp2
          go_roundg r.len
          case measure => simp [F.len]
          case rel =>
            have hrl := HRL.out
            have hs1 := HAW.out.size
            have hs2 := HB3.out.size
            have hs3 := HG4'.out.size
            obtain ⟨css0, hcs0, -, -⟩ := HKA.out
            refine HFIN.out (w4.setCell ⟨o, 4, none⟩ (.slice A1 ((erase done).length + 1) c1)) (.slice A1 ((erase done).length + 1) c1) (Lib.heap_setCell_same HOW.out _) ?_ ?_ ?_ ?_ (by rw [beq_eq_false_iff_ne.2 HQ.out, Bool.false_and])
            · exact (Below.heap_setCell _ _ _ _ (by exact hro)).trans ((HG4'.out.block rv (by omega) (HNE.out rv (by omega))).trans ((HB3.out.block rv (by omega)).trans ((HAW.out.block rv (by omega)).trans HO4.out)))
            · exact (KidsAt.push HCS.out.2.1 HCS.out.2.2 rfl (by omega) (Nat.le_refl _) (fun g hg => by have := own_lt hcs0 g hg; omega) HTL.out HOWN.out HG4'.out HV4.out).store ⟨o, 4, none⟩ (by show o < _; omega) _
            · rw [World.size_setCell]
              omega
            · exact ((below_then (below_then HB.out HB.out.size HAW.out) (by omega) HB3.out).grown HG4'.out (by omega) (fun z hz => by have := own_base HCS.out.1 z hz; omega)).setCell (by show _ ≤ o; omega) _)
theorem merged_both : ∀ f : F Pay, MgP f ∧ AllK MgP f
  | .nil => ⟨merged_step .nil trivial, trivial⟩
  | .node b p k r => by
    have h1 := merged_both k
    have h2 := merged_both r
    have h3 : AllK MgP (.node b p k r) := ⟨h1.1, h2.2⟩
    exact ⟨merged_step _ h3, h3⟩
end Go.Proofs.Ytlallihdiffheaa.Hand
