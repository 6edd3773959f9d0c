/- laws.inlineBare by hand: a tree whose spans are named as divs. -/
import Derived.Test.YtlallihdiffheaaRename
namespace Go.Proofs.Ytlallihdiffheaa.Hand
open Go.RowKit Go.Proofs.YtlallihdiffheaaW.PrintWords Go.Proofs.YtlallihdiffheaaW.PrintLast Go.Proofs.Ytlallihdiffheaa.GT
set_option linter.unusedVariables false
set_option linter.unusedSimpArgs false

def bareN (s : ByteArray) : ByteArray := if s = spanB then divB else s
def bareP (p : Pay) : Pay := if p.type = 3 ∧ p.data = spanB then { p with data := divB } else p
def bareF : F Pay → F Pay
  | .nil => .nil
  | .node b p k r => .node b (bareP p) (bareF k) (bareF r)
theorem bareP_type (p : Pay) : (bareP p).type = p.type := by
  unfold bareP
  split <;> rfl
theorem bareP_attrs (p : Pay) : (bareP p).attrs = p.attrs := by
  unfold bareP
  split <;> rfl
theorem bareF_app : ∀ f g : F Pay, bareF (f.app g) = (bareF f).app (bareF g)
  | .nil, g => rfl
  | .node b p k r, g => by simp only [F.app, bareF, bareF_app r g]
theorem bareF_len : ∀ f : F Pay, (bareF f).len = f.len
  | .nil => rfl
  | .node b p k r => by simp only [bareF, F.len, bareF_len r]
theorem bareF_blocks : ∀ f : F Pay, (bareF f).blocks = f.blocks
  | .nil => rfl
  | .node b p k r => by simp only [bareF, F.blocks, bareF_blocks k, bareF_blocks r]
theorem bareF_np : ∀ f : F Pay, Neat f → Plain f → Neat (bareF f) ∧ Plain (bareF f)
  | .nil, _, _ => ⟨trivial, trivial⟩
  | .node b p k r, h1, h2 => by
    obtain ⟨a1, a2⟩ := bareF_np k h1.2.1 h2.2.1
    obtain ⟨b1, b2⟩ := bareF_np r h1.2.2 h2.2.2
    refine ⟨⟨?_, a1, b1⟩, ?_, a2, b2⟩
    · rw [bareP_type]
      rcases h1.1 with ⟨a, e⟩ | ⟨a, e⟩ | a | a
      · exact .inl ⟨a, by rw [e]; rfl⟩
      · exact .inr (.inl ⟨a, by rw [e]; rfl⟩)
      · exact .inr (.inr (.inl a))
      · exact .inr (.inr (.inr a))
    · rw [bareP_type, bareP_attrs]
      exact h2.1
/-- Spans made divs or not: bare, it is the same. -/
theorem ren_bare : ∀ {f f' : F Pay}, Ren f f' → bareF f' = bareF f
  | .nil, .nil, _ => rfl
  | .node b p k r, .node b' p' k' r', h => by
    obtain ⟨rfl, hp, h1, h2⟩ := h
    simp only [bareF, ren_bare h1, ren_bare h2]
    rcases hp with rfl | ⟨a1, a2, rfl⟩
    · rfl
    · have e : bareP { p with data := divB } = bareP p := by
        unfold bareP
        rw [if_neg (fun h => span_div h.2), if_pos ⟨a1, a2⟩]
      rw [e]
/-- A tree of a node, and bare. -/
theorem bare_form {p : Pay} {k r : F Pay} {b : Nat} (hn : Neat (.node b p k r)) (hp : Plain (.node b p k r)) : ∃ q0 q1 q2, nodeOf p (erase k) = ⟨q0, q1, q2, [], erase k⟩ ∧ nodeOf (bareP p) (erase (bareF k)) = ⟨q0, bareN q1, q2, [], erase (bareF k)⟩ := by
  obtain ⟨hn1, hn2, hn3⟩ := hn
  have hne : bareN ⟨#[]⟩ = ⟨#[]⟩ := by decide
  rcases hp.1 with ht | ⟨ht, ha⟩ | ht
  · have hk : k = .nil := by rcases hn1 with ⟨_, h⟩ | ⟨h, _⟩ | h | h <;> first | assumption | omega
    subst hk
    refine ⟨1, ⟨#[]⟩, p.data, by simp [nodeOf, ht, erase], ?_⟩
    have e : bareP p = p := by
      unfold bareP
      rw [if_neg (fun h => by omega)]
    rw [e, hne]
    simp [nodeOf, ht, erase, bareF]
  · refine ⟨0, p.data, ⟨#[]⟩, by simp [nodeOf, ht, ha], ?_⟩
    have e : (bareP p).data = bareN p.data := by
      unfold bareP bareN
      by_cases hd : p.data = spanB
      · rw [if_pos ⟨ht, hd⟩, if_pos hd]
      · rw [if_neg (fun h => hd h.2), if_neg hd]
    simp [nodeOf, bareP_type, bareP_attrs, ht, ha, e]
  · have hk : k = .nil := by rcases hn1 with ⟨h, _⟩ | ⟨_, h⟩ | h | h <;> first | assumption | omega
    subst hk
    refine ⟨2, ⟨#[]⟩, p.data, by simp [nodeOf, ht, erase], ?_⟩
    have e : bareP p = p := by
      unfold bareP
      rw [if_neg (fun h => by omega)]
    rw [e, hne]
    simp [nodeOf, ht, erase, bareF]
theorem spanB_list : spanB.toList = [115, 112, 97, 110] := by decide +kernel
theorem bareN_span {s : ByteArray} (h : s.toList = [115, 112, 97, 110]) : bareN s = ⟨#[100, 105, 118]⟩ := by
  have h3 := h.trans spanB_list.symm
  rw [ByteArray.toList_eq, ByteArray.toList_eq] at h3
  unfold bareN
  rw [if_pos (ByteArray.ext (Array.toList_inj.1 h3))]
  rfl
theorem bareN_other {s : ByteArray} (h : s.toList ≠ [115, 112, 97, 110]) : bareN s = s := by
  unfold bareN
  rw [if_neg (fun e => h (by rw [e]; exact spanB_list))]
def BareK (k : F Pay) : Prop := ∀ (q0 : Int) (q1 q2 : ByteArray) (w : World) (A3 A4 : Option Addr) (c3 c4 : Nat), k25.C w A4 (erase k).length (erase k) → (erase k).length ≤ c4 → Neat k → Plain k → k.blocks.length ≤ 1000000 →
  Calls Try.prog 41 #[.agg #[.int .i64 q0, .string q1, .string q2, .slice A3 0 c3, .slice A4 (erase k).length c4]] w (ToldPost ⟨q0, bareN q1, q2, [], erase (bareF k)⟩ w)
set_option maxRecDepth 100000 in
set_option maxHeartbeats 1600000 in
theorem bare_step (k : F Pay) (hall : AllK BareK k) : BareK k := by
  intro q0 q1 q2 w A3 A4 c3 c4 h4 l4 hn hp hbl
  have hl : k.len ≤ 1000000 := Nat.le_trans (len_le_blocks k) hbl
  have HBLK := Lib.hid hbl
  clear hbl
  have hA3 := fun v1 => alloc3 w (.cells #[.int .i64 q0, .string q1, .string q2, .slice A3 0 c3, .slice A4 (erase k).length c4] 25 (0, 0)) (.cells #[.int .i64 0, .string ⟨#[]⟩, .string ⟨#[]⟩, .slice none 0 0, .slice none 0 0] 25 (0, 0)) (.cells #[.int .i64 q0, .string v1, .string q2, .slice A3 0 c3, .slice none 0 0] 25 (0, 0))
  have H4 := Lib.hid h4
  have HA := Lib.hid hall
  have HN := Lib.hid (And.intro hn hp)
  have HLEN := Lib.hid (erase_len k)
  have HA3 := Lib.hid hA3
  clear h4 hall hn hp hA3
  go_enter Try.func41, Try.ntmps41
  go_wp2
  · have hq1 : (q1.toList == [115, 112, 97, 110]) = true := by assumption
    simp only [hq1]
    obtain ⟨b1, b2, b3, b4, b5⟩ := HA3.out (⟨#[100, 105, 118]⟩ : ByteArray)
    obtain ⟨o, ho⟩ : ∃ o, o = w.heap.size + 1 + 1 := ⟨_, rfl⟩
    obtain ⟨rv, hrv⟩ : ∃ o, o = w.heap.size + 1 := ⟨_, rfl⟩
    rw [← ho] at b3 ⊢
    rw [← hrv] at b2 ⊢
    have HRL := Lib.hid (And.intro ho hrv)
    have HO1 := Lib.hid b3
    have HR1 := Lib.hid b2
    have HB1 := Lib.hid (And.intro b4 b5)
    clear b1 b2 b3 b4 b5 ho hrv HA3
    go_loopg [22] k.len (fun gk i0 wr => ∃ (k0 rest : F Pay) (v : Value), i0 = .int .i64 (k0.len : Int) ∧ gk = rest.len ∧ k = k0.app rest ∧
      wr.heap[o]? = some (.cells #[.int .i64 q0, .string (⟨#[100, 105, 118]⟩ : ByteArray), .string q2, .slice A3 0 c3, v] 25 (0, 0)) ∧ wr.heap[rv]? = some (.cells #[.int .i64 0, .string ⟨#[]⟩, .string ⟨#[]⟩, .slice none 0 0, .slice none 0 0] 25 (0, 0)) ∧ KidsAt (w.heap.size + 3) wr v (erase (bareF k0)) ∧ w.heap.size + 3 ≤ wr.heap.size ∧ Below w.heap.size w wr)
    case atStart => exact ⟨.nil, k, _, rfl, rfl, rfl, HO1.out, HR1.out, KidsAt.nil _ _, by rw [HB1.out.1]; omega, HB1.out.2⟩
    case round =>
      obtain ⟨k0, rest, v, rfl, rfl, hgh, ho1, hr1, hka, hsz, hb⟩ := hrel
      have hbl0 : (erase (bareF k0)).length = k0.len := by rw [erase_len, bareF_len]
      have HBL := Lib.hid hbl0
      obtain ⟨Av, cv, rfl⟩ : ∃ A c, v = .slice A (erase (bareF k0)).length c := by
        obtain ⟨css, h, _⟩ := hka
        exact own_slice h
      have HG := Lib.hid hgh
      have HKA := Lib.hid hka
      have HB := Lib.hid hb
      have hkl : k.len = k0.len + rest.len := by rw [hgh, F.len_app]
      obtain ⟨o4, fo4⟩ := out_cell ho1 4
      obtain ⟨o0, -⟩ := out_cell ho1 0
      obtain ⟨o1, -⟩ := out_cell ho1 1
      obtain ⟨o2, -⟩ := out_cell ho1 2
      obtain ⟨o3, -⟩ := out_cell ho1 3
      obtain ⟨r0, f0⟩ := out_cell hr1 0
      obtain ⟨r1, f1⟩ := out_cell hr1 1
      obtain ⟨r2, f2⟩ := out_cell hr1 2
      obtain ⟨r3, f3⟩ := out_cell hr1 3
      obtain ⟨r4, f4⟩ := out_cell hr1 4
      simp only [List.getElem?_toArray, List.getElem?_cons_succ, List.getElem?_cons_zero] at o0 o1 o2 o3 o4 r0 r1 r2 r3 r4
      have HO3 := Lib.hid ho1
      have HO4 := Lib.hid hr1
      clear hgh hka hb ho1 hr1
      rcases headOr_cases rest with hg | ⟨c, q, ck, r, hg⟩
      · subst hg
        simp only [F.len, Nat.add_zero] at hkl
        have hge : (erase k).length ≤ k0.len := by have := HLEN.out; omega
        have HKL := Lib.hid hkl
        clear hkl hbl0
        go_wp2
        obtain ⟨e4, hg, hszr⟩ := put5 (.int .i64 q0) (.string (⟨#[100, 105, 118]⟩ : ByteArray)) (.string q2) (.slice A3 0 c3) (.slice Av (erase (bareF k0)).length cv) HO4.out
        refine bodyPost_ret (results_cell_row rfl _ _ rv 25 #[.int .i64 q0, .string (⟨#[100, 105, 118]⟩ : ByteArray), .string q2, .slice A3 0 c3, .slice Av (erase (bareF k0)).length cv] (0, 0) _ rfl e4 Try.underlying25 rfl (by kernel_rfl)) rfl ?_
        have hrl := HRL.out
        have hm : k = k0 := by rw [HG.out, F.app_nil]
        have hq : bareN q1 = (⟨#[100, 105, 118]⟩ : ByteArray) := (bareN_span (by simpa using hq1))
        obtain ⟨A, c, he, hle, hT⟩ := HKA.out.tells (by have := HKL.out; have := HBL.out; omega)
        injection he with he1 _ he3
        subst he1 he3
        rw [hm, hq]
        refine ⟨A3, c3, Av, cv, rfl, fun W hW => ?_, HB.out.grown hg HB.out.size (fun z hz => by have := Option.some.inj hz; omega)⟩
        refine k25_mk W ⟨q0, (⟨#[100, 105, 118]⟩ : ByteArray), q2, [], erase (bareF k0)⟩ (A3 := A3) (c3 := c3) (Nat.zero_le _) ⟨rfl, Nat.zero_le _, fun h => absurd h (Nat.lt_irrefl _)⟩ hle (hT W fun z hz1 hz2 => ?_)
        rw [hW z (by omega) (by omega)]
        exact hg.block z hz2 (fun e => by have := Option.some.inj e; omega)
      · subst hg
        have hnp := HN.out
        rw [HG.out] at hnp
        have hnk := (neat_app _ _).1 hnp.1
        have hpk := plain_app _ _ hnp.2
        obtain ⟨y0, y1, y2, hy, hyb⟩ := bare_form hnk.2 hpk.2
        have hidx : rd_T25 (erase k) ((k0.len : Nat) : Int) = ⟨y0, y1, y2, [], erase ck⟩ := by
          rw [HG.out, erase_app, ← erase_len k0]
          rw [show erase (F.node c q ck r) = nodeOf q (erase ck) :: erase r from rfl, rd_mid, hy]
        obtain ⟨ad, A3', c3', A4', c4', rfl, p0, p1, p2, p3, p4, l3', g3, l4', g4⟩ := at_T25 (Kd.C_below H4.out HB.out) ((k0.len : Nat) : Int) (by omega) (by have := HLEN.out; simp only [F.len] at hkl; omega)
        rw [hidx] at p0 p1 p2 p3 p4 l3' g3 l4' g4
        simp only [Int.toNat_natCast, List.length_nil] at p0 p1 p2 p3 p4 l3' g3 l4' g4
        have HYB := Lib.hid hyb
        have HG4 := Lib.hid (And.intro l4' g4)
        have HNK := Lib.hid (And.intro hnk hpk)
        clear hnp hnk hpk hy hyb hidx l3' g3 l4' g4
        have hlt : k0.len < (erase k).length := by have := HLEN.out; simp only [F.len] at hkl; omega
        have hdn6 : (erase (bareF k0)).length ≤ 1000000 := by simp only [F.len] at hkl; omega
        have hrl0 := HRL.out
        have hol : o < wr.heap.size := by omega
        have hrvl : rv < wr.heap.size := by omega
        have hro : rv ≠ o := by omega
        have HKL := Lib.hid hkl
        clear hrl0 hkl hbl0
        have hAW : Below wr.heap.size wr (wr.alloc (.cells #[.int .i64 y0, .string y1, .string y2, .slice A3' 0 c3', .slice A4' (erase ck).length c4'] 25 (0, 0))).drew := (below_alloc (Below.refl _ _) _).drew
        have HAW := Lib.hid hAW
        have hcall : Calls Try.prog 41 #[.agg #[.int .i64 y0, .string y1, .string y2, .slice A3' 0 c3', .slice A4' (erase ck).length c4']] (wr.alloc (.cells #[.int .i64 y0, .string y1, .string y2, .slice A3' 0 c3', .slice A4' (erase ck).length c4'] 25 (0, 0))).drew _ :=
          (show AllK BareK (.node c q ck r) from allK_app BareK k0 _ (HG.out ▸ HA.out)).1 y0 y1 y2 (wr.alloc (.cells #[.int .i64 y0, .string y1, .string y2, .slice A3' 0 c3', .slice A4' (erase ck).length c4'] 25 (0, 0))).drew A3' A4' c3' c4' (Kd.C_below HG4.out.2 hAW) HG4.out.1 HNK.out.1.2.2.1 HNK.out.2.2.2.1 (by
            have h := HBLK.out
            rw [HG.out, F.blocks_app] at h
            simp only [F.blocks, List.length_append, List.length_cons] at h
            omega)
        have HCALL := Lib.hid hcall
        clear hcall hAW
        go_wp2
        go_region_law (first
          | (go_simp
             go_at_call 41
             refine HCALL.out.mono ?_
             rintro e w3 ⟨A3y, c3y, A4y, c4y, rfl, htl, hb3⟩
             have ho3 := (hb3.block o (by have := HAW.out.size; omega)).trans ((HAW.out.block o hol).trans HO3.out)
             obtain ⟨k4, -⟩ := out_cell ho3 4
             simp only [List.getElem?_toArray, List.getElem?_cons_succ, List.getElem?_cons_zero] at k4
             have hol3 : o < w3.heap.size := by have := HAW.out.size; have := hb3.size; omega
             have HTL := Lib.hid htl
             have HB3 := Lib.hid hb3
             have HOO := Lib.hid ho3
             clear htl hb3 ho3)
          | (obtain ⟨css, hcs1, hcs2, hcs3⟩ := (HKA.out.below HAW.out).below HB3.out
             refine step_append_cells (w0 := w3) (w.heap.size + 3) rfl (.tmp 27) (.tmp 30) 23 25 _ 5 88 rfl Try.underlying23 infoTree rfl (by decide) (by decide) (.slice Av (erase (bareF k0)).length cv) (erase (bareF k0)).length css.flatten [.int .i64 y0, .string (bareN y1), .string y2, .slice A3y 0 c3y, .slice A4y (erase (bareF ck)).length c4y] (by simp [Act.eval, Act.put]) (by simp [Act.eval, Act.put]) rfl (by simp [Value.oneCell']) hcs1 (Below.refl _ _) (by have := HAW.out.size; have := HB3.out.size; omega) (by omega) ?_
             intro v1 w4 hown hb4 hg4 hv4
             obtain ⟨A1, c1, rfl⟩ := own_slice hown
             have hne : ∀ z, z < w.heap.size + 3 → some z ≠ (Value.slice Av (erase (bareF k0)).length cv).ownBlock := fun z hz e => by have := own_base hcs1 z e.symm; omega
             have hoW := (hg4.block o hol3 (hne o (by have := HRL.out; omega))).trans HOO.out
             obtain ⟨k4', fk4'⟩ := out_cell hoW 4
             simp only [List.getElem?_toArray, List.getElem?_cons_succ, List.getElem?_cons_zero] at k4'
             have HOWN := Lib.hid hown
             have HG4' := Lib.hid hg4
             have HV4 := Lib.hid hv4
             have HOW := Lib.hid hoW
             have HCS := Lib.hid (And.intro hcs1 (And.intro hcs2 hcs3))
             have HNE := Lib.hid hne
             clear hown hb4 hg4 hv4 hoW hcs1 hcs2 hcs3 hne))
        all_goals (
          go_wp2
          go_roundg r.len
          case measure => simp [F.len]
          case rel =>
            have hrl := HRL.out
            have hs1 := HAW.out.size
            have hs2 := HB3.out.size
            have hs3 := HG4'.out.size
            obtain ⟨css0, hcs0, -, -⟩ := HKA.out
            refine ⟨k0.app (.node c q ck .nil), r, .slice A1 ((erase (bareF k0)).length + 1) c1, ?_, rfl, ?_, Lib.heap_setCell_same HOW.out _, ?_, ?_, ?_, ?_⟩
            · rw [F.len_app]
              simp only [F.len]
              have hk6 : k0.len ≤ 1000000 := by have := HBL.out; omega
              have hwr : wrap64 ((k0.len : Int) + 1) = ((k0.len + (0 + 1) : Nat) : Int) := by unfold wrap64; omega
              rw [hwr]
            · rw [F.app_assoc]
              exact HG.out
            · exact (Below.heap_setCell _ _ _ _ (by exact hro)).trans ((HG4'.out.block rv (by omega) (HNE.out rv (by omega))).trans ((HB3.out.block rv (by omega)).trans ((HAW.out.block rv (by omega)).trans HO4.out)))
            · rw [bareF_app, erase_app, show erase (bareF (F.node c q ck .nil)) = [nodeOf (bareP q) (erase (bareF ck))] from rfl, HYB.out]
              exact (KidsAt.push HCS.out.2.1 HCS.out.2.2 rfl (by omega) (Nat.le_refl _) (fun g hg => by have := own_lt hcs0 g hg; omega) HTL.out HOWN.out HG4'.out HV4.out).store ⟨o, 4, none⟩ (by show o < _; omega) _
            · rw [World.size_setCell]
              omega
            · exact ((below_then (below_then HB.out HB.out.size HAW.out) (by omega) HB3.out).grown HG4'.out (by omega) (fun z hz => by have := own_base HCS.out.1 z hz; omega)).setCell (by show _ ≤ o; omega) _)
  · have hq1 : (q1.toList == [115, 112, 97, 110]) = false := by assumption
    simp only [hq1]
    obtain ⟨b1, b2, b3, b4, b5⟩ := HA3.out q1
    obtain ⟨o, ho⟩ : ∃ o, o = w.heap.size + 1 + 1 := ⟨_, rfl⟩
    obtain ⟨rv, hrv⟩ : ∃ o, o = w.heap.size + 1 := ⟨_, rfl⟩
    rw [← ho] at b3 ⊢
    rw [← hrv] at b2 ⊢
    have HRL := Lib.hid (And.intro ho hrv)
    have HO1 := Lib.hid b3
    have HR1 := Lib.hid b2
    have HB1 := Lib.hid (And.intro b4 b5)
    clear b1 b2 b3 b4 b5 ho hrv HA3
    go_loopg [22] k.len (fun gk i0 wr => ∃ (k0 rest : F Pay) (v : Value), i0 = .int .i64 (k0.len : Int) ∧ gk = rest.len ∧ k = k0.app rest ∧
      wr.heap[o]? = some (.cells #[.int .i64 q0, .string q1, .string q2, .slice A3 0 c3, v] 25 (0, 0)) ∧ wr.heap[rv]? = some (.cells #[.int .i64 0, .string ⟨#[]⟩, .string ⟨#[]⟩, .slice none 0 0, .slice none 0 0] 25 (0, 0)) ∧ KidsAt (w.heap.size + 3) wr v (erase (bareF k0)) ∧ w.heap.size + 3 ≤ wr.heap.size ∧ Below w.heap.size w wr)
    case atStart => exact ⟨.nil, k, _, rfl, rfl, rfl, HO1.out, HR1.out, KidsAt.nil _ _, by rw [HB1.out.1]; omega, HB1.out.2⟩
    case round =>
      obtain ⟨k0, rest, v, rfl, rfl, hgh, ho1, hr1, hka, hsz, hb⟩ := hrel
      have hbl0 : (erase (bareF k0)).length = k0.len := by rw [erase_len, bareF_len]
      have HBL := Lib.hid hbl0
      obtain ⟨Av, cv, rfl⟩ : ∃ A c, v = .slice A (erase (bareF k0)).length c := by
        obtain ⟨css, h, _⟩ := hka
        exact own_slice h
      have HG := Lib.hid hgh
      have HKA := Lib.hid hka
      have HB := Lib.hid hb
      have hkl : k.len = k0.len + rest.len := by rw [hgh, F.len_app]
      obtain ⟨o4, fo4⟩ := out_cell ho1 4
      obtain ⟨o0, -⟩ := out_cell ho1 0
      obtain ⟨o1, -⟩ := out_cell ho1 1
      obtain ⟨o2, -⟩ := out_cell ho1 2
      obtain ⟨o3, -⟩ := out_cell ho1 3
      obtain ⟨r0, f0⟩ := out_cell hr1 0
      obtain ⟨r1, f1⟩ := out_cell hr1 1
      obtain ⟨r2, f2⟩ := out_cell hr1 2
      obtain ⟨r3, f3⟩ := out_cell hr1 3
      obtain ⟨r4, f4⟩ := out_cell hr1 4
      simp only [List.getElem?_toArray, List.getElem?_cons_succ, List.getElem?_cons_zero] at o0 o1 o2 o3 o4 r0 r1 r2 r3 r4
      have HO3 := Lib.hid ho1
      have HO4 := Lib.hid hr1
      clear hgh hka hb ho1 hr1
      rcases headOr_cases rest with hg | ⟨c, q, ck, r, hg⟩
      · subst hg
        simp only [F.len, Nat.add_zero] at hkl
        have hge : (erase k).length ≤ k0.len := by have := HLEN.out; omega
        have HKL := Lib.hid hkl
        clear hkl hbl0
        go_wp2
        obtain ⟨e4, hg, hszr⟩ := put5 (.int .i64 q0) (.string q1) (.string q2) (.slice A3 0 c3) (.slice Av (erase (bareF k0)).length cv) HO4.out
        refine bodyPost_ret (results_cell_row rfl _ _ rv 25 #[.int .i64 q0, .string q1, .string q2, .slice A3 0 c3, .slice Av (erase (bareF k0)).length cv] (0, 0) _ rfl e4 Try.underlying25 rfl (by kernel_rfl)) rfl ?_
        have hrl := HRL.out
        have hm : k = k0 := by rw [HG.out, F.app_nil]
        have hq : bareN q1 = q1 := (bareN_other (by simpa using hq1))
        obtain ⟨A, c, he, hle, hT⟩ := HKA.out.tells (by have := HKL.out; have := HBL.out; omega)
        injection he with he1 _ he3
        subst he1 he3
        rw [hm, hq]
        refine ⟨A3, c3, Av, cv, rfl, fun W hW => ?_, HB.out.grown hg HB.out.size (fun z hz => by have := Option.some.inj hz; omega)⟩
        refine k25_mk W ⟨q0, q1, q2, [], erase (bareF k0)⟩ (A3 := A3) (c3 := c3) (Nat.zero_le _) ⟨rfl, Nat.zero_le _, fun h => absurd h (Nat.lt_irrefl _)⟩ hle (hT W fun z hz1 hz2 => ?_)
        rw [hW z (by omega) (by omega)]
        exact hg.block z hz2 (fun e => by have := Option.some.inj e; omega)
      · subst hg
        have hnp := HN.out
        rw [HG.out] at hnp
        have hnk := (neat_app _ _).1 hnp.1
        have hpk := plain_app _ _ hnp.2
        obtain ⟨y0, y1, y2, hy, hyb⟩ := bare_form hnk.2 hpk.2
        have hidx : rd_T25 (erase k) ((k0.len : Nat) : Int) = ⟨y0, y1, y2, [], erase ck⟩ := by
          rw [HG.out, erase_app, ← erase_len k0]
          rw [show erase (F.node c q ck r) = nodeOf q (erase ck) :: erase r from rfl, rd_mid, hy]
        obtain ⟨ad, A3', c3', A4', c4', rfl, p0, p1, p2, p3, p4, l3', g3, l4', g4⟩ := at_T25 (Kd.C_below H4.out HB.out) ((k0.len : Nat) : Int) (by omega) (by have := HLEN.out; simp only [F.len] at hkl; omega)
        rw [hidx] at p0 p1 p2 p3 p4 l3' g3 l4' g4
        simp only [Int.toNat_natCast, List.length_nil] at p0 p1 p2 p3 p4 l3' g3 l4' g4
        have HYB := Lib.hid hyb
        have HG4 := Lib.hid (And.intro l4' g4)
        have HNK := Lib.hid (And.intro hnk hpk)
        clear hnp hnk hpk hy hyb hidx l3' g3 l4' g4
        have hlt : k0.len < (erase k).length := by have := HLEN.out; simp only [F.len] at hkl; omega
        have hdn6 : (erase (bareF k0)).length ≤ 1000000 := by simp only [F.len] at hkl; omega
        have hrl0 := HRL.out
        have hol : o < wr.heap.size := by omega
        have hrvl : rv < wr.heap.size := by omega
        have hro : rv ≠ o := by omega
        have HKL := Lib.hid hkl
        clear hrl0 hkl hbl0
        have hAW : Below wr.heap.size wr (wr.alloc (.cells #[.int .i64 y0, .string y1, .string y2, .slice A3' 0 c3', .slice A4' (erase ck).length c4'] 25 (0, 0))).drew := (below_alloc (Below.refl _ _) _).drew
        have HAW := Lib.hid hAW
        have hcall : Calls Try.prog 41 #[.agg #[.int .i64 y0, .string y1, .string y2, .slice A3' 0 c3', .slice A4' (erase ck).length c4']] (wr.alloc (.cells #[.int .i64 y0, .string y1, .string y2, .slice A3' 0 c3', .slice A4' (erase ck).length c4'] 25 (0, 0))).drew _ :=
          (show AllK BareK (.node c q ck r) from allK_app BareK k0 _ (HG.out ▸ HA.out)).1 y0 y1 y2 (wr.alloc (.cells #[.int .i64 y0, .string y1, .string y2, .slice A3' 0 c3', .slice A4' (erase ck).length c4'] 25 (0, 0))).drew A3' A4' c3' c4' (Kd.C_below HG4.out.2 hAW) HG4.out.1 HNK.out.1.2.2.1 HNK.out.2.2.2.1 (by
            have h := HBLK.out
            rw [HG.out, F.blocks_app] at h
            simp only [F.blocks, List.length_append, List.length_cons] at h
            omega)
        have HCALL := Lib.hid hcall
        clear hcall hAW
        go_wp2
        go_region_law (first
          | (go_simp
             go_at_call 41
             refine HCALL.out.mono ?_
             rintro e w3 ⟨A3y, c3y, A4y, c4y, rfl, htl, hb3⟩
             have ho3 := (hb3.block o (by have := HAW.out.size; omega)).trans ((HAW.out.block o hol).trans HO3.out)
             obtain ⟨k4, -⟩ := out_cell ho3 4
             simp only [List.getElem?_toArray, List.getElem?_cons_succ, List.getElem?_cons_zero] at k4
             have hol3 : o < w3.heap.size := by have := HAW.out.size; have := hb3.size; omega
             have HTL := Lib.hid htl
             have HB3 := Lib.hid hb3
             have HOO := Lib.hid ho3
             clear htl hb3 ho3)
          | (obtain ⟨css, hcs1, hcs2, hcs3⟩ := (HKA.out.below HAW.out).below HB3.out
             refine step_append_cells (w0 := w3) (w.heap.size + 3) rfl (.tmp 27) (.tmp 30) 23 25 _ 5 88 rfl Try.underlying23 infoTree rfl (by decide) (by decide) (.slice Av (erase (bareF k0)).length cv) (erase (bareF k0)).length css.flatten [.int .i64 y0, .string (bareN y1), .string y2, .slice A3y 0 c3y, .slice A4y (erase (bareF ck)).length c4y] (by simp [Act.eval, Act.put]) (by simp [Act.eval, Act.put]) rfl (by simp [Value.oneCell']) hcs1 (Below.refl _ _) (by have := HAW.out.size; have := HB3.out.size; omega) (by omega) ?_
             intro v1 w4 hown hb4 hg4 hv4
             obtain ⟨A1, c1, rfl⟩ := own_slice hown
             have hne : ∀ z, z < w.heap.size + 3 → some z ≠ (Value.slice Av (erase (bareF k0)).length cv).ownBlock := fun z hz e => by have := own_base hcs1 z e.symm; omega
             have hoW := (hg4.block o hol3 (hne o (by have := HRL.out; omega))).trans HOO.out
             obtain ⟨k4', fk4'⟩ := out_cell hoW 4
             simp only [List.getElem?_toArray, List.getElem?_cons_succ, List.getElem?_cons_zero] at k4'
             have HOWN := Lib.hid hown
             have HG4' := Lib.hid hg4
             have HV4 := Lib.hid hv4
             have HOW := Lib.hid hoW
             have HCS := Lib.hid (And.intro hcs1 (And.intro hcs2 hcs3))
             have HNE := Lib.hid hne
             clear hown hb4 hg4 hv4 hoW hcs1 hcs2 hcs3 hne))
        all_goals (
          go_wp2
          go_roundg r.len
          case measure => simp [F.len]
          case rel =>
            have hrl := HRL.out
            have hs1 := HAW.out.size
            have hs2 := HB3.out.size
            have hs3 := HG4'.out.size
            obtain ⟨css0, hcs0, -, -⟩ := HKA.out
            refine ⟨k0.app (.node c q ck .nil), r, .slice A1 ((erase (bareF k0)).length + 1) c1, ?_, rfl, ?_, Lib.heap_setCell_same HOW.out _, ?_, ?_, ?_, ?_⟩
            · rw [F.len_app]
              simp only [F.len]
              have hk6 : k0.len ≤ 1000000 := by have := HBL.out; omega
              have hwr : wrap64 ((k0.len : Int) + 1) = ((k0.len + (0 + 1) : Nat) : Int) := by unfold wrap64; omega
              rw [hwr]
            · rw [F.app_assoc]
              exact HG.out
            · exact (Below.heap_setCell _ _ _ _ (by exact hro)).trans ((HG4'.out.block rv (by omega) (HNE.out rv (by omega))).trans ((HB3.out.block rv (by omega)).trans ((HAW.out.block rv (by omega)).trans HO4.out)))
            · rw [bareF_app, erase_app, show erase (bareF (F.node c q ck .nil)) = [nodeOf (bareP q) (erase (bareF ck))] from rfl, HYB.out]
              exact (KidsAt.push HCS.out.2.1 HCS.out.2.2 rfl (by omega) (Nat.le_refl _) (fun g hg => by have := own_lt hcs0 g hg; omega) HTL.out HOWN.out HG4'.out HV4.out).store ⟨o, 4, none⟩ (by show o < _; omega) _
            · rw [World.size_setCell]
              omega
            · exact ((below_then (below_then HB.out HB.out.size HAW.out) (by omega) HB3.out).grown HG4'.out (by omega) (fun z hz => by have := own_base HCS.out.1 z hz; omega)).setCell (by show _ ≤ o; omega) _)
theorem bare_any : ∀ k : F Pay, BareK k ∧ AllK BareK k
  | .nil => ⟨bare_step .nil trivial, trivial⟩
  | .node b p k r => by
    have h : AllK BareK (.node b p k r) := ⟨(bare_any k).1, (bare_any r).2⟩
    exact ⟨bare_step _ h, h⟩
end Go.Proofs.Ytlallihdiffheaa.Hand
