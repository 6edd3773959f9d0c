/- impl.told by hand: elements with attributes, documents; whole trees. -/
import Derived.Test.YtlallihdiffheaaDoorAttr
namespace Go.Proofs.YtlallihdiffheaaDoor.Hand
open Go.RowKit Go.Proofs.YtlallihdiffheaaDoorW.PrintWords Go.Proofs.YtlallihdiffheaaDoorW.PrintLast Go.Proofs.YtlallihdiffheaaDoor.GT
set_option linter.unusedVariables false
set_option linter.unusedSimpArgs false

theorem infoAttr : (Tryd.prog.info? 29).map (fun i => (i.zero, i.size, i.bytes)) = some (some (.agg #[.string ⟨#[]⟩, .string ⟨#[]⟩]), 2, 32) := by kernel_rfl
def atC : List (ByteArray × ByteArray) → List Value
  | [] => []
  | (k, x) :: t => .string k :: .string x :: atC t
theorem atC_length : ∀ l : List (ByteArray × ByteArray), (atC l).length = l.length * 2
  | [] => rfl
  | (k, x) :: t => by
    simp only [atC, List.length_cons, atC_length t]
    omega
theorem atC_append : ∀ l m : List (ByteArray × ByteArray), atC (l ++ m) = atC l ++ atC m
  | [], m => rfl
  | (k, x) :: t, m => by simp only [atC, List.cons_append, atC_append t m]
theorem atC_take {l : List (ByteArray × ByteArray)} {j : Nat} {k x : ByteArray} (h : l[j]? = some (k, x)) : atC (l.take (j + 1)) = atC (l.take j) ++ [.string k, .string x] := by
  rw [List.take_add_one, h, atC_append]
  rfl
theorem atC_get : ∀ (l : List (ByteArray × ByteArray)) (j : Nat) (k x : ByteArray), l[j]? = some (k, x) → (atC l)[j * 2]? = some (.string k) ∧ (atC l)[j * 2 + 1]? = some (.string x)
  | [], j, k, x, h => by simp at h
  | (k0, x0) :: t, 0, k, x, h => by
    simp only [List.getElem?_cons_zero, Option.some.injEq, Prod.mk.injEq] at h
    obtain ⟨rfl, rfl⟩ := h
    exact ⟨rfl, rfl⟩
  | (k0, x0) :: t, j + 1, k, x, h => by
    rw [List.getElem?_cons_succ] at h
    have := atC_get t j k x h
    rw [show (j + 1) * 2 = j * 2 + 2 by omega, show j * 2 + 2 + 1 = (j * 2 + 1) + 2 by omega]
    exact this
theorem _root_.Go.World.ownsRow.keepRow {w w' : World} {base n size : Nat} {e : TypeId} {v : Value} {xs : List Value} (h : w.ownsRow base e size v n xs) (hb : ∀ g, v.ownBlock = some g → w'.heap[g]? = w.heap[g]?) : w'.ownsRow base e size v n xs := by
  obtain ⟨h1, h2⟩ := h
  refine ⟨h1, h2.imp id ?_⟩
  rintro ⟨g, cap, cur, rfl, h3, h4, h5⟩
  exact ⟨g, cap, cur, rfl, h3, (hb g rfl).trans h4, h5⟩
theorem attrsC {w : World} {base c : Nat} {A : Option Addr} {l : List (ByteArray × ByteArray)} (h : w.ownsRow base 29 2 (.slice A l.length c) l.length (atC l)) (W : World) (hW : ∀ k, base ≤ k → k < w.heap.size → W.heap[k]? = w.heap[k]?) (hn : l.length ≤ 9223372036854775807) :
    l.length ≤ c ∧ k29.C W A l.length (l.map attrTo) := by
  rcases Nat.eq_zero_or_pos l.length with h0 | h0
  · refine ⟨by omega, by rw [List.length_map], hn, fun hp => absurd hp (by omega)⟩
  · rcases h.2 with ⟨_, e⟩ | ⟨g, cap, cur, he, hg, hgg, hnc, _, _, _⟩
    · omega
    · injection he with he1 _ he3
      subst he1 he3
      refine ⟨hnc, by rw [List.length_map], hn, fun _ => ⟨_, rfl, fun j p hj => ?_⟩⟩
      rw [List.getElem?_map, Option.map_eq_some_iff] at hj
      obtain ⟨⟨k, x⟩, hkx, rfl⟩ := hj
      refine ⟨[.string k, .string x], rfl, k29_mk W (attrTo (k, x)), fun i u hu => ?_⟩
      obtain ⟨g0, g1⟩ := atC_get l j k x hkx
      have hgl : g < w.heap.size := (Array.getElem?_eq_some_iff.1 hgg).1
      have key : (atC l)[j * 2 + i]? = some u := by
        rcases i with _ | _ | i
        · simp only [List.getElem?_cons_zero, Option.some.injEq] at hu
          rw [← hu]
          exact g0
        · simp only [List.getElem?_cons_succ, List.getElem?_cons_zero, Option.some.injEq] at hu
          rw [← hu]
          exact g1
        · simp at hu
      have h9 := h.cells (g := g) rfl (j * 2 + i) u key
      have hk2 : k29.sz = 2 := rfl
      rw [hk2, ← h9]
      exact World.cell?_of_block (by rw [show ((⟨g, 0, none⟩ : Addr).add (j * 2 + i)).block = g by unfold Addr.add; split <;> rfl]; exact hW g hg hgl)
set_option maxRecDepth 100000 in
set_option maxHeartbeats 3200000 in
theorem told_elemA (b : Nat) (par prev next : Option Nat) (p : Pay) (k r : F Pay) (H : NMap) (w : World) (hw : Holds w H) (hs : Sits H par prev next (.node b p k r)) (ht : p.type = 3) (ha : p.attrs.length ≤ 4398046511104) (hlen : k.len ≤ 1000000)
    (ih : ∀ (a : F Pay) (b : Nat) (p : Pay) (k' r' : F Pay), k = a.app (.node b p k' r') → ∀ (H : NMap) (w : World) (par prev next : Option Nat), Holds w H → Sits H par prev next k → Calls Tryd.prog 66 #[.pointer (some ⟨b, 0, none⟩)] w (ToldPost (nodeOf p (erase k')) w)) :
    Calls Tryd.prog 66 #[.pointer (some ⟨b, 0, none⟩)] w (ToldPost ⟨0, p.data, ⟨#[]⟩, p.attrs.map attrTo, erase k⟩ w) := by
  obtain ⟨b0, b1, b2, b3, b4, b5, b6, b7, b9⟩ := hw.opened hs.1
  have hbl := hw.lt hs.1
  have hA : AttrsAt w p.attr p.attrs := hw.attrs b _ hs.1
  obtain ⟨A9, c9, h9, hc9, hm9, hat9⟩ := attrs_at hA
  obtain ⟨at_, hat_⟩ : ∃ l, l = p.attrs := ⟨_, rfl⟩
  rw [← hat_] at h9 hc9 hm9 hat9 ha ⊢
  have HAT := Lib.hid hat9
  rw [h9] at b9
  rw [ht] at b5
  obtain ⟨hv, hhv⟩ : ∃ v, v = ptrV (k.headOr none) := ⟨_, rfl⟩
  rw [← hhv] at b1
  have hvp : ∃ u, hv = .pointer u := by rw [hhv]; cases k.headOr none <;> exact ⟨_, rfl⟩
  obtain ⟨u, rfl⟩ := hvp
  have HV := Lib.hid hhv
  have HW := Lib.hid hw
  have HS := Lib.hid hs
  have HI := Lib.hid ih
  clear hw hs ht hA h9 ih hhv hat9 hat_
  go_enter Tryd.func66, Tryd.ntmps66
  go_wp2
  obtain ⟨o, ho⟩ : ∃ o, o = w.heap.size + 1 := ⟨_, rfl⟩
  obtain ⟨rv, hrv⟩ : ∃ o, o = w.heap.size := ⟨_, rfl⟩
  rw [← ho, ← hrv]
  have HO := Lib.hid (And.intro ho hrv)
  clear ho hrv
  go_loopw [24] (fun k0 wr => ∃ (j : Nat) (va : Value), k0 = .int .i64 j ∧ j ≤ at_.length ∧ wr.heap[o]? = some (.cells #[.int .i64 0, .string p.data, .string ⟨#[]⟩, va, .slice none 0 0] 25 (0, 0)) ∧ wr.heap[rv]? = some (.cells #[.int .i64 0, .string ⟨#[]⟩, .string ⟨#[]⟩, .slice none 0 0, .slice none 0 0] 25 (0, 0)) ∧ wr.ownsRow (w.heap.size + 2) 29 2 va j (atC (at_.take j)) ∧ w.heap.size + 2 ≤ wr.heap.size ∧ Below w.heap.size w wr) (fun k0 _ => at_.length - (intOf k0).toNat)
  case atStart =>
    refine ⟨0, .slice none 0 0, rfl, Nat.zero_le _, ?_, ?_, own_nil _ _ _ _, by simp, below_alloc (below_alloc (Below.refl _ _) _) _⟩
    · rw [HO.out.1, ← World.size_alloc w]
      exact heap_alloc_new _ _
    · rw [HO.out.2, Below.heap_alloc _ _ _ (by rw [World.size_alloc]; omega)]
      exact heap_alloc_new _ _
  case round =>
    obtain ⟨j, va, rfl, hj, ho1, ho2, hown, hsz, hb⟩ := hrel
    obtain ⟨Av, cv, rfl⟩ : ∃ A c, va = .slice A j c := own_slice hown
    have HB := Lib.hid hb
    have HO1 := Lib.hid ho1
    have HO2 := Lib.hid ho2
    by_cases hlt : j < at_.length
    · obtain ⟨ad, x1, x2, rfl, hk, d0, d1, d2, hdl⟩ := HAT.out j hlt
      replace d0 := (hb.cell hdl).trans d0
      replace d1 := (hb.cell (p := ⟨(ad.add (j * 3)).block, (ad.add (j * 3)).off + 1, none⟩) hdl).trans d1
      replace d2 := (hb.cell (p := ⟨(ad.add (j * 3)).block, (ad.add (j * 3)).off + 2, none⟩) hdl).trans d2
      obtain ⟨o3, -⟩ := out_cell ho1 3
      simp only [List.getElem?_toArray, List.getElem?_cons_succ, List.getElem?_cons_zero] at o3
      have HK := Lib.hid hk
      have HOWN := Lib.hid (hown.alloc (.cells #[.string ⟨#[]⟩, .string x1, .string x2] 83 (0, 0)))
      have HBW := Lib.hid ((below_alloc (Below.refl wr.heap.size wr) (.cells #[.string ⟨#[]⟩, .string x1, .string x2] 83 (0, 0))).mono hsz)
      have hol : o < w.heap.size + 2 := by have := HO.out.1; omega
      have hol2 : o < wr.heap.size := by omega
      clear hk hown hb ho1 ho2
      go_wp2_with (at_builtin; refine wpList_append_one rfl (w.heap.size + 2) (.tmp 29) (.tmp 35) 22 29 _ 2 32 rfl Tryd.underlying22 infoAttr rfl (.slice Av j cv) j (atC (at_.take j)) [.string x1, .string x2] rfl (by simp [Act.eval, Act.put]) rfl (by simp [Value.oneCell']) HOWN.out (by simp; omega) (by omega) (by omega) ?_; intro v1 w2 hown hg hv2; obtain ⟨A1, c1, rfl⟩ := own_slice hown; have hb2 := HBW.out.grown hg (by simp; omega) (own_base HOWN.out); have hno2 := (hb2.block o hol).trans HO1.out; obtain ⟨m3, fm3⟩ := out_cell hno2 3; simp only [List.getElem?_toArray, List.getElem?_cons_succ, List.getElem?_cons_zero] at m3; have HNO := Lib.hid hno2; have HOWN2 := Lib.hid hown; have HB2 := Lib.hid hb2; clear hown hb2 hg hv2 hno2)
      go_roundw
      case rel =>
        refine ⟨j + 1, .slice A1 (j + 1) c1, by go_num, hlt, ?_, ?_, ?_, ?_, ?_⟩
        · exact Lib.heap_setCell_same HNO.out _
        · rw [Below.heap_setCell _ _ _ _ (by show rv ≠ o; have := HO.out; omega)]
          exact (HB2.out.block rv (by have := HO.out; omega)).trans HO2.out
        · rw [atC_take HK.out]
          exact ownsRow_setCell_below HOWN2.out (by show o < _; exact hol) _
        · have := HB2.out.size
          rw [World.size_setCell]
          omega
        · exact (HB.out.trans (HB2.out.mono (by omega))).setCell (by show _ ≤ o; have := HO.out; omega) _
      case measure => simp [intOf]; omega
    obtain rfl : j = at_.length := by omega
    rw [List.take_length] at hown
    have hb1 : wr.cell? ⟨b, 1, none⟩ = some (.pointer u) := (hb.cell (p := ⟨b, 1, none⟩) hbl).trans b1
    have HAO := Lib.hid hown
    clear hb ho1 ho2 hown
    go_wp2
    go_loopg [6] k.len (fun gk k0 wr => ∃ (done g : F Pay) (v : Value), k0 = ptrV (g.headOr none) ∧ gk = g.len ∧ k = done.app g ∧ wr.heap[o]? = some (.cells #[.int .i64 0, .string p.data, .string ⟨#[]⟩, .slice Av at_.length cv, v] 25 (0, 0)) ∧ wr.heap[rv]? = some (.cells #[.int .i64 0, .string ⟨#[]⟩, .string ⟨#[]⟩, .slice none 0 0, .slice none 0 0] 25 (0, 0)) ∧ wr.ownsRow (w.heap.size + 2) 29 2 (.slice Av at_.length cv) at_.length (atC at_) ∧ KidsAt (w.heap.size + 2) wr v (erase done) ∧ w.heap.size + 2 ≤ wr.heap.size ∧ Below w.heap.size w wr)
    case atStart => exact ⟨.nil, k, _, HV.out, rfl, rfl, HO1.out, HO2.out, HAO.out, KidsAt.nil _ _, hsz, HB.out⟩
    case round =>
      obtain ⟨done, g, v, rfl, rfl, hk, ho1, ho2, hao, hka, hsz2, hb⟩ := hrel
      obtain ⟨Bv, ev, rfl⟩ : ∃ A c, v = .slice A (erase done).length c := by
        obtain ⟨css, h, _⟩ := hka
        exact own_slice h
      have HAW := Lib.hid hao
      clear hao
      have HK := Lib.hid hk
      have HKA := Lib.hid hka
      have HB1 := Lib.hid hb
      obtain ⟨o4, fo4⟩ := out_cell ho1 4
      obtain ⟨o0, -⟩ := out_cell ho1 0
      obtain ⟨o1, -⟩ := out_cell ho1 1
      obtain ⟨o2, -⟩ := out_cell ho1 2
      obtain ⟨o3, -⟩ := out_cell ho1 3
      have fr := fun i => (out_cell ho2 i).2
      have cr0 := (out_cell ho2 0).1
      have cr1 := (out_cell ho2 1).1
      have cr2 := (out_cell ho2 2).1
      have cr3 := (out_cell ho2 3).1
      have cr4 := (out_cell ho2 4).1
      have HO3 := Lib.hid ho1
      have HO4 := Lib.hid ho2
      clear hk hka hb ho1 ho2 hb1
      simp only [List.getElem?_toArray, List.getElem?_cons_succ, List.getElem?_cons_zero] at o0 o1 o2 o3 o4 cr0 cr1 cr2 cr3 cr4
      rcases headOr_cases g with hg | ⟨c, q, ck, g', hg⟩
      · subst hg
        simp only [show ptrV ((F.nil : F Pay).headOr none) = .pointer none from rfl]
        go_wp2
        refine bodyPost_ret (results_cell_row rfl _ _ rv 25 #[.int .i64 0, .string p.data, .string ⟨#[]⟩, .slice Av at_.length cv, .slice Bv (erase done).length ev] (0, 0) _ rfl ?_ Tryd.underlying25 rfl (by kernel_rfl)) rfl ?_
        · exact Lib.heap_setCell_same (Lib.heap_setCell_same (Lib.heap_setCell_same (Lib.heap_setCell_same (Lib.heap_setCell_same HO4.out _) _) _) _) _
        · have hk : k = done := by rw [HK.out, F.app_nil]
          have hlen2 : (erase done).length ≤ 9223372036854775807 := by rw [erase_len, ← hk]; omega
          have hrb : rv < w.heap.size + 2 := by have := HO.out.2; omega
          have hKW := (((((HKA.out.store ⟨rv, 0, none⟩ hrb (.int .i64 0)).store ⟨rv, 1, none⟩ hrb (.string p.data)).store ⟨rv, 2, none⟩ hrb (.string ⟨#[]⟩)).store ⟨rv, 3, none⟩ hrb (.slice Av at_.length cv)).store ⟨rv, 4, none⟩ hrb (.slice Bv (erase done).length ev))
          obtain ⟨A, c, he, hle, hT⟩ := hKW.tells hlen2
          injection he with he1 _ he3
          subst he1 he3
          rw [hk]
          refine ⟨Av, cv, Bv, ev, by rw [List.length_map], fun W hW => ?_, ?_⟩
          · have hRW := ownsRow_setCell_below (ownsRow_setCell_below (ownsRow_setCell_below (ownsRow_setCell_below (ownsRow_setCell_below HAW.out (a := ⟨rv, 0, none⟩) hrb (.int .i64 0)) (a := ⟨rv, 1, none⟩) hrb (.string p.data)) (a := ⟨rv, 2, none⟩) hrb (.string ⟨#[]⟩)) (a := ⟨rv, 3, none⟩) hrb (.slice Av at_.length cv)) (a := ⟨rv, 4, none⟩) hrb (.slice Bv (erase done).length ev)
            obtain ⟨hlc, hCA⟩ := attrsC hRW W (fun x hx1 hx2 => hW x (by omega) hx2) (by omega)
            have e1 : (at_.map attrTo).length = at_.length := List.length_map _
            have hmk := k25_mk W ⟨0, p.data, ⟨#[]⟩, at_.map attrTo, erase done⟩ (A3 := Av) (c3 := cv) (by rw [e1]; exact hlc) (by rw [e1]; exact hCA) hle (hT W fun x hx1 hx2 => hW x (by omega) hx2)
            exact hmk
          · have hrv : w.heap.size ≤ rv := by have := HO.out.2; omega
            exact ((((HB1.out.setCell (p := ⟨rv, 0, none⟩) hrv _).setCell (p := ⟨rv, 1, none⟩) hrv _).setCell (p := ⟨rv, 2, none⟩) hrv _).setCell (p := ⟨rv, 3, none⟩) hrv _).setCell (p := ⟨rv, 4, none⟩) hrv _
      · subst hg
        obtain ⟨hsd, hsg⟩ := (sits_app H done _ _ _ _).1 (HK.out ▸ HS.out.2.1)
        have hcl := HW.out.lt hsg.1
        obtain ⟨-, -, -, -, k4, -, -, -, -⟩ := HW.out.opened hsg.1
        have hc4 : wr.cell? ⟨c, 4, none⟩ = some (ptrV (g'.headOr none)) := (HB1.out.cell (p := ⟨c, 4, none⟩) hcl).trans k4
        obtain ⟨u', hu'⟩ : ∃ u', ptrV (g'.headOr none) = .pointer u' := by cases g'.headOr none <;> exact ⟨_, rfl⟩
        rw [hu'] at hc4
        have HU := Lib.hid hu'
        have hco : c ≠ o := by have := HO.out.1; omega
        have hdl : (erase done).length + 1 ≤ 1000000 := by
          have h1 := congrArg F.len HK.out
          rw [F.len_app, F.len] at h1
          rw [erase_len]
          omega
        have HR := Lib.hid (HW.out.below HB1.out)
        have HC4 := Lib.hid hc4
        clear hsd hsg k4 hu' hc4
        simp only [show ptrV ((F.node c q ck g').headOr none) = .pointer (some ⟨c, 0, none⟩) from rfl]
        go_wp2
        obtain ⟨y, hy⟩ : ∃ y, y = nodeOf q (erase ck) := ⟨_, rfl⟩
        have HY := Lib.hid hy
        clear hy
        go_region_law (first
          | (go_simp
             go_at_call 66
             refine (HI.out done c q ck g' HK.out H _ _ _ _ (by exact ⟨HR.out.node, HR.out.attrs⟩) HS.out.2.1).mono ?_
             rw [← HY.out]
             rintro e w1 ⟨A3y, c3y, A4y, c4y, rfl, htl, hbw0⟩
             have hbw := below_then (below_drew (Below.refl wr.heap.size wr)) (Nat.le_refl _) hbw0
             have HTL := Lib.hid htl
             have HBW := Lib.hid hbw
             have ho4' : w1.cell? ⟨o, 4, none⟩ = some (.slice Bv (erase done).length ev) := (hbw.cell (p := ⟨o, 4, none⟩) (World.block_lt_of_cell? wr _ o4)).trans o4
             have hol : o < w1.heap.size := by have := HO.out.1; have := hbw.size; omega
             clear htl hbw hbw0)
          | (obtain ⟨css, hcs1, hcs2, hcs3⟩ := HKA.out.below HBW.out
             refine step_append_cells (w0 := w1) (w.heap.size + 2) rfl (.tmp 64) (.tmp 67) 23 25 _ 5 88 rfl Tryd.underlying23 infoTree rfl (by decide) (by decide) (.slice Bv (erase done).length ev) (erase done).length css.flatten [.int .i64 y.f0, .string y.f1, .string y.f2, .slice A3y y.f3.length c3y, .slice A4y y.f4.length c4y] (by simp [Act.eval, Act.put]) (by simp [Act.eval, Act.put]) rfl (by simp [Value.oneCell']) hcs1 (Below.refl _ _) (Nat.le_trans hsz2 HBW.out.size) (by omega) ?_
             intro v1 w2 hown hb2 hg hv2
             obtain ⟨A1, c1, rfl⟩ := own_slice hown
             have hAW1 := pw_own_below HAW.out HBW.out
             have hAW2 : w2.ownsRow (w.heap.size + 2) 29 2 (.slice Av at_.length cv) at_.length (atC at_) := hAW1.keepRow (fun x hx => by
               obtain ⟨cx, hcx⟩ := own_typed hAW1 x hx
               refine hg.block x (Array.getElem?_eq_some_iff.1 hcx).1 (fun e => ?_)
               obtain ⟨cy, hcy⟩ := own_typed hcs1 x e.symm
               rw [hcx] at hcy
               injection hcy with hcy
               injection hcy with _ hcy
               exact absurd hcy (by decide))
             have HAW2 := Lib.hid hAW2
             clear hAW1 hAW2
             have hne : ∀ x, x < w.heap.size + 2 → some x ≠ (Value.slice Bv (erase done).length ev).ownBlock := fun x hx e => by have := own_base hcs1 x e.symm; omega
             have hoW : w2.heap[o]? = _ := (hg.block o (by have := HO.out.1; have := HBW.out.size; omega) (hne o (by have := HO.out.1; omega))).trans ((HBW.out.block o (by have := HO.out.1; omega)).trans HO3.out)
             have hc4' : w2.cell? ⟨c, 4, none⟩ = some (.pointer u') := (hg.cell (a := ⟨c, 4, none⟩) ((HBW.out.cell (p := ⟨c, 4, none⟩) (by show c < _; omega)).trans HC4.out) (hne c (by omega)))
             obtain ⟨ho4'', fo4''⟩ := out_cell hoW 4
             simp only [List.getElem?_toArray, List.getElem?_cons_succ, List.getElem?_cons_zero] at ho4''
             have HOWN := Lib.hid hown
             have HG2 := Lib.hid hg
             have HV2 := Lib.hid hv2
             have HOW := Lib.hid hoW
             have HCS := Lib.hid (And.intro hcs1 (And.intro hcs2 hcs3))
             have HNE := Lib.hid hne
             clear hown hb2 hg hv2 hoW hcs1 hcs2 hcs3 hne))
        all_goals (
          go_wp2
          go_roundg g'.len
          case measure => simp [F.len]
          case rel =>
            have ho2 := HO.out
            have hs1 := HBW.out.size
            have hs2 := HG2.out.size
            refine ⟨done.app (.node c q ck .nil), g', _, HU.out.symm, rfl, ?_, Lib.heap_setCell_same HOW.out _, ?_, ?_, ?_, ?_, ?_⟩
            · rw [F.app_assoc]
              exact HK.out
            · exact (Below.heap_setCell _ _ _ _ (by show rv ≠ o; omega)).trans ((HG2.out.block rv (by omega) (HNE.out rv (by omega))).trans ((HBW.out.block rv (by omega)).trans HO4.out))
            · exact ownsRow_setCell_below HAW2.out (by show o < _; omega) _
            · have hx : erase (done.app (.node c q ck .nil)) = erase done ++ [y] := by rw [erase_app, HY.out]; rfl
              rw [hx]
              obtain ⟨css0, hcs0, -, -⟩ := HKA.out
              exact (KidsAt.push HCS.out.2.1 HCS.out.2.2 rfl hsz2 (Nat.le_refl _) (fun g hg => own_lt hcs0 g hg) HTL.out HOWN.out HG2.out HV2.out).store ⟨o, 4, none⟩ (by show o < _; omega) _
            · rw [World.size_setCell]
              omega
            · exact ((below_then HB1.out HB1.out.size HBW.out).grown HG2.out (by omega) (fun x hx => by have := own_base HCS.out.1 x hx; omega)).setCell (by show _ ≤ o; omega) _)
set_option maxRecDepth 100000 in
set_option maxHeartbeats 3200000 in
theorem told_docA (b : Nat) (par prev next : Option Nat) (p : Pay) (k r : F Pay) (H : NMap) (w : World) (hw : Holds w H) (hs : Sits H par prev next (.node b p k r)) (ht : p.type = 2) (hlen : k.len ≤ 1000000)
    (ih : ∀ (a : F Pay) (b : Nat) (p : Pay) (k' r' : F Pay), k = a.app (.node b p k' r') → ∀ (H : NMap) (w : World) (par prev next : Option Nat), Holds w H → Sits H par prev next k → Calls Tryd.prog 66 #[.pointer (some ⟨b, 0, none⟩)] w (ToldPost (nodeOf p (erase k')) w)) :
    Calls Tryd.prog 66 #[.pointer (some ⟨b, 0, none⟩)] w (ToldPost ⟨3, ⟨#[]⟩, ⟨#[]⟩, [], erase k⟩ w) := by
  obtain ⟨b0, b1, b2, b3, b4, b5, b6, b7, b9⟩ := hw.opened hs.1
  have hbl := hw.lt hs.1
  rw [ht] at b5
  obtain ⟨hv, hhv⟩ : ∃ v, v = ptrV (k.headOr none) := ⟨_, rfl⟩
  rw [← hhv] at b1
  have hvp : ∃ u, hv = .pointer u := by rw [hhv]; cases k.headOr none <;> exact ⟨_, rfl⟩
  obtain ⟨u, rfl⟩ := hvp
  have HV := Lib.hid hhv
  have HW := Lib.hid hw
  have HS := Lib.hid hs
  have HI := Lib.hid ih
  clear hw hs ht ih hhv b9
  go_enter Tryd.func66, Tryd.ntmps66
  go_wp2
  obtain ⟨o, ho⟩ : ∃ o, o = w.heap.size + 1 := ⟨_, rfl⟩
  obtain ⟨rv, hrv⟩ : ∃ o, o = w.heap.size := ⟨_, rfl⟩
  rw [← ho, ← hrv]
  have HO := Lib.hid (And.intro ho hrv)
  clear ho hrv
  go_loopg [6] k.len (fun gk k0 wr => ∃ (done g : F Pay) (v : Value), k0 = ptrV (g.headOr none) ∧ gk = g.len ∧ k = done.app g ∧ wr.heap[o]? = some (.cells #[.int .i64 3, .string ⟨#[]⟩, .string ⟨#[]⟩, .slice none 0 0, v] 25 (0, 0)) ∧ wr.heap[rv]? = some (.cells #[.int .i64 0, .string ⟨#[]⟩, .string ⟨#[]⟩, .slice none 0 0, .slice none 0 0] 25 (0, 0)) ∧ KidsAt (w.heap.size + 2) wr v (erase done) ∧ w.heap.size + 2 ≤ wr.heap.size ∧ Below w.heap.size w wr)
  case atStart => 
    refine ⟨.nil, k, _, HV.out, rfl, rfl, ?_, ?_, KidsAt.nil _ _, by simp, below_alloc (below_alloc (Below.refl _ _) _) _⟩
    · rw [HO.out.1, ← World.size_alloc w]
      exact heap_alloc_new _ _
    · rw [HO.out.2, Below.heap_alloc _ _ _ (by rw [World.size_alloc]; omega)]
      exact heap_alloc_new _ _
  case round =>
    obtain ⟨done, g, v, rfl, rfl, hk, ho1, ho2, hka, hsz2, hb⟩ := hrel
    obtain ⟨Av, cv, rfl⟩ : ∃ A c, v = .slice A (erase done).length c := by
      obtain ⟨css, h, _⟩ := hka
      exact own_slice h
    have HK := Lib.hid hk
    have HKA := Lib.hid hka
    have HB1 := Lib.hid hb
    obtain ⟨o4, fo4⟩ := out_cell ho1 4
    obtain ⟨o0, -⟩ := out_cell ho1 0
    obtain ⟨o1, -⟩ := out_cell ho1 1
    obtain ⟨o2, -⟩ := out_cell ho1 2
    obtain ⟨o3, -⟩ := out_cell ho1 3
    have fr := fun i => (out_cell ho2 i).2
    have cr0 := (out_cell ho2 0).1
    have cr1 := (out_cell ho2 1).1
    have cr2 := (out_cell ho2 2).1
    have cr3 := (out_cell ho2 3).1
    have cr4 := (out_cell ho2 4).1
    have HO3 := Lib.hid ho1
    have HO4 := Lib.hid ho2
    clear hk hka hb ho1 ho2
    simp only [List.getElem?_toArray, List.getElem?_cons_succ, List.getElem?_cons_zero] at o0 o1 o2 o3 o4 cr0 cr1 cr2 cr3 cr4
    rcases headOr_cases g with hg | ⟨c, q, ck, g', hg⟩
    · subst hg
      simp only [show ptrV ((F.nil : F Pay).headOr none) = .pointer none from rfl]
      go_wp2
      refine bodyPost_ret (results_cell_row rfl _ _ rv 25 #[.int .i64 3, .string ⟨#[]⟩, .string ⟨#[]⟩, .slice none 0 0, .slice Av (erase done).length cv] (0, 0) _ rfl ?_ Tryd.underlying25 rfl (by kernel_rfl)) rfl ?_
      · exact Lib.heap_setCell_same (Lib.heap_setCell_same (Lib.heap_setCell_same (Lib.heap_setCell_same (Lib.heap_setCell_same HO4.out _) _) _) _) _
      · have hk : k = done := by rw [HK.out, F.app_nil]
        have hlen2 : (erase done).length ≤ 9223372036854775807 := by rw [erase_len, ← hk]; omega
        have hrb : rv < w.heap.size + 2 := by have := HO.out.2; omega
        have hKW := (((((HKA.out.store ⟨rv, 0, none⟩ hrb (.int .i64 3)).store ⟨rv, 1, none⟩ hrb (.string ⟨#[]⟩)).store ⟨rv, 2, none⟩ hrb (.string ⟨#[]⟩)).store ⟨rv, 3, none⟩ hrb (.slice none 0 0)).store ⟨rv, 4, none⟩ hrb (.slice Av (erase done).length cv))
        obtain ⟨A, c, he, hle, hT⟩ := hKW.tells hlen2
        injection he with he1 _ he3
        subst he1 he3
        rw [hk]
        refine ⟨none, 0, Av, cv, rfl, fun W hW => ?_, ?_⟩
        · exact k25_mk W ⟨3, ⟨#[]⟩, ⟨#[]⟩, [], erase done⟩ (A3 := none) (c3 := 0) (Nat.le_refl _) ⟨rfl, Nat.zero_le _, fun h => absurd h (Nat.lt_irrefl _)⟩ hle (hT W fun x hx1 hx2 => hW x (by omega) hx2)
        · have hrv : w.heap.size ≤ rv := by have := HO.out.2; omega
          exact ((((HB1.out.setCell (p := ⟨rv, 0, none⟩) hrv _).setCell (p := ⟨rv, 1, none⟩) hrv _).setCell (p := ⟨rv, 2, none⟩) hrv _).setCell (p := ⟨rv, 3, none⟩) hrv _).setCell (p := ⟨rv, 4, none⟩) hrv _
    · subst hg
      obtain ⟨hsd, hsg⟩ := (sits_app H done _ _ _ _).1 (HK.out ▸ HS.out.2.1)
      have hcl := HW.out.lt hsg.1
      obtain ⟨-, -, -, -, k4, -, -, -, -⟩ := HW.out.opened hsg.1
      have hc4 : wr.cell? ⟨c, 4, none⟩ = some (ptrV (g'.headOr none)) := (HB1.out.cell (p := ⟨c, 4, none⟩) hcl).trans k4
      obtain ⟨u', hu'⟩ : ∃ u', ptrV (g'.headOr none) = .pointer u' := by cases g'.headOr none <;> exact ⟨_, rfl⟩
      rw [hu'] at hc4
      have HU := Lib.hid hu'
      have hco : c ≠ o := by have := HO.out.1; omega
      have hdl : (erase done).length + 1 ≤ 1000000 := by
        have h1 := congrArg F.len HK.out
        rw [F.len_app, F.len] at h1
        rw [erase_len]
        omega
      have HR := Lib.hid (HW.out.below HB1.out)
      have HC4 := Lib.hid hc4
      clear hsd hsg k4 hu' hc4
      simp only [show ptrV ((F.node c q ck g').headOr none) = .pointer (some ⟨c, 0, none⟩) from rfl]
      go_wp2
      obtain ⟨y, hy⟩ : ∃ y, y = nodeOf q (erase ck) := ⟨_, rfl⟩
      have HY := Lib.hid hy
      clear hy
      go_region_law (first
        | (go_simp
           go_at_call 66
           refine (HI.out done c q ck g' HK.out H _ _ _ _ (by exact ⟨HR.out.node, HR.out.attrs⟩) HS.out.2.1).mono ?_
           rw [← HY.out]
           rintro e w1 ⟨A3y, c3y, A4y, c4y, rfl, htl, hbw0⟩
           have hbw := below_then (below_drew (Below.refl wr.heap.size wr)) (Nat.le_refl _) hbw0
           have HTL := Lib.hid htl
           have HBW := Lib.hid hbw
           have ho4' : w1.cell? ⟨o, 4, none⟩ = some (.slice Av (erase done).length cv) := (hbw.cell (p := ⟨o, 4, none⟩) (World.block_lt_of_cell? wr _ o4)).trans o4
           have hol : o < w1.heap.size := by have := HO.out.1; have := hbw.size; omega
           clear htl hbw hbw0)
        | (obtain ⟨css, hcs1, hcs2, hcs3⟩ := HKA.out.below HBW.out
           refine step_append_cells (w0 := w1) (w.heap.size + 2) rfl (.tmp 64) (.tmp 67) 23 25 _ 5 88 rfl Tryd.underlying23 infoTree rfl (by decide) (by decide) (.slice Av (erase done).length cv) (erase done).length css.flatten [.int .i64 y.f0, .string y.f1, .string y.f2, .slice A3y y.f3.length c3y, .slice A4y y.f4.length c4y] (by simp [Act.eval, Act.put]) (by simp [Act.eval, Act.put]) rfl (by simp [Value.oneCell']) hcs1 (Below.refl _ _) (Nat.le_trans hsz2 HBW.out.size) (by omega) ?_
           intro v1 w2 hown hb2 hg hv2
           obtain ⟨A1, c1, rfl⟩ := own_slice hown
           have hne : ∀ x, x < w.heap.size + 2 → some x ≠ (Value.slice Av (erase done).length cv).ownBlock := fun x hx e => by have := own_base hcs1 x e.symm; omega
           have hoW : w2.heap[o]? = _ := (hg.block o (by have := HO.out.1; have := HBW.out.size; omega) (hne o (by have := HO.out.1; omega))).trans ((HBW.out.block o (by have := HO.out.1; omega)).trans HO3.out)
           have hc4' : w2.cell? ⟨c, 4, none⟩ = some (.pointer u') := (hg.cell (a := ⟨c, 4, none⟩) ((HBW.out.cell (p := ⟨c, 4, none⟩) (by show c < _; omega)).trans HC4.out) (hne c (by omega)))
           obtain ⟨ho4'', fo4''⟩ := out_cell hoW 4
           simp only [List.getElem?_toArray, List.getElem?_cons_succ, List.getElem?_cons_zero] at ho4''
           have HOWN := Lib.hid hown
           have HG2 := Lib.hid hg
           have HV2 := Lib.hid hv2
           have HOW := Lib.hid hoW
           have HCS := Lib.hid (And.intro hcs1 (And.intro hcs2 hcs3))
           have HNE := Lib.hid hne
           clear hown hb2 hg hv2 hoW hcs1 hcs2 hcs3 hne))
      all_goals (
        go_wp2
        go_roundg g'.len
        case measure => simp [F.len]
        case rel =>
          have ho2 := HO.out
          have hs1 := HBW.out.size
          have hs2 := HG2.out.size
          refine ⟨done.app (.node c q ck .nil), g', _, HU.out.symm, rfl, ?_, Lib.heap_setCell_same HOW.out _, ?_, ?_, ?_, ?_⟩
          · rw [F.app_assoc]
            exact HK.out
          · exact (Below.heap_setCell _ _ _ _ (by show rv ≠ o; omega)).trans ((HG2.out.block rv (by omega) (HNE.out rv (by omega))).trans ((HBW.out.block rv (by omega)).trans HO4.out))
          · have hx : erase (done.app (.node c q ck .nil)) = erase done ++ [y] := by rw [erase_app, HY.out]; rfl
            rw [hx]
            obtain ⟨css0, hcs0, -, -⟩ := HKA.out
            exact (KidsAt.push HCS.out.2.1 HCS.out.2.2 rfl hsz2 (Nat.le_refl _) (fun g hg => own_lt hcs0 g hg) HTL.out HOWN.out HG2.out HV2.out).store ⟨o, 4, none⟩ (by show o < _; omega) _
          · rw [World.size_setCell]
            omega
          · exact ((below_then HB1.out HB1.out.size HBW.out).grown HG2.out (by omega) (fun x hx => by have := own_base HCS.out.1 x hx; omega)).setCell (by show _ ≤ o; omega) _)
theorem told_treeA : ∀ (f : F Pay), Neat f → FitF f → f.blocks.length ≤ 1000000 → ∀ (a : F Pay) (b : Nat) (p : Pay) (k r : F Pay), f = a.app (.node b p k r) → ∀ (H : NMap) (w : World) (par prev next : Option Nat), Holds w H → Sits H par prev next f →
    Calls Tryd.prog 66 #[.pointer (some ⟨b, 0, none⟩)] w (ToldPost (nodeOf p (erase k)) w) := by
  intro f
  induction f with
  | nil =>
    intro _ _ _ a b p k r h
    cases a <;> cases h
  | node b0 p0 k0 r0 ihk ihr =>
    intro hp hf hl a b p k r h H w par prev next hw hs
    simp only [F.blocks, List.length_cons, List.length_append] at hl
    cases a with
    | nil =>
      injection h with h1 h2 h3 h4
      subst h1 h2 h3 h4
      have hkl := len_le_blocks k0
      rcases nodeOf_cases hp with ⟨ht, _, e⟩ | ⟨ht, _, e⟩ | ⟨ht, e⟩ | ⟨ht, e⟩
      · rw [e]
        exact told_text b0 par prev next p0 k0 r0 H w hw hs ht
      · rw [e]
        exact told_comment b0 par prev next p0 k0 r0 H w hw hs ht
      · rw [e]
        exact told_elemA b0 par prev next p0 k0 r0 H w hw hs ht (hf.1 ht) (by omega) (fun a b p k' r' he H w par prev next hw hs => ihk hp.2.1 hf.2.1 (by omega) a b p k' r' he H w par prev next hw hs)
      · rw [e]
        exact told_docA b0 par prev next p0 k0 r0 H w hw hs ht (by omega) (fun a b p k' r' he H w par prev next hw hs => ihk hp.2.1 hf.2.1 (by omega) a b p k' r' he H w par prev next hw hs)
    | node b1 p1 k1 r1 =>
      injection h with h1 h2 h3 h4
      subst h1 h2 h3
      exact ihr hp.2.2 hf.2.2 (by omega) r1 b p k r h4 H w par (some b0) next hw hs.2.2
theorem told_anyA (b : Nat) (p : Pay) (k r : F Pay) (H : NMap) (w : World) (par prev next : Option Nat) (hp : Neat (.node b p k r)) (hf : FitF (.node b p k r)) (hl : (F.node b p k r).blocks.length ≤ 1000000) (hw : Holds w H) (hs : Sits H par prev next (.node b p k r)) :
    Calls Tryd.prog 66 #[.pointer (some ⟨b, 0, none⟩)] w (ToldPost (nodeOf p (erase k)) w) :=
  told_treeA _ hp hf hl .nil b p k r rfl H w par prev next hw hs
end Go.Proofs.YtlallihdiffheaaDoor.Hand
