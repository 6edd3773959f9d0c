/- impl.Changed by hand. -/
import Derived.Test.YtnhcocjdkmelhaaChTexts
import Derived.Test.YtnhcocjdkmelhaaChRef
import Derived.Test.YtnhcocjdkmelhaaGuard
namespace Go.Proofs.Ytnhcocjdkmelhaa.Hand
open Go.RowKit Go.Proofs.YtnhcocjdkmelhaaW.PrintWords Go.Proofs.YtnhcocjdkmelhaaW.PrintLast Go.Proofs.YtnhcocjdkmelhaaW.PrintMore
set_option linter.unusedVariables false
set_option linter.unusedSimpArgs false

theorem CellRow.rebase {w : World} {v : Value} {ss : List ByteArray} {base : Nat} (h : CellRow w v ss) (hb : ∀ k, v.ownBlock = some k → base ≤ k) : ∃ vs, w.ownsRow base 46 1 v ss.length vs ∧ BRows w vs ss := by
  obtain ⟨b, vs, ⟨h1, h2⟩, h3⟩ := h
  refine ⟨vs, ⟨h1, h2.imp id ?_⟩, h3⟩
  rintro ⟨g, cap, cur, rfl, _, r⟩
  exact ⟨g, cap, cur, rfl, hb g rfl, r⟩
theorem RT.of_bytes {w : World} {base : Nat} {v : Value} {vs : List Value} {sss : List (List ByteArray)} (h : w.ownsRow base 50 1 v sss.length vs) (hv : CellRows w vs sss) (ha : ApartV vs ∧ NewV base vs) : RT DB 46 50 base w v vs sss :=
  ⟨h, fun i u ss hu hs => by
    obtain ⟨ws, h1, h2⟩ := (hv.2 i u ss hu hs).rebase (ha.2 u (List.mem_of_getElem? hu))
    exact ⟨ws, h1, fun j x s hx hs => .inl (h2.2 j x s hx hs)⟩, ha.1⟩
theorem StrRows.below' {w w1 : World} {A : Option Addr} {sss : List (List ByteArray)} (h : StrRows w A sss) (hb : Below w.heap.size w w1) : StrRows w1 A sss := by
  intro h0
  obtain ⟨ad, e, hc⟩ := h h0
  refine ⟨ad, e, fun j ss hj => ?_⟩
  obtain ⟨A', c', h1, h2⟩ := hc j ss hj
  exact ⟨A', c', pw_cell_below hb h1, h2.below hb⟩
/-- What rows must be to be let in. -/
def fitR (sss : List (List ByteArray)) : Prop := sss.length ≤ 2147483647 ∧ ∀ ss ∈ sss, ss.length ≤ 2147483647 ∧ ∀ s ∈ ss, s.size ≤ 2147483647
def fewL (l : List Ch) : Prop := ∀ c ∈ l, (0 ≤ c.f0 ∧ c.f0 ≤ 100) ∧ (0 ≤ c.f1 ∧ c.f1 ≤ 100) ∧ c.f2.size ≤ 2147483647
theorem chg_mem (sss : List (List ByteArray)) (m : Nat × Nat × ByteArray) (hm : m.2.2.size ≤ 2147483647) (h : ∀ ss ∈ sss, ∀ s ∈ ss, s.size ≤ 2147483647) : ∀ ss ∈ chg sss m, ∀ s ∈ ss, s.size ≤ 2147483647 := by
  intro ss hs s hss
  unfold chg at hs
  obtain ⟨s1, h1⟩ : ∃ x, x = sss ++ List.replicate (m.1 + 1 - sss.length) ([] : List ByteArray) := ⟨_, rfl⟩
  rw [← h1] at hs
  have hb : ∀ st ∈ s1, ∀ s ∈ st, s.size ≤ 2147483647 := by
    intro st hst
    rw [h1] at hst
    rcases List.mem_append.1 hst with hst | hst
    · exact h st hst
    · rw [(List.mem_replicate.1 hst).2]
      intro s hs
      cases hs
  rcases List.mem_or_eq_of_mem_set hs with hs | hs
  · exact hb ss hs s hss
  · have hr : ∀ s ∈ s1.getD m.1 [], s.size ≤ 2147483647 := by
      rw [List.getD_eq_getElem?_getD]
      cases he : s1[m.1]? with
      | none => intro s hs; cases hs
      | some x => exact hb x (List.mem_of_getElem? he)
    have hr1 : ∀ s ∈ s1.getD m.1 [] ++ List.replicate (m.2.1 - (s1.getD m.1 []).length) ByteArray.empty, s.size ≤ 2147483647 := by
      intro s hs
      rcases List.mem_append.1 hs with hs | hs
      · exact hr s hs
      · rw [(List.mem_replicate.1 hs).2]
        decide
    rw [hs] at hss
    simp only [List.mem_append, List.mem_singleton] at hss
    rcases hss with (hss | hss) | hss
    · exact hr1 s (List.mem_of_mem_take hss)
    · rw [hss]
      exact hm
    · exact hr1 s (List.mem_of_mem_drop hss)
theorem fold_bound (l : List Ch) (sss : List (List ByteArray)) (hf : fitR sss) (hl : l.length ≤ 2147483647) (hp : fewL l) :
    ((l.map tri).foldl chg sss).length ≤ 1099511627776 ∧ ∀ ss ∈ (l.map tri).foldl chg sss, ss.length ≤ 1099511627776 ∧ ∀ s ∈ ss, s.size ≤ 2147483647 := by
  have key : ∀ j, j ≤ l.length → (((l.take j).map tri).foldl chg sss).length ≤ 2147484700 ∧ (∀ ss ∈ ((l.take j).map tri).foldl chg sss, ss.length ≤ 2147483647 + j) ∧ ∀ ss ∈ ((l.take j).map tri).foldl chg sss, ∀ s ∈ ss, s.size ≤ 2147483647 := by
    intro j
    induction j with
    | zero => exact fun _ => ⟨by simpa using Nat.le_trans hf.1 (by decide), by simpa using fun ss hs => (hf.2 ss hs).1, by simpa using fun ss hs => (hf.2 ss hs).2⟩
    | succ j ih =>
      intro hj
      obtain ⟨h1, h2, h3⟩ := ih (by omega)
      obtain ⟨m, hmj⟩ : ∃ m, l[j]? = some m := ⟨_, List.getElem?_eq_getElem (by omega)⟩
      obtain ⟨p1, p2, p3⟩ := hp m (List.mem_of_getElem? hmj)
      have ht : l.take (j + 1) = l.take j ++ [m] := by rw [List.take_add_one, hmj]; rfl
      rw [ht, List.map_append, List.foldl_append]
      refine ⟨?_, ?_, ?_⟩
      · show (chg _ (tri m)).length ≤ _
        rw [chg_length]
        simp only [tri]
        omega
      · exact chg_bound _ (tri m) (2147483647 + j) (by simp only [tri]; omega) h2
      · exact chg_mem _ (tri m) p3 h3
  obtain ⟨h1, h2, h3⟩ := key l.length (Nat.le_refl _)
  rw [List.take_length] at h1 h2 h3
  exact ⟨by omega, fun ss hs => ⟨by have := h2 ss hs; omega, h3 ss hs⟩⟩
set_option maxRecDepth 100000 in
set_option maxHeartbeats 1600000 in
theorem zzChanged_any (v : Value) (vs : List Value) (sss : List (List ByteArray)) (A : Option Addr) (cm : Nat) (l : List Ch) (base : Nat) (w : World) (hf : fitR sss) (hl : l.length ≤ 2147483647) (hp : fewL l) (hbase : base ≤ w.heap.size)
    (hR : RT DB 46 50 base w v vs sss) (hM : MAt 56 w A (l.map tri)) :
    Calls Try.prog 20 #[v, .slice A l.length cm] w fun e w' => ∃ v' vs', e = .returned v' ∧ RT DB 46 50 base w' v' vs' ((l.map tri).foldl chg sss) ∧ Below base w w' := by
  obtain ⟨A0, c0, rfl⟩ := own_slice hR.own
  have HR := Lib.hid hR
  have HM := Lib.hid hM
  have HP := Lib.hid hp
  have HF := Lib.hid hf
  have hpn : ∀ c ∈ l, 0 ≤ c.f0 ∧ 0 ≤ c.f1 := fun c hc => ⟨(hp c hc).1.1, (hp c hc).2.1.1⟩
  have HPN := Lib.hid hpn
  have HPM := Lib.hid (show ∀ m ∈ l.map tri, m.1 ≤ 1000 ∧ m.2.1 ≤ 1000 by
    intro m hm
    obtain ⟨c, hc, rfl⟩ := List.mem_map.1 hm
    obtain ⟨p1, p2, _⟩ := hp c hc
    simp only [tri]
    omega)
  have hlm : (l.map tri).length = l.length := List.length_map _
  have HLM := Lib.hid hlm
  clear hR hM hp hf hpn hlm
  go_enter Try.func20, Try.ntmps20
  go_wp2_with (first
    | (go_at_call 28; refine (zzMods_any _ _ l _ hl HPN.out HM.out).mono ?_; rintro e w1 ⟨v1, ms, rfl, hm, hb⟩; obtain ⟨A1, c1, rfl, hat⟩ := hm.at HPN.out; have HAT := Lib.hid hat; have HB1 := Lib.hid hb; clear hm hat hb)
    | (go_at_call 27; rw [← HLM.out]; refine (apply_any _ vs sss _ c1 (l.map tri) base _ (by rw [HLM.out]; exact hl) HF.out.1 (fun ss hs => (HF.out.2 ss hs).1) HPM.out (Nat.le_trans hbase HB1.out.size) (HR.out.below DB_kp HB1.out) HAT.out).mono ?_; rintro e w2 ⟨v2, vs2, rfl, hr, hb⟩; have HR2 := Lib.hid hr; have HB2 := Lib.hid hb; clear hr hb))
  go_ret
  exact ⟨_, vs2, rfl, HR2.out, (HB1.out.mono hbase).trans HB2.out⟩
set_option maxRecDepth 100000 in
set_option maxHeartbeats 1600000 in
theorem changed_do (A : Option Addr) (c : Nat) (sss : List (List ByteArray)) (B : Option Addr) (cm : Nat) (l : List Ch) (b0 b1 b2 : Nat) (w : World) (hf : fitR sss) (hl : l.length ≤ 2147483647) (hp : fewL l) (hr : StrRows w A sss) (hC : kCh.C w B l.length l)
    (hb0 : w.cell? ⟨b0, 0, none⟩ = some (.slice A sss.length c)) (hb1 : w.cell? ⟨b1, 0, none⟩ = some (.slice B l.length cm)) (v0 : Value) (hb2 : w.cell? ⟨b2, 0, none⟩ = some v0) (hfr : w.frozen? ⟨b2, 0, none⟩ = false) :
    Calls Try.prog 18 #[.pointer (some ⟨b0, 0, none⟩), .pointer (some ⟨b1, 0, none⟩), .pointer (some ⟨b2, 0, none⟩)] w fun e w' => e = .returned (.tuple #[]) ∧ ∃ W v, Below w.heap.size w W ∧ Kd.S (Kd.slice 9 Kd.string) 28 W w.heap.size (fun _ => True) v ((l.map tri).foldl chg sss) ∧ w' = W.setCell ⟨b2, 0, none⟩ v := by
  obtain ⟨hz1, hz2⟩ := fold_bound l sss hf hl hp
  have HR := Lib.hid hr
  have HF := Lib.hid hf
  have HL := Lib.hid hl
  have HP := Lib.hid hp
  have HPN := Lib.hid (show ∀ c ∈ l, 0 ≤ c.f0 ∧ 0 ≤ c.f1 from fun c hc => ⟨(hp c hc).1.1, (hp c hc).2.1.1⟩)
  have HC := Lib.hid hC
  have hb2l := World.block_lt_of_cell? w _ hb2
  have hsk : ∀ W', Below w.heap.size w W' → W'.cell? ⟨b0, 0, none⟩ = some (.slice A sss.length c) ∧ W'.cell? ⟨b1, 0, none⟩ = some (.slice B l.length cm) ∧ Below w.heap.size w W' := fun W' hb =>
    ⟨(hb.cell (p := ⟨b0, 0, none⟩) (World.block_lt_of_cell? w _ hb0)).trans hb0, (hb.cell (p := ⟨b1, 0, none⟩) (World.block_lt_of_cell? w _ hb1)).trans hb1, hb⟩
  have HSK := Lib.hid hsk
  obtain ⟨zss, hzs⟩ : ∃ z, z = (l.map tri).foldl chg sss := ⟨_, rfl⟩
  rw [← hzs] at hz1 hz2
  obtain ⟨kt, hkt⟩ := texts_plain zss hz1 (fun ss hm => (hz2 ss hm).1)
  obtain ⟨yss, hy⟩ : ∃ y : List (List (List Int)), y = zss.map (·.map bys) := ⟨_, rfl⟩
  have HY := Lib.hid (fun (w2 : World) (v : Value) (vs : List Value) (h : RT DB 46 50 w.heap.size w2 v vs zss) => h.K hz1 (fun ss hm => ⟨(hz2 ss hm).1, fun s hs => Nat.le_trans ((hz2 ss hm).2 s hs) (by decide)⟩))
  rw [← hy] at hkt HY
  rw [hzs] at HY
  rw [← hzs]
  have HK := Lib.hid hkt
  have HZS := Lib.hid hzs
  clear hr hf hl hp hC hz1 hz2 hkt hy hsk hb0 hb1 hzs
  go_enter Try.func18, Try.ntmps18
  go_wp2_with fail
  refine start_ (n := 7) (S := fun W' => W'.cell? ⟨b0, 0, none⟩ = some (.slice A sss.length c) ∧ W'.cell? ⟨b1, 0, none⟩ = some (.slice B l.length cm) ∧ Below w.heap.size w W') (ds := [6]) #[false, false, false, false, false, false, false] rfl rfl rfl (HSK.out _ (below_drew (Below.refl _ _))) (fun hHeld => ?_)
  refine take_ (i := 0) (N := some 3) (v := ?_) (a' := ?_) #[true, false, false, false, false, false, false] rfl rfl (by kernel_rfl) (fun _ _ _ h => h) (Or.inl ⟨by rfl, ?_⟩) hHeld ?_ ?_
  rotate_left
  · rintro w' ⟨s0_, s1_, s2_⟩
    go_simp
    with_reducible rfl
  rotate_left
  · simp only [Act.put, List.setIfInBounds_toArray, List.set_cons_zero, List.set_cons_succ]
    rfl
  refine take_ (i := 2) (N := some 5) (v := ?_) (a' := ?_) #[true, false, true, false, false, false, false] rfl rfl (by kernel_rfl) (fun _ _ _ h => h) (Or.inl ⟨by rfl, ?_⟩) hHeld ?_ ?_
  rotate_left
  · rintro w' ⟨s0_, s1_, s2_⟩
    go_simp
    with_reducible rfl
  rotate_left
  · simp only [Act.put, List.setIfInBounds_toArray, List.set_cons_zero, List.set_cons_succ]
    rfl
  refine one_ (i := 1) (N := some 4) #[true, true, true, false, false, false, false] rfl rfl (by kernel_rfl) (by decide) (fun K hK => ?_)
  go_simp
  refine (bytesOf_any _ _ sss _ HF.out.1 (fun ss hm => (HF.out.2 ss hm).1) (HR.out.below' (below_drew (Below.refl w.heap.size w)))).mono ?_
  rintro e w1 ⟨v1, vs1, rfl, hown, hv, hap, hb⟩
  obtain ⟨A1, c1, rfl⟩ := own_slice hown
  have HR1 := Lib.hid (RT.of_bytes hown hv hap)
  have HB1 := Lib.hid (below_then (below_drew (Below.refl w.heap.size w)) (Nat.le_refl _) hb)
  clear hown hv hap hb
  refine hK.out _ _ ?_ (fun hHeld => ?_)
  · exact HSK.out _ HB1.out
  clear hK K
  try simp only [Act.put, List.setIfInBounds_toArray, List.set_cons_zero, List.set_cons_succ]
  refine one_ (i := 3) (N := some 6) #[true, true, true, true, false, false, false] rfl rfl (by kernel_rfl) (by decide) (fun K hK => ?_)
  go_simp
  refine (changes_any _ _ l _ HL.out (Kd.C_below HC.out HB1.out)).mono ?_
  rintro e w2 ⟨v2, ms, rfl, hm, hb⟩
  obtain ⟨A2, c2, rfl, hat⟩ := hm.at HPN.out
  have HR2 := Lib.hid (HR1.out.below DB_kp hb)
  have HAT := Lib.hid hat
  have HB2 := Lib.hid (below_then HB1.out HB1.out.size hb)
  clear hm hat hb
  refine hK.out _ _ ?_ (fun hHeld => ?_)
  · exact HSK.out _ HB2.out
  clear hK K
  try simp only [Act.put, List.setIfInBounds_toArray, List.set_cons_zero, List.set_cons_succ]
  refine one_ (i := 4) (N := some 7) #[true, true, true, true, true, false, false] rfl rfl (by kernel_rfl) (by decide) (fun K hK => ?_)
  go_simp
  refine (zzChanged_any _ _ sss _ c2 l w.heap.size _ HF.out HL.out HP.out HB2.out.size HR2.out HAT.out).mono ?_
  rintro e w3 ⟨v3, vs3, rfl, hr, hb⟩
  obtain ⟨A3, c3, rfl, hc3, hC3⟩ := HY.out _ _ _ hr
  have HC3 := Lib.hid hC3
  have HCC := Lib.hid hc3
  have HB3 := Lib.hid (HB2.out.trans hb)
  clear hr hb hc3 hC3
  refine hK.out _ _ ?_ (fun hHeld => ?_)
  · exact HSK.out _ HB3.out
  clear hK K
  try simp only [Act.put, List.setIfInBounds_toArray, List.set_cons_zero, List.set_cons_succ]
  refine one_ (i := 5) (N := some 8) #[true, true, true, true, true, true, false] rfl rfl (by kernel_rfl) (by decide) (fun K hK => ?_)
  go_simp
  refine (GCh.impl_textsOf.calls kt A3 c3 yss zss w3 HC3.out HCC.out HK.out).mono ?_
  rintro e w4 ⟨v4, rfl, hs, hb⟩
  obtain ⟨A4, c4, rfl⟩ := Kd.S_slice hs
  have HS4 := Lib.hid hs
  have HB4 := Lib.hid (below_then HB3.out HB3.out.size hb)
  have hk2 := (HB4.out.cell (p := ⟨b2, 0, none⟩) hb2l).trans hb2
  have hf2 := (HB4.out.frozen (p := ⟨b2, 0, none⟩) hb2l).trans hfr
  clear hs hb
  refine hK.out _ _ ?_ (fun hHeld => ?_)
  · exact HSK.out _ HB4.out
  clear hK K
  try simp only [Act.put, List.setIfInBounds_toArray, List.set_cons_zero, List.set_cons_succ]
  refine last_ (i := 6) (N := none) #[true, true, true, true, true, true, true] rfl rfl (by kernel_rfl) (by decide) (fun K hK => ?_)
  go_simp
  refine hK.out _ _ ?_
  clear hK K
  try simp only [Act.put, List.setIfInBounds_toArray, List.set_cons_zero, List.set_cons_succ]
  refine done_ (by kernel_rfl) ?_
  go_end0
  exact ⟨rfl, w4, _, HB4.out, Kd.S_lower HS4.out HB3.out.size, rfl⟩
theorem small_plain (l : List Ch) (hl : l.length ≤ 2147483647) (hp : fewL l) : ∃ k, GCh.impl_small.f k l = some true := by
  have key : ∀ (d i : Nat), l.length - i = d → i ≤ l.length → GCh.impl_small.l0 (d + 1) l (l.length : Int) (i : Int) = some true := by
    intro d
    induction d with
    | zero =>
      intro i hd hi
      simp only [GCh.impl_small.l0]
      rw [if_neg (by omega)]
    | succ d ih =>
      intro i hd hi
      have hm : GCh.rd_T36 l (i : Int) ∈ l := by simp [GCh.rd_T36, show i < l.length by omega]
      obtain ⟨p1, p2, _⟩ := hp _ hm
      have hw : wrap64 ((i : Int) + 1) = ((i + 1 : Nat) : Int) := by
        unfold wrap64
        omega
      rw [GCh.impl_small.l0, if_pos (by omega), if_pos (by omega), if_pos (by omega), if_neg (by omega), if_neg (by omega), if_neg (by omega), if_neg (by omega), hw]
      exact ih (i + 1) (by omega) (by omega)
  exact ⟨l.length + 1, key l.length 0 rfl (Nat.zero_le _)⟩
theorem alloc3_size (w : World) (A B C : Obj) : (((w.alloc A).alloc B).alloc C).heap.size = w.heap.size + 3 := by simp
theorem heap3 (w : World) (A B C : Obj) : (((w.alloc A).alloc B).alloc C).heap[w.heap.size]? = some A ∧ (((w.alloc A).alloc B).alloc C).heap[w.heap.size + 1]? = some B ∧ (((w.alloc A).alloc B).alloc C).heap[w.heap.size + 2]? = some C := by
  refine ⟨?_, ?_, ?_⟩
  · rw [Below.heap_alloc _ _ _ (by simp; omega), Below.heap_alloc _ _ _ (by simp), heap_alloc_new]
  · rw [Below.heap_alloc _ _ _ (by simp), show w.heap.size + 1 = (w.alloc A).heap.size by simp, heap_alloc_new]
  · rw [show w.heap.size + 2 = ((w.alloc A).alloc B).heap.size by simp, heap_alloc_new]
theorem below3 (w : World) (A B C : Obj) : Below w.heap.size w (((w.alloc A).alloc B).alloc C) := (((Below.refl _ _).alloc (Nat.le_refl _) _).alloc (by simp) _).alloc (by simp; omega) _
theorem cell_one {w : World} {k : Nat} {v : Value} {t : TypeId} (h : w.heap[k]? = some (.cells #[v] t (0, 0))) : w.cell? ⟨k, 0, none⟩ = some v := by simp [World.cell?, h]
theorem frozen_one {w : World} {k : Nat} {v : Value} {t : TypeId} (h : w.heap[k]? = some (.cells #[v] t (0, 0))) : w.frozen? ⟨k, 0, none⟩ = false := by simp [World.frozen?, h]
set_option maxRecDepth 100000 in
set_option maxHeartbeats 1600000 in
theorem impl_changed (A : Option Addr) (c : Nat) (sss : List (List ByteArray)) (B : Option Addr) (cm : Nat) (l : List Ch) (w : World) (hf : fitR sss) (hl : l.length ≤ 2147483647) (hp : fewL l) (hr : StrRows w A sss) (hC : kCh.C w B l.length l) (hc : l.length ≤ cm) :
    Calls Try.prog 9 #[.slice A sss.length c, .slice B l.length cm] w fun e w' => ∃ v, e = .returned v ∧ Kd.S (Kd.slice 9 Kd.string) 28 w' w.heap.size (fun _ => True) v ((l.map tri).foldl chg sss) ∧ Below w.heap.size w w' := by
  have hmf : ∀ (fn : Fn) (first cap : Array Value) (w : World), (Instr.makeFunc fn first cap).run Try.prog w = .ok (.func fn first cap) w := fun _ _ _ _ => rfl
  obtain ⟨ks, hks⟩ := small_plain l hl hp
  have HKS := Lib.hid hks
  have HR := Lib.hid hr
  have HF := Lib.hid hf
  have HL := Lib.hid hl
  have HP := Lib.hid hp
  have HC := Lib.hid hC
  have HCM := Lib.hid hc
  obtain ⟨a0, a1, a2⟩ := heap3 w (.cells #[.slice A sss.length c] 22) (.cells #[.slice B l.length cm] 23) (.cells #[.slice none 0 0] 22)
  have hz := alloc3_size w (.cells #[.slice A sss.length c] 22) (.cells #[.slice B l.length cm] 23) (.cells #[.slice none 0 0] 22)
  have hB := below3 w (.cells #[.slice A sss.length c] 22) (.cells #[.slice B l.length cm] 23) (.cells #[.slice none 0 0] 22)
  have HA0 := Lib.hid a0
  have HA1 := Lib.hid a1
  have HA2 := Lib.hid a2
  have HZ := Lib.hid hz
  have HB := Lib.hid hB
  clear hks hr hf hl hp hC hc a0 a1 a2 hz hB
  go_enter Try.func9, Try.ntmps9
  go_wp2_with (first
    | (go_at_call 16; refine (GCh.impl_small.calls ks B cm l true _ (Kd.C_below HC.out HB.out) HCM.out HKS.out).mono ?_; rintro e w1 ⟨rfl, hb⟩; have HB1 := Lib.hid hb; clear hb)
    | (go_at_call 17; refine (guarded_any 18 _ _ (fun W => ∃ v, Below w.heap.size w W ∧ Kd.S (Kd.slice 9 Kd.string) 28 W (w1.heap.size + 1) (fun _ => True) v ((l.map tri).foldl chg sss) ∧ W.cell? ⟨w.heap.size + 1 + 1, 0, none⟩ = some v) (fun W => enters Try.func18 (by kernel_rfl) rfl _ W) ?_).mono ?_))
  · have hw1 := HB1.out.size
    have hz := HZ.out
    have hq := below_alloc (Below.refl w1.heap.size w1) (.cells #[.bool false] 4 (0, 0))
    have hqn := heap_alloc_new w1 (.cells #[.bool false] 4 (0, 0))
    have hqs : (w1.alloc (.cells #[.bool false] 4 (0, 0))).heap.size = w1.heap.size + 1 := World.size_alloc _ _
    have h0 := (hq.block w.heap.size (by omega)).trans ((HB1.out.block w.heap.size (by omega)).trans HA0.out)
    have h1 := (hq.block (w.heap.size + 1) (by omega)).trans ((HB1.out.block (w.heap.size + 1) (by omega)).trans HA1.out)
    have h2 := (hq.block (w.heap.size + 2) (by omega)).trans ((HB1.out.block (w.heap.size + 2) (by omega)).trans HA2.out)
    have hbq := (HB.out.trans (HB1.out.mono (by omega))).trans (hq.mono (by omega))
    generalize w1.alloc (.cells #[.bool false] 4 (0, 0)) = wq at *
    refine (changed_do A c sss B cm l w.heap.size (w.heap.size + 1) (w.heap.size + 2) wq HF.out HL.out HP.out (HR.out.below' (hbq.mono (Nat.le_refl _))) (Kd.C_below HC.out hbq) (cell_one h0) (cell_one h1) _ (cell_one h2) (frozen_one h2)).mono ?_
    rintro e W' ⟨rfl, W, v, hb, hs, rfl⟩
    have hne : ∀ k, k ≠ w.heap.size + 2 → (W.setCell ⟨w.heap.size + 2, 0, none⟩ v).heap[k]? = W.heap[k]? := fun k hk => Below.heap_setCell _ _ _ _ hk
    refine ⟨rfl, ?_, v, ((hbq.trans (hb.mono (by omega))).setCell (p := ⟨w.heap.size + 2, 0, none⟩) (by show w.heap.size ≤ w.heap.size + 2; omega) _), ?_, ?_⟩
    · rw [hne _ (by omega), hb.block _ (by omega)]
      exact hqn
    · rw [← hqs]
      exact Kd.S_step (Kd.S_mono (Kd.S_bound hs) (fun k hk => hk)) (fun k hk _ => hne k (by have := hk.2.1; omega)) |> fun h => Kd.S_mono h (fun _ _ => trivial)
    · exact World.cell?_setCell_same _ _ _ ((hb.cell (p := ⟨w.heap.size + 2, 0, none⟩) (by show w.heap.size + 2 < wq.heap.size; omega)).trans (cell_one h2))
  · rintro e w' ⟨rfl, W, ⟨v, hb, hs, hc⟩, h2, rfl⟩
    have hw1 := HB1.out.size
    have hz := HZ.out
    obtain ⟨A4, c4, rfl⟩ := Kd.S_slice hs
    have hc2 : (W.setCell ⟨w1.heap.size, 0, none⟩ (.bool false)).cell? ⟨w.heap.size + 1 + 1, 0, none⟩ = some (.slice A4 ((l.map tri).foldl chg sss).length c4) :=
      (World.cell?_of_block (Below.heap_setCell _ _ _ _ (by show w.heap.size + 1 + 1 ≠ w1.heap.size; omega))).trans hc
    have HS := Lib.hid (Kd.S_lower (Kd.S_mono (Kd.S_far (Kd.S_bound hs) (p := ⟨w1.heap.size, 0, none⟩) (fun k hk => by have := hk.2.1; show k ≠ w1.heap.size; omega) (.bool false)) (fun _ _ => trivial)) (show w.heap.size ≤ w1.heap.size + 1 by omega))
    have HB2 := Lib.hid (hb.setCell (p := ⟨w1.heap.size, 0, none⟩) (by show w.heap.size ≤ w1.heap.size; omega) (.bool false))
    clear hb hs hc h2 hw1 hz
    obtain ⟨zss, hzs⟩ : ∃ z, z = (l.map tri).foldl chg sss := ⟨_, rfl⟩
    rw [← hzs] at hc2 HS
    have HZ2 := Lib.hid hzs
    clear hzs
    go_wp2
    go_ret
    exact ⟨.slice A4 zss.length c4, rfl, by rw [← HZ2.out]; exact HS.out, HB2.out⟩
end Go.Proofs.Ytnhcocjdkmelhaa.Hand
