/- impl.made by hand: elements with attributes; whole trees. -/
import Derived.Test.YtlallihdiffheaaDoorTree
import Derived.Test.YtlallihdiffheaaDoorFine
import Derived.Deep.RegionLaw
namespace Go.Proofs.YtlallihdiffheaaDoor.Hand
open Go.RowKit Go.Proofs.YtlallihdiffheaaDoorW.PrintWords Go.Proofs.YtlallihdiffheaaDoorW.PrintLast Go.Proofs.YtlallihdiffheaaDoor.GT
set_option linter.unusedVariables false
set_option linter.unusedSimpArgs false

theorem infoAttribute : (Tryd.prog.info? 83).map (fun i => (i.zero, i.size, i.bytes)) = some (some (.agg #[.string ⟨#[]⟩, .string ⟨#[]⟩, .string ⟨#[]⟩]), 3, 48) := by kernel_rfl
/-- On the way: the element's attributes, one by one. -/
structure Grow0 (w : World) (b : Nat) (z : Int) (name : ByteArray) (v : Value) (l : List At) (wr : World) : Prop where
  node : wr.heap[b]? = some (.cells (NR.cells ⟨none, none, none, none, none, ⟨3, z, name, v, l.map attrOf⟩⟩) 81 (0, 0))
  own : wr.ownsRow (w.heap.size + 2) 83 3 v l.length (attrCells (l.map attrOf))
  below : Below w.heap.size w wr
  size : w.heap.size + 2 ≤ wr.heap.size
theorem Grow0.grow {w wr : World} {H : NMap} {b : Nat} {z : Int} {name : ByteArray} {v : Value} {l : List At} (h : Grow0 w b z name v l wr) (hw : Holds w H) (hb : b = w.heap.size + 1) :
    Grow H w b ⟨3, z, name, v, l.map attrOf⟩ .nil (upd H b ⟨none, none, none, none, none, ⟨3, z, name, v, l.map attrOf⟩⟩) wr := by
  have hB := hw.below h.below
  refine ⟨⟨fun k r hr => ?_, fun k r hr => ?_⟩, ⟨upd_same _ _ _, trivial, trivial⟩, by simp [F.blocks], fun c hc => ?_, fun c hc => ?_, h.below⟩
  · by_cases hk : k = b
    · subst hk
      rw [upd_same] at hr
      obtain rfl := Option.some.inj hr
      exact h.node
    · rw [upd_other _ _ hk] at hr
      exact hB.node k r hr
  · by_cases hk : k = b
    · subst hk
      rw [upd_same] at hr
      obtain rfl := Option.some.inj hr
      have := own_weaken h.own (base' := 0) (Nat.zero_le _)
      simpa [AttrsAt] using this
    · rw [upd_other _ _ hk] at hr
      exact hB.attrs k r hr
  · simp only [F.blocks, List.mem_singleton] at hc
    omega
  · simp only [F.blocks, List.mem_singleton] at hc
    exact upd_other _ _ hc
theorem Grow0.move {w w1 w2 : World} {b : Nat} {z : Int} {name : ByteArray} {v : Value} {l : List At} (h : Grow0 w b z name v l w1) (hb : b < w1.heap.size) (hB : Below w1.heap.size w1 w2) : Grow0 w b z name v l w2 :=
  ⟨(hB.block b hb).trans h.node, pw_own_below h.own hB, below_then h.below h.below.size hB, Nat.le_trans h.size hB.size⟩
theorem grow0_new (w : World) (X : Obj) (z : Int) (name : ByteArray) (b : Nat) (hb : b = w.heap.size + 1) :
    Grow0 w b z name (.slice none 0 0) [] ((w.alloc X).alloc (.cells (NR.cells ⟨none, none, none, none, none, ⟨3, z, name, .slice none 0 0, []⟩⟩) 81 (0, 0))).drew := by
  subst hb
  refine ⟨?_, own_nil _ _ _ _, (below_alloc (below_alloc (Below.refl _ _) _) _).drew, by simp⟩
  have h := heap_alloc_new (w.alloc X) (.cells (NR.cells ⟨none, none, none, none, none, ⟨3, z, name, .slice none 0 0, []⟩⟩) 81 (0, 0))
  rw [World.size_alloc] at h
  exact h
theorem nodeOf_elem (z : Int) (name : ByteArray) (v : Value) (attrs : List At) (ks : List Nd) : nodeOf ⟨3, z, name, v, attrs.map attrOf⟩ ks = ⟨0, name, ⟨#[]⟩, attrs, ks⟩ := by
  unfold nodeOf
  rw [if_pos rfl, attrTo_of]
theorem attrs_take (l : List At) (j : Nat) (h : j < l.length) : l.take (j + 1) = l.take j ++ [rd_T29 l (j : Int)] := by
  rw [List.take_add_one, List.getElem?_eq_getElem h]
  simp [rd_T29, h]
theorem Grow0.push {w wr w2 : World} {b j cv c1 : Nat} {z : Int} {name : ByteArray} {Av A1 : Option Addr} {attrs : List At} {y : At} (h : Grow0 w b z name (.slice Av j cv) (attrs.take j) wr) (hb : b = w.heap.size + 1) (hj : j < attrs.length) (hty : attrs.take (j + 1) = attrs.take j ++ [y])
    (hb2 : Below (w.heap.size + 2) wr w2) (hown : w2.ownsRow (w.heap.size + 2) 83 3 (.slice A1 (j + 1) c1) (j + 1) (attrCells ((attrs.take j).map attrOf) ++ [.string ⟨#[]⟩, .string y.f0, .string y.f1])) :
    Grow0 w b z name (.slice A1 (j + 1) c1) (attrs.take (j + 1)) (w2.setCell ⟨b, 9, none⟩ (.slice A1 (j + 1) c1)) := by
  have hbo : b < w.heap.size + 2 := by omega
  have hno := (hb2.block b hbo).trans h.node
  refine ⟨?_, ?_, ?_, ?_⟩
  · rw [hty]
    exact Lib.heap_setCell_same hno (.slice A1 (j + 1) c1)
  · have e : (attrs.take (j + 1)).length = j + 1 := by rw [List.length_take]; omega
    rw [e, hty, List.map_append, attrCells_append]
    exact ownsRow_setCell_below hown (by show b < _; exact hbo) _
  · exact (h.below.trans (hb2.mono (by omega))).setCell (by show _ ≤ b; omega) _
  · have := hb2.size
    have := h.size
    rw [World.size_setCell]
    omega
set_option maxRecDepth 100000 in
set_option maxHeartbeats 3200000 in
theorem made_elem (name : ByteArray) (attrs : List At) (kids : List Nd) (w : World) (H : NMap) (A3 A4 : Option Addr) (c3 c4 : Nat) (hw : Holds w H) (ha : attrs.length ≤ 4398046511104) (h3 : k29.C w A3 attrs.length attrs)
    (hk : k25.C w A4 kids.length kids) (hc : kids.length ≤ c4) (ih : MadeIH kids) :
    Calls Tryd.prog 31 #[.agg #[.int .i64 0, .string name, .string ⟨#[]⟩, .slice A3 attrs.length c3, .slice A4 kids.length c4]] w (MadePost ⟨0, name, ⟨#[]⟩, attrs, kids⟩ H w) := by
  have HW := Lib.hid hw
  have HK := Lib.hid hk
  have H3 := Lib.hid h3
  have hmax : kids.length ≤ 9223372036854775807 := hk.2.1
  have HI := Lib.hid ih
  clear hw hk ih h3
  go_enter Tryd.func31, Tryd.ntmps31
  go_wp2_with fail
  go_region_with (go_at_call 56; refine (zzAtom_any _ _).mono ?_; rintro e w1 ⟨rfl, rfl⟩)
  all_goals (
    go_wp2
    obtain ⟨b, hb⟩ : ∃ b, b = w.heap.size + 1 := ⟨_, rfl⟩
    rw [← hb]
    have HB := Lib.hid hb
    clear hb
    go_loopw [24] (fun k0 wr => ∃ (j : Nat) (v : Value), k0 = .int .i64 j ∧ j ≤ attrs.length ∧ wr.cell? ⟨w.heap.size, 4, none⟩ = some (.slice A4 kids.length c4) ∧ Grow0 w b (zzA name) name v (attrs.take j) wr) (fun k0 _ => attrs.length - (intOf k0).toNat)
    case atStart =>
      refine ⟨0, .slice none 0 0, rfl, Nat.zero_le _, ?_, ?_⟩
      · rw [World.cell?_drew, World.cell?_alloc_lt _ _ _ (by simp), World.cell?_alloc_new]
        rfl
      · exact grow0_new w _ _ _ b HB.out
    case round =>
      obtain ⟨j, v, rfl, hj, hcell, hg⟩ := hrel
      by_cases hlt : j < attrs.length
      · have hjl : (attrs.take j).length = j := by rw [List.length_take]; omega
        obtain ⟨Av, cv, rfl⟩ : ∃ A c, v = .slice A j c := by
          obtain ⟨A, c, h⟩ := own_slice hg.own
          rw [hjl] at h
          exact ⟨A, c, h⟩
        obtain ⟨ad, rfl, q0, q1⟩ := at_T29 (Kd.C_below H3.out hg.below) (j : Int) (by omega) (by omega)
        have hty := attrs_take attrs j hlt
        obtain ⟨y, hy⟩ : ∃ y, y = rd_T29 attrs (j : Int) := ⟨_, rfl⟩
        rw [← hy] at q0 q1 hty
        clear hy
        simp only [Int.toNat_natCast] at q0 q1
        have hown := hg.own
        rw [hjl] at hown
        have HJL := Lib.hid hjl
        clear hjl
        have HTY := Lib.hid hty
        have HG := Lib.hid hg
        have hbl : b < wr.heap.size := by have := HB.out; have := hg.size; omega
        obtain ⟨n9, fn9⟩ := out_cell hg.node 9
        simp only [NR.cells, List.getElem?_toArray, List.getElem?_cons_succ, List.getElem?_cons_zero] at n9
        have HAL := Lib.hid (hown.alloc (.cells #[.string y.f0, .string y.f1] 29 (0, 0))).drew
        have hsz := HG.out.size
        have hbo : b < w.heap.size + 2 := by have := HB.out; omega
        have HBW := Lib.hid ((below_alloc (Below.refl wr.heap.size wr) (.cells #[.string y.f0, .string y.f1] 29 (0, 0))).drew.mono hsz)
        have HCE := Lib.hid hcell
        clear hg hty hown hcell
        go_wp2
        go_region_law (
            (refine step_append_fine (w0 := wr) (W := (wr.alloc (.cells #[.string y.f0, .string y.f1] 29 (0, 0))).drew) (w.heap.size + 2) rfl (.tmp 32) (.tmp 38) 79 83 _ 3 48 rfl Tryd.underlying79 infoAttribute rfl (.slice Av j cv) j (attrCells ((attrs.take j).map attrOf)) [.string ⟨#[]⟩, .string y.f0, .string y.f1] (by simp [Act.eval, Act.put]) (by simp [Act.eval, Act.put]) rfl (by simp [Value.oneCell']) HAL.out HBW.out (by simp; omega) (by omega) (by omega) ?_
             intro v1 w2 hown hb2 hg hv2
             obtain ⟨A1, c1, rfl⟩ := own_slice hown
             have hno2 := (hb2.block b hbo).trans HG.out.node
             obtain ⟨m9, fm9⟩ := out_cell hno2 9
             simp only [NR.cells, List.getElem?_toArray, List.getElem?_cons_succ, List.getElem?_cons_zero] at m9
             have HNO := Lib.hid hno2
             have HOWN := Lib.hid hown
             have HB2 := Lib.hid hb2
             clear hown hb2 hg hv2 hno2))
        all_goals (
          go_wp2
          go_roundw
          case rel =>
            refine ⟨j + 1, .slice A1 (j + 1) c1, by go_num, hlt, ?_, HG.out.push HB.out hlt HTY.out HB2.out HOWN.out⟩
            rw [World.cell?_setCell_other _ _ _ _ (by intro e; injection e with e1 e2; omega)]
            exact (HB2.out.cell (p := ⟨w.heap.size, 4, none⟩) (by show w.heap.size < _; omega)).trans HCE.out
          case measure => simp [intOf]; omega)
      · obtain rfl : j = attrs.length := by omega
        rw [List.take_length] at hg
        have HGa := Lib.hid (hg.grow HW.out HB.out)
        obtain ⟨p, hp⟩ : ∃ p : Pay, p = ⟨3, zzA name, name, v, attrs.map attrOf⟩ := ⟨_, rfl⟩
        rw [← hp] at HGa
        have HP := Lib.hid hp
        clear hp hg HB
        go_wp2
        go_loopw [58] (fun k0 wr => ∃ (j : Nat) (f : F Pay) (K : NMap), k0 = .int .i64 j ∧ j ≤ kids.length ∧ (erase f = kids.take j ∧ Neat f) ∧ Grow H w b p f K wr) (fun k0 _ => kids.length - (intOf k0).toNat)
        case atStart => exact ⟨0, .nil, _, rfl, Nat.zero_le _, ⟨rfl, trivial⟩, HGa.out⟩
        case round =>
          obtain ⟨j, f, K, rfl, hj, he, hg⟩ := hrel
          have HE := Lib.hid he
          have HGr := Lib.hid hg
          clear he hg hcell
          by_cases hlt : j < kids.length
          · obtain ⟨ad, A3', c3', A4', c4', rfl, q0, q1, q2, q3, q4, l3, g3, l4, g4⟩ := at_T25 (Kd.C_below HK.out HGr.out.below) (j : Int) (by omega) (by omega)
            have hy := kids_mem kids j hlt
            have hks := kids_take kids j hlt
            generalize rd_T25 kids (j : Int) = y at *
            simp only [Int.toNat_natCast] at q0 q1 q2 q3 q4
            have HY := Lib.hid hy
            have HKS := Lib.hid hks
            have HL3 := Lib.hid (And.intro l3 g3)
            have HL4 := Lib.hid (And.intro l4 g4)
            have HG1 := Lib.hid (HGr.out.moved (below_alloc (Below.refl _ _) (.cells #[.int .i64 y.f0, .string y.f1, .string y.f2, .slice A3' y.f3.length c3', .slice A4' y.f4.length c4'] 25 (0, 0))))
            have HC3 := Lib.hid (Kd.C_alloc g3 (.cells #[.int .i64 y.f0, .string y.f1, .string y.f2, .slice A3' y.f3.length c3', .slice A4' y.f4.length c4'] 25 (0, 0)))
            have HC4 := Lib.hid (Kd.C_alloc g4 (.cells #[.int .i64 y.f0, .string y.f1, .string y.f2, .slice A3' y.f3.length c3', .slice A4' y.f4.length c4'] 25 (0, 0)))
            clear hy hks l3 l4 g3 g4
            go_wp2_with (first
              | (go_at_call 31; refine (HI.out y HY.out _ K A3' A4' c3' c4' HG1.out.holds HC3.out HL3.out.1 HC4.out HL4.out.1).mono ?_; rintro e w2 ⟨c, q, ck, L, rfl, hm⟩; have HM := Lib.hid hm; clear hm)
              | (go_at_call 57; have hasks := HG1.out.asks HM.out; refine (appendChild_any HM.out.holds hasks.1 hasks.2.1 hasks.2.2.1 hasks.2.2.2).mono ?_; rintro e w3 ⟨rfl, ht⟩; have HT := Lib.hid ht; clear ht hasks))
            go_roundw
            case rel =>
              refine ⟨j + 1, f.app (.node c q ck .nil), _, by go_num, hlt, ?_, HG1.out.append HM.out HT.out⟩
              refine ⟨?_, (neat_app _ _).2 ⟨HE.out.2, HM.out.neat⟩⟩
              rw [erase_app, HE.out.1, HKS.out]
              simp only [erase, HM.out.tells]
            case measure => simp [intOf]; omega
          · obtain rfl : j = kids.length := by omega
            go_wp2
            go_ret
            have hE := HE.out.1
            rw [List.take_length] at hE
            exact ⟨b, p, f, K, rfl, HGr.out.made (by rw [hE, HP.out]; exact nodeOf_elem _ _ _ _ _) ⟨by rw [HP.out]; simp, HE.out.2, trivial⟩⟩)
theorem made_tree {n : Nat} {x : Nd} (hx : Tn n x) : ∀ (w : World) (H : NMap) (A3 A4 : Option Addr) (c3 c4 : Nat), Holds w H → k29.C w A3 x.f3.length x.f3 → x.f3.length ≤ c3 → k25.C w A4 x.f4.length x.f4 → x.f4.length ≤ c4 →
      Calls Tryd.prog 31 #[.agg #[.int .i64 x.f0, .string x.f1, .string x.f2, .slice A3 x.f3.length c3, .slice A4 x.f4.length c4]] w (MadePost x H w) := by
  induction n using Nat.strongRecOn generalizing x with
  | _ n ih =>
    have key : ∀ (l : List Nd) (m : Nat), m < n → TnL m l → MadeIH l := fun l m hm hl y hy => by
      obtain ⟨j, hj, h⟩ := hl.mem y hy
      exact ih j (by omega) h
    intro w H A3 A4 c3 c4 hw h3 l3 h4 l4
    cases hx with
    | elem m name attrs kids ha h => exact made_elem name attrs kids w H A3 A4 c3 c4 hw ha h3 h4 l4 (key kids m (by omega) h)
    | text t => exact made_text t w H A3 A4 c3 c4 hw
    | comment t => exact made_comment t w H A3 A4 c3 c4 hw
    | doc m kids h => exact (made_doc kids w H A3 A4 c3 c4 hw h4 l4 (key kids m (by omega) h)).mono fun _ _ h => h.post
theorem elem_type {p : Pay} {ks : List Nd} {q1 q2 : ByteArray} {q3 : List At} {q4 : List Nd} (h : nodeOf p ks = ⟨0, q1, q2, q3, q4⟩) : p.type = 3 := by
  unfold nodeOf at h
  split at h
  · assumption
  · split at h
    · injection h with h
      exact absurd h (by decide)
    · split at h
      · injection h with h
        exact absurd h (by decide)
      · injection h with h
        exact absurd h (by decide)
/-- The root of a tree of the dom's laws. -/
theorem made_root {n : Nat} {x : Nd} (hx : Tn n x) (h0 : x.f0 = 0 ∨ x.f0 = 3) (w : World) (H : NMap) (A3 A4 : Option Addr) (c3 c4 : Nat) (hw : Holds w H) (h3 : k29.C w A3 x.f3.length x.f3) (l3 : x.f3.length ≤ c3) (h4 : k25.C w A4 x.f4.length x.f4) (l4 : x.f4.length ≤ c4) :
      Calls Tryd.prog 31 #[.agg #[.int .i64 x.f0, .string x.f1, .string x.f2, .slice A3 x.f3.length c3, .slice A4 x.f4.length c4]] w (MadePostA x H w) := by
  have hall := made_tree hx w H A3 A4 c3 c4 hw h3 l3 h4 l4
  cases hx with
  | elem m name attrs kids ha h =>
    refine hall.mono fun e w' h => ?_
    obtain ⟨b, p, k, K, h1, h2⟩ := h
    exact ⟨b, p, k, K, h1, h2, .inl (elem_type h2.tells)⟩
  | text t => rcases h0 with h0 | h0 <;> simp at h0
  | comment t => rcases h0 with h0 | h0 <;> simp at h0
  | doc m kids h => exact made_doc kids w H A3 A4 c3 c4 hw h4 l4 (fun y hy => by
      obtain ⟨j, _, h⟩ := h.mem y hy
      exact made_tree h)
end Go.Proofs.YtlallihdiffheaaDoor.Hand
