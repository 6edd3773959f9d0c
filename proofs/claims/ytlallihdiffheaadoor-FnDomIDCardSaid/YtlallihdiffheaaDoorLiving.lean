/- impl.AttributeOf, impl.AttributeOr, impl.NameOf, impl.AllNodes and laws.living29 by hand. -/
import Derived.Test.YtlallihdiffheaaDoorAllN
import Derived.Test.YtlallihdiffheaaDoorAttr
import Derived.Test.YtlallihdiffheaaDoorMadeA
import Derived.Test.YtlallihdiffheaaDoorPathOf
namespace Go.Proofs.YtlallihdiffheaaDoor.Dom
open Go.RowKit Go.Proofs.YtlallihdiffheaaDoorW.PrintWords Go.Proofs.YtlallihdiffheaaDoorW.PrintLast Go.Proofs.YtlallihdiffheaaDoorW.PrintMore Go.Proofs.YtlallihdiffheaaDoor.GT Go.Proofs.YtlallihdiffheaaDoor.Hand
set_option linter.unusedVariables false
set_option linter.unusedSimpArgs false

theorem attrOf_to (l : List (ByteArray × ByteArray)) : (l.map attrTo).map attrOf = l := by
  rw [List.map_map]
  exact List.map_id'' (fun _ => rfl) l
theorem made_attrs {x : Nd} {p : Pay} {ks : List Nd} (ht : nodeOf p ks = x) (hp : p.type = 3 ∨ p.attrs = []) : p.attrs = x.f3.map attrOf := by
  subst ht
  by_cases h3 : p.type = 3
  · unfold nodeOf
    rw [if_pos h3]
    exact (attrOf_to _).symm
  · have h0 := hp.resolve_left h3
    rw [h0]
    unfold nodeOf
    rw [if_neg h3]
    split
    · rfl
    · split <;> rfl
/-- The value of a key's attribute of a tree's root. -/
def seekA (key : ByteArray) (x : Nd) : Option ByteArray := seek key (x.f3.map attrOf)
section
variable {n : Nat} {x : Nd} (hx : Tn n x) (h0 : x.f0 = 0 ∨ x.f0 = 3) (w : World) (A3 A4 : Option Addr) (c3 c4 : Nat) (h3 : k29.C w A3 x.f3.length x.f3) (l3 : x.f3.length ≤ c3) (h4 : k25.C w A4 x.f4.length x.f4) (l4 : x.f4.length ≤ c4)
include hx h0 h3 l3 h4 l4
set_option maxRecDepth 100000 in
set_option maxHeartbeats 1600000 in
theorem nameOf_any (hf : x.f0 = 0) :
    Calls Tryd.prog 32 #[.agg #[.int .i64 x.f0, .string x.f1, .string x.f2, .slice A3 x.f3.length c3, .slice A4 x.f4.length c4]] w fun e w' => e = .returned (.string x.f1) ∧ Below w.heap.size w w' := by
  have H3 := Lib.hid h3
  have H4 := Lib.hid h4
  have HF := Lib.hid hf
  clear h3 h4 hf
  go_enter Tryd.func32, Tryd.ntmps32
  go_wp2_with (first
    | (go_at_call 31; refine (made_root hx h0 _ (fun _ => none) A3 A4 c3 c4 (Holds.empty _) (Kd.C_alloc H3.out _) l3 (Kd.C_alloc H4.out _) l4).mono ?_; rintro e w1 ⟨b, p, k, K, rfl, hm, hp⟩; have HM := Lib.hid hm; clear hm hp)
    | (go_at_call 58; refine (nodeName_any HM.out.holds HM.out.sits.1 (neat_type HM.out.neat)).mono ?_; rintro e w2 ⟨rfl, hb2⟩; have HB2 := Lib.hid hb2; clear hb2))
  go_ret
  refine ⟨?_, below_then (below_then (below_alloc (Below.refl _ _) _) (by rw [World.size_alloc]; omega) HM.out.below) (by have := HM.out.below.size; rw [World.size_alloc] at this; omega) HB2.out⟩
  have ht := HM.out.tells
  obtain ⟨q0, q1, q2, q3, q4⟩ := x
  have hf : q0 = 0 := HF.out
  subst hf
  have h3 := elem_type ht
  have e : nodeOf p (erase k) = ⟨0, p.data, ⟨#[]⟩, p.attrs.map attrTo, erase k⟩ := by unfold nodeOf; rw [if_pos h3]
  rw [e] at ht
  injection ht with _ e1
  show Ending.returned (Value.string (nameOf p)) = .returned (.string q1)
  unfold nameOf
  rw [if_pos h3, e1]
end
theorem subF_mem : ∀ (k : F Pay) (b : Nat) (p : Pay) (c : Nat), c ∈ k.blocks → ∃ (i : Nat) (is : List Int) (q : Pay) (ck : F Pay), subF b p k ((i : Int) :: is) = some (c, q, ck)
  | .nil, b, p, c, h => by cases h
  | .node b1 p1 k1 r1, b, p, c, h => by
    simp only [F.blocks, List.mem_cons, List.mem_append] at h
    rcases h with rfl | h | h
    · exact ⟨0, [], p1, k1, rfl⟩
    · obtain ⟨i, is, q, ck, h1⟩ := subF_mem k1 b1 p1 c h
      exact ⟨0, (i : Int) :: is, q, ck, by rw [subF, if_neg (by omega)]; exact h1⟩
    · obtain ⟨i, is, q, ck, h1⟩ := subF_mem r1 b p c h
      refine ⟨i + 1, is, q, ck, ?_⟩
      rw [subF, if_neg (by omega)] at h1 ⊢
      exact h1
theorem subF_all (k : F Pay) (b : Nat) (p : Pay) (c : Nat) (h : c ∈ b :: k.blocks) : ∃ is q ck, subF b p k is = some (c, q, ck) := by
  rcases List.mem_cons.1 h with rfl | h
  · exact ⟨[], p, k, rfl⟩
  · obtain ⟨i, is, q, ck, h1⟩ := subF_mem k b p c h
    exact ⟨_, q, ck, h1⟩
theorem _root_.Go.World.heap_lt {w : World} {g : Nat} {o : Obj} (h : w.heap[g]? = some o) : g < w.heap.size := (Array.getElem?_eq_some_iff.1 h).1
theorem infoInts : (Tryd.prog.info? 87).map (fun i => (i.zero, i.size, i.bytes)) = some (some (.slice none 0 0), 1, 24) := by kernel_rfl
/-- How many nodes there are. -/
theorem ptrs_cell {w : World} {base c : Nat} {A : Option Addr} {l : List Nat} (h : w.ownsRow base 49 1 (.slice A l.length c) l.length (ptrs l)) (j : Nat) (hj : j < l.length) : ∃ ad d, A = some ad ∧ l[j]? = some d ∧ w.cell? (ad.add j) = some (.pointer (some ⟨d, 0, none⟩)) := by
  obtain ⟨g, cap, he, _, _⟩ := h.form (by omega)
  injection he with he _ _
  subst he
  obtain ⟨d, hd⟩ : ∃ d, l[j]? = some d := ⟨_, List.getElem?_eq_getElem hj⟩
  exact ⟨_, d, rfl, hd, h.cells (g := g) rfl j _ (by simp [ptrs, hd])⟩
set_option maxRecDepth 100000 in
set_option maxHeartbeats 1600000 in
theorem implAllNodes_any {n : Nat} (hn : n ≤ 300) {x : Nd} (hx : Tn n x) (h0 : x.f0 = 0 ∨ x.f0 = 3) (w : World) (A3 A4 : Option Addr) (c3 c4 : Nat) (h3 : k29.C w A3 x.f3.length x.f3) (l3 : x.f3.length ≤ c3) (h4 : k25.C w A4 x.f4.length x.f4) (l4 : x.f4.length ≤ c4) :
    Calls Tryd.prog 33 #[.agg #[.int .i64 x.f0, .string x.f1, .string x.f2, .slice A3 x.f3.length c3, .slice A4 x.f4.length c4]] w fun e w' => ∃ A c, e = .returned (.slice A n c) ∧ Below w.heap.size w w' := by
  have H3 := Lib.hid h3
  have H4 := Lib.hid h4
  clear h3 h4
  go_enter Tryd.func33, Tryd.ntmps33
  go_wp2_with (first
    | (go_at_call 31; refine (made_root hx h0 _ (fun _ => none) A3 A4 c3 c4 (Holds.empty _) (Kd.C_alloc H3.out _) l3 (Kd.C_alloc H4.out _) l4).mono ?_; rintro e w1 ⟨b, p, k, K, rfl, hm, hp⟩; have HM := Lib.hid hm; have HB1 := Lib.hid (below_then (below_alloc (Below.refl w.heap.size w) (.cells #[.int .i64 x.f0, .string x.f1, .string x.f2, .slice A3 x.f3.length c3, .slice A4 x.f4.length c4] 25 (0, 0))) (by rw [World.size_alloc]; omega) hm.below); have HLEN := Lib.hid (node_tn hm.neat hm.tells hx).1; clear hm hp)
    | (go_at_call 59; refine (allNodes_any k b p K w1 HM.out.holds HM.out.sits (by have := HLEN.out; simp only [List.length_cons] at this; omega)).mono ?_; rw [HLEN.out]; rintro e w2 ⟨A, c, rfl, hown, hb2⟩; have HOWN := Lib.hid hown; have HB2 := Lib.hid hb2; clear hown hb2))
  have HBW := Lib.hid (below_then HB1.out HB1.out.size HB2.out)
  have HH := Lib.hid (HM.out.holds.below HB2.out)
  go_loopw [3, 10] (fun o0 j0 wr => ∃ (j : Nat) (vs : List Value) (v : Value), j0 = .int .i64 j ∧ j ≤ n ∧ vs.length = j ∧ o0 = v ∧ wr.ownsRow w2.heap.size 87 1 v j vs ∧ Below w2.heap.size w2 wr) (fun _ j0 _ => n - (intOf j0).toNat)
  case atStart => exact ⟨0, [], .slice none 0 0, rfl, Nat.zero_le _, rfl, rfl, own_nil _ _ _ _, Below.refl _ _⟩
  case round =>
    obtain ⟨j, vs, v, rfl, hj, hvs, rfl, hown, hb⟩ := hrel
    obtain ⟨Av, cv, rfl⟩ := own_slice hown
    by_cases hlt : j < n
    · obtain ⟨ad, d, rfl, hd, hcell⟩ : ∃ ad d, A = some ad ∧ (b :: k.blocks)[j]? = some d ∧ w2.cell? (ad.add j) = some (.pointer (some ⟨d, 0, none⟩)) := by
        have h := HOWN.out
        have e := HLEN.out
        rw [← e] at h
        exact ptrs_cell h j (by omega)
      have hcl := World.block_lt_of_cell? w2 _ hcell
      replace hcell := (hb.cell hcl).trans hcell
      obtain ⟨is, q, ck, hsub⟩ := subF_all k b p d (List.mem_of_getElem? hd)
      have HSUB := Lib.hid hsub
      have HB := Lib.hid hb
      have HO := Lib.hid hown
      have HVS := Lib.hid hvs
      have HBK := Lib.hid (show k.blocks.length ≤ 1000000 by have := HLEN.out; simp only [List.length_cons] at this; omega)
      clear hd hsub hb hown hvs
      go_wp2_with (first
        | (go_at_call 60; refine (pathOf_any (HH.out.below HB.out) HM.out.sits HM.out.neat HBK.out HSUB.out).mono ?_; rintro e w3 ⟨u, rfl, hrow, hb3⟩; obtain ⟨gu, cu, rfl, hu⟩ := hrow; have HB3 := Lib.hid hb3; have HO3 := Lib.hid (pw_own_below HO.out hb3); clear hb3 hu)
        | (at_builtin; refine wpList_append_one rfl w2.heap.size (.tmp 14) (.tmp 17) 51 87 _ 1 24 rfl Tryd.underlying51 infoInts rfl (.slice Av j cv) j vs [.slice (some ⟨gu, 0, none⟩) is.length cu] (by simp [Act.eval, Act.put]) (by simp [Act.eval, Act.put]) rfl (by simp [Value.oneCell']) HO3.out (by have := HB.out.size; have := HB3.out.size; omega) (by omega) (by omega) ?_; intro v1 w4 hown4 hg4 hv4; have HO4 := Lib.hid hown4; have HB4 := Lib.hid ((below_then HB.out HB.out.size HB3.out).grown hg4 (by have := HB.out.size; have := HB3.out.size; omega) (own_base HO3.out)); clear hown4 hg4 hv4))
      go_roundw
      case rel => exact ⟨j + 1, vs ++ [.slice (some ⟨gu, 0, none⟩) is.length cu], v1, by go_num, hlt, by rw [List.length_append, HVS.out]; rfl, rfl, HO4.out, HB4.out⟩
      case measure => simp [intOf]; omega
    · obtain rfl : j = n := by omega
      go_wp2
      go_ret
      exact ⟨Av, cv, rfl, below_then HBW.out HBW.out.size hb⟩
set_option maxRecDepth 100000 in
theorem text29_any (s : ByteArray) (w : World) :
    Calls Tryd.prog 16 #[.string s] w fun e w' => e = .returned (.agg #[.int .i64 1, .string ⟨#[]⟩, .string s, .slice none 0 0, .slice none 0 0]) ∧ Below w.heap.size w w' := by
  have hr : (w.alloc (.cells #[.int .i64 1, .string ⟨#[]⟩, .string s, .slice none 0 0, .slice none 0 0] 25 (0, 0))).heap[w.heap.size]? = some (.cells #[.int .i64 1, .string ⟨#[]⟩, .string s, .slice none 0 0, .slice none 0 0] 25 (0, 0)) := heap_alloc_new _ _
  have HR := Lib.hid hr
  clear hr
  go_enter Tryd.func16, Tryd.ntmps16
  go_wp2
  refine bodyPost_ret (results_cell_row rfl _ _ w.heap.size 25 #[.int .i64 1, .string ⟨#[]⟩, .string s, .slice none 0 0, .slice none 0 0] (0, 0) _ rfl HR.out Tryd.underlying25 rfl (by kernel_rfl)) rfl ?_
  exact ⟨rfl, below_alloc (Below.refl _ _) _⟩
set_option maxRecDepth 100000 in
theorem tag29_any (s : ByteArray) (A : Option Addr) (n c : Nat) (w : World) :
    Calls Tryd.prog 14 #[.string s, .slice A n c] w fun e w' => e = .returned (.agg #[.int .i64 0, .string s, .string ⟨#[]⟩, .slice none 0 0, .slice A n c]) ∧ Below w.heap.size w w' := by
  have hr : (w.alloc (.cells #[.int .i64 0, .string s, .string ⟨#[]⟩, .slice none 0 0, .slice A n c] 25 (0, 0))).heap[w.heap.size]? = some (.cells #[.int .i64 0, .string s, .string ⟨#[]⟩, .slice none 0 0, .slice A n c] 25 (0, 0)) := heap_alloc_new _ _
  have HR := Lib.hid hr
  clear hr
  go_enter Tryd.func14, Tryd.ntmps14
  go_wp2
  refine bodyPost_ret (results_cell_row rfl _ _ w.heap.size 25 #[.int .i64 0, .string s, .string ⟨#[]⟩, .slice none 0 0, .slice A n c] (0, 0) _ rfl HR.out Tryd.underlying25 rfl (by kernel_rfl)) rfl ?_
  exact ⟨rfl, below_alloc (Below.refl _ _) _⟩
def pB : ByteArray := ⟨#[112]⟩
def kidB : Nd := ⟨1, ⟨#[]⟩, ⟨#[97]⟩, [], []⟩
def liveB : Nd := ⟨0, pB, ⟨#[]⟩, [], [kidB]⟩
theorem tn_live : Tn 2 liveB := by
  have h := TnL.cons 1 0 kidB [] (.text _) .nil
  exact .elem 1 _ _ _ (by simp) h
theorem kid_C {w : World} {g : Nat} (hg : w.heap[g]? = some (.cells #[.int .i64 1, .string ⟨#[]⟩, .string ⟨#[97]⟩, .slice none 0 0, .slice none 0 0] 25 (0, 0))) : k25.C w (some ⟨g, 0, none⟩) 1 [kidB] := by
  refine ⟨rfl, by decide, fun _ => ⟨_, rfl, fun j q hj => ?_⟩⟩
  rcases j with _ | j
  · simp only [List.getElem?_cons_zero, Option.some.injEq] at hj
    subst hj
    refine ⟨_, rfl, k25_mk w kidB (A3 := none) (c3 := 0) (Nat.le_refl _) ⟨rfl, Nat.zero_le _, fun h => absurd h (Nat.lt_irrefl _)⟩ (A4 := none) (c4 := 0) (Nat.le_refl _) ⟨rfl, Nat.zero_le _, fun h => absurd h (Nat.lt_irrefl _)⟩, fun i u hu => ?_⟩
    rw [Nat.zero_mul, Nat.zero_add]
    have hb : ((⟨g, 0, none⟩ : Addr).add i) = ⟨g, i, none⟩ := by
      unfold Addr.add
      by_cases h0 : i = 0 <;> simp [h0]
    rw [hb]
    simp only [World.cell?, hg]
    have hu : [Value.int .i64 1, .string ⟨#[]⟩, .string ⟨#[97]⟩, .slice none 0 0, .slice none 0 0][i]? = some u := hu
    simpa using hu
  · simp at hj
theorem live_name {w : World} {g : Nat} (hg : w.heap[g]? = some (.cells #[.int .i64 1, .string ⟨#[]⟩, .string ⟨#[97]⟩, .slice none 0 0, .slice none 0 0] 25 (0, 0))) :
    Calls Tryd.prog 32 #[.agg #[.int .i64 0, .string ⟨#[112]⟩, .string ⟨#[]⟩, .slice none 0 0, .slice (some ⟨g, 0, none⟩) 1 1]] w fun e w' => e = .returned (.string ⟨#[112]⟩) ∧ Below w.heap.size w w' :=
  nameOf_any tn_live (.inl rfl) w none (some ⟨g, 0, none⟩) 0 1 ⟨rfl, Nat.zero_le _, fun h => absurd h (Nat.lt_irrefl _)⟩ (Nat.le_refl _) (kid_C hg) (Nat.le_refl _) rfl
theorem live_all {w : World} {g : Nat} (hg : w.heap[g]? = some (.cells #[.int .i64 1, .string ⟨#[]⟩, .string ⟨#[97]⟩, .slice none 0 0, .slice none 0 0] 25 (0, 0))) :
    Calls Tryd.prog 33 #[.agg #[.int .i64 0, .string ⟨#[112]⟩, .string ⟨#[]⟩, .slice none 0 0, .slice (some ⟨g, 0, none⟩) 1 1]] w fun e w' => ∃ A c, e = .returned (.slice A 2 c) ∧ Below w.heap.size w w' :=
  implAllNodes_any (by omega) tn_live (.inl rfl) w none (some ⟨g, 0, none⟩) 0 1 ⟨rfl, Nat.zero_le _, fun h => absurd h (Nat.lt_irrefl _)⟩ (Nat.le_refl _) (kid_C hg) (Nat.le_refl _)
set_option maxRecDepth 100000 in
set_option maxHeartbeats 1600000 in
theorem living_any (w : World) : Calls Tryd.prog 11 #[] w fun e w' => e = .returned (.bool true) ∧ Below w.heap.size w w' := by
  go_enter Tryd.func11, Tryd.ntmps11
  go_wp2_with (first
    | (go_at_call 16; refine (text29_any _ _).mono ?_; rintro e w1 ⟨rfl, hb1⟩; have HB1 := Lib.hid hb1; clear hb1)
    | (go_at_call 14; refine (tag29_any _ _ _ _ _).mono ?_; rintro e w2 ⟨rfl, hb2⟩; have hk2 := (hb2.block w1.heap.size (by rw [World.size_alloc]; omega)).trans (heap_alloc_new w1 (.cells #[.int .i64 1, .string ⟨#[]⟩, .string ⟨#[97]⟩, .slice none 0 0, .slice none 0 0] 25 (0, 0))); have HK2 := Lib.hid hk2; have HB2 := Lib.hid (below_then (below_alloc HB1.out (.cells #[.int .i64 1, .string ⟨#[]⟩, .string ⟨#[97]⟩, .slice none 0 0, .slice none 0 0] 25 (0, 0))) (by rw [World.size_alloc]; have := HB1.out.size; omega) hb2); clear hb2 hk2)
    | (go_at_call 32; refine (live_name (w := w2.alloc _) (g := w1.heap.size) (by rw [Below.heap_alloc _ _ _ (World.heap_lt HK2.out)]; exact HK2.out)).mono ?_; rintro e w3 ⟨rfl, hb3⟩; have hn3 := (hb3.block w2.heap.size (by rw [World.size_alloc]; omega)).trans (heap_alloc_new w2 (.cells #[.int .i64 0, .string ⟨#[112]⟩, .string ⟨#[]⟩, .slice none 0 0, .slice (some ⟨w1.heap.size, 0, none⟩) 1 1] 25 (0, 0))); have hk3 := (hb3.block w1.heap.size (by rw [World.size_alloc]; have := World.heap_lt HK2.out; omega)).trans ((Below.heap_alloc w2 (.cells #[.int .i64 0, .string ⟨#[112]⟩, .string ⟨#[]⟩, .slice none 0 0, .slice (some ⟨w1.heap.size, 0, none⟩) 1 1] 25 (0, 0)) _ (World.heap_lt HK2.out)).trans HK2.out); obtain ⟨m0, -⟩ := out_cell hn3 0; obtain ⟨m1, -⟩ := out_cell hn3 1; obtain ⟨m2, -⟩ := out_cell hn3 2; obtain ⟨m3, -⟩ := out_cell hn3 3; obtain ⟨m4, -⟩ := out_cell hn3 4; simp only [List.getElem?_toArray, List.getElem?_cons_succ, List.getElem?_cons_zero] at m0 m1 m2 m3 m4; have HK3 := Lib.hid hk3; have HB3 := Lib.hid (below_then (below_alloc HB2.out (.cells #[.int .i64 0, .string ⟨#[112]⟩, .string ⟨#[]⟩, .slice none 0 0, .slice (some ⟨w1.heap.size, 0, none⟩) 1 1] 25 (0, 0))) (by rw [World.size_alloc]; have := HB2.out.size; omega) hb3); clear hb3 hn3 hk3)
    | (go_at_call 33; refine (live_all HK3.out).mono ?_; rintro e w4 ⟨A, c, rfl, hb4⟩; have HB4 := Lib.hid (below_then HB3.out HB3.out.size hb4); clear hb4))
  go_ret
  exact ⟨rfl, HB4.out⟩
end Go.Proofs.YtlallihdiffheaaDoor.Dom
