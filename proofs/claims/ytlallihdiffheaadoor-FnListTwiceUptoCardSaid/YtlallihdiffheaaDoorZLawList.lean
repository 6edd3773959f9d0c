import Derived.Test.YtlallihdiffheaaDoorGTx3
import Derived.Test.YtlallihdiffheaaDoorZLtPure
import Derived.Test.YtlallihdiffheaaDoorGTx2
import Derived.Test.YtlallihdiffheaaDoorZLtImpl
section
/- spec.Tree has an answer for each light tree, and what it lets through is right. Plain, over the printed functions. -/
namespace Go.Proofs.YtlallihdiffheaaDoor.Hand
open Go.RowKit Go.Proofs.YtlallihdiffheaaDoor.GT Go.Proofs.YtlallihdiffheaaDoorW.PrintWords Go.Proofs.YtlallihdiffheaaDoorW.PrintLast
set_option linter.unusedVariables false
set_option linter.unusedSimpArgs false

theorem one_loop (s : ByteArray) (l : List ByteArray) (hl : l.length ≤ 1000000) : ∀ (k i : Nat), l.length - i < k → i ≤ l.length → ∃ r, spec_one.l0 k s l (l.length : Int) (i : Int) = some r
  | 0, i, h, _ => by omega
  | k + 1, i, h, hi => by
    by_cases hc : i < l.length
    · have hw : wrap64 ((i : Int) + 1) = ((i + 1 : Nat) : Int) := by unfold wrap64; omega
      obtain ⟨r2, hr2⟩ := one_loop s l hl k (i + 1) (by omega) (by omega)
      rw [spec_one.l0, if_pos (by omega), if_pos (by omega), if_pos (by omega), hw, hr2]
      split <;> exact ⟨_, rfl⟩
    · rw [spec_one.l0, if_neg (by omega)]
      exact ⟨_, rfl⟩
theorem one_tot (s : ByteArray) (l : List ByteArray) (hl : l.length ≤ 1000000) (k : Nat) (hk : l.length < k) : ∃ r, spec_one.f k s l = some r := one_loop s l hl k 0 (by omega) (by omega)
theorem named_tot (x : Nt) (l : List ByteArray) (hl : l.length ≤ 1000000) (k : Nat) (hk : l.length < k) : ∃ r, spec_named.f k x.f0 x.f1 x.f2 x.f3 x.f4 l = some r := by
  obtain ⟨r, hr⟩ := one_tot x.f1 l hl k hk
  unfold spec_named.f
  split
  · rw [hr]; exact ⟨_, rfl⟩
  · exact ⟨_, rfl⟩
theorem blank_loop (x : Nt) (hx : x.f2.size ≤ 10000000) : ∀ (k i : Nat), x.f2.size - i + 7 ≤ k → i ≤ x.f2.size → ∃ r, spec_blank.l0 k (i : Int) x.f0 x.f1 x.f2 x.f3 x.f4 = some r
  | 0, i, h, _ => by omega
  | k + 1, i, h, hi => by
    by_cases hc : i < x.f2.size
    · have hw : wrap64 ((i : Int) + 1) = ((i + 1 : Nat) : Int) := by unfold wrap64; omega
      obtain ⟨r2, hr2⟩ := blank_loop x hx k (i + 1) (by omega) (by omega)
      rw [spec_blank.l0, if_pos (by omega), if_pos (by omega), hw, if_pos (by omega), if_pos (by omega)]
      obtain ⟨r1, hr1⟩ := one_tot (x.f2.extract (i : Int).toNat (((i + 1 : Nat) : Int)).toNat) [(⟨#[32]⟩ : ByteArray), (⟨#[10]⟩ : ByteArray), (⟨#[9]⟩ : ByteArray), (⟨#[13]⟩ : ByteArray), (⟨#[12]⟩ : ByteArray)] (by simp) k (by simp only [List.length_cons, List.length_nil]; omega)
      rw [hr1, Option.bind_some, hr2]
      split <;> exact ⟨_, rfl⟩
    · rw [spec_blank.l0, if_neg (by omega)]
      exact ⟨_, rfl⟩
theorem blank_tot (x : Nt) (hx : x.f2.size ≤ 10000000) (k : Nat) (hk : x.f2.size + 7 ≤ k) : ∃ r, spec_blank.f k x.f0 x.f1 x.f2 x.f3 x.f4 = some r := by
  unfold spec_blank.f
  split
  · exact blank_loop x hx k 0 (by omega) (by omega)
  · exact ⟨_, rfl⟩
theorem solid_loop (x : Nt) (hx : x.f2.size ≤ 10000000) : ∀ (k i : Nat), x.f2.size - i + (x.f2.size + 8) ≤ k → i ≤ x.f2.size → ∃ r, spec_solid.l0 k (i : Int) x.f0 x.f1 x.f2 x.f3 x.f4 = some r
  | 0, i, h, _ => by omega
  | k + 1, i, h, hi => by
    by_cases hc : i < x.f2.size
    · have hw : wrap64 ((i : Int) + 1) = ((i + 1 : Nat) : Int) := by unfold wrap64; omega
      obtain ⟨r2, hr2⟩ := solid_loop x hx k (i + 1) (by omega) (by omega)
      rw [spec_solid.l0, if_pos (by omega), if_pos (by omega), hw, hr2]
      split
      · split <;> exact ⟨_, rfl⟩
      · exact ⟨_, rfl⟩
    · obtain ⟨r, hr⟩ := blank_tot x hx k (by omega)
      rw [spec_solid.l0, if_neg (by omega), hr]
      exact ⟨_, rfl⟩
theorem solid_tot (x : Nt) (hx : x.f2.size ≤ 10000000) (k : Nat) (hk : 2 * x.f2.size + 8 ≤ k) : ∃ r, spec_solid.f k x.f0 x.f1 x.f2 x.f3 x.f4 = some r := solid_loop x hx k 0 (by omega) (by omega)
/-- What spec.Tree shows of a tree. -/
def Ans (o : Option Bool) (P : Prop) : Prop := ∃ r, o = some r ∧ (r = true → P)
theorem Ans.no (P : Prop) : Ans (some false) P := ⟨false, rfl, fun h => by cases h⟩
def TK (x : Nt) : Prop := noDoc x ∧ ∃ n, Tn n x
def TKs (l : List Nt) : Prop := noDocs l ∧ ∃ n, TnL n l
theorem tree_loop (m : List Nt) (d : Int) (hm : wNs m ≤ 10000000) (ih : ∀ y ∈ m, ∀ k d, 10 * wN y ≤ k → Ans (spec_Tree.f k y.f0 y.f1 y.f2 y.f3 y.f4 d) (TK y)) : ∀ (e k j : Nat), m.length - j = e → j ≤ m.length → 10 * wNs (m.drop j) + 1 ≤ k → Ans (spec_Tree.l0 k d m (m.length : Int) (j : Int)) (TKs (m.drop j))
  | e, 0, j, h1, h2, h3 => by omega
  | 0, k + 1, j, h1, h2, h3 => by
    rw [spec_Tree.l0, if_neg (by omega), List.drop_eq_nil_of_le (by omega)]
    exact ⟨true, rfl, fun _ => ⟨by rw [noDocs]; trivial, 0, .nil⟩⟩
  | e + 1, k + 1, j, h1, h2, h3 => by
    have hlt : j < m.length := by omega
    have hml := wNs_len m
    have hw : wrap64 ((j : Int) + 1) = ((j + 1 : Nat) : Int) := by unfold wrap64; omega
    have hrd : rd_T25 m (j : Int) = m[j]'hlt := by
      unfold rd_T25
      simp [hlt]
    have hdrop : m.drop j = (m[j]'hlt) :: m.drop (j + 1) := List.drop_eq_getElem_cons hlt
    have hy := wN_pos (m[j]'hlt)
    rw [hdrop, wNs] at h3
    obtain ⟨r1, hr1⟩ := named_tot (m[j]'hlt) [(⟨#[98, 111, 100, 121]⟩ : ByteArray)] (by simp) k (by simp only [List.length_cons, List.length_nil]; omega)
    obtain ⟨r2, hr2, hp2⟩ := ih (m[j]'hlt) (List.getElem_mem _) k (wrap64 (d - 1)) (by omega)
    obtain ⟨r3, hr3, hp3⟩ := tree_loop m d hm ih e k (j + 1) (by omega) (by omega) (by omega)
    rw [spec_Tree.l0, if_pos (by omega), if_pos (by omega), if_pos (by omega), hrd, hr1, Option.bind_some, hr2, Option.bind_some, hw, hr3, hdrop]
    cases r1 with
    | true => exact Ans.no _
    | false =>
      cases r2 with
      | false => exact Ans.no _
      | true =>
        refine ⟨r3, rfl, fun h => ?_⟩
        obtain ⟨a1, n1, a2⟩ := hp2 rfl
        obtain ⟨b1, n2, b2⟩ := hp3 h
        exact ⟨by rw [noDocs]; exact ⟨a1, b1⟩, n1 + n2, .cons _ _ _ _ a2 b2⟩
theorem empty_of {s : ByteArray} (h : s.toList = []) : s = ⟨#[]⟩ := by
  rw [ByteArray.toList_eq] at h
  exact Go.WideShapes.bytes_inj (by rw [h])
theorem tree_any : ∀ (N : Nat) (x : Nt), wN x ≤ N → N ≤ 10000000 → ∀ (k : Nat) (d : Int), 10 * wN x ≤ k → Ans (spec_Tree.f k x.f0 x.f1 x.f2 x.f3 x.f4 d) (TK x)
  | 0, x, h, _, _, _ => by have := wN_pos x; omega
  | N + 1, x, h, hN, k, d => by
    intro hk
    have hp := wN_pos x
    have he := wN_eq x
    have ha := wA_len x.f3
    have hll := wNs_len x.f4
    simp only [wS] at he
    obtain ⟨k, rfl⟩ : ∃ m, k = m + 3 := ⟨k - 3, by omega⟩
    obtain ⟨r1, hr1⟩ := one_tot x.f1 [(⟨#[98, 111, 100, 121]⟩ : ByteArray), (⟨#[100, 105, 118]⟩ : ByteArray), (⟨#[112]⟩ : ByteArray), (⟨#[117, 108]⟩ : ByteArray), (⟨#[111, 108]⟩ : ByteArray), (⟨#[108, 105]⟩ : ByteArray), (⟨#[98, 108, 111, 99, 107, 113, 117, 111, 116, 101]⟩ : ByteArray), (⟨#[112, 114, 101]⟩ : ByteArray), (⟨#[99, 111, 100, 101]⟩ : ByteArray), (⟨#[104, 49]⟩ : ByteArray), (⟨#[104, 50]⟩ : ByteArray), (⟨#[104, 51]⟩ : ByteArray), (⟨#[104, 54]⟩ : ByteArray), (⟨#[104, 114]⟩ : ByteArray), (⟨#[98, 114]⟩ : ByteArray), (⟨#[97]⟩ : ByteArray), (⟨#[115, 112, 97, 110]⟩ : ByteArray), (⟨#[115, 116, 114, 111, 110, 103]⟩ : ByteArray), (⟨#[101, 109]⟩ : ByteArray), (⟨#[115, 101, 99, 116, 105, 111, 110]⟩ : ByteArray)] (by simp) (k + 1) (by simp only [List.length_cons, List.length_nil]; omega)
    obtain ⟨r2, hr2⟩ := named_tot x [(⟨#[104, 114]⟩ : ByteArray), (⟨#[98, 114]⟩ : ByteArray)] (by simp) (k + 1) (by simp only [List.length_cons, List.length_nil]; omega)
    obtain ⟨r3, hr3⟩ := solid_tot x (by omega) (k + 1) (by omega)
    have hl := tree_loop x.f4 d (by omega) (fun y hy k d => tree_any N y (by have := wN_mem x.f4 y hy; omega) (by omega) k d) x.f4.length k 0 (by omega) (by omega) (by rw [List.drop_zero]; omega)
    rw [List.drop_zero] at hl
    have hj1 : ∀ b : Bool, x.f0 = 0 → x.f2.toList = [] → Ans (spec_Tree.j1 (k + 1) d b x.f0 x.f1 x.f2 x.f3 x.f4) (TK x) := by
      intro b h0 h2
      rw [spec_Tree.j1]
      cases b with
      | true => exact Ans.no _
      | false =>
        rw [if_neg (by decide)]
        obtain ⟨r, hr, hpr⟩ := hl
        refine ⟨r, hr, fun h => ?_⟩
        obtain ⟨a1, n, a2⟩ := hpr h
        refine ⟨by rw [noDoc_eq]; exact ⟨by rw [h0]; decide, a1⟩, n + 1, ?_⟩
        obtain ⟨f0, f1, f2, f3, f4⟩ := x
        simp only at h0 h2
        rw [h0, empty_of h2]
        exact .elem n _ _ _ (by simp only at ha he; omega) a2
    have hj1t : Ans (spec_Tree.j1 (k + 1) d true x.f0 x.f1 x.f2 x.f3 x.f4) (TK x) := by
      rw [spec_Tree.j1, if_pos rfl]
      exact Ans.no _
    have hno : Ans (spec_Tree.j0 (k + 2) d true x.f0 x.f1 x.f2 x.f3 x.f4) (TK x) := by
      rw [spec_Tree.j0, if_pos rfl]
      exact Ans.no _
    rw [spec_Tree.f]
    split
    · exact hno
    · split
      · exact hno
      · rename_i hd h0
        by_cases hg : x.f0 > 2
        · rw [decide_eq_true hg]
          exact hno
        · rw [decide_eq_false hg, spec_Tree.j0, if_neg (by decide)]
          split
          · rename_i h00
            rw [hr1, Option.bind_some]
            split
            · split
              · rename_i h2
                rw [hr2, Option.bind_some]
                split
                · exact hj1 _ h00 h2
                · exact hj1 _ h00 h2
              · exact hj1t
            · exact hj1t
          · rename_i h00
            split
            · rename_i hw
              have hlen : x.f4.length = 0 ∧ x.f3.length = 0 := by
                unfold wrap64 at hw
                omega
              have h4 := List.length_eq_zero_iff.1 hlen.1
              have h3 := List.length_eq_zero_iff.1 hlen.2
              split
              · rename_i h1
                split
                · exact Ans.no _
                · split
                  · rename_i h2
                    refine ⟨true, rfl, fun _ => ⟨by rw [noDoc_eq, h4]; exact ⟨by omega, by rw [noDocs]; trivial⟩, 1, ?_⟩⟩
                    obtain ⟨f0, f1, f2, f3, f4⟩ := x
                    simp only at h1 h2 h3 h4
                    rw [h2, empty_of h1, h3, h4]
                    exact .comment _
                  · rename_i h2
                    rw [hr3]
                    refine ⟨r3, rfl, fun _ => ⟨by rw [noDoc_eq, h4]; exact ⟨by omega, by rw [noDocs]; trivial⟩, 1, ?_⟩⟩
                    obtain ⟨f0, f1, f2, f3, f4⟩ := x
                    simp only at h1 h2 h3 h4 h00 h0 hg
                    rw [show f0 = 1 from by omega, empty_of h1, h3, h4]
                    exact .text _
              · exact Ans.no _
            · exact Ans.no _
end Go.Proofs.YtlallihdiffheaaDoor.Hand
end
section
/- laws.zzFits2 has an answer for each tree. Plain, over the printed function. -/
namespace Go.Proofs.YtlallihdiffheaaDoor.Hand
open Go.RowKit Go.Proofs.YtlallihdiffheaaDoor.GT Go.Proofs.YtlallihdiffheaaDoorW.PrintWords Go.Proofs.YtlallihdiffheaaDoorW.PrintLast
set_option linter.unusedVariables false

theorem fits4 (a b : ByteArray) : ∃ r, laws_zzFits4.f a b = some r := by
  unfold laws_zzFits4.f
  split
  · exact ⟨_, rfl⟩
  · split <;> exact ⟨_, rfl⟩
theorem fits3_loop (l : List S29) (hl : (l.length : Int) ≤ 2147483647) : ∀ (k i : Nat), l.length - i < k → i ≤ l.length → ∃ r, laws_zzFits3.l0 k l (l.length : Int) (i : Int) = some r
  | 0, i, h, _ => by omega
  | k + 1, i, h, hi => by
    by_cases hc : i < l.length
    · have hw : wrap64 ((i : Int) + 1) = ((i + 1 : Nat) : Int) := by unfold wrap64; omega
      obtain ⟨r, hr⟩ := fits4 (rd_T29 l (i : Int)).f0 (rd_T29 l (i : Int)).f1
      obtain ⟨r2, hr2⟩ := fits3_loop l hl k (i + 1) (by omega) (by omega)
      rw [laws_zzFits3.l0, if_pos (by omega), if_pos (by omega), if_pos (by omega), hr, Option.bind_some, hw, hr2]
      split <;> exact ⟨_, rfl⟩
    · rw [laws_zzFits3.l0, if_neg (by omega)]
      exact ⟨_, rfl⟩
theorem fits2_any (x : S25) : ∃ k r, laws_zzFits2.f k x.f0 x.f1 x.f2 x.f3 x.f4 = some r := by
  refine ⟨x.f3.length + 1, ?_⟩
  have h3 : ∃ r, laws_zzFits3.f (x.f3.length + 1) x.f3 = some r := by
    unfold laws_zzFits3.f
    split
    · exact ⟨_, rfl⟩
    · exact fits3_loop x.f3 (by omega) _ 0 (by omega) (by omega)
  obtain ⟨r, hr⟩ := h3
  unfold laws_zzFits2.f
  rw [hr, Option.bind_some]
  repeat (first | exact ⟨_, rfl⟩ | split)
end Go.Proofs.YtlallihdiffheaaDoor.Hand
end
section
/- laws.FnListTwice by hand: the walk. -/
namespace Go.Proofs.YtlallihdiffheaaDoor.Dom
open Go.RowKit Go.Proofs.YtlallihdiffheaaDoorW.PrintWords Go.Proofs.YtlallihdiffheaaDoorW.PrintLast Go.Proofs.YtlallihdiffheaaDoorW.PrintMore Go.Proofs.YtlallihdiffheaaDoor.GT Go.Proofs.YtlallihdiffheaaDoor.Hand
set_option linter.unusedVariables false
set_option linter.unusedSimpArgs false

/-- spec.Alike of a light tree and itself, that lie somewhere. -/
theorem alike_call {z : S25} {s : ByteArray} (hs : z.f1 = s) (hz : wN z ≤ 2100000) (w : World) (A5 A6 A7 A8 : Option Addr) (c5 c6 c7 c8 : Nat) (h1 : k25.K w z (treeCells z A5 c5 A6 c6)) (h2 : k25.K w z (treeCells z A7 c7 A8 c8)) :
    Calls Tryd.prog 20 #[.agg #[.int .i64 z.f0, .string z.f1, .string z.f2, .slice A5 z.f3.length c5, .slice A6 z.f4.length c6], .agg #[.int .i64 z.f0, .string s, .string z.f2, .slice A7 z.f3.length c7, .slice A8 z.f4.length c8]] w fun e w' => e = .returned (.bool true) ∧ Below w.heap.size w w' := by
  subst hs
  obtain ⟨X5, x5, X6, x6, he7, l7, g7, l8, g8⟩ := k25_open h1
  obtain ⟨X7, x7, X8, x8, he9, l9, g9, l10, g10⟩ := k25_open h2
  simp only [treeCells, List.cons.injEq, Value.slice.injEq, and_true, true_and] at he7 he9
  obtain ⟨⟨rfl, rfl⟩, rfl, rfl⟩ := he7
  obtain ⟨⟨rfl, rfl⟩, rfl, rfl⟩ := he9
  exact spec_Alike.calls (10 * wN z) _ _ _ _ _ _ _ _ _ _ _ _ _ _ _ _ _ _ true _ g7 l7 g8 l8 g9 l9 g10 l10 (alike_self (wN z) z (Nat.le_refl _) (by omega) _ (Nat.le_refl _))
/-- impl.ListItems of what it left. -/
theorem list_call {x y : S25} (hq : QM x y) (hy : wN y ≤ 2100000) (w : World) (A5 A6 : Option Addr) (c5 c6 : Nat) (h1 : k25.K w y (treeCells y A5 c5 A6 c6)) (hT : TabL w) :
    Calls Tryd.prog 19 #[.agg #[.int .i64 y.f0, .string y.f1, .string y.f2, .slice A5 y.f3.length c5, .slice A6 y.f4.length c6]] w fun e w' => ToldPost y w e w' := by
  obtain ⟨X5, x5, X6, x6, he7, l7, g7, l8, g8⟩ := k25_open h1
  simp only [treeCells, List.cons.injEq, Value.slice.injEq, and_true, true_and] at he7
  obtain ⟨⟨rfl, rfl⟩, rfl, rfl⟩ := he7
  obtain ⟨n, hn⟩ := hq.tn
  refine (listItems_any y hn hq.noDoc hy w A5 A6 c5 c6 g7 l7 g8 l8 hT).mono ?_
  rintro e w' ⟨z, hz, h⟩
  obtain rfl := hq.twice hz
  exact h
set_option maxRecDepth 100000 in
set_option maxHeartbeats 20000000 in
theorem law_list_on (x : S25) (w : World) (A3 A4 : Option Addr) (c3 c4 : Nat) (h3 : k29.C w A3 x.f3.length x.f3) (l3 : x.f3.length ≤ c3) (h4 : k25.C w A4 x.f4.length x.f4) (l4 : x.f4.length ≤ c4) (hT : TabL w)
    (kz K0 : Nat) (hz : laws_zzFits2.f kz x.f0 x.f1 x.f2 x.f3 x.f4 = some true) (ht : spec_Tree.f K0 0 x.f1 x.f2 x.f3 x.f4 40 = some true) (h0 : x.f0 = 0) (nx : Nat) (hx : wN x ≤ 2100000 ∧ noDoc x ∧ Tn nx x ∧ wN x ≤ 1048576) :
    Calls Tryd.prog 5 #[.agg #[.int .i64 x.f0, .string x.f1, .string x.f2, .slice A3 x.f3.length c3, .slice A4 x.f4.length c4]] w fun e w' => e = .returned (.bool true) ∧ Below w.heap.size w w' := by
  have HT := Lib.hid hT
  have H3 := Lib.hid h3
  have H4 := Lib.hid h4
  have HZ := Lib.hid hz
  have HTR := Lib.hid ht
  have HX := Lib.hid hx
  have hli := fun (W : World) (hb : Below w.heap.size w W) => listItems_any x hx.2.2.1 hx.2.1 hx.1 W A3 A4 c3 c4 (Kd.C_below h3 hb) l3 (Kd.C_below h4 hb) l4 (tabL_below hT hb)
  rw [h0] at hli
  have HLI := Lib.hid hli
  clear h3 h4 hz hT ht hx hli h0
  go_enter Tryd.func5, Tryd.ntmps5
  go_upto_region 6 with (first
    | (go_at_call 7; refine (laws_zzFits2.calls kz x.f0 x.f1 x.f2 A3 c3 x.f3 A4 c4 x.f4 true _ (Kd.C_alloc H3.out _) l3 (Kd.C_alloc H4.out _) l4 HZ.out).mono ?_; rintro e w1 ⟨rfl, hb1⟩; have hn1 := (hb1.block w.heap.size (by rw [World.size_alloc]; omega)).trans (heap_alloc_new w _); have hB1 : Below w.heap.size w w1 := below_then (below_alloc (Below.refl _ _) _) (by rw [World.size_alloc]; omega) hb1; have hs1 : w.heap.size < w1.heap.size := (by have := hb1.size; rw [World.size_alloc] at this; omega); obtain ⟨n0, f0⟩ := out_cell hn1 0; obtain ⟨n1, f1⟩ := out_cell hn1 1; obtain ⟨n2, f2⟩ := out_cell hn1 2; obtain ⟨n3, f3⟩ := out_cell hn1 3; obtain ⟨n4, f4⟩ := out_cell hn1 4; simp only [List.getElem?_toArray, List.getElem?_cons_succ, List.getElem?_cons_zero] at n0 n1 n2 n3 n4; have HN1 := Lib.hid hn1; have HB1 := Lib.hid hB1; clear hb1 hn1 hB1 f0 f1 f2 f3 f4)
    | (go_at_call 18; refine (spec_Tree.calls K0 0 x.f1 x.f2 A3 c3 x.f3 A4 c4 x.f4 40 true w1 (Kd.C_below H3.out HB1.out) l3 (Kd.C_below H4.out HB1.out) l4 HTR.out).mono ?_; rintro e w2 ⟨rfl, hb2⟩; have hn2 := (hb2.block w.heap.size hs1).trans HN1.out; obtain ⟨m0, g0⟩ := out_cell hn2 0; obtain ⟨m1, g1⟩ := out_cell hn2 1; obtain ⟨m2, g2⟩ := out_cell hn2 2; obtain ⟨m3, g3⟩ := out_cell hn2 3; obtain ⟨m4, g4⟩ := out_cell hn2 4; simp only [List.getElem?_toArray, List.getElem?_cons_succ, List.getElem?_cons_zero] at m0 m1 m2 m3 m4; have HN2 := Lib.hid hn2; have HB2 := Lib.hid (below_then HB1.out HB1.out.size hb2); have HS2 := Lib.hid (Nat.lt_of_lt_of_le hs1 hb2.size); clear hn2 hb2 g0 g1 g2 g3 g4)
    | (go_at_call 19; refine (HLI.out w2 HB2.out).mono ?_; rintro e w3 ⟨y, hq, A5, c5, A6, c6, rfl, htl, hb3⟩; have HQ := Lib.hid hq; have HTL := Lib.hid htl; have HB3 := Lib.hid hb3; clear hq htl hb3))
  rotate_left
  · go_ret
    exact ⟨rfl, HB1.out⟩
  · have h5 : (w3.alloc (.cells #[.int .i64 y.f0, .string y.f1, .string y.f2, .slice A5 y.f3.length c5, .slice A6 y.f4.length c6] 25 (0, 0))).heap[w3.heap.size]? = some (.cells #[.int .i64 y.f0, .string y.f1, .string y.f2, .slice A5 y.f3.length c5, .slice A6 y.f4.length c6] 25 (0, 0)) := heap_alloc_new _ _
    have hb5 : Below w3.heap.size w3 (w3.alloc (.cells #[.int .i64 y.f0, .string y.f1, .string y.f2, .slice A5 y.f3.length c5, .slice A6 y.f4.length c6] 25 (0, 0))) := below_alloc (Below.refl _ _) _
    have hs5 : w3.heap.size < (w3.alloc (.cells #[.int .i64 y.f0, .string y.f1, .string y.f2, .slice A5 y.f3.length c5, .slice A6 y.f4.length c6] 25 (0, 0))).heap.size := by rw [World.size_alloc]; omega
    clear n0 n1 n2 n3 n4 m0 m1 m2 m3 m4
    generalize (w3.alloc (.cells #[.int .i64 y.f0, .string y.f1, .string y.f2, .slice A5 y.f3.length c5, .slice A6 y.f4.length c6] 25 (0, 0))) = W5 at *
    obtain ⟨o0, -⟩ := out_cell h5 0
    obtain ⟨o1, -⟩ := out_cell h5 1
    obtain ⟨o2, -⟩ := out_cell h5 2
    obtain ⟨o3, -⟩ := out_cell h5 3
    obtain ⟨o4, -⟩ := out_cell h5 4
    obtain ⟨m1, -⟩ := out_cell HN2.out 1
    simp only [List.getElem?_toArray, List.getElem?_cons_succ, List.getElem?_cons_zero] at o0 o1 o2 o3 o4 m1
    rw [HQ.out.name] at o1
    have hb25 : Below w2.heap.size w2 W5 := below_then HB3.out HB3.out.size hb5
    have hL1 : ∀ w', Below W5.heap.size W5 w' → Below w.heap.size w w' := fun w' hb => below_then HB2.out HB2.out.size (below_then hb25 hb25.size hb)
    have hsk : ∀ W, Below W5.heap.size W5 W → (fun W' => W'.cell? ⟨w.heap.size, 1, none⟩ = some (.string x.f1) ∧ W'.cell? ⟨w3.heap.size, 0, none⟩ = some (.int .i64 y.f0) ∧ W'.cell? ⟨w3.heap.size, 1, none⟩ = some (.string x.f1) ∧ W'.cell? ⟨w3.heap.size, 2, none⟩ = some (.string y.f2) ∧ W'.cell? ⟨w3.heap.size, 3, none⟩ = some (.slice A5 y.f3.length c5) ∧ W'.cell? ⟨w3.heap.size, 4, none⟩ = some (.slice A6 y.f4.length c6)) W := fun W hb => 
      ⟨((below_then hb25 hb25.size hb).cell (p := ⟨w.heap.size, 1, none⟩) HS2.out).trans m1, (hb.cell (p := ⟨w3.heap.size, 0, none⟩) hs5).trans o0, (hb.cell (p := ⟨w3.heap.size, 1, none⟩) hs5).trans o1, (hb.cell (p := ⟨w3.heap.size, 2, none⟩) hs5).trans o2, (hb.cell (p := ⟨w3.heap.size, 3, none⟩) hs5).trans o3, (hb.cell (p := ⟨w3.heap.size, 4, none⟩) hs5).trans o4⟩
    have hk5 : ∀ W, Below W5.heap.size W5 W → k25.K W y (treeCells y A5 c5 A6 c6) := fun W hb => HTL.out W (fun z hz1 hz2 => (hb.block z (by omega)).trans (hb5.block z hz2))
    have hwy : wN y ≤ 2100000 := by
      have h1 := HQ.out.weight
      have h2 := HX.out.2.2.2
      omega
    have hlc0 := fun (W : World) (hb : Below W5.heap.size W5 W) => list_call HQ.out hwy W A5 A6 c5 c6 (hk5 W hb) (tabL_below HT.out (hL1 W hb))
    rw [HQ.out.name] at hlc0
    have HLC := Lib.hid hlc0
    have SK := Lib.hid hsk
    have HK5 := Lib.hid hk5
    have HL1 := Lib.hid hL1
    have HY := Lib.hid hwy
    clear h5 hb5 hs5 hb25 hL1 hsk hk5 hwy hlc0 o0 o1 o2 o3 o4 m1
    go_wp2_with fail
    refine start_ (n := 12) (S := fun W' => W'.cell? ⟨w.heap.size, 1, none⟩ = some (.string x.f1) ∧ W'.cell? ⟨w3.heap.size, 0, none⟩ = some (.int .i64 y.f0) ∧ W'.cell? ⟨w3.heap.size, 1, none⟩ = some (.string x.f1) ∧ W'.cell? ⟨w3.heap.size, 2, none⟩ = some (.string y.f2) ∧ W'.cell? ⟨w3.heap.size, 3, none⟩ = some (.slice A5 y.f3.length c5) ∧ W'.cell? ⟨w3.heap.size, 4, none⟩ = some (.slice A6 y.f4.length c6)) (ds := []) #[false, false, false, false, false, false, false, false, false, false, false, false] rfl rfl rfl (SK.out _ (Below.refl _ _).drew) (fun hHeld => ?_)
    refine pure_ (i := 0) (N := some 17) (v := ?_) (a' := ?_) #[true, false, false, false, false, false, false, false, false, false, false, false] rfl rfl (by kernel_rfl) (fun _ _ _ h => h) (Or.inl ⟨by rfl, ?_⟩) ?_ ?_
    rotate_left
    · intro w'
      go_simp
      with_reducible rfl
    rotate_left
    · simp only [Act.put, List.setIfInBounds_toArray, List.set_cons_zero, List.set_cons_succ]
      rfl
    refine take_ (i := 1) (N := some 18) (v := ?_) (a' := ?_) #[true, true, false, false, false, false, false, false, false, false, false, false] rfl rfl (by kernel_rfl) (fun _ _ _ h => h) (Or.inl ⟨by rfl, ?_⟩) hHeld ?_ ?_
    rotate_left
    · rintro w' ⟨s0_, s1_, s2_, s3_, s4_, s5_⟩
      go_simp
      with_reducible rfl
    rotate_left
    · simp only [Act.put, List.setIfInBounds_toArray, List.set_cons_zero, List.set_cons_succ]
      rfl
    refine pure_ (i := 2) (N := some 19) (v := ?_) (a' := ?_) #[true, true, true, false, false, false, false, false, false, false, false, false] rfl rfl (by kernel_rfl) (fun _ _ _ h => h) (Or.inl ⟨by rfl, ?_⟩) ?_ ?_
    rotate_left
    · intro w'
      go_simp
      with_reducible rfl
    rotate_left
    · simp only [Act.put, List.setIfInBounds_toArray, List.set_cons_zero, List.set_cons_succ]
      rfl
    refine take_ (i := 3) (N := some 20) (v := ?_) (a' := ?_) #[true, true, true, true, false, false, false, false, false, false, false, false] rfl rfl (by kernel_rfl) (fun _ _ _ h => h) (Or.inl ⟨by rfl, ?_⟩) hHeld ?_ ?_
    rotate_left
    · rintro w' ⟨s0_, s1_, s2_, s3_, s4_, s5_⟩
      go_simp
      with_reducible rfl
    rotate_left
    · simp only [Act.put, List.setIfInBounds_toArray, List.set_cons_zero, List.set_cons_succ]
      rfl
    refine pure_ (i := 4) (N := some 21) (v := ?_) (a' := ?_) #[true, true, true, true, true, false, false, false, false, false, false, false] rfl rfl (by kernel_rfl) (fun _ _ _ h => h) (Or.inl ⟨by rfl, ?_⟩) ?_ ?_
    rotate_left
    · intro w'
      go_simp
      with_reducible rfl
    rotate_left
    · simp only [Act.put, List.setIfInBounds_toArray, List.set_cons_zero, List.set_cons_succ]
      rfl
    refine pure_ (i := 5) (N := some 22) (v := ?_) (a' := ?_) #[true, true, true, true, true, true, false, false, false, false, false, false] rfl rfl (by kernel_rfl) (fun _ _ _ h => h) (Or.inl ⟨by rfl, ?_⟩) ?_ ?_
    rotate_left
    · intro w'
      go_simp
      with_reducible rfl
    rotate_left
    · simp only [Act.put, List.setIfInBounds_toArray, List.set_cons_zero, List.set_cons_succ]
      rfl
    refine take_ (i := 6) (N := some 23) (v := ?_) (a' := ?_) #[true, true, true, true, true, true, true, false, false, false, false, false] rfl rfl (by kernel_rfl) (fun _ _ _ h => h) (Or.inl ⟨by rfl, ?_⟩) hHeld ?_ ?_
    rotate_left
    · rintro w' ⟨s0_, s1_, s2_, s3_, s4_, s5_⟩
      go_simp
      with_reducible rfl
    rotate_left
    · simp only [Act.put, List.setIfInBounds_toArray, List.set_cons_zero, List.set_cons_succ]
      rfl
    refine take_ (i := 8) (N := some 25) (v := ?_) (a' := ?_) #[true, true, true, true, true, true, true, false, true, false, false, false] rfl rfl (by kernel_rfl) (fun _ _ _ h => h) (Or.inl ⟨by rfl, ?_⟩) hHeld ?_ ?_
    rotate_left
    · rintro w' ⟨s0_, s1_, s2_, s3_, s4_, s5_⟩
      go_simp
      with_reducible rfl
    rotate_left
    · simp only [Act.put, List.setIfInBounds_toArray, List.set_cons_zero, List.set_cons_succ]
      rfl
    refine one_ (i := 7) (N := some 24) #[true, true, true, true, true, true, true, true, true, false, false, false] rfl rfl (by kernel_rfl) (by decide) (fun K hK => ?_)
    go_simp
    refine (HLC.out _ (Below.refl _ _).drew).mono ?_
    rintro e w6 ⟨A7, c7, A8, c8, rfl, htl7, hb6⟩
    have HC6 := Lib.hid (below_then (Below.refl W5.heap.size W5).drew (Nat.le_refl _) hb6)
    have HK7 := Lib.hid (htl7 w6 (fun _ _ _ => rfl))
    clear hb6 htl7
    refine hK.out _ _ ?_ (fun hHeld => ?_)
    · exact SK.out _ HC6.out
    clear hK K
    try simp only [Act.put, List.setIfInBounds_toArray, List.set_cons_zero, List.set_cons_succ]
    refine one_ (i := 9) (N := some 26) #[true, true, true, true, true, true, true, true, true, true, false, false] rfl rfl (by kernel_rfl) (by decide) (fun K hK => ?_)
    go_simp
    refine (alike_call HQ.out.name HY.out _ A7 A8 A5 A6 c7 c8 c5 c6 HK7.out (HK5.out _ HC6.out)).mono ?_
    rintro e w7 ⟨rfl, hb_⟩
    have HC7 := Lib.hid (below_then HC6.out HC6.out.size hb_)
    clear hb_
    refine hK.out _ _ ?_ (fun hHeld => ?_)
    · exact SK.out _ HC7.out
    clear hK K
    try simp only [Act.put, List.setIfInBounds_toArray, List.set_cons_zero, List.set_cons_succ]
    refine pure_ (i := 10) (N := some 27) (v := ?_) (a' := ?_) #[true, true, true, true, true, true, true, true, true, true, true, false] rfl rfl (by kernel_rfl) (fun _ _ _ h => h) (Or.inl ⟨by rfl, ?_⟩) ?_ ?_
    rotate_left
    · intro w'
      go_simp
      with_reducible rfl
    rotate_left
    · simp only [Act.put, List.setIfInBounds_toArray, List.set_cons_zero, List.set_cons_succ]
      rfl
    refine pure_ (i := 11) (N := some 2) (v := ?_) (a' := ?_) #[true, true, true, true, true, true, true, true, true, true, true, true] rfl rfl (by kernel_rfl) (fun _ _ _ h => h) (Or.inl ⟨by rfl, ?_⟩) ?_ ?_
    rotate_left
    · intro w'
      go_simp
      with_reducible rfl
    rotate_left
    · simp only [Act.put, List.setIfInBounds_toArray, List.set_cons_zero, List.set_cons_succ]
      rfl
    refine done_ (by kernel_rfl) ?_
    go_wp2_with fail
    go_ret
    exact ⟨rfl, HL1.out _ HC7.out⟩
set_option maxRecDepth 100000 in
set_option maxHeartbeats 20000000 in
theorem law_list (x : S25) (hwx : wN x ≤ 1048576) (w : World) (A3 A4 : Option Addr) (c3 c4 : Nat) (h3 : k29.C w A3 x.f3.length x.f3) (l3 : x.f3.length ≤ c3) (h4 : k25.C w A4 x.f4.length x.f4) (l4 : x.f4.length ≤ c4) (hT : TabL w) :
    Calls Tryd.prog 5 #[.agg #[.int .i64 x.f0, .string x.f1, .string x.f2, .slice A3 x.f3.length c3, .slice A4 x.f4.length c4]] w fun e w' => e = .returned (.bool true) ∧ Below w.heap.size w w' := by
  obtain ⟨kz, rz, hz⟩ := fits2_any x
  obtain ⟨K0, hK0⟩ : ∃ K, K = 10 * wN x := ⟨_, rfl⟩
  obtain ⟨rt, ht, hpt⟩ := tree_any (wN x) x (Nat.le_refl _) (by omega) K0 40 (by omega)
  have HT := Lib.hid hT
  have H3 := Lib.hid h3
  have H4 := Lib.hid h4
  have HZ := Lib.hid hz
  have HTR := Lib.hid ht
  clear h3 h4 hz hT ht
  cases rz with
  | false =>
    clear hpt
    go_enter Tryd.func5, Tryd.ntmps5
    go_wp2_with (go_at_call 7; refine (laws_zzFits2.calls kz x.f0 x.f1 x.f2 A3 c3 x.f3 A4 c4 x.f4 false _ (Kd.C_alloc H3.out _) l3 (Kd.C_alloc H4.out _) l4 HZ.out).mono ?_; rintro e w1 ⟨rfl, hb1⟩; have hn1 := (hb1.block w.heap.size (by rw [World.size_alloc]; omega)).trans (heap_alloc_new w _); have hB1 : Below w.heap.size w w1 := below_then (below_alloc (Below.refl _ _) _) (by rw [World.size_alloc]; omega) hb1; have hs1 : w.heap.size < w1.heap.size := (by have := hb1.size; rw [World.size_alloc] at this; omega); obtain ⟨n0, f0⟩ := out_cell hn1 0; obtain ⟨n1, f1⟩ := out_cell hn1 1; obtain ⟨n2, f2⟩ := out_cell hn1 2; obtain ⟨n3, f3⟩ := out_cell hn1 3; obtain ⟨n4, f4⟩ := out_cell hn1 4; simp only [List.getElem?_toArray, List.getElem?_cons_succ, List.getElem?_cons_zero] at n0 n1 n2 n3 n4; have HN1 := Lib.hid hn1; have HB1 := Lib.hid hB1; clear hb1 hn1 hB1 f0 f1 f2 f3 f4)
    go_ret
    exact ⟨rfl, HB1.out⟩
  | true =>
  by_cases h0 : x.f0 = 0
  · have ht0 := HTR.out
    rw [h0] at ht0
    clear HTR
    have HTR := Lib.hid ht0
    clear ht0
    cases rt with
    | false =>
      clear hpt h0
      go_enter Tryd.func5, Tryd.ntmps5
      go_wp2_with (first
        | (go_at_call 7; refine (laws_zzFits2.calls kz x.f0 x.f1 x.f2 A3 c3 x.f3 A4 c4 x.f4 true _ (Kd.C_alloc H3.out _) l3 (Kd.C_alloc H4.out _) l4 HZ.out).mono ?_; rintro e w1 ⟨rfl, hb1⟩; have hn1 := (hb1.block w.heap.size (by rw [World.size_alloc]; omega)).trans (heap_alloc_new w _); have hB1 : Below w.heap.size w w1 := below_then (below_alloc (Below.refl _ _) _) (by rw [World.size_alloc]; omega) hb1; have hs1 : w.heap.size < w1.heap.size := (by have := hb1.size; rw [World.size_alloc] at this; omega); obtain ⟨n0, f0⟩ := out_cell hn1 0; obtain ⟨n1, f1⟩ := out_cell hn1 1; obtain ⟨n2, f2⟩ := out_cell hn1 2; obtain ⟨n3, f3⟩ := out_cell hn1 3; obtain ⟨n4, f4⟩ := out_cell hn1 4; simp only [List.getElem?_toArray, List.getElem?_cons_succ, List.getElem?_cons_zero] at n0 n1 n2 n3 n4; have HN1 := Lib.hid hn1; have HB1 := Lib.hid hB1; clear hb1 hn1 hB1 f0 f1 f2 f3 f4)
        | (go_at_call 18; refine (spec_Tree.calls K0 0 x.f1 x.f2 A3 c3 x.f3 A4 c4 x.f4 40 false w1 (Kd.C_below H3.out HB1.out) l3 (Kd.C_below H4.out HB1.out) l4 HTR.out).mono ?_; rintro e w2 ⟨rfl, hb2⟩; have hn2 := (hb2.block w.heap.size hs1).trans HN1.out; obtain ⟨m0, g0⟩ := out_cell hn2 0; obtain ⟨m1, g1⟩ := out_cell hn2 1; obtain ⟨m2, g2⟩ := out_cell hn2 2; obtain ⟨m3, g3⟩ := out_cell hn2 3; obtain ⟨m4, g4⟩ := out_cell hn2 4; simp only [List.getElem?_toArray, List.getElem?_cons_succ, List.getElem?_cons_zero] at m0 m1 m2 m3 m4; have HN2 := Lib.hid hn2; have HB2 := Lib.hid (below_then HB1.out HB1.out.size hb2); have HS2 := Lib.hid (Nat.lt_of_lt_of_le hs1 hb2.size); clear hn2 hb2 g0 g1 g2 g3 g4))
      all_goals (go_ret; first | exact ⟨rfl, HB2.out⟩ | exact ⟨rfl, HB1.out⟩)
    | true =>
      obtain ⟨hnd, nx, hnx⟩ := hpt rfl
      have HX := Lib.hid (show wN x ≤ 2100000 ∧ noDoc x ∧ Tn nx x ∧ wN x ≤ 1048576 from ⟨by omega, hnd, hnx, hwx⟩)
      clear hpt hnd hnx hwx
      exact law_list_on x w A3 A4 c3 c4 H3.out l3 H4.out l4 HT.out kz K0 HZ.out HTR.out h0 nx HX.out
  · have h0b : (x.f0 != 0) = true := by simpa using h0
    clear hpt h0
    go_enter Tryd.func5, Tryd.ntmps5
    go_wp2_with (go_at_call 7; refine (laws_zzFits2.calls kz x.f0 x.f1 x.f2 A3 c3 x.f3 A4 c4 x.f4 true _ (Kd.C_alloc H3.out _) l3 (Kd.C_alloc H4.out _) l4 HZ.out).mono ?_; rintro e w1 ⟨rfl, hb1⟩; have hn1 := (hb1.block w.heap.size (by rw [World.size_alloc]; omega)).trans (heap_alloc_new w _); have hB1 : Below w.heap.size w w1 := below_then (below_alloc (Below.refl _ _) _) (by rw [World.size_alloc]; omega) hb1; have hs1 : w.heap.size < w1.heap.size := (by have := hb1.size; rw [World.size_alloc] at this; omega); obtain ⟨n0, f0⟩ := out_cell hn1 0; obtain ⟨n1, f1⟩ := out_cell hn1 1; obtain ⟨n2, f2⟩ := out_cell hn1 2; obtain ⟨n3, f3⟩ := out_cell hn1 3; obtain ⟨n4, f4⟩ := out_cell hn1 4; simp only [List.getElem?_toArray, List.getElem?_cons_succ, List.getElem?_cons_zero] at n0 n1 n2 n3 n4; have HN1 := Lib.hid hn1; have HB1 := Lib.hid hB1; clear hb1 hn1 hB1 f0 f1 f2 f3 f4)
    go_ret
    exact ⟨rfl, HB1.out⟩
end Go.Proofs.YtlallihdiffheaaDoor.Dom
end
