/- Contracts by hand: the doors impl.Blanks, impl.Quoted, and laws.inlineLives, which is true. -/
import Derived.Test.YtlallihdiffheaaDoorZBlanks
import Derived.Test.YtlallihdiffheaaDoorZGIn1x
import Derived.Lib.SlBytesConst
namespace Go.Proofs.YtlallihdiffheaaDoor.Hand
open Go.RowKit Go.Proofs.YtlallihdiffheaaDoorW.PrintWords Go.Proofs.YtlallihdiffheaaDoorW.PrintLast Go.Proofs.YtlallihdiffheaaDoorW.PrintMore
open Go.Proofs.YtlallihdiffheaaDoor.GIn1
set_option linter.unusedVariables false

theorem toList_nil {s : ByteArray} (h : ¬ 0 < s.size) : s = ⟨#[]⟩ := by
  apply bys_inj
  apply List.eq_nil_of_length_eq_zero
  rw [bys_length]
  omega
set_option maxRecDepth 100000 in
theorem impl_blanks (s : ByteArray) (w : World) (hs : s.size ≤ 2147483647) :
    Calls Tryd.prog 50 #[.string s] w fun e w' => e = .returned (.string (strOfNums (col (bys s)))) ∧ Below w.heap.size w w' := by
  by_cases h0 : 0 < s.size
  · go_enter Tryd.func50, Tryd.ntmps50
    go_wp2_with (first | (go_at_call 77; go_in) | (go_at_call 91; refine (blanks_any s _ hs h0).mono ?_; rintro e w' ⟨rfl, hb⟩))
    go_ret
    exact ⟨rfl, hb⟩
  · obtain rfl := toList_nil h0
    go_enter Tryd.func50, Tryd.ntmps50
    go_wp2
    go_ret
    exact ⟨rfl, (Below.refl _ _).alloc (Nat.le_refl _) _⟩
set_option maxRecDepth 100000 in
set_option maxHeartbeats 800000 in
/-- One byte on both sides of a text that is not empty. -/
theorem surround_any (w : World) (q : Int) (g : Nat) (hg : w.cell? ⟨g, 0, none⟩ = some (.int .u8 q)) (A : Addr) (c : Nat) (xs : List Int) (h0 : 0 < xs.length) (hl : xs.length ≤ 2147483647) (hr : ReadsInt w .u8 (some A) xs.length xs) :
    Calls Tryd.prog 94 #[.slice (some A) xs.length c, .slice (some ⟨g, 0, none⟩) 1 1] w fun e w' => ∃ v, e = .returned v ∧ w'.ownsRow w.heap.size 5 1 v (q :: xs ++ [q]).length (nums .u8 (q :: xs ++ [q])) ∧ Below w.heap.size w w' := by
  obtain ⟨i0, hi, hzz⟩ := Option.map_eq_some_iff.1 infoByte
  simp only [Prod.mk.injEq] at hzz
  obtain ⟨hz0, hz1, hz2⟩ := hzz
  have hgl : g < w.heap.size := World.block_lt_of_cell? w _ hg
  have hold : ∀ j u, ([Value.int .u8 q] : List Value)[j]? = some u → w.cell? ((⟨g, 0, none⟩ : Addr).add j) = some u := by
    intro j u hj
    obtain rfl : j = 0 := by
      rcases j with _ | j
      · rfl
      · simp at hj
    rw [add_plain, hg]
    simpa using hj
  obtain ⟨ad, hade, hcells⟩ := hr.2.2 h0
  injection hade with hade
  subst hade
  have hnew : ∀ j u, (nums .u8 xs)[j]? = some u → w.cell? (A.add j) = some u := by
    intro j u hj
    have hjl : j < xs.length := by
      have := (List.getElem?_eq_some_iff.1 hj).1
      rwa [nums_length] at this
    rw [hcells j hjl, ← hj]
    simp [nums, List.getD_eq_getElem?_getD, hjl]
  have hone : ∀ u ∈ nums .u8 xs, u.oneCell' = true := by
    intro u hu
    obtain ⟨x, _, rfl⟩ := List.mem_map.1 hu
    rfl
  have HG := Lib.hid hg
  have HO := Lib.hid hold
  have HN := Lib.hid hnew
  clear hg hold hnew hcells hr
  go_enter Tryd.func94, Tryd.ntmps94
  go_wp2_with (first
    | (at_builtin; refine wpList_append_grows _ rfl (.tmp 5) (.tmp 6) 54 rfl 5 i0 (.int .u8 0) 1 1 Tryd.underlying54 hi hz0 hz1 hz2 rfl (by omega) (some ⟨g, 0, none⟩) 1 1 [.int .u8 q] rfl (fun h => by cases h) rfl (fun b hb => by cases hb; exact HO.out) A xs.length c (nums .u8 xs) rfl (by rw [nums_length, Nat.mul_one]) HN.out hone (by omega) (by simp only [maxLen]; omega) (by omega) ?_; intro v1 w1 hown1 hgr1; have HO1 := Lib.hid hown1; have HG1 := Lib.hid hgr1; clear hown1 hgr1)
    | (at_builtin; refine wpList_append_own_at _ rfl (.tmp 8) (.tmp 9) 54 rfl w.heap.size 5 i0 (.int .u8 0) 1 1 Tryd.underlying54 hi hz0 hz1 hz2 rfl (by omega) v1 (1 + xs.length) ([.int .u8 q] ++ nums .u8 xs) rfl HO1.out ⟨g, 0, none⟩ 1 1 [.int .u8 q] rfl rfl ?news (by simp [Value.oneCell']) (by simp only [maxLen]; omega) (by omega) HG1.out.size ?_; (case news => intro j u hj; obtain rfl : j = 0 := (by rcases j with _ | j; rfl; simp at hj); rw [add_plain, (World.cell?_of_block (HG1.out.block _ hgl (by simp))).trans HG.out]; simpa using hj); intro v2 w2 hown2 hgr2 _ _; have HO2 := Lib.hid hown2; have HG2 := Lib.hid hgr2; clear hown2 hgr2))
  go_ret
  refine ⟨_, rfl, ?_, ?_⟩
  · have := HO2.out
    have e1 : (xs ++ [q]).length + 1 = 1 + xs.length + 1 := by simp; omega
    have e2 : nums .u8 (q :: (xs ++ [q])) = [Value.int .u8 q] ++ nums .u8 xs ++ [Value.int .u8 q] := by simp [nums]
    rw [e1, e2]
    exact this
  · exact ((Below.refl w.heap.size w).grown HG1.out (Nat.le_refl _) (fun k h => by cases h)).grown HG2.out HG1.out.size (fun k hk => own_base HO1.out k hk)
theorem cell_new (w : World) (v : Value) (t : TypeId) (fr : Nat × Nat) : (w.alloc (.cells #[v] t fr)).cell? ⟨w.heap.size, 0, none⟩ = some v := by
  have h : (w.alloc (.cells #[v] t fr)).heap[w.heap.size]? = some (.cells #[v] t fr) := heap_alloc_new _ _
  simp only [World.cell?, h]
  rfl
theorem has_a (q : Int) (h : q = 34 ∨ q = 39) : textutils_zzHas.f 3 (bys ⟨#[97]⟩) q = some false := by rcases h with rfl | rfl <;> decide +kernel
set_option maxRecDepth 100000 in
set_option maxHeartbeats 800000 in
theorem quoted_a (w : World) :
    Calls Tryd.prog 51 #[.string ⟨#[97]⟩] w fun e w' => e = .returned (.string ⟨#[34, 97, 34]⟩) ∧ Below w.heap.size w w' := by
  have hb1 : bys ⟨#[97]⟩ = [97] := by decide +kernel
  have hz : (ByteArray.mk #[97]).size = 1 := rfl
  have hconv := fun W => run_bytesW (P := Tryd.prog) 9 54 5 ⟨#[97]⟩ Tryd.underlying9 Tryd.underlying54 Tryd.underlying5 W
  have hB := bytesW_below (Below.refl w.heap.size w) (Nat.le_refl _) ⟨#[97]⟩ 5
  have hsz := bytesW_size w ⟨#[97]⟩ 5
  have hge := bcap_ge w ⟨#[97]⟩ 5
  have hrd := bytesW_reads w ⟨#[97]⟩ 5 (by decide)
  rw [hz, hb1] at hrd
  rw [hz] at hge
  simp only [hz] at hconv
  have hw := hconv w
  clear hconv
  generalize bytesW w ⟨#[97]⟩ 5 = wb at *
  generalize bcap w ⟨#[97]⟩ 5 = cb at *
  have kc : ∀ n : Nat, (convert 54 54 (.slice (some ⟨wb.heap.size, 0, none⟩) 1 1)).run Tryd.prog ((wb.drewN n).alloc (.cells #[.int .u8 34] 5)) = .ok (.slice (some ⟨wb.heap.size, 0, none⟩) 1 1) ((wb.drewN n).alloc (.cells #[.int .u8 34] 5 (1, 2))) := fun n => Lib.run_convert_bytes_const (P := Tryd.prog) (wb.drewN n) 54 5 #[.int .u8 34] 1 1 Tryd.underlying54 Tryd.underlying5
  have HB := Lib.hid hB
  have HR := Lib.hid hrd
  have HZ := Lib.hid hsz
  clear hB hrd hsz hz hb1
  have h34 := textutils_zzHas.calls 3 (some ⟨w.heap.size, 0, none⟩) cb [97] 34 false wb (C_of_ints HR.out) hge (by decide +kernel)
  have H34 := Lib.hid h34
  have h39 := fun nd => textutils_zzHas.calls 3 (some ⟨w.heap.size, 0, none⟩) cb [97] 39 false (wb.drewN nd) (C_of_ints HR.out) hge (by decide +kernel)
  have H39 := Lib.hid h39
  clear h34 h39
  go_enter Tryd.func51, Tryd.ntmps51
  go_wp2_with (first
    | (go_at_call 78; go_in)
    | (go_at_call_of 92 (Value.int .u8 34); refine H34.out.mono ?_; rintro e w1 ⟨rfl, ⟨nd, rfl⟩⟩)
    | (go_at_call_of 92 (Value.int .u8 39); refine (H39.out nd).mono ?_; rintro e w2 ⟨rfl, ⟨nd2, rfl⟩⟩))
  refine (surround_any _ 34 _ ?g _ _ [97] (by decide) (by decide) ?r).mono ?_
  case g => exact cell_new _ _ _ _
  case r => exact HR.out.below ((pw_below_drewN (Below.refl _ _) (nd + nd2)).alloc (Nat.le_refl _) _)
  rintro e w3 ⟨v, rfl, hown, hb⟩
  have hown : w3.ownsRow _ 5 1 v 3 (nums .u8 [34, 97, 34]) := hown
  obtain ⟨g3, cp3, rfl, _, _⟩ := hown.form (by simp)
  have hback := own_string (P := Tryd.prog) Tryd.underlying54 Tryd.underlying5 Tryd.underlying9 hown
  have H3 := Lib.hid hb
  clear hown hb
  go_wp2
  go_ret
  refine ⟨rfl, ?_⟩
  exact below_then ((pw_below_drewN HB.out (nd + nd2)).alloc (by show w.heap.size ≤ wb.heap.size; have := HZ.out; omega) _) (by have := HZ.out; simp; omega) H3.out
theorem lives_a : strOfNums (col (bys ⟨#[97, 32, 32, 98]⟩)) = (⟨#[97, 32, 98]⟩ : ByteArray) := by decide +kernel
set_option maxRecDepth 100000 in
theorem lives_any (w : World) :
    Calls Tryd.prog 26 #[] w fun e w' => e = .returned (.bool true) ∧ Below w.heap.size w w' := by
  have h1 := fun w => impl_blanks (⟨#[97, 32, 32, 98]⟩) w (by decide)
  rw [lives_a] at h1
  have H1 := Lib.hid h1
  clear h1
  go_enter Tryd.func26, Tryd.ntmps26
  go_wp2_with (first | (go_at_call 50; refine (H1.out _).mono ?_; rintro e w1 ⟨rfl, hb1⟩; have HB1 := Lib.hid hb1; clear hb1) | (go_at_call 51; refine (quoted_a _).mono ?_; rintro e w2 ⟨rfl, hb2⟩; have HB2 := Lib.hid hb2; clear hb2))
  go_ret
  exact ⟨rfl, below_then HB1.out HB1.out.size HB2.out⟩
end Go.Proofs.YtlallihdiffheaaDoor.Hand
