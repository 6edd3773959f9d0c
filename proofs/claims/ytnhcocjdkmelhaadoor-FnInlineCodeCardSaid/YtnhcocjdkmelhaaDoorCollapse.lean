/- textutils.CollapseInlineCodeContent and impl.InlineCode by hand; bytes.TrimSpace by the shelf's contract (its table as the program's text lays it). -/
import Derived.Test.YtnhcocjdkmelhaaDoorGIn1x
import Derived.Test.YtnhcocjdkmelhaaDoorSpaceShelf
import Derived.Test.YtnhcocjdkmelhaaDoorTable
import Derived.Test.YtnhcocjdkmelhaaDoorLives
import Derived.Lib.BufferWrite
namespace Go.Proofs.YtnhcocjdkmelhaaDoor.Hand
open Go.RowKit Go.Proofs.YtnhcocjdkmelhaaDoorW.PrintWords Go.Proofs.YtnhcocjdkmelhaaDoorW.PrintLast Go.Proofs.YtnhcocjdkmelhaaDoorW.PrintMore Go.Proofs.YtnhcocjdkmelhaaDoor.GIn1
set_option linter.unusedVariables false
set_option linter.unusedSimpArgs false

def TabB (w : World) : Prop := Lib.TabIs Tryd.prog w "bytes.asciiSpace" .u8 Lib.asciiSpaceTab
/-- One more byte; how many blanks stand at the end. -/
def stp (p : List Int × Nat) (x : Int) : List Int × Nat := if x = 32 then (if 0 < p.2 then (p.1, p.2 + 1) else (p.1 ++ [x], p.2 + 1)) else (p.1 ++ [x], 0)
def sq (l : List Int) : List Int × Nat := l.foldl stp ([], 0)
theorem sq_next (l : List Int) (i : Nat) (h : i < l.length) : sq (l.take (i + 1)) = stp (sq (l.take i)) (l.getD i 0) := by
  rw [List.take_succ_eq_append_getElem h, sq, List.foldl_append]
  simp [sq, h]
theorem sq_len (l : List Int) : (sq l).1.length ≤ l.length ∧ (sq l).2 ≤ l.length := by
  suffices h : ∀ (l : List Int) (p : List Int × Nat), (l.foldl stp p).1.length ≤ p.1.length + l.length ∧ (l.foldl stp p).2 ≤ p.2 + l.length by
    have := h l ([], 0)
    simpa [sq] using this
  intro l
  induction l with
  | nil => intro p; simp
  | cons x l ih =>
    intro p
    have h1 := ih (stp p x)
    have h2 : (stp p x).1.length ≤ p.1.length + 1 ∧ (stp p x).2 ≤ p.2 + 1 := by
      unfold stp
      split
      · split <;> simp
      · simp
    simp only [List.foldl_cons, List.length_cons]
    omega
/-- The list without white space at its ends, as bytes.TrimSpace cuts it. -/
def trimL (r : List Int) : List Int := (r.drop (Lib.spLo (Lib.bytesOf r))).take (Lib.trimSpace (Lib.bytesOf r)).length
theorem trim_sizes (l : List UInt8) : Lib.spLo l + (Lib.trimSpace l).length ≤ l.length := by
  have h1 : (l.dropWhile Lib.isSp).length ≤ l.length := (List.dropWhile_sublist _).length_le
  have h2 : (Lib.trimSpace l).length ≤ (l.dropWhile Lib.isSp).length := by
    unfold Lib.trimSpace
    rw [List.length_reverse]
    have := (List.dropWhile_sublist Lib.isSp (l := (l.dropWhile Lib.isSp).reverse)).length_le
    rwa [List.length_reverse] at this
  unfold Lib.spLo
  omega
theorem trimL_length (r : List Int) : (trimL r).length = (Lib.trimSpace (Lib.bytesOf r)).length := by
  have h := trim_sizes (Lib.bytesOf r)
  rw [Lib.bytesOf_length] at h
  rw [trimL, List.length_take, List.length_drop]
  omega
theorem add_flat (b o j : Nat) : (⟨b, o, none⟩ : Addr).add j = ⟨b, o + j, none⟩ := by
  unfold Addr.add
  by_cases h : j = 0
  · subst h; rfl
  · simp [h]
theorem R_C {w : World} {B : Nat} {v : Value} {l : List Int} (h : Kd.R (Kd.int .u8) 5 w B (fun _ => True) v l) (hl : l.length ≤ 9223372036854775807) : ∃ A c, v = .slice A l.length c ∧ l.length ≤ c ∧ (Kd.int .u8).C w A l.length l ∧ (l = [] ∧ A = none ∧ c = 0 ∨ ∃ g, A = some ⟨g, 0, none⟩) := by
  have ho := Kd.own_of_R (enc := Value.int .u8) (h1 := fun _ => rfl) h
  rcases ho.2 with ⟨rfl, h0⟩ | ⟨g, cap, cur, rfl, hBg, hg, hnc, hcm, hcs, htk⟩
  · obtain rfl := List.eq_nil_of_length_eq_zero h0
    exact ⟨none, 0, rfl, Nat.le_refl _, C_of_ints ⟨rfl, hl, fun hn => by simp at hn⟩, .inl ⟨rfl, rfl, rfl⟩⟩
  · refine ⟨some ⟨g, 0, none⟩, cap, rfl, by omega, C_of_ints ⟨rfl, hl, fun _ => ⟨_, rfl, fun j hj => ?_⟩⟩, .inr ⟨g, rfl⟩⟩
    rw [Nat.mul_one] at htk
    have hx := Lib.cells_of_row hg l.length j (.int .u8 (l.getD j 0)) (by rw [htk]; simp [encs, List.getElem?_eq_getElem hj])
    exact hx
theorem trim_any (v : Value) (l : List Int) (B : Nat) (w : World) (h : Kd.R (Kd.int .u8) 5 w B (fun _ => True) v l) (hl : l.length ≤ 1000) (hasc : ∀ i, i < l.length → 0 ≤ l.getD i 0 ∧ l.getD i 0 < 128) (hT : TabB w) :
    Calls Tryd.prog 39 #[v] w fun e w' => ∃ A c, e = .returned (.slice A (trimL l).length c) ∧ (Kd.int .u8).C w A (trimL l).length (trimL l) ∧ w' = w := by
  have hlen := trimL_length l
  have hsz := trim_sizes (Lib.bytesOf l)
  rw [Lib.bytesOf_length] at hsz
  obtain ⟨A, c, rfl, hc, hC, hcase⟩ := R_C h (by omega)
  rcases hcase with ⟨rfl, rfl, rfl⟩ | ⟨g, rfl⟩
  · refine (bytes_TrimSpace_nil w).mono ?_
    rintro e w' ⟨rfl, rfl⟩
    refine ⟨none, 0, rfl, C_of_ints ⟨rfl, by decide, fun hn => absurd hn (by decide)⟩, rfl⟩
  · have hR : ReadsInt w .u8 (some ⟨g, 0, none⟩) l.length l := Kd.reads_of_C (enc := Value.int .u8) (d := (0 : Int)) (h1 := fun _ => rfl) hC
    have hcell : ∀ j, j < l.length → w.cell? ⟨g, 0 + j, none⟩ = some (.int .u8 (l.getD j 0)) := by
      intro j hj
      obtain ⟨ad, e, hx⟩ := hR.2.2 (by omega)
      obtain rfl := Option.some.inj e
      rw [← add_flat]
      exact hx j hj
    refine (bytes_TrimSpace g 0 l.length c l w rfl hc (by omega) hcell hasc hT).mono ?_
    rintro e w' ⟨rfl, rfl⟩
    unfold Lib.bytesTrimSpace
    split
    · rename_i h0
      have hz : (trimL l).length = 0 := by
        rw [hlen, Lib.trimSpace, h0]
        rfl
      refine ⟨none, 0, by rw [hz], C_of_ints ⟨rfl, by omega, fun hn => by omega⟩, rfl⟩
    · refine ⟨some ⟨g, 0 + Lib.spLo (Lib.bytesOf l), none⟩, c - Lib.spLo (Lib.bytesOf l), by rw [hlen], C_of_ints ⟨rfl, by omega, fun _ => ⟨_, rfl, fun j hj => ?_⟩⟩, rfl⟩
      have h1 := hcell (Lib.spLo (Lib.bytesOf l) + j) (by omega)
      rw [show (trimL l).getD j 0 = l.getD (Lib.spLo (Lib.bytesOf l) + j) 0 from by
        unfold trimL
        simp [List.getD_eq_getElem?_getD, List.getElem?_take, List.getElem?_drop, show j < (Lib.trimSpace (Lib.bytesOf l)).length by omega]]
      rw [← h1, add_flat, Nat.add_assoc]
theorem infoB : (Tryd.prog.info? 5).map (fun i => (i.zero, i.size, i.bytes)) = some (some (.int .u8 0), 1, 1) := by kernel_rfl
set_option maxRecDepth 100000 in
set_option maxHeartbeats 6400000 in
theorem collapse_any (A : Option Addr) (c k : Nat) (xs r1 r2 : List Int) (w : World) (hC : (Kd.int .u8).C w A xs.length xs) (hc : xs.length ≤ c) (h1 : textutils_zzReplaceAll.f k xs ⟨#[10]⟩ ⟨#[32]⟩ = some r1) (h2 : textutils_zzReplaceAll.f k r1 ⟨#[9]⟩ ⟨#[32]⟩ = some r2)
    (hl1 : r1.length ≤ 1000) (hl : r2.length ≤ 1000) (hasc : ∀ i, i < r2.length → 0 ≤ r2.getD i 0 ∧ r2.getD i 0 < 128) (hT : TabB w) :
    Calls Tryd.prog 27 #[.slice A xs.length c] w fun e w' => ∃ v, e = .returned v ∧ Kd.R (Kd.int .u8) 5 w' w.heap.size (fun _ => True) v (sq (trimL r2)).1 ∧ Below w.heap.size w w' := by
  have HZ1 := Lib.hid (textutils_zzReplaceAll.calls k A c xs ⟨#[10]⟩ ⟨#[32]⟩ r1 w hC hc h1)
  have HZ2 := Lib.hid (fun A1 c1 w1 hC1 hc1 => textutils_zzReplaceAll.calls k A1 c1 r1 ⟨#[9]⟩ ⟨#[32]⟩ r2 w1 hC1 hc1 h2)
  have hml : (trimL r2).length ≤ 1000 := by
    have h3 := trimL_length r2
    have h4 := trim_sizes (Lib.bytesOf r2)
    rw [Lib.bytesOf_length] at h4
    omega
  have HTR := Lib.hid (fun v B w hr hT => trim_any v r2 B w hr hl hasc hT)
  have HT := Lib.hid hT
  clear hC hc h1 h2 hasc hT
  generalize trimL r2 = m at *
  go_enter Tryd.func27, Tryd.ntmps27
  go_wp2_with fail
  go_at_call 38
  refine HZ1.out.mono ?_
  rintro e w1 ⟨v1, rfl, hr1, hb1⟩
  obtain ⟨A1, c1, rfl, hc1, hC1, _⟩ := R_C hr1 (by omega)
  have HZ3 := Lib.hid (HZ2.out A1 c1 w1 hC1 hc1)
  have HB1 := Lib.hid hb1
  clear HZ1 HZ2 hr1 hb1 hc1 hC1
  go_wp2_with fail
  go_at_call 38
  refine HZ3.out.mono ?_
  rintro e w2 ⟨v2, rfl, hr2, hb2⟩
  have HB2 := Lib.hid (HB1.out.trans (hb2.mono HB1.out.size))
  have HTR2 := Lib.hid (HTR.out v2 w1.heap.size w2 hr2 (tab_below HT.out HB2.out))
  clear HTR HZ3 HB1 HT hr2 hb2
  go_wp2_with fail
  go_at_call 39
  refine HTR2.out.mono ?_
  rintro e w3 ⟨A3, c3, rfl, hC3, hw3⟩
  subst hw3
  have HC3 := Lib.hid hC3
  clear HTR2 hC3
  go_wp2_with ((with_reducible refine gate_dst (N := 15) rfl ?_); refine Kd.R_makecap (Kd.int .u8) _ 5 rfl (N := 15) rfl 33 _ _ rfl (m.length : Int) rfl rfl Tryd.underlying33 (.int .u8 0) 1 infoB rfl (by decide) (by omega) 0 (ok := fun _ => True) (okp := fun _ => True) rfl (fun _ hk => hk) trivial (by omega) (by omega) (Below.refl _ _) (Nat.le_refl _) ?_; intro v4 w4 ho4 hb4 hg_ hnew_; clear hg_ hnew_; have HO4 := Lib.hid ho4; have HB4 := Lib.hid hb4; clear ho4 hb4)
  go_loopw [3, 4, 18] (fun v n i wr => ∃ (j : Nat), i = .int .i64 j ∧ n = .int .i64 (sq (m.take j)).2 ∧ j ≤ m.length ∧ Kd.R (Kd.int .u8) 5 wr w3.heap.size (fun _ => True) v (sq (m.take j)).1 ∧ Below w3.heap.size w3 wr) (fun _ _ i _ => m.length - (intOf i).toNat)
  case atStart => exact ⟨0, rfl, rfl, Nat.zero_le _, HO4.out, HB4.out⟩
  case round =>
    obtain ⟨j, rfl, rfl, hj, hR, hb⟩ := hrel
    have HR := Lib.hid hR
    have HB := Lib.hid hb
    clear hR hb
    by_cases hlt : j < m.length
    · obtain ⟨ad, rfl, hcell⟩ := Kd.at_int HC3.out (j : Int) (by omega) (by omega)
      rw [Int.toNat_natCast] at hcell
      replace hcell := (HB.out.cell (World.block_lt_of_cell? w3 _ hcell)).trans hcell
      have h0 : (0 : Int) ≤ (j : Int) := by omega
      have hlt2 : (j : Int) < (m.length : Int) := by omega
      have HN := Lib.hid (sq_next m j hlt)
      have hx : rd m (j : Int) = m.getD j 0 := by simp [rd]
      rw [hx] at hcell
      generalize m.getD j 0 = x at *
      clear hx
      have hsl := sq_len (m.take j)
      rw [List.length_take] at hsl
      generalize sq (m.take j) = p at *
      obtain ⟨ys, n⟩ := p
      have hyl : ys.length ≤ 1000 := by have := hsl.1; simp only at this; omega
      have hnl : n ≤ 1000 := by have := hsl.2; simp only at this; omega
      clear hsl
      cases hx : (x == 32) with
      | true =>
        obtain rfl : x = 32 := by simpa using hx
        clear hx
        by_cases hn : 0 < n
        · go_wp2
          go_roundw
          case rel => exact ⟨j + 1, by go_num, by rw [HN.out]; simp [stp, hn], hlt, by rw [HN.out]; simpa [stp, hn] using HR.out, HB.out⟩
          case measure => simp [intOf]; omega
        · obtain rfl : n = 0 := by omega
          clear hn
          go_wp2_with ((with_reducible refine gate_builtin (b := .append) (xs := #[.tmp 28, .tmp 30]) rfl ?_); at_builtin; refine Kd.R_append (Kd.int .u8) (w0 := w3) w3.heap.size rfl (.tmp 28) (.tmp 30) 33 5 (.int .u8 0) 1 rfl Tryd.underlying33 infoB rfl (by decide) (by omega) u3 ys 32 [.int .u8 32] (fun _ => True) (fun _ => False) rfl rfl ?aP (fun _ hk => hk.elim) ?aF ?aO ?aB ?aS ?aL ?_; (case aP => exact rfl); (case aB => exact (by repeat (first | (with_reducible first | exact HB.out | apply below_alloc | apply pw_below_drewN | apply below_drew1) | exact HB.out))); (case aF => exact (fun _ _ => trivial)); (case aO => exact (by (with_reducible repeat (first | apply Kd.R_alloc | apply Kd.R_drewN | apply Kd.R_drew)); exact HR.out)); (case aS => exact (below_size (by repeat (first | (with_reducible first | exact HB.out | apply below_alloc | apply pw_below_drewN | apply below_drew1) | exact HB.out)))); (case aL => omega); intro v5 w5 ho hb5 hg hat; have HO5 := Lib.hid ho; have HB5 := Lib.hid hb5; clear ho hb5 hg hat)
          go_roundw
          case rel => exact ⟨j + 1, by go_num, by rw [HN.out]; simp [stp], hlt, by rw [HN.out]; simpa [stp] using HO5.out, HB5.out⟩
          case measure => simp [intOf]; omega
      | false =>
        have hx2 : x ≠ 32 := by simpa using hx
        have HX := Lib.hid hx2
        clear hx2
        go_wp2_with ((with_reducible refine gate_builtin (b := .append) (xs := #[.tmp 28, .tmp 30]) rfl ?_); at_builtin; refine Kd.R_append (Kd.int .u8) (w0 := w3) w3.heap.size rfl (.tmp 28) (.tmp 30) 33 5 (.int .u8 0) 1 rfl Tryd.underlying33 infoB rfl (by decide) (by omega) u3 ys x [.int .u8 x] (fun _ => True) (fun _ => False) rfl rfl ?aP (fun _ hk => hk.elim) ?aF ?aO ?aB ?aS ?aL ?_; (case aP => exact rfl); (case aB => exact (by repeat (first | (with_reducible first | exact HB.out | apply below_alloc | apply pw_below_drewN | apply below_drew1) | exact HB.out))); (case aF => exact (fun _ _ => trivial)); (case aO => exact (by (with_reducible repeat (first | apply Kd.R_alloc | apply Kd.R_drewN | apply Kd.R_drew)); exact HR.out)); (case aS => exact (below_size (by repeat (first | (with_reducible first | exact HB.out | apply below_alloc | apply pw_below_drewN | apply below_drew1) | exact HB.out)))); (case aL => omega); intro v5 w5 ho hb5 hg hat; have HO5 := Lib.hid ho; have HB5 := Lib.hid hb5; clear ho hb5 hg hat)
        go_roundw
        case rel => exact ⟨j + 1, by go_num, by rw [HN.out]; simp [stp, HX.out], hlt, by rw [HN.out]; simpa [stp, HX.out] using HO5.out, HB5.out⟩
        case measure => simp [intOf]; omega
    · have hge : ¬ ((j : Int) < (m.length : Int)) := by omega
      have HE := Lib.hid (show m.take j = m from List.take_of_length_le (by omega))
      rw [HE.out] at HR
      clear hlt
      go_wp2
      go_ret
      exact ⟨u3, rfl, Kd.R_lower HR.out HB2.out.size, HB2.out.trans (HB.out.mono HB2.out.size)⟩
theorem impl_inlineCode (s : ByteArray) (w : World) (hs : s.size ≤ 1000) (k : Nat) (r1 r2 : List Int) (h1 : textutils_zzReplaceAll.f k (bys s) ⟨#[10]⟩ ⟨#[32]⟩ = some r1) (h2 : textutils_zzReplaceAll.f k r1 ⟨#[9]⟩ ⟨#[32]⟩ = some r2) (hl1 : r1.length ≤ 1000) (hl : r2.length ≤ 1000) (hasc : ∀ x ∈ r2, 0 ≤ x ∧ x < 128) (hT : TabB w) :
    Calls Tryd.prog 14 #[.string s] w fun e w' => e = .returned (.string (strOfNums (sq (trimL r2)).1)) ∧ Below w.heap.size w w' := by
  have hconv := fun W => run_bytesW (P := Tryd.prog) 9 33 5 s Tryd.underlying9 Tryd.underlying33 Tryd.underlying5 W
  have hasc2 : ∀ i, i < r2.length → 0 ≤ r2.getD i 0 ∧ r2.getD i 0 < 128 := by
    intro i hi
    rw [show r2.getD i 0 = r2[i]'hi from by simp [hi]]
    exact hasc _ (List.getElem_mem _)
  have hbl := bytesW_below (Below.refl w.heap.size w) (Nat.le_refl _) s 5
  have hcall := collapse_any (some ⟨w.heap.size, 0, none⟩) (bcap w s 5) k (bys s) r1 r2 (bytesW w s 5) (bytesW_C w s 5 (by omega)) (by rw [bys_length]; exact bcap_ge _ _ _) h1 h2 hl1 hl hasc2 (tab_below hT hbl)
  rw [bys_length] at hcall
  have HC := Lib.hid hcall
  clear hcall h1 h2 hT hbl hasc hasc2
  go_enter Tryd.func14, Tryd.ntmps14
  go_wp2_with (go_at_call 27; refine HC.out.mono ?_; rintro e w' ⟨v, rfl, hr, hb⟩; have hback := own_string (P := Tryd.prog) Tryd.underlying33 Tryd.underlying5 Tryd.underlying9 (Kd.own_of_R hr); have HB := Lib.hid hb; clear hr hb)
  go_ret
  exact ⟨rfl, below_then (bytesW_below (Below.refl _ _) (Nat.le_refl _) _ _) (by rw [bytesW_size]; omega) HB.out⟩
theorem tabB_below {w w' : World} (h : TabB w) (hb : Below w.heap.size w w') : TabB w' := tab_below h hb
end Go.Proofs.YtnhcocjdkmelhaaDoor.Hand
