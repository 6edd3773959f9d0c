/- textutils.SurroundingSpaces and impl.Spaces by hand; bytes.TrimRightFunc, TrimLeftFunc and unicode.IsSpace by the shelf's contracts (the tables as the program's text lays them). -/
import Derived.Test.YtnhcocjdkmelhaaDoorTrimFShelf
import Derived.Test.YtnhcocjdkmelhaaDoorIsSpShelf
import Derived.Test.YtnhcocjdkmelhaaDoorSpacesPure
import Derived.Test.YtnhcocjdkmelhaaDoorLives
namespace Go.Proofs.YtnhcocjdkmelhaaDoor.Hand
open Go.RowKit Go.Proofs.YtnhcocjdkmelhaaDoorW.PrintWords Go.Proofs.YtnhcocjdkmelhaaDoorW.PrintLast Go.Proofs.YtnhcocjdkmelhaaDoorW.PrintMore Go.Proofs.YtnhcocjdkmelhaaDoor.Utf
set_option linter.unusedVariables false
set_option linter.unusedSimpArgs false

def TabB (w : World) : Prop := Lib.Utf8Tabs 2 3 w ∧ Lib.WhiteTab 0 w
theorem tabB_below {w w' : World} (h : TabB w) (hb : Below w.heap.size w w') : TabB w' := ⟨Utf8Tabs_below h.1 hb, WhiteTab_below h.2 hb⟩
theorem isSpace_any (x : Nat) (hx : x ≤ 1114111) (w : World) (hT : TabB w) : Calls Tryd.prog 25 #[.int .i32 (x : Int)] w fun e w' => e = .returned (.bool (Lib.isSpaceR x)) ∧ Below w.heap.size w w' := by
  have h := unicode_IsSpace_any (x : Int) w (by omega) (by omega) hT.2
  rw [Lib.isSpaceZ_nat] at h
  exact h
theorem clos1_any (x : Nat) (hx : x ≤ 1114111) (w : World) (hT : TabB w) : Calls Tryd.prog 34 #[.int .i32 (x : Int)] w fun e w' => e = .returned (.bool (Lib.isSpaceR x)) ∧ Below w.heap.size w w' := by
  have H := Lib.hid (isSpace_any x hx w hT)
  clear hT
  go_enter Tryd.func34, Tryd.ntmps34
  go_wp2_with (go_at_call 25; refine H.out.mono ?_; rintro e w1 ⟨rfl, hb⟩; have HB := Lib.hid hb; clear hb)
  go_ret
  exact ⟨rfl, HB.out⟩
theorem clos2_any (x : Nat) (hx : x ≤ 1114111) (w : World) (hT : TabB w) : Calls Tryd.prog 36 #[.int .i32 (x : Int)] w fun e w' => e = .returned (.bool (Lib.isSpaceR x)) ∧ Below w.heap.size w w' := by
  have H := Lib.hid (isSpace_any x hx w hT)
  clear hT
  go_enter Tryd.func36, Tryd.ntmps36
  go_wp2_with (go_at_call 25; refine H.out.mono ?_; rintro e w1 ⟨rfl, hb⟩; have HB := Lib.hid hb; clear hb)
  go_ret
  exact ⟨rfl, HB.out⟩
/-- A text in three parts. -/
def spacesOf (s : ByteArray) : ByteArray × ByteArray × ByteArray :=
  if (mid29 s).1 < 0 then (⟨#[]⟩, ⟨#[]⟩, s) else (s.extract 0 (mid29 s).1.toNat, s.extract (mid29 s).1.toNat (mid29 s).2, s.extract (mid29 s).2 s.size)
theorem add_flat (b o j : Nat) : (⟨b, o, none⟩ : Addr).add j = ⟨b, o + j, none⟩ := by
  unfold Addr.add
  by_cases h : j = 0
  · subst h; rfl
  · simp [h]
theorem at_bytes {w : World} {b : Nat} {s : ByteArray} (hC : (Kd.int .u8).C w (some ⟨b, 0, none⟩) s.size (bys s)) (m : Nat) (hm : m ≤ s.size) : BytesAt (s.extract 0 m) b 0 w := by
  have hR : ReadsInt w .u8 (some ⟨b, 0, none⟩) s.size (bys s) := Kd.reads_of_C (enc := Value.int .u8) (d := (0 : Int)) (h1 := fun _ => rfl) hC
  intro j hj
  have hsz : (s.extract 0 m).size = m := by simp; omega
  obtain ⟨ad, e, hx⟩ := hR.2.2 (by omega)
  obtain rfl := Option.some.inj e
  have h1 := hx j (by omega)
  rw [add_flat] at h1
  rw [h1]
  have hsl : s.data.toList.length = s.size := Array.length_toList ..
  have h2 : (bys s).getD j 0 = ((s.get! j).toNat : Int) := by
    rw [get_data s j (by omega), bys, List.getD_eq_getElem?_getD, List.getElem?_map, List.getElem?_eq_getElem (by omega)]
    rfl
  have h3 : (s.extract 0 m).get! j = s.get! j := by
    have hx := extract_part s 0 m hm
    have hxl : (s.extract 0 m).data.toList.length = (s.extract 0 m).size := Array.length_toList ..
    rw [get_data _ j (by omega), get_data s j (by omega)]
    simp [hx]
  rw [h2, h3]
theorem cut_C {w : World} {b : Nat} {s : ByteArray} (hC : (Kd.int .u8).C w (some ⟨b, 0, none⟩) s.size (bys s)) (a t : Nat) (hat : a ≤ t) (ht : t ≤ s.size) (hs : s.size ≤ 2147483647) : (Kd.int .u8).C w (some ⟨b, 0 + a, none⟩) (((bys s).take t).drop a).length (((bys s).take t).drop a) := by
  have hR : ReadsInt w .u8 (some ⟨b, 0, none⟩) s.size (bys s) := Kd.reads_of_C (enc := Value.int .u8) (d := (0 : Int)) (h1 := fun _ => rfl) hC
  have hl := bys_length s
  have hlen : (((bys s).take t).drop a).length = t - a := by rw [List.length_drop, List.length_take]; omega
  refine C_of_ints ⟨rfl, by omega, fun hn => ⟨_, rfl, fun j hj => ?_⟩⟩
  obtain ⟨ad, e, hx⟩ := hR.2.2 (by omega)
  obtain rfl := Option.some.inj e
  have h1 := hx (a + j) (by omega)
  rw [add_flat] at h1
  rw [add_flat, Nat.add_assoc, h1]
  congr 2
  simp [List.getD_eq_getElem?_getD, List.getElem?_drop, List.getElem?_take, show a + j < t by omega]
theorem left_cut {w : World} {b cap : Nat} {s : ByteArray} (hC : (Kd.int .u8).C w (some ⟨b, 0, none⟩) s.size (bys s)) (hs : s.size ≤ 2147483647) :
    ∃ A q c, leftCut Lib.isSpaceR (s.extract 0 (mid29 s).2) b 0 cap = .slice A q c ∧ q ≤ (mid29 s).2 ∧ (mid29 s).2 ≤ s.size ∧ ∃ l : List Int, q = l.length ∧ (Kd.int .u8).C w A l.length l ∧
      ((mid29 s).1 < 0 → (mid29 s).2 = 0 ∧ l = []) ∧ (0 ≤ (mid29 s).1 → (mid29 s).2 - q = (mid29 s).1.toNat ∧ l = ((bys s).take (mid29 s).2).drop (mid29 s).1.toNat) := by
  have hf := (mid29_sc s).facts
  generalize mid29 s = p at *
  obtain ⟨f, t⟩ := p
  simp only at hf ⊢
  have hl := bys_length s
  rcases hf with ⟨h1, h2, h3⟩ | ⟨a, e, h1, h2, h3, h4, h5, h6, h7, h8, h9, h10, h11⟩
  · subst h1 h2
    have hi : Lib.idxFunc Lib.isSpaceR false (s.extract 0 0) = -1 := by
      unfold Lib.idxFunc
      exact Lib.idxFuncFrom_end _ _ _ _ _ (by simp)
    refine ⟨none, 0, 0, by unfold leftCut; rw [if_pos hi], Nat.le_refl _, Nat.zero_le _, [], rfl, C_of_ints ⟨rfl, by decide, fun hn => absurd hn (by decide)⟩, fun _ => ⟨rfl, rfl⟩, fun h => by omega⟩
  · subst h1
    have hsz : (s.extract 0 t).size = t := by simp; omega
    have hwa : a + wd s a ≤ t := by
      by_cases e1 : a = e
      · rw [e1]; omega
      · have := Bd.apart h2 h6 (by omega)
        have he := wd_range s e h7
        unfold wd at he h8 ⊢
        omega
    have hi : Lib.idxFunc Lib.isSpaceR false (s.extract 0 t) = (a : Int) := by
      unfold Lib.idxFunc
      rw [hsz]
      exact left_from h10 h3 h2 hwa h4 h5 t 0 Bd.zero (by omega) (by omega)
    have hw := wd_range s a h3
    have hlen : (((bys s).take t).drop a).length = t - a := by rw [List.length_drop, List.length_take]; omega
    refine ⟨some ⟨b, 0 + a, none⟩, t - a, cap - a, ?_, by omega, h10, ((bys s).take t).drop a, by omega, cut_C hC a t (by omega) h10 hs, fun h => by omega, fun _ => ⟨by omega, by rw [Int.toNat_natCast]⟩⟩
    unfold leftCut
    rw [hi, if_neg (by omega), Int.toNat_natCast, hsz]
set_option maxRecDepth 100000 in
set_option maxHeartbeats 6400000 in
theorem surrSpaces_any (b cap : Nat) (s : ByteArray) (w : World) (hC : (Kd.int .u8).C w (some ⟨b, 0, none⟩) s.size (bys s)) (hcap : s.size ≤ cap) (hs : s.size ≤ 2147483647) (hT : TabB w) :
    Calls Tryd.prog 24 #[.slice (some ⟨b, 0, none⟩) s.size cap] w fun e w' => ∃ A1 c1 A2 c2 A3 c3 l1 l2 l3, e = .returned (.tuple #[.slice A1 l1.length c1, .slice A2 l2.length c2, .slice A3 l3.length c3]) ∧
      (Kd.int .u8).C w A1 l1.length l1 ∧ (Kd.int .u8).C w A2 l2.length l2 ∧ (Kd.int .u8).C w A3 l3.length l3 ∧ (strOfNums l1, strOfNums l2, strOfNums l3) = spacesOf s ∧ Below w.heap.size w w' := by
  have hl := bys_length s
  have hre := right_end (mid29_sc s)
  obtain ⟨A2, q, c2, hlc, hqt, hts, l2, hq, hC2, hneg, hpos⟩ := left_cut (cap := cap) hC hs
  have hfacts := (mid29_sc s).facts
  obtain ⟨f, hf⟩ : ∃ f, f = (mid29 s).1 := ⟨_, rfl⟩
  obtain ⟨t, ht⟩ : ∃ t, t = (mid29 s).2 := ⟨_, rfl⟩
  rw [← hf, ← ht] at hfacts
  rw [← ht] at hre hlc hqt hts
  rw [← hf, ← ht] at hneg hpos
  have hsz : (s.extract 0 t).size = t := by simp; omega
  have hR : ReadsInt w .u8 (some ⟨b, 0, none⟩) s.size (bys s) := Kd.reads_of_C (enc := Value.int .u8) (d := (0 : Int)) (h1 := fun _ => rfl) hC
  -- the two calls
  have hBA : BytesAt s b 0 w := by
    have h1 := at_bytes hC s.size (Nat.le_refl _)
    have e : s.extract 0 s.size = s := by simp
    rwa [e] at h1
  have hA := bytes_TrimRightFunc 34 #[] (fun args W => enters Tryd.func34 (by kernel_rfl) rfl args W) Lib.isSpaceR s b 0 cap w hcap (by omega) hBA hT.1 (fun W x hx hb => by have := clos1_any x hx W (tabB_below hT hb); simpa [encR] using this)
  have hB := fun (W : World) (hb : Below w.heap.size w W) => bytes_TrimLeftFunc 36 #[] (fun args W => enters Tryd.func36 (by kernel_rfl) rfl args W) Lib.isSpaceR (s.extract 0 t) b 0 cap W (by omega) (by omega) (at_bytes (Kd.C_below hC hb) t hts) (tabB_below hT hb).1 (fun W2 x hx hb2 => by have := clos2_any x hx W2 (tabB_below (tabB_below hT hb) hb2); simpa [encR] using this)
  unfold rightCut at hA
  rw [hre] at hA
  rw [hsz, hlc] at hB
  -- the two cuts
  obtain ⟨i0, hi0, _, hsz0, _⟩ := info_parts (show (Tryd.prog.info? 5).map (fun i => (i.zero, i.size, i.bytes)) = some (some (.int .u8 0), 1, 1) by kernel_rfl)
  obtain ⟨A3, hcut3, hA3, _⟩ := print_drop_of (P := Tryd.prog) (Value.int .u8) 0 33 5 .i64 Tryd.underlying33 hi0 hsz0 (some ⟨b, 0, none⟩) cap (bys s) (t : Int) (by omega) (by omega) (by omega)
  obtain ⟨A1, hcut1, hA1, _⟩ := print_mid_of (P := Tryd.prog) (Value.int .u8) 0 33 5 .i64 .i64 Tryd.underlying33 hi0 hsz0 (some ⟨b, 0, none⟩) cap (bys s) 0 ((t : Int) - (q : Int)) (by omega) (by omega) (by omega) (by omega)
  rw [← hl] at hR
  have hC3 : (Kd.int .u8).C w A3 ((bys s).drop (t : Int).toNat).length ((bys s).drop (t : Int).toNat) := C_of_ints (hA3 w hR)
  have hC1 : (Kd.int .u8).C w A1 (((bys s).take ((t : Int) - (q : Int)).toNat).drop (0 : Int).toNat).length (((bys s).take ((t : Int) - (q : Int)).toNat).drop (0 : Int).toNat) := C_of_ints (hA1 w hR)
  rw [hl] at hcut3 hcut1
  have hfin : (strOfNums (((bys s).take ((t : Int) - (q : Int)).toNat).drop (0 : Int).toNat), strOfNums l2, strOfNums ((bys s).drop (t : Int).toNat)) = spacesOf s := by
    have e3 : strOfNums ((bys s).drop (t : Int).toNat) = s.extract t s.size := by
      rw [Int.toNat_natCast, ← str_bys (s.extract t s.size), bys_extract, List.take_of_length_le (by rw [List.length_drop]; omega)]
    have e1 : strOfNums (((bys s).take ((t : Int) - (q : Int)).toNat).drop (0 : Int).toNat) = s.extract 0 (t - q) := by
      rw [← str_bys (s.extract 0 (t - q)), bys_extract, Nat.sub_zero, List.drop_zero, show ((t : Int) - (q : Int)).toNat = t - q by omega]
      simp
    rw [e3, e1]
    unfold spacesOf
    rw [← hf, ← ht]
    by_cases h : f < 0
    · obtain ⟨h1, h2⟩ := hneg h
      rw [if_pos h, h2, h1]
      have e5 : s.extract 0 (0 - q) = ⟨#[]⟩ := by
        rw [Nat.zero_sub]
        simp
        rfl
      have e6 : s.extract 0 s.size = s := by simp
      rw [e5, e6]
      rfl
    · obtain ⟨h1, h2⟩ := hpos (by omega)
      rw [if_neg h, h1, h2, ← str_bys (s.extract f.toNat t), bys_extract, List.drop_take]
  obtain ⟨l3, hl3⟩ : ∃ l3, l3 = (bys s).drop (t : Int).toNat := ⟨_, rfl⟩
  obtain ⟨l1, hl1⟩ : ∃ l1, l1 = ((bys s).take ((t : Int) - (q : Int)).toNat).drop (0 : Int).toNat := ⟨_, rfl⟩
  rw [← hl3] at hcut3 hC3 hfin
  rw [← hl1] at hcut1 hC1 hfin
  clear hl3 hl1
  have HA := Lib.hid hA
  have HB := Lib.hid hB
  have HF := Lib.hid hfin
  have H1 := Lib.hid hC1
  have H2 := Lib.hid hC2
  have H3 := Lib.hid hC3
  have h0t : (0 : Int) ≤ (t : Int) := by omega
  have h1t : (t : Int) ≤ (s.size : Int) := by omega
  have h2t : (q : Int) ≤ (t : Int) := by omega
  have HQ := Lib.hid hq
  clear hA hB hfin hC1 hC2 hC3 hR hC hT hneg hpos hfacts hlc hre hf ht hA1 hA3 hl hq hsz hi0 hsz0
  go_enter Tryd.func24, Tryd.ntmps24
  go_wp2_with (go_at_call 33; refine HA.out.mono ?_; rintro e w1 ⟨rfl, hb1⟩; have HB1 := Lib.hid hb1; clear hb1)
  go_at_call 35
  refine (HB.out w1 HB1.out).mono ?_
  rintro e w2 ⟨rfl, hb2⟩
  have HB2 := Lib.hid (HB1.out.trans (hb2.mono HB1.out.size))
  clear hb2 HA HB
  go_wp2
  go_ret3
  exact ⟨A1, cap, A2, c2, A3, cap - t, l1, l2, l3, by rw [← HQ.out]; rfl, H1.out, H2.out, H3.out, HF.out, HB2.out⟩
set_option maxRecDepth 100000 in
set_option maxHeartbeats 6400000 in
theorem spaces_any (s : ByteArray) (w : World) (hs : s.size ≤ 2147483647) (hT : TabB w) :
    Calls Tryd.prog 11 #[.string s] w fun e w' => e = .returned (.tuple #[.string (spacesOf s).1, .string (spacesOf s).2.1, .string (spacesOf s).2.2]) ∧ Below w.heap.size w w' := by
  have hconv := fun W => run_bytesW (P := Tryd.prog) 9 33 5 s Tryd.underlying9 Tryd.underlying33 Tryd.underlying5 W
  have hbl := bytesW_below (Below.refl w.heap.size w) (Nat.le_refl _) s 5
  have hCC := bytesW_C w s 5 (by omega)
  rw [bys_length] at hCC
  have hcall := surrSpaces_any w.heap.size (bcap w s 5) s (bytesW w s 5) hCC (bcap_ge _ _ _) hs (tabB_below hT hbl)
  have HC := Lib.hid hcall
  have HBL := Lib.hid hbl
  clear hcall hT hbl hCC
  obtain ⟨R, hR⟩ : ∃ R, R = spacesOf s := ⟨_, rfl⟩
  rw [← hR] at HC ⊢
  clear hR
  go_enter Tryd.func11, Tryd.ntmps11
  go_wp2_with (go_at_call 24; refine HC.out.mono ?_; rintro e w1 ⟨A1, c1, A2, c2, A3, c3, l1, l2, l3, rfl, h1, h2, h3, hf, hb⟩; subst hf; have k1 := Kd.C_string (P := Tryd.prog) (c := c1) Tryd.underlying33 Tryd.underlying5 Tryd.underlying9 (Kd.C_below h1 hb.drew); have k2 := Kd.C_string (P := Tryd.prog) (c := c2) Tryd.underlying33 Tryd.underlying5 Tryd.underlying9 (Kd.C_below h2 hb.drew); have k3 := Kd.C_string (P := Tryd.prog) (c := c3) Tryd.underlying33 Tryd.underlying5 Tryd.underlying9 (Kd.C_below h3 hb.drew); have HB := Lib.hid hb; clear h1 h2 h3 hb HC)
  go_region
  all_goals (try go_wp2)
  all_goals go_ret3
  all_goals exact ⟨rfl, below_then (bytesW_below (Below.refl _ _) (Nat.le_refl _) _ _) (by rw [bytesW_size]; omega) HB.out.drew⟩
end Go.Proofs.YtnhcocjdkmelhaaDoor.Hand
