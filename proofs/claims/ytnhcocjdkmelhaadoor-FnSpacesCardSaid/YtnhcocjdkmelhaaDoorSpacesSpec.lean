/- spec.size29, Blank29 and Middle29 by hand. -/
import Derived.Test.YtnhcocjdkmelhaaDoorSpacesHand
import Derived.Lib.OthersKept
import Derived.Lib.TrimU
namespace Go.Proofs.YtnhcocjdkmelhaaDoor.Hand
open Go.RowKit Go.Proofs.YtnhcocjdkmelhaaDoorW.PrintWords Go.Proofs.YtnhcocjdkmelhaaDoorW.PrintLast Go.Proofs.YtnhcocjdkmelhaaDoorW.PrintMore Go.Proofs.YtnhcocjdkmelhaaDoor.Utf
set_option linter.unusedVariables false
set_option linter.unusedSimpArgs false

theorem dec_range (s : ByteArray) (pos : Nat) (h : pos < s.size) : 1 ≤ (Utf8.decode s pos).2 ∧ pos + (Utf8.decode s pos).2 ≤ s.size := by
  rw [dec_text]
  have := dec_width (gb s) s.size pos h
  omega
set_option maxRecDepth 100000 in
set_option maxHeartbeats 3200000 in
theorem size29_any (s : ByteArray) (a : Nat) (ha : a < s.size) (hs : s.size ≤ 2147483647) (w : World) : Calls Tryd.prog 26 #[.string s, .int .i64 (a : Int)] w fun e w' => e = .returned (.int .i64 ((Utf8.decode s a).2 : Int)) ∧ Below w.heap.size w w' := by
  have hxs : (s.extract a s.size).size = s.size - a := by simp
  have hd : Utf8.decode (s.extract a s.size) 0 = Utf8.decode s a := by
    rw [part_dec s a s.size 0 (Nat.le_refl _) (by omega), Nat.add_zero, ← dec_text]
  have hr := dec_range s a ha
  rw [← hd] at hr ⊢
  obtain ⟨x, hx⟩ : ∃ x, x = s.extract a s.size := ⟨_, rfl⟩
  rw [← hx] at hxs hr ⊢
  have h0 : (0 : Int) ≤ (a : Int) := by omega
  have h1 : (a : Int) ≤ (s.size : Int) := by omega
  obtain ⟨d, hdd⟩ : ∃ d, d = (Utf8.decode x 0).2 := ⟨_, rfl⟩
  rw [← hdd] at hr ⊢
  have HX := Lib.hid hx
  have HD := Lib.hid hdd
  have hd1 : 1 ≤ d := hr.1
  have hd2 : d ≤ x.size := by omega
  have hxs2 : ((s.size : Int) - (a : Int)) = (x.size : Int) := by omega
  have HXS := Lib.hid hxs2
  clear hxs hd hr hx hdd hxs2
  go_enter Tryd.func26, Tryd.ntmps26
  go_wp2
  rw [← HX.out]
  go_loopw [5] (fun i wr => ∃ (pos : Nat), wr = w.iter x pos ∧ (pos = 0 ∨ pos = d)) (fun _ wr => x.size - wr.iterPos w.heap.size)
  case atStart => exact ⟨0, rfl, .inl rfl⟩
  case round =>
    obtain ⟨pos, rfl, hpos⟩ := hrel
    rcases hpos with rfl | rfl
    · have hnx : ∀ ty, (Instr.next (.pointer (some ⟨w.heap.size, 0, none⟩)) true ty).run Tryd.prog (w.iter x 0) = _ := fun ty => run_next_any w x 0 ty (by omega)
      rw [Nat.zero_add, ← HD.out] at hnx
      go_wp2
      go_roundw
      case rel => exact ⟨d, rfl, .inr rfl⟩
      case measure => simp; omega
    · by_cases hp : pos < x.size
      · have hnx : ∀ ty, (Instr.next (.pointer (some ⟨w.heap.size, 0, none⟩)) true ty).run Tryd.prog (w.iter x pos) = _ := fun ty => run_next_any w x pos ty hp
        have hpz : (0 : Int) < (pos : Int) := by omega
        go_wp2
        go_ret
        exact ⟨rfl, (Below.refl _ _).alloc (Nat.le_refl _) _⟩
      · have hnx : ∀ ty, (Instr.next (.pointer (some ⟨w.heap.size, 0, none⟩)) true ty).run Tryd.prog (w.iter x pos) = _ := fun ty => run_next_end w x pos ty hp
        have hpe : (pos : Int) = (x.size : Int) := by omega
        have HP := Lib.hid hpe
        clear hpe
        go_wp2
        go_ret
        exact ⟨by rw [HP.out, ← HXS.out]; rfl, (Below.refl _ _).alloc (Nat.le_refl _) _⟩
theorem iterPos_of {w : World} {k : Nat} {s : ByteArray} {p : Nat} (h : w.heap[k]? = some (.stringIter s p)) : w.iterPos k = p := by simp [World.iterPos, h]
theorem rune_ok (s : ByteArray) (pos : Nat) : (Utf8.decode s pos).1 ≤ 1114111 := Lib.rune_le s pos
set_option maxRecDepth 100000 in
set_option maxHeartbeats 3200000 in
theorem blank29_any (s : ByteArray) (hs : s.size ≤ 2147483647) (w : World) (hT : TabB w) : Calls Tryd.prog 13 #[.string s] w fun e w' => e = .returned (.bool (allSp s s.size 0)) ∧ Below w.heap.size w w' := by
  have HT := Lib.hid hT
  clear hT
  obtain ⟨Z, hZ⟩ : ∃ Z, allSp s s.size 0 = Z := ⟨_, rfl⟩
  have HZ := Lib.hid hZ
  rw [hZ]
  clear hZ
  go_enter Tryd.func13, Tryd.ntmps13
  go_wp2
  go_loopw [4] (fun c wr => ∃ (pos k : Nat), wr.heap[w.heap.size]? = some (.stringIter s pos) ∧ Below w.heap.size w wr ∧ allSp s k pos = Z ∧ s.size ≤ pos + k) (fun _ wr => s.size - wr.iterPos w.heap.size)
  case atStart => exact ⟨0, s.size, heap_alloc_new _ _, (Below.refl _ _).alloc (Nat.le_refl _) _, HZ.out, by omega⟩
  case round =>
    obtain ⟨pos, k, hk, hb, ha, hn⟩ := hrel
    have hip : wr.iterPos w.heap.size = pos := iterPos_of hk
    by_cases hp : pos < s.size
    · obtain ⟨k, rfl⟩ : ∃ m, k = m + 1 := ⟨k - 1, by omega⟩
      have hnx : ∀ ty, (Instr.next (.pointer (some ⟨w.heap.size, 0, none⟩)) true ty).run Tryd.prog wr = _ := fun ty => Lib.run_next_any_at wr w.heap.size s pos ty hk hp
      have hr := dec_range s pos hp
      have hb2 : Below w.heap.size w (wr.iterAt w.heap.size s (pos + (Utf8.decode s pos).2)) := Lib.below_iterAt hb (Nat.le_refl _) _ _
      have hk2 := Lib.iterAt_heap wr w.heap.size s pos (pos + (Utf8.decode s pos).2) hk
      have hlt2 : w.heap.size < (wr.iterAt w.heap.size s (pos + (Utf8.decode s pos).2)).heap.size := (Array.getElem?_eq_some_iff.1 hk2).1
      have HIS := Lib.hid (isSpace_any (Utf8.decode s pos).1 (rune_ok s pos) (wr.iterAt w.heap.size s (pos + (Utf8.decode s pos).2)) (tabB_below HT.out hb2))
      unfold allSp at ha
      rw [if_pos hp] at ha
      have HB := Lib.hid hb2
      have HK := Lib.hid hk2
      have HIP := Lib.hid hip
      clear hk hb hb2 hk2 hip
      cases hsp : Lib.isSpaceR (Utf8.decode s pos).1 with
      | true =>
        rw [hsp] at HIS ha
        rw [if_pos rfl] at ha
        have HA := Lib.hid ha
        clear ha hsp
        go_wp2_with (go_at_call 25; refine HIS.out.mono ?_; rintro e w2 ⟨rfl, hb3⟩; have HB3 := Lib.hid hb3; clear hb3)
        have hk3 := (HB3.out.block w.heap.size hlt2).trans HK.out
        go_roundw
        case rel => exact ⟨_, k, hk3, HB.out.trans (HB3.out.mono HB.out.size), HA.out, by omega⟩
        case measure =>
          rw [iterPos_of hk3, HIP.out]
          omega
      | false =>
        rw [hsp] at HIS ha
        rw [if_neg (by simp)] at ha
        have HA := Lib.hid ha
        clear ha hsp
        go_wp2_with (go_at_call 25; refine HIS.out.mono ?_; rintro e w2 ⟨rfl, hb3⟩; have HB3 := Lib.hid hb3; clear hb3)
        go_ret
        exact ⟨by rw [← HA.out]; rfl, HB.out.trans (HB3.out.mono HB.out.size)⟩
    · have hnx : ∀ ty, (Instr.next (.pointer (some ⟨w.heap.size, 0, none⟩)) true ty).run Tryd.prog wr = _ := fun ty => Lib.run_next_end_at wr w.heap.size s pos ty hk hp
      have ha2 : Z = true := by
        rw [← ha]
        cases k with
        | zero => rfl
        | succ k => unfold allSp; rw [if_neg hp]
      have HA := Lib.hid ha2
      have HB := Lib.hid hb
      clear ha ha2 hb hk hip
      go_wp2
      go_ret
      exact ⟨by rw [HA.out]; rfl, HB.out⟩
/-- What Middle29 tells. -/
def midOut (s : ByteArray) : ByteArray × Int := if (mid29 s).1 < 0 then (⟨#[]⟩, (s.size : Int)) else (s.extract (mid29 s).1.toNat (mid29 s).2, (mid29 s).1)
set_option maxRecDepth 100000 in
set_option maxHeartbeats 6400000 in
theorem middle29_any (s : ByteArray) (hs : s.size ≤ 2147483647) (w : World) (hT : TabB w) : Calls Tryd.prog 12 #[.string s] w fun e w' => e = .returned (.tuple #[.string (midOut s).1, .int .i64 (midOut s).2]) ∧ Below w.heap.size w w' := by
  have HT := Lib.hid hT
  clear hT
  go_enter Tryd.func12, Tryd.ntmps12
  go_wp2
  go_loopw [4, 5] (fun a b wr => ∃ (pos k t : Nat) (f : Int), a = .int .i64 f ∧ b = .int .i64 (t : Int) ∧ wr.heap[w.heap.size]? = some (.stringIter s pos) ∧ Below w.heap.size w wr ∧ mid s k pos f t = mid29 s ∧ Sc s pos f t ∧ s.size ≤ pos + k) (fun _ _ wr => s.size - wr.iterPos w.heap.size)
  case atStart => exact ⟨0, s.size, 0, -1, rfl, rfl, heap_alloc_new _ _, (Below.refl _ _).alloc (Nat.le_refl _) _, rfl, Sc.zero, by omega⟩
  case round =>
    obtain ⟨pos, k, t, f, rfl, rfl, hk, hb, hm, hsc, hn⟩ := hrel
    have hip : wr.iterPos w.heap.size = pos := iterPos_of hk
    have hfr : (f = -1 ∧ t = 0) ∨ (0 ≤ f ∧ f ≤ (t : Int) ∧ t ≤ pos) := by
      rcases hsc.facts with ⟨h1, h2, _⟩ | ⟨a, e, h1, h2, h3, h4, h5, h6, h7, h8, h9, h10, _⟩
      · exact .inl ⟨h1, h2⟩
      · exact .inr ⟨by omega, by omega, h10⟩
    have hple : pos ≤ s.size := Bd.le hsc.bd
    by_cases hp : pos < s.size
    · obtain ⟨k, rfl⟩ : ∃ m, k = m + 1 := ⟨k - 1, by omega⟩
      have hnx : ∀ ty, (Instr.next (.pointer (some ⟨w.heap.size, 0, none⟩)) true ty).run Tryd.prog wr = _ := fun ty => Lib.run_next_any_at wr w.heap.size s pos ty hk hp
      have hr := dec_range s pos hp
      have hb2 : Below w.heap.size w (wr.iterAt w.heap.size s (pos + (Utf8.decode s pos).2)) := Lib.below_iterAt hb (Nat.le_refl _) _ _
      have hk2 := Lib.iterAt_heap wr w.heap.size s pos (pos + (Utf8.decode s pos).2) hk
      have hlt2 : w.heap.size < (wr.iterAt w.heap.size s (pos + (Utf8.decode s pos).2)).heap.size := (Array.getElem?_eq_some_iff.1 hk2).1
      have HIS := Lib.hid (isSpace_any (Utf8.decode s pos).1 (rune_ok s pos) (wr.iterAt w.heap.size s (pos + (Utf8.decode s pos).2)) (tabB_below HT.out hb2))
      have HSZ := Lib.hid (fun W => size29_any s pos hp hs W)
      have hdt : Utf8.decode s pos = dec (gb s) s.size pos := dec_text s pos
      have hscS : Lib.isSpaceR (Utf8.decode s pos).1 = true → Sc s (pos + (Utf8.decode s pos).2) f t := fun h => by
        rw [hdt] at h ⊢
        exact Sc.space pos f t hsc hp h
      have hscW : ¬ Lib.isSpaceR (Utf8.decode s pos).1 = true → Sc s (pos + (Utf8.decode s pos).2) (if f < 0 then (pos : Int) else f) (pos + (Utf8.decode s pos).2) := fun h => by
        rw [hdt] at h ⊢
        exact Sc.word pos f t hsc hp h
      unfold mid at hm
      rw [if_pos hp] at hm
      have HB := Lib.hid hb2
      have HK := Lib.hid hk2
      have HIP := Lib.hid hip
      have HSS := Lib.hid hscS
      have HSW := Lib.hid hscW
      clear hk hb hb2 hk2 hip hscS hscW hdt hsc
      cases hsp : Lib.isSpaceR (Utf8.decode s pos).1 with
      | true =>
        have HS := Lib.hid (HSS.out hsp)
        rw [hsp] at HIS hm
        rw [if_pos rfl] at hm
        have HM := Lib.hid hm
        clear hm hsp HSS HSW
        go_wp2_with (go_at_call 25; refine HIS.out.mono ?_; rintro e w2 ⟨rfl, hb3⟩; have HB3 := Lib.hid hb3; clear hb3)
        have hk3 := (HB3.out.block w.heap.size hlt2).trans HK.out
        go_roundw
        case rel => exact ⟨_, k, t, f, rfl, rfl, hk3, HB.out.trans (HB3.out.mono HB.out.size), HM.out, HS.out, by omega⟩
        case measure =>
          rw [iterPos_of hk3, HIP.out]
          omega
      | false =>
        have HS := Lib.hid (HSW.out (by rw [hsp]; simp))
        rw [hsp] at HIS hm
        rw [if_neg (by simp)] at hm
        have HM := Lib.hid hm
        clear hm hsp HSS HSW
        have h0p : (0 : Int) ≤ (pos : Int) := by omega
        have h1p : (pos : Int) < (s.size : Int) := by omega
        obtain ⟨d, hd⟩ : ∃ d, d = (Utf8.decode s pos).2 := ⟨_, rfl⟩
        rw [← hd] at HS HM HK HSZ hr hlt2 HB HIS hnx
        have HD := Lib.hid hd
        clear hd
        by_cases hf : f < 0
        · rw [if_pos hf] at HS HM
          go_wp2_with (first
            | (go_at_call 25; refine HIS.out.mono ?_; rintro e w2 ⟨rfl, hb3⟩; have HB3 := Lib.hid hb3; clear hb3)
            | (go_at_call 26; refine (HSZ.out _).mono ?_; rintro e w3 ⟨rfl, hb4⟩; have HB4 := Lib.hid hb4; clear hb4))
          have hk3 := (HB4.out.block w.heap.size (Nat.lt_of_lt_of_le hlt2 HB3.out.size)).trans ((HB3.out.block w.heap.size hlt2).trans HK.out)
          have hb5 := HB.out.trans (HB3.out.mono HB.out.size)
          go_roundw
          case rel => exact ⟨_, k, pos + d, pos, rfl, by go_num, hk3, hb5.trans (HB4.out.mono hb5.size), HM.out, HS.out, by omega⟩
          case measure =>
            rw [iterPos_of hk3, HIP.out]
            omega
        · rw [if_neg hf] at HS HM
          go_wp2_with (first
            | (go_at_call 25; refine HIS.out.mono ?_; rintro e w2 ⟨rfl, hb3⟩; have HB3 := Lib.hid hb3; clear hb3)
            | (go_at_call 26; refine (HSZ.out _).mono ?_; rintro e w3 ⟨rfl, hb4⟩; have HB4 := Lib.hid hb4; clear hb4))
          have hk3 := (HB4.out.block w.heap.size (Nat.lt_of_lt_of_le hlt2 HB3.out.size)).trans ((HB3.out.block w.heap.size hlt2).trans HK.out)
          have hb5 := HB.out.trans (HB3.out.mono HB.out.size)
          go_roundw
          case rel => exact ⟨_, k, pos + d, f, rfl, by go_num, hk3, hb5.trans (HB4.out.mono hb5.size), HM.out, HS.out, by omega⟩
          case measure =>
            rw [iterPos_of hk3, HIP.out]
            omega
    · have hnx : ∀ ty, (Instr.next (.pointer (some ⟨w.heap.size, 0, none⟩)) true ty).run Tryd.prog wr = _ := fun ty => Lib.run_next_end_at wr w.heap.size s pos ty hk hp
      have hm2 : mid29 s = (f, t) := by
        rw [← hm]
        cases k with
        | zero => rfl
        | succ k => unfold mid; rw [if_neg hp]
      have HM := Lib.hid hm2
      have HB := Lib.hid hb
      clear hm hm2 hb hk hip hsc
      by_cases hf : f < 0
      · have he : midOut s = (⟨#[]⟩, (s.size : Int)) := by unfold midOut; rw [HM.out]; exact if_pos hf
        have HE := Lib.hid he
        clear he
        go_wp2
        go_ret2
        exact ⟨by rw [HE.out]; rfl, HB.out⟩
      · have he : midOut s = (s.extract f.toNat t, f) := by unfold midOut; rw [HM.out]; exact if_neg hf
        have HE := Lib.hid he
        clear he
        have h1 : f ≤ (t : Int) := by omega
        have h2 : (t : Int) ≤ (s.size : Int) := by omega
        have h0 : 0 ≤ f := by omega
        go_wp2
        go_ret2
        exact ⟨by rw [HE.out]; simp, HB.out⟩
end Go.Proofs.YtnhcocjdkmelhaaDoor.Hand
