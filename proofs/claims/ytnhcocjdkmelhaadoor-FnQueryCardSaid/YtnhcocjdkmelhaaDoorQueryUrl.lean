/- net/url's unescape and escape at letters and digits, converter.decodeAndEncode by hand; the table net/url.table as the program's text lays it. -/
import Derived.Test.YtnhcocjdkmelhaaDoorTable
import Derived.Test.YtnhcocjdkmelhaaDoorLives
namespace Go.Proofs.YtnhcocjdkmelhaaDoor.Hand
open Go.RowKit Go.Proofs.YtnhcocjdkmelhaaDoorW.PrintWords Go.Proofs.YtnhcocjdkmelhaaDoorW.PrintLast Go.Proofs.YtnhcocjdkmelhaaDoorW.PrintMore
set_option linter.unusedVariables false
set_option linter.unusedSimpArgs false

def urlTab : List Int := [0, 0, 0, 0, 0, 0, 0, 0, 0, 0, 0, 0, 0, 0, 0, 0, 0, 0, 0, 0, 0, 0, 0, 0, 0, 0, 0, 0, 0, 0, 0, 0, 0, 76, 12, 0, 95, 0, 95, 12, 76, 76, 76, 95, 93, 127, 127, 65, 255, 255, 255, 255, 255, 255, 255, 255, 255, 255, 79, 93, 12, 95, 12, 64, 67, 255, 255, 255, 255, 255, 255, 127, 127, 127, 127, 127, 127, 127, 127, 127, 127, 127, 127, 127, 127, 127, 127, 127, 127, 127, 127, 12, 0, 12, 0, 127, 0, 255, 255, 255, 255, 255, 255, 127, 127, 127, 127, 127, 127, 127, 127, 127, 127, 127, 127, 127, 127, 127, 127, 127, 127, 127, 127, 0, 0, 0, 127, 0, 0, 0, 0, 0, 0, 0, 0, 0, 0, 0, 0, 0, 0, 0, 0, 0, 0, 0, 0, 0, 0, 0, 0, 0, 0, 0, 0, 0, 0, 0, 0, 0, 0, 0, 0, 0, 0, 0, 0, 0, 0, 0, 0, 0, 0, 0, 0, 0, 0, 0, 0, 0, 0, 0, 0, 0, 0, 0, 0, 0, 0, 0, 0, 0, 0, 0, 0, 0, 0, 0, 0, 0, 0, 0, 0, 0, 0, 0, 0, 0, 0, 0, 0, 0, 0, 0, 0, 0, 0, 0, 0, 0, 0, 0, 0, 0, 0, 0, 0, 0, 0, 0, 0, 0, 0, 0, 0, 0, 0, 0, 0, 0, 0, 0, 0, 0, 0, 0, 0, 0, 0, 0, 0, 0, 0, 0, 0, 0]
def TabB (w : World) : Prop := Lib.TabIs Tryd.prog w "net/url.table" .u8 urlTab
theorem tabB_below {w w' : World} (h : TabB w) (hb : Below w.heap.size w w') : TabB w' := tab_below h hb
theorem add_flat (b o j : Nat) : (⟨b, o, none⟩ : Addr).add j = ⟨b, o + j, none⟩ := by
  unfold Addr.add
  by_cases h : j = 0
  · subst h; rfl
  · simp [h]
/-- A letter or a digit. -/
def alI (x : Int) : Bool := (decide (97 ≤ x) && decide (x ≤ 122)) || (decide (65 ≤ x) && decide (x ≤ 90)) || (decide (48 ≤ x) && decide (x ≤ 57))
theorem alI_range {x : Int} (h : alI x = true) : (97 ≤ x ∧ x ≤ 122) ∨ (65 ≤ x ∧ x ≤ 90) ∨ (48 ≤ x ∧ x ≤ 57) := by
  simp only [alI, Bool.or_eq_true, Bool.and_eq_true, decide_eq_true_eq] at h
  omega
theorem al_tab : ((List.range 128).all fun (r : Nat) => !(alI (r : Int)) || !(bits .and .u8 (urlTab.getD r 0) 32 == 0)) = true := by kernel_rfl
theorem urlTab_length : urlTab.length = 256 := by kernel_rfl
set_option maxRecDepth 100000 in
theorem should_any (x : Int) (hx : alI x = true) (w : World) (hT : TabB w) : Calls Tryd.prog 68 #[.int .u8 x, .int .u8 32] w fun e w' => e = .returned (.bool false) ∧ w' = w := by
  have hr := alI_range hx
  obtain ⟨c, rfl⟩ : ∃ (c : Nat), x = (c : Int) := ⟨x.toNat, by omega⟩
  have hcell := hT.cell (g := 4) (by kernel_rfl) c (by rw [urlTab_length]; omega)
  have hz : (bits .and .u8 (urlTab.getD c 0) 32 == 0) = false := by
    have := List.all_eq_true.1 al_tab c (List.mem_range.2 (by omega))
    rw [hx] at this
    simpa using this
  generalize urlTab.getD c 0 = z at *
  have h1 : (c : Int) ≤ 255 := by omega
  have h0 : (0 : Int) ≤ (c : Int) := by omega
  have h2 : (c : Int) < 256 := by omega
  clear hr hx hT
  have HZ := Lib.hid hz
  clear hz
  go_enter Tryd.func68, Tryd.ntmps68
  go_wp2
  go_ret
  exact ⟨by rw [← HZ.out]; rfl, rfl⟩
set_option maxRecDepth 100000 in
set_option maxHeartbeats 6400000 in
theorem unescape_any (s : ByteArray) (hs : s.size ≤ 1000) (hal : ∀ i, i < s.size → alI (bt s (i : Int)) = true) (w : World) : Calls Tryd.prog 61 #[.string s, .int .u8 32] w fun e w' => e = .returned (.tuple #[.string s, .nilIface]) ∧ w' = w := by
  have HAL := Lib.hid hal
  clear hal
  go_enter Tryd.func61, Tryd.ntmps61
  go_wp2
  go_loopw [0, 6, 7, 8] (fun a b c d wr => a = .string s ∧ b = .int .i64 0 ∧ c = .bool false ∧ (∃ (i : Nat), d = .int .i64 i ∧ i ≤ s.size) ∧ wr = w) (fun _ _ _ d _ => s.size - (intOf d).toNat)
  case atStart => exact ⟨rfl, rfl, rfl, ⟨0, rfl, Nat.zero_le _⟩, rfl⟩
  case round =>
    obtain ⟨rfl, rfl, rfl, ⟨i, rfl, hi⟩, rfl⟩ := hrel
    by_cases hlt : i < s.size
    · have hx := bt_at s (i : Int)
      simp only [Int.toNat_natCast] at hx
      have ha := HAL.out i hlt
      obtain ⟨x, hxe⟩ : ∃ x, bt s (i : Int) = x := ⟨_, rfl⟩
      rw [hxe] at hx ha
      clear hxe
      have hr := alI_range ha
      have e37 : (x == 37) = false := by simpa using (by omega : x ≠ 37)
      have e43 : (x == 43) = false := by simpa using (by omega : x ≠ 43)
      clear ha hr
      have h0 : (0 : Int) ≤ (i : Int) := by omega
      have h1 : (i : Int) < (s.size : Int) := by omega
      go_wp2
      go_roundw
      case rel => exact ⟨rfl, rfl, rfl, ⟨i + 1, by go_num, by omega⟩, trivial⟩
      case measure => simp [intOf]; omega
    · have h1 : ¬ ((i : Int) < (s.size : Int)) := by omega
      clear hlt
      go_wp2
      go_ret2
      exact ⟨rfl, rfl⟩
set_option maxRecDepth 100000 in
set_option maxHeartbeats 6400000 in
theorem escape_any (s : ByteArray) (hs : s.size ≤ 1000) (hal : ∀ i, i < s.size → alI (bt s (i : Int)) = true) (w : World) (hT : TabB w) : Calls Tryd.prog 62 #[.string s, .int .u8 32] w fun e w' => e = .returned (.string s) ∧ Below w.heap.size w w' := by
  have hconv := fun W => run_bytesW (P := Tryd.prog) 9 33 5 s Tryd.underlying9 Tryd.underlying33 Tryd.underlying5 W
  have hbl := bytesW_below (Below.refl w.heap.size w) (Nat.le_refl _) s 5
  have hCC := bytesW_C w s 5 (by omega)
  rw [bys_length] at hCC
  have HC := Lib.hid hCC
  have HS := Lib.hid (fun x hx => should_any x hx (bytesW w s 5) (tab_below hT hbl))
  have HB := Lib.hid hbl
  have HAL := Lib.hid hal
  clear hal hT hbl hCC
  go_enter Tryd.func62, Tryd.ntmps62
  go_wp2
  go_loopw [5, 6, 19] (fun a b d wr => a = .int .i64 0 ∧ b = .int .i64 0 ∧ (∃ (i : Nat), d = .int .i64 i ∧ i ≤ s.size) ∧ wr = bytesW w s 5) (fun _ _ d _ => s.size - (intOf d).toNat)
  case atStart => exact ⟨rfl, rfl, ⟨0, rfl, Nat.zero_le _⟩, rfl⟩
  case round =>
    obtain ⟨rfl, rfl, ⟨i, rfl, hi⟩, rfl⟩ := hrel
    by_cases hlt : i < s.size
    · obtain ⟨ad, had, hcell⟩ := Kd.at_int HC.out (i : Int) (by omega) (by omega)
      obtain rfl := Option.some.inj had
      rw [Int.toNat_natCast, add_flat, Nat.zero_add] at hcell
      have ha := HAL.out i hlt
      have hrd : rd (bys s) (i : Int) = bt s (i : Int) := rd_bys s i
      rw [hrd] at hcell
      generalize bt s (i : Int) = x at *
      have HX := Lib.hid (HS.out x ha)
      have hr := alI_range ha
      clear hrd ha
      have h0 : (0 : Int) ≤ (i : Int) := by omega
      have h1 : (i : Int) < (s.size : Int) := by omega
      go_wp2_with (go_at_call 68; refine HX.out.mono ?_; rintro e w1 ⟨rfl, rfl⟩)
      go_roundw
      case rel => exact ⟨rfl, rfl, ⟨i + 1, by go_num, by omega⟩, trivial⟩
      case measure => simp [intOf]; omega
    · have h1 : ¬ ((i : Int) < (s.size : Int)) := by omega
      clear hlt
      go_wp2
      go_ret
      exact ⟨rfl, HB.out⟩
set_option maxRecDepth 100000 in
theorem decode_any (s : ByteArray) (hs : s.size ≤ 1000) (hal : ∀ i, i < s.size → alI (bt s (i : Int)) = true) (w : World) (hT : TabB w) : Calls Tryd.prog 42 #[.string s] w fun e w' => e = .returned (.string s) ∧ Below w.heap.size w w' := by
  have h1 : Calls Tryd.prog 54 #[.string s] w fun e w' => e = .returned (.tuple #[.string s, .nilIface]) ∧ w' = w := by
    have H := Lib.hid (unescape_any s hs hal w)
    clear hal hT
    go_enter Tryd.func54, Tryd.ntmps54
    go_wp2_with (go_at_call 61; refine H.out.mono ?_; rintro e w1 ⟨rfl, rfl⟩)
    go_ret2
    exact ⟨rfl, rfl⟩
  have h2 : Calls Tryd.prog 55 #[.string s] w fun e w' => e = .returned (.string s) ∧ Below w.heap.size w w' := by
    have H := Lib.hid (escape_any s hs hal w hT)
    clear hal hT h1
    go_enter Tryd.func55, Tryd.ntmps55
    go_wp2_with (go_at_call 62; refine H.out.mono ?_; rintro e w1 ⟨rfl, hb⟩; have HB := Lib.hid hb; clear hb)
    go_ret
    exact ⟨rfl, HB.out⟩
  have H1 := Lib.hid h1
  have H2 := Lib.hid h2
  clear h1 h2 hal hT
  go_enter Tryd.func42, Tryd.ntmps42
  go_wp2_with (first
    | (go_at_call 54; refine H1.out.mono ?_; rintro e w1 ⟨rfl, rfl⟩)
    | (go_at_call 55; refine H2.out.mono ?_; rintro e w1 ⟨rfl, hb⟩; have HB := Lib.hid hb; clear hb))
  go_ret
  exact ⟨rfl, HB.out⟩
end Go.Proofs.YtnhcocjdkmelhaaDoor.Hand
