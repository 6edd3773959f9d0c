/- unicode.IsSpace and spec.Blank29 at texts of ASCII (no table is read). -/
import Derived.Test.YtlallihdiffheaaDoorHB
import Derived.Test.YtlallihdiffheaaDoorMakeCap
namespace Go.Proofs.YtlallihdiffheaaDoor.Hand
open Go.RowKit Go.Proofs.YtlallihdiffheaaDoorW.PrintWords Go.Proofs.YtlallihdiffheaaDoorW.PrintLast Go.Proofs.YtlallihdiffheaaDoorW.PrintMore
set_option linter.unusedVariables false
set_option linter.unusedSimpArgs false

def spA (n : Nat) : Bool := decide (n = 9) || decide (n = 10) || decide (n = 11) || decide (n = 12) || decide (n = 13) || decide (n = 32)
set_option maxRecDepth 100000 in
theorem isSpaceA_any (n : Nat) (hn : n < 128) (w : World) : Calls Tryd.prog 61 #[.int .i32 (n : Int)] w fun e w' => e = .returned (.bool (spA n)) ∧ w' = w := by
  by_cases h9 : n = 9
  · subst h9
    go_enter Tryd.func61, Tryd.ntmps61
    go_wp2
    go_ret
    exact ⟨rfl, rfl⟩
  by_cases h10 : n = 10
  · subst h10
    go_enter Tryd.func61, Tryd.ntmps61
    go_wp2
    go_ret
    exact ⟨rfl, rfl⟩
  by_cases h11 : n = 11
  · subst h11
    go_enter Tryd.func61, Tryd.ntmps61
    go_wp2
    go_ret
    exact ⟨rfl, rfl⟩
  by_cases h12 : n = 12
  · subst h12
    go_enter Tryd.func61, Tryd.ntmps61
    go_wp2
    go_ret
    exact ⟨rfl, rfl⟩
  by_cases h13 : n = 13
  · subst h13
    go_enter Tryd.func61, Tryd.ntmps61
    go_wp2
    go_ret
    exact ⟨rfl, rfl⟩
  by_cases h32 : n = 32
  · subst h32
    go_enter Tryd.func61, Tryd.ntmps61
    go_wp2
    go_ret
    exact ⟨rfl, rfl⟩
  have hs : spA n = false := by simp [spA, h9, h10, h11, h12, h13, h32]
  have HS := Lib.hid hs
  have k9 : ¬ (n : Int) = 9 := by omega
  have k10 : ¬ (n : Int) = 10 := by omega
  have k11 : ¬ (n : Int) = 11 := by omega
  have k12 : ¬ (n : Int) = 12 := by omega
  have k13 : ¬ (n : Int) = 13 := by omega
  have k32 : ¬ (n : Int) = 32 := by omega
  have k133 : ¬ (n : Int) = 133 := by omega
  have k160 : ¬ (n : Int) = 160 := by omega
  have hle : (n : Int) ≤ 255 := by omega
  clear hs h9 h10 h11 h12 h13 h32
  go_enter Tryd.func61, Tryd.ntmps61
  go_wp2
  go_ret
  rw [HS.out]
  exact ⟨rfl, rfl⟩
def asc7 (s : ByteArray) : Bool := s.data.all (fun b => decide (b.toNat < 128))
def blankA (s : ByteArray) : Nat → Bool
  | 0 => true
  | k + 1 => if h : s.size - (k + 1) < s.size then (if spA (s[s.size - (k + 1)]'h).toNat then blankA s k else false) else true
theorem ascii_at {s : ByteArray} (h : asc7 s = true) (i : Nat) (hi : i < s.size) : (s[i]'hi).toNat < 128 := of_decide_eq_true (Array.all_eq_true.1 h i hi)
theorem iterPos_of {w : World} {k : Nat} {s : ByteArray} {p : Nat} (h : w.heap[k]? = some (.stringIter s p)) : w.iterPos k = p := by simp [World.iterPos, h]
set_option maxRecDepth 100000 in
set_option maxHeartbeats 3200000 in
theorem blank29A_any (s : ByteArray) (hs : s.size ≤ 2147483647) (ha : asc7 s = true) (w : World) : Calls Tryd.prog 35 #[.string s] w fun e w' => e = .returned (.bool (blankA s s.size)) ∧ Below w.heap.size w w' := by
  obtain ⟨Z, hZ⟩ : ∃ Z, blankA s s.size = Z := ⟨_, rfl⟩
  have HZ := Lib.hid hZ
  have HA := Lib.hid ha
  rw [hZ]
  clear hZ ha
  go_enter Tryd.func35, Tryd.ntmps35
  go_wp2
  go_loopw [4] (fun c wr => ∃ (pos k : Nat), wr.heap[w.heap.size]? = some (.stringIter s pos) ∧ Below w.heap.size w wr ∧ Hid (blankA s k = Z) ∧ pos + k = s.size) (fun _ wr => s.size - wr.iterPos w.heap.size)
  case atStart => exact ⟨0, s.size, heap_alloc_new _ _, (Below.refl _ _).alloc (Nat.le_refl _) _, HZ, by omega⟩
  case round =>
    obtain ⟨pos, k, hk, hb, ha, hn⟩ := hrel
    have hip : wr.iterPos w.heap.size = pos := iterPos_of hk
    by_cases hp : pos < s.size
    · obtain ⟨k, rfl⟩ : ∃ m, k = m + 1 := ⟨k - 1, by omega⟩
      have hnx : ∀ ty, (Instr.next (.pointer (some ⟨w.heap.size, 0, none⟩)) true ty).run Tryd.prog wr = _ := fun ty => Lib.run_next_any_at wr w.heap.size s pos ty hk hp
      have h128 := ascii_at HA.out pos hp
      rw [decode_ascii s pos hp h128] at hnx
      simp only at hnx
      have hb2 : Below w.heap.size w (wr.iterAt w.heap.size s (pos + 1)) := Lib.below_iterAt hb (Nat.le_refl _) _ _
      have hk2 := Lib.iterAt_heap wr w.heap.size s pos (pos + 1) hk
      have HIS := Lib.hid (isSpaceA_any (s[pos]'hp).toNat h128 (wr.iterAt w.heap.size s (pos + 1)))
      have hstep : blankA s (k + 1) = if spA (s[pos]'hp).toNat then blankA s k else false := by
        have hpk : s.size - (k + 1) = pos := by omega
        rw [show blankA s (k + 1) = (if h : s.size - (k + 1) < s.size then (if spA (s[s.size - (k + 1)]'h).toNat then blankA s k else false) else true) from rfl]
        simp only [hpk, hp, dif_pos]
      have HST := Lib.hid (hstep.symm.trans ha.out)
      have HB := Lib.hid hb2
      have HK := Lib.hid hk2
      have HIP := Lib.hid hip
      generalize (s[pos]'hp).toNat = c at *
      clear hk hb hb2 hk2 hip hstep ha h128
      cases hsp : spA c with
      | true =>
        rw [hsp] at HIS HST
        clear hsp
        go_wp2_with (go_at_call 61; refine HIS.out.mono ?_; rintro e w2 ⟨rfl, rfl⟩)
        go_roundw
        case rel => exact ⟨_, k, HK.out, HB.out, Lib.hid (by have := HST.out; simpa using this), by omega⟩
        case measure =>
          rw [iterPos_of HK.out, HIP.out]
          omega
      | false =>
        rw [hsp] at HIS HST
        clear hsp
        go_wp2_with (go_at_call 61; refine HIS.out.mono ?_; rintro e w2 ⟨rfl, rfl⟩)
        go_ret
        exact ⟨by rw [← show false = Z from by simpa using HST.out]; rfl, HB.out⟩
    · have hnx : ∀ ty, (Instr.next (.pointer (some ⟨w.heap.size, 0, none⟩)) true ty).run Tryd.prog wr = _ := fun ty => Lib.run_next_end_at wr w.heap.size s pos ty hk hp
      obtain rfl : k = 0 := by omega
      have HB := Lib.hid hb
      clear hb hk hip
      go_wp2
      go_ret
      exact ⟨by rw [← show true = Z from ha.out]; rfl, HB.out⟩
end Go.Proofs.YtlallihdiffheaaDoor.Hand
