/- Contracts by hand: how many of a character there are at most, one behind the other (spec.Run29). -/
import Derived.Test.YticofikbijldiaaHB
namespace Go.Proofs.Yticofikbijldiaa.Hand
open Go.RowKit Go.Proofs.YticofikbijldiaaW.PrintWords Go.Proofs.YticofikbijldiaaW.PrintLast Go.Proofs.YticofikbijldiaaW.PrintMore
set_option linter.unusedVariables false

theorem width_pos (s : ByteArray) (pos : Nat) (h : pos < s.size) : 1 ≤ (Utf8.decode s pos).2 := by
  by_cases ha : (s[pos]'h).toNat < 128
  · rw [decode_ascii s pos h ha]
    exact Nat.le_refl _
  · exact (decode_high s pos h (by omega)).2
/-- The characters from a place on; b: how many at most. -/
def rns (s : ByteArray) : Nat → Nat → List Int
  | 0, _ => []
  | b + 1, pos => if pos < s.size then ((Utf8.decode s pos).1 : Int) :: rns s b (pos + (Utf8.decode s pos).2) else []
theorem rns_end (s : ByteArray) (b pos : Nat) (h : ¬ pos < s.size) : rns s b pos = [] := by
  cases b with
  | zero => rfl
  | succ b => simp [rns, h]
theorem rns_more (s : ByteArray) (b pos : Nat) (h : pos < s.size) (hb : s.size ≤ pos + b) : ∃ c, b = c + 1 ∧ s.size ≤ pos + (Utf8.decode s pos).2 + c ∧ rns s b pos = ((Utf8.decode s pos).1 : Int) :: rns s c (pos + (Utf8.decode s pos).2) := by
  cases b with
  | zero => omega
  | succ c => exact ⟨c, rfl, by have := width_pos s pos h; omega, by simp [rns, h]⟩
/-- A text's characters. -/
def runes (s : ByteArray) : List Int := rns s s.size 0
theorem rns_length (s : ByteArray) (b pos : Nat) : (rns s b pos).length ≤ s.size - pos := by
  induction b generalizing pos with
  | zero => simp [rns]
  | succ b ih =>
    by_cases h : pos < s.size
    · have := ih (pos + (Utf8.decode s pos).2)
      have := width_pos s pos h
      simp [rns, h]
      omega
    · simp [rns, h]

/-- The longest run so far, and the run at hand. -/
def runStep (c : Int) (a : Nat × Nat) (x : Int) : Nat × Nat := if x = c then (max a.1 (a.2 + 1), a.2 + 1) else (a.1, 0)
def runOf (c : Int) (l : List Int) : Nat := (l.foldl (runStep c) (0, 0)).1

theorem width_le (s : ByteArray) (pos : Nat) : (Utf8.decode s pos).2 ≤ 4 := by
  simp only [Utf8.decode]
  repeat' split
  all_goals simp
theorem bne_of (x c : Int) (h : (x != c) = true) : ¬ x = c := by simpa using h
theorem eq_of_bne (x c : Int) (h : (x != c) = false) : x = c := by simpa using h
theorem max_int (a d : Nat) : Value.int .i64 (if (a : Int) < (d : Int) + 1 then (d : Int) + 1 else (a : Int)) = .int .i64 ((max a (d + 1) : Nat) : Int) := by
  congr 1
  split <;> omega
set_option maxRecDepth 100000 in
theorem run29_any (c : Int) (s : ByteArray) (w : World) (hs : s.size ≤ 2147483647) :
    Calls Try.prog 22 #[.int .i32 c, .string s] w fun e w' => e = .returned (.int .i64 (runOf c (runes s))) ∧ Below w.heap.size w w' := by
  go_enter Try.func22, Try.ntmps22
  go_wp2
  go_loopw [5, 6] (fun m n w' => ∃ (pos b a d : Nat), w' = w.iter s pos ∧ m = .int .i64 a ∧ n = .int .i64 d ∧ ((rns s b pos).foldl (runStep c) (a, d)).1 = runOf c (runes s) ∧ s.size ≤ pos + b ∧ d ≤ pos ∧ pos ≤ s.size + 4) (fun _ _ w' => s.size - w'.iterPos w.heap.size)
  case atStart => exact ⟨0, s.size, 0, 0, rfl, rfl, rfl, rfl, by omega, by omega, by omega⟩
  case round =>
    obtain ⟨pos, b, a, d, rfl, rfl, rfl, hc, hb, hd, hpos⟩ := hrel
    have HC := Lib.hid hc
    clear hc
    by_cases hp : pos < s.size
    · have hnx : ∀ ty, (Instr.next (.pointer (some ⟨w.heap.size, 0, none⟩)) true ty).run Try.prog (w.iter s pos) = _ := fun ty => run_next_any w s pos ty hp
      obtain ⟨b', hbe, hb2, hr⟩ := rns_more s b pos hp hb
      have hw := width_pos s pos hp
      have hw4 := width_le s pos
      have HR := Lib.hid hr
      have HE := Lib.hid hbe
      clear hr hbe
      go_wp2
      · have e := bne_of _ _ (by assumption : (((Utf8.decode s pos).1 : Int) != c) = true)
        have E := Lib.hid e
        clear e
        go_roundw
        case rel =>
          refine ⟨_, b', a, 0, rfl, rfl, rfl, ?_, by omega, by omega, by omega⟩
          have hc := HC.out
          rw [HR.out, List.foldl_cons, runStep, if_neg E.out] at hc
          exact hc
        case measure =>
          simp
          omega
      · have e := eq_of_bne _ _ (by assumption : (((Utf8.decode s pos).1 : Int) != c) = false)
        have E := Lib.hid e
        clear e
        go_roundw
        case rel =>
          refine ⟨_, b', max a (d + 1), d + 1, rfl, max_int a d, by go_num, ?_, by omega, by omega, by omega⟩
          have hc := HC.out
          rw [HR.out, List.foldl_cons, runStep, if_pos E.out] at hc
          exact hc
        case measure =>
          simp
          omega
    · have hnx : ∀ ty, (Instr.next (.pointer (some ⟨w.heap.size, 0, none⟩)) true ty).run Try.prog (w.iter s pos) = _ := fun ty => run_next_end w s pos ty hp
      go_wp2
      go_ret
      have hc := HC.out
      rw [rns_end s b pos hp] at hc
      exact ⟨by rw [← hc]; rfl, (Below.refl _ _).alloc (Nat.le_refl _) _⟩
end Go.Proofs.Yticofikbijldiaa.Hand
