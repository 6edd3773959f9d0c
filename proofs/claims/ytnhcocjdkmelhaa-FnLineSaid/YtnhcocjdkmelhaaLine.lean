/- For tablePlugin.writeHeaderUnderline: the line it writes, getAlignmentFor, WriteString through the interface. -/
import Derived.Test.YtnhcocjdkmelhaaLineShelf
import Derived.Test.YtnhcocjdkmelhaaHB
namespace Go.Proofs.Ytnhcocjdkmelhaa.Hand
open Go.RowKit Go.Proofs.YtnhcocjdkmelhaaW.PrintWords Go.Proofs.YtnhcocjdkmelhaaW.PrintLast Go.Proofs.YtnhcocjdkmelhaaW.PrintMore
set_option linter.unusedVariables false
set_option linter.unusedSimpArgs false

def isLeft (s : ByteArray) : Bool := s.toList == [108, 101, 102, 116] || s.toList == [99, 101, 110, 116, 101, 114]
def isRight (s : ByteArray) : Bool := s.toList == [114, 105, 103, 104, 116] || s.toList == [99, 101, 110, 116, 101, 114]
def piece (s : ByteArray) (n : Nat) : List UInt8 := (if isLeft s = true then 58 else 45) :: (List.replicate n 45 ++ [if isRight s = true then 58 else 45, 124])
/-- The line so far. -/
def lineTo (l : List ByteArray) (ns : List Int) (i : Nat) : List UInt8 := if i = 0 then [] else 124 :: ((List.range i).map (fun (j : Nat) => piece (rdOf ByteArray.empty l (j : Int)) (rd ns (j : Int)).toNat)).flatten
theorem align_any (A : Option Addr) (c : Nat) (l : List ByteArray) (i : Nat) (hi : i < l.length) (w : World) (hC : Kd.C Kd.string w A l.length l) : Calls Try.prog 35 #[.slice A l.length c, .int .i64 i] w fun e w' => e = .returned (.string (rdOf ByteArray.empty l (i : Int))) ∧ w' = w := by
  obtain ⟨ad, rfl, hcell⟩ := Kd.at_string hC (i : Int) (by omega) (by omega)
  rw [Int.toNat_natCast] at hcell
  have hl := hC.2.1
  have hw : wrap64 ((l.length : Int) - 1) = (l.length : Int) - 1 := by unfold wrap64; omega
  have hd : decide ((i : Int) > (l.length : Int) - 1) = false := decide_eq_false (by omega)
  have h0 : (0 : Int) ≤ (i : Int) := by omega
  have h1 : (i : Int) < (l.length : Int) := by omega
  have hbl := World.block_lt_of_cell? w _ hcell
  have hnl : ¬ ((i : Int) > (l.length : Int) - 1) := by omega
  clear hC
  go_enter Try.func35, Try.ntmps35
  go_wp2
  go_ret
  exact ⟨rfl, rfl⟩
theorem lineTo_succ (l : List ByteArray) (ns : List Int) (i : Nat) : lineTo l ns (i + 1) = (if i = 0 then [124] else lineTo l ns i) ++ piece (rdOf ByteArray.empty l (i : Int)) (rd ns (i : Int)).toNat := by
  unfold lineTo
  rw [if_neg (by omega), List.range_succ, List.map_append, List.flatten_append]
  by_cases h : i = 0
  · subst h; simp
  · rw [if_neg h, if_neg h]; simp
theorem method_ws (a : Addr) (w : World) : (method 233 69 (.pointer (some a)) "WriteString").run Try.prog w = .ok (72, .pointer (some a)) w := by kernel_rfl
theorem ahead_ws (a : Addr) (w : World) : (nilAhead 233 69 (.pointer (some a)) "WriteString").run Try.prog w = .ok (some false) w := by kernel_rfl
/-- The four kinds of an alignment. -/
theorem align_four (s : ByteArray) (n : Nat) : ((s.toList == [108, 101, 102, 116]) = true ∧ (s.toList == [99, 101, 110, 116, 101, 114]) = false ∧ (s.toList == [114, 105, 103, 104, 116]) = false ∧ Hid (piece s n = 58 :: (List.replicate n 45 ++ [45, 124]))) ∨
    ((s.toList == [108, 101, 102, 116]) = false ∧ (s.toList == [99, 101, 110, 116, 101, 114]) = true ∧ (s.toList == [114, 105, 103, 104, 116]) = false ∧ Hid (piece s n = 58 :: (List.replicate n 45 ++ [58, 124]))) ∨
    ((s.toList == [108, 101, 102, 116]) = false ∧ (s.toList == [99, 101, 110, 116, 101, 114]) = false ∧ (s.toList == [114, 105, 103, 104, 116]) = true ∧ Hid (piece s n = 45 :: (List.replicate n 45 ++ [58, 124]))) ∨
    ((s.toList == [108, 101, 102, 116]) = false ∧ (s.toList == [99, 101, 110, 116, 101, 114]) = false ∧ (s.toList == [114, 105, 103, 104, 116]) = false ∧ Hid (piece s n = 45 :: (List.replicate n 45 ++ [45, 124]))) := by
  have key : ∀ (x y : List UInt8), (x == y) = true → x = y := fun x y h => by simpa using h
  cases h1 : (s.toList == [108, 101, 102, 116]) with
  | true =>
    have e := key _ _ h1
    have h2 : (s.toList == [99, 101, 110, 116, 101, 114]) = false := by rw [e]; rfl
    have h3 : (s.toList == [114, 105, 103, 104, 116]) = false := by rw [e]; rfl
    exact .inl ⟨rfl, h2, h3, Lib.hid (by simp [piece, isLeft, isRight, h1, h2, h3])⟩
  | false =>
    cases h2 : (s.toList == [99, 101, 110, 116, 101, 114]) with
    | true =>
      have e := key _ _ h2
      have h3 : (s.toList == [114, 105, 103, 104, 116]) = false := by rw [e]; rfl
      exact .inr (.inl ⟨rfl, rfl, h3, Lib.hid (by simp [piece, isLeft, isRight, h1, h2, h3])⟩)
    | false =>
      cases h3 : (s.toList == [114, 105, 103, 104, 116]) with
      | true => exact .inr (.inr (.inl ⟨rfl, rfl, rfl, Lib.hid (by simp [piece, isLeft, isRight, h1, h2, h3])⟩))
      | false => exact .inr (.inr (.inr ⟨rfl, rfl, rfl, Lib.hid (by simp [piece, isLeft, isRight, h1, h2, h3])⟩))
/-- The buffer's content, with a bound of its length; and the plugin's block, which stays. -/
structure Buf (B b K pb : Nat) (l : List UInt8) (w0 w : World) : Prop where
  buf : Lib.IsBuffer 60 5 B b (Lib.byteCells l) w
  below : Below B w0 w
  len : l.length ≤ K
  ne : pb ≠ b
  pad : ∃ cs T, w.heap[pb]? = some (.cells cs T (0, 0)) ∧ T ≠ 5 ∧ cs[6]? = some (.string ⟨#[97, 108, 105, 103, 110, 101, 100]⟩)
theorem Buf.cell {B b K pb : Nat} {l : List UInt8} {w0 w : World} (h : Buf B b K pb l w0 w) : w.cell? ⟨pb, 6, none⟩ = some (.string ⟨#[97, 108, 105, 103, 110, 101, 100]⟩) := by
  obtain ⟨cs, T, hk, _, hc⟩ := h.pad
  rw [Lib.cell_of_heap hk]
  exact hc
/-- One more text in the buffer. -/
theorem ws_any {B b K pb : Nat} {l : List UInt8} {w0 w : World} (s : ByteArray) (j : Nat) (h : Buf B b K pb l w0 w) (hBw : B ≤ w0.heap.size) (hj : s.size ≤ j) (hl : K + j ≤ 140737488355328) :
    Calls Try.prog 72 #[.pointer (some ⟨b, 0, none⟩), .string s] w fun e w' => e = .returned (.tuple #[.int .i64 s.size, .nilIface]) ∧ Buf B b (K + j) pb (l ++ s.data.toList) w0 w' := by
  have hsz := h.below.size
  have hlen := h.len
  refine (Buffer_WriteString_kept B b (Lib.byteCells l) s w h.buf (by omega) (Lib.byteCells_one l) (by simp [Lib.byteCells]; omega)).mono ?_
  rintro e w' ⟨h1, h2, h3, h4⟩
  have e1 : Lib.byteCells l ++ Lib.byteCells s.data.toList = Lib.byteCells (l ++ s.data.toList) := by simp [Lib.byteCells]
  obtain ⟨cs, T, hk, hT, hc⟩ := h.pad
  refine ⟨h1, by rw [← e1]; exact h2, h.below.trans h3, ?_, h.ne, cs, T, h4 pb _ hk (fun e => h.ne (Option.some.inj e)) (fun c fz e => hT (by injection e)), hT, hc⟩
  have h5 : s.data.toList.length = s.size := Array.length_toList ..
  rw [List.length_append, h5]
  omega
theorem ws1_any {B b K pb : Nat} {l : List UInt8} {w0 w : World} (c : UInt8) (h : Buf B b K pb l w0 w) (hBw : B ≤ w0.heap.size) (hl : K + 1 ≤ 140737488355328) :
    Calls Try.prog 72 #[.pointer (some ⟨b, 0, none⟩), .string ⟨#[c]⟩] w fun e w' => e = .returned (.tuple #[.int .i64 1, .nilIface]) ∧ Buf B b (K + 1) pb (l ++ [c]) w0 w' :=
  ws_any ⟨#[c]⟩ 1 h hBw (Nat.le_refl 1) hl
theorem wsn_any {B b K pb : Nat} {l : List UInt8} {w0 w : World} (n : Nat) (c : UInt8) (h : Buf B b K pb l w0 w) (hBw : B ≤ w0.heap.size) (hn : n ≤ 1000) (hl : K + 1000 ≤ 140737488355328) :
    Calls Try.prog 72 #[.pointer (some ⟨b, 0, none⟩), .string ⟨Array.replicate n c⟩] w fun e w' => e = .returned (.tuple #[.int .i64 n, .nilIface]) ∧ Buf B b (K + 1000) pb (l ++ List.replicate n c) w0 w' := by
  rw [← List.toArray_replicate]
  have hs : (ByteArray.mk (List.replicate n c).toArray).size = n := by simp [ByteArray.size]
  refine (ws_any ⟨(List.replicate n c).toArray⟩ 1000 h hBw (by rw [hs]; omega) hl).mono ?_
  rintro e w' ⟨h1, h3⟩
  rw [hs] at h1
  exact ⟨h1, h3⟩
theorem buf_below {B b K pb : Nat} {l : List UInt8} {w0 w w' : World} (h : Buf B b K pb l w0 w) (hBw : B ≤ w0.heap.size) (hb : Below w.heap.size w w') : Buf B b K pb l w0 w' := by
  obtain ⟨⟨hB, v, lr, hk, ho, hn⟩, hbel, hl, hne, cs, T, hk2, hT, hc⟩ := h
  refine ⟨⟨hB, v, lr, (hb.block b (Lib.lt_of_heap hk)).trans hk, ?_, hn⟩, hbel.trans (hb.mono (Nat.le_trans hBw hbel.size)), hl, hne, cs, T, (hb.block pb (Lib.lt_of_heap hk2)).trans hk2, hT, hc⟩
  exact pw_own_below ho hb
theorem Buf.drew {B b K pb : Nat} {l : List UInt8} {w0 w : World} (h : Buf B b K pb l w0 w) (hBw : B ≤ w0.heap.size) : Buf B b K pb l w0 w.drew := buf_below h hBw (Below.refl _ _).drew
theorem repeat_one (c : UInt8) (n : Nat) : Lib.repeatL [c] n = List.replicate n c := by
  induction n with
  | zero => rfl
  | succ n ih => simp [Lib.repeatL, List.replicate_succ] at ih ⊢; exact ih
theorem dash_any {B b K pb : Nat} {l : List UInt8} {w0 w : World} (n : Int) (h0 : 0 ≤ n) (h1 : n ≤ 1000) (h : Buf B b K pb l w0 w) (hBw : B ≤ w0.heap.size) :
    Calls Try.prog 36 #[.string ⟨#[45]⟩, .int .i64 n] w fun e w' => e = .returned (.string ⟨(List.replicate n.toNat 45).toArray⟩) ∧ Buf B b K pb l w0 w' := by
  obtain ⟨c, rfl⟩ : ∃ (c : Nat), n = (c : Int) := ⟨n.toNat, by omega⟩
  refine (strings_Repeat ⟨#[45]⟩ c w (by omega) (by show 1 * c ≤ _; omega)).mono ?_
  rintro e w' ⟨h2, h3⟩
  refine ⟨?_, buf_below h hBw h3⟩
  rw [h2, show (ByteArray.mk #[45]).data.toList = [45] from rfl, repeat_one, Int.toNat_natCast]
theorem lineTo_len (l : List ByteArray) (ns : List Int) (hn : ∀ n ∈ ns, 0 ≤ n ∧ n ≤ 1000) : ∀ (i : Nat), i ≤ ns.length → (lineTo l ns i).length ≤ 1 + 1004 * i := by
  intro i
  induction i with
  | zero => intro _; simp [lineTo]
  | succ i ih =>
    intro hi
    have h1 := ih (by omega)
    have h2 : (piece (rdOf ByteArray.empty l (i : Int)) (rd ns (i : Int)).toNat).length ≤ 1003 := by
      have hm : rd ns (i : Int) ∈ ns := by
        rw [show rd ns (i : Int) = ns[i]'(by omega) from by simp [rd, rdOf, show i < ns.length from hi]]
        exact List.getElem_mem _
      have h3 := hn _ hm
      simp only [piece, List.length_cons, List.length_append, List.length_replicate, List.length_nil]
      omega
    rw [lineTo_succ, List.length_append]
    split
    · simp only [List.length_cons, List.length_nil]; omega
    · omega
end Go.Proofs.Ytnhcocjdkmelhaa.Hand
