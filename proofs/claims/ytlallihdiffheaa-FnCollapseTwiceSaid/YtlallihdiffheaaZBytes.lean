/- Bytes made of a string: the world behind the conversion, what its cells hold, and the string made of them again. No program in sight. -/
import Derived.Test.YtlallihdiffheaaProg
import Derived.Below
import Derived.Deep.Draws
import Derived.Deep.AppendLies
import Derived.Maps.AppendAt
import Derived.OwnWalk
import Derived.Laws.BytesArg
import Derived.Laws.MakeOwn
import Derived.Laws.OwnMore
import Derived.Deep.OwnRows
import Derived.Tactics
import Derived.Lib.ConvBytes
import Derived.Laws.Slices
import Derived.WalkKit
import Derived.KernelRfl
import Derived.RowKit3
import Derived.Deep.LoopGhost
import Derived.Deep.QuietTactic
import Derived.BigQuiet
import Derived.WideLaws
import Derived.Deep.DeepCutAuto
import Derived.Deep.CutBlock
import Derived.Deep.RegionHeld3
import Derived.Laws.Rows
import Derived.Lib.AppendStr
import Derived.ArgAppend
import Derived.Laws.IdiomCopy
import Derived.OrdersHeld
import Derived.Laws.BitsLemmas
import Derived.RowKit
import Derived.Test.YtlallihdiffheaaWWords
import Derived.Test.YtlallihdiffheaaWLast
import Derived.Test.YtlallihdiffheaaWTab
import Derived.Test.YtlallihdiffheaaWFour
import Derived.Test.YtlallihdiffheaaWQPut
import Derived.Test.YtlallihdiffheaaWApart
import Derived.Test.YtlallihdiffheaaWArr
import Derived.Test.YtlallihdiffheaaWZeros
import Derived.Test.YtlallihdiffheaaWFoot
import Derived.Test.YtlallihdiffheaaWKept
import Derived.Test.YtlallihdiffheaaWShare
import Derived.Test.YtlallihdiffheaaWN
import Derived.Test.YtlallihdiffheaaWFootNe
import Derived.Test.YtlallihdiffheaaWAt
import Derived.Test.YtlallihdiffheaaWEqStruct
import Derived.Test.YtlallihdiffheaaWRepsOne
import Derived.Test.YtlallihdiffheaaWInv
import Derived.Test.YtlallihdiffheaaWInvWords
import Derived.Test.YtlallihdiffheaaWGuard
import Derived.Test.YtlallihdiffheaaWNEv
import Derived.Test.YtlallihdiffheaaWMore
import Derived.LoopTactic
import Derived.Laws.RangeAny
import Derived.Lib.OthersKept
import Derived.Defers
import Derived.Recover
import Derived.Lib.Hide
import Derived.Outline
import Derived.Laws.IdiomStrings
namespace Go.Proofs.Ytlallihdiffheaa.Hand
open Go.RowKit Go.Proofs.YtlallihdiffheaaW.PrintWords Go.Proofs.YtlallihdiffheaaW.PrintLast Go.Proofs.YtlallihdiffheaaW.PrintMore
set_option linter.unusedVariables false

/-- A text's bytes as numbers. -/
def bys (s : ByteArray) : List Int := s.data.toList.map (fun b : UInt8 => (b.toNat : Int))
theorem bys_length (s : ByteArray) : (bys s).length = s.size := by
  rw [bys, List.length_map]
  exact Array.length_toList
theorem str_bys (s : ByteArray) : strOfNums (bys s) = s := by
  obtain ⟨⟨l⟩⟩ := s
  have : (bys ⟨⟨l⟩⟩).map (fun n => UInt8.ofNat n.toNat) = l := by
    simp only [bys, List.map_map]
    calc _ = l.map id := List.map_congr_left (fun b _ => by simp)
      _ = l := by simp
  simp [strOfNums, this]
theorem bys_getD (s : ByteArray) (i : Nat) (h : i < s.size) : (bys s).getD i 0 = ((s[i]'h).toNat : Int) := by
  have h' : i < s.data.toList.length := by rw [Array.length_toList]; exact h
  simp only [bys, List.getD_eq_getElem?_getD, List.getElem?_map]
  rw [List.getElem?_eq_getElem h']
  rfl
theorem rd_bys (s : ByteArray) (i : Int) : rd (bys s) i = bt s i := by
  unfold rd bt
  split
  · rename_i h
    exact bys_getD s _ h
  · rename_i h
    rw [List.getD_eq_getElem?_getD, List.getElem?_eq_none (by rw [bys_length]; omega)]
    rfl
theorem bys_range (s : ByteArray) : ∀ x ∈ bys s, 0 ≤ x ∧ x < 256 := by
  intro x hx
  obtain ⟨b, _, rfl⟩ := List.mem_map.1 hx
  have := b.toNat_lt
  omega
theorem bys_extract (s : ByteArray) (a b : Nat) : bys (s.extract a b) = ((bys s).drop a).take (b - a) := by simp [bys, ByteArray.data_extract]
theorem bys_inj {s t : ByteArray} (h : bys s = bys t) : s = t := by rw [← str_bys s, h, str_bys]
theorem bt_bys (s : ByteArray) (i : Nat) : bt s (i : Int) = (bys s).getD i 0 := (rd_bys s i).symm
def bcap (w : World) (s : ByteArray) (e : TypeId) : Nat := grownCap w s.size 0 e
/-- The world behind a conversion of a string to bytes. -/
def bytesW (w : World) (s : ByteArray) (e : TypeId) : World := w.drew.alloc (.cells (bytesRow s (bcap w s e)) e ((bytesRow s (bcap w s e)).size, (bytesRow s (bcap w s e)).size + 1))
theorem run_bytesW {P : Program} (src dst e : TypeId) (s : ByteArray) (hs : P.underlying src = some .string) (hd : P.underlying dst = some (.slice e)) (he : P.underlying e = some (.int .u8)) (w : World) :
    (convert src dst (.string s)).run P w = .ok (.slice (some ⟨w.heap.size, 0, none⟩) s.size (bcap w s e)) (bytesW w s e) :=
  run_bytes_of_string w src dst e s hs hd he
theorem bytesW_size (w : World) (s : ByteArray) (e : TypeId) : (bytesW w s e).heap.size = w.heap.size + 1 := by simp [bytesW]
theorem bcap_ge (w : World) (s : ByteArray) (e : TypeId) : s.size ≤ bcap w s e := grownCap_ge w s.size 0 e
theorem bytesRow_size (s : ByteArray) (c : Nat) (h : s.size ≤ c) : (bytesRow s c).size = c := by
  have : s.data.size = s.size := rfl
  simp [bytesRow, this]
  omega
theorem bytesW_heap (w : World) (s : ByteArray) (e : TypeId) : (bytesW w s e).heap[w.heap.size]? = some (.cells (bytesRow s (bcap w s e)) e (bcap w s e, bcap w s e + 1)) := by
  have h := bytesRow_size s (bcap w s e) (bcap_ge w s e)
  unfold bytesW
  rw [h]
  show (w.heap.push _)[w.heap.size]? = _
  simp
theorem bytesW_below {B : Nat} {a w : World} (h : Below B a w) (hB : B ≤ w.heap.size) (s : ByteArray) (e : TypeId) : Below B a (bytesW w s e) := h.drew.alloc hB _
theorem bytesW_cell (w : World) (s : ByteArray) (e : TypeId) (i : Nat) (h : i < s.size) : (bytesW w s e).cell? ⟨w.heap.size, i, none⟩ = some (.int .u8 ((bys s).getD i 0)) := by
  have h' : i < s.data.size := h
  simp only [World.cell?, bytesW_heap]
  simp only [bytesRow]
  rw [Array.getElem?_append_left (by simpa using h'), Array.getElem?_map, Array.getElem?_eq_getElem h', bys_getD s i h]
  rfl
theorem bytesW_reads (w : World) (s : ByteArray) (e : TypeId) (hs : s.size ≤ 9223372036854775807) : ReadsInt (bytesW w s e) .u8 (some ⟨w.heap.size, 0, none⟩) s.size (bys s) :=
  ⟨bys_length s, hs, fun _ => ⟨_, rfl, fun j hj => by rw [add_plain]; exact bytesW_cell w s e j hj⟩⟩
theorem C_of_ints {w : World} {k : IntKind} {A : Option Addr} {n : Nat} {xs : List Int} (h : ReadsInt w k A n xs) : (Kd.int k).C w A n xs :=
  Kd.C_of_reads (d := (0 : Int)) (h1 := fun _ => rfl) h
end Go.Proofs.Ytlallihdiffheaa.Hand
