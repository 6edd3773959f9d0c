/- Contracts of the shelf, laid at this program by the kit's lay-shelf.mjs and lay-plain.mjs (their print, without what is not used here). -/
import Derived.Shelf.LaysM
import Derived.Shelf.Bytes.Len
import Derived.Shelf.Bytes.TryGrow
import Derived.Shelf.Bytes.GrowSliceCatch
import Derived.Shelf.Bytes.GrowSlice
import Derived.Shelf.Bytes.Bytes
import Derived.Shelf.Bits.Mul64
import Derived.Test.YticofikbijldiaaRun
namespace Go.Proofs.Yticofikbijldiaa.Hand
open Go.Shelf Go.Proofs
def laysM181_ren : Go.Shelf.Ren := ⟨fun | 181 => 118 | n => n, fun | 130 => 70 | 3 => 3 | 0 => 0 | 93 => 68 | 37 => 45 | 91 => 66 | 5 => 5 | n => n, fun | n => n⟩
theorem laysM181 : Go.Proofs.LaysM.n181 Try.prog laysM181_ren := {
  mixed := by kernel_rfl
  f181 := Try.func118.trans (congrArg some (by kernel_rfl))
  t0 := Try.underlying0
  a0 := Try.isAgg0
  z0 := Try.sizeOf0
  v0 := Try.zeroValue0
  t3 := Try.underlying3
  a3 := Try.isAgg3
  z3 := Try.sizeOf3
  v3 := Try.zeroValue3
  t37 := Try.underlying45
  a37 := Try.isAgg45
  z37 := Try.sizeOf45
  v37 := Try.zeroValue45
  t93 := Try.underlying68
  a93 := Try.isAgg68
  z93 := Try.sizeOf68
  v93 := Try.zeroValue68
  t130 := Try.underlying70
  a130 := Try.isAgg70
  z130 := Try.sizeOf70
  v130 := Try.zeroValue70
  t5 := Try.underlying5
  a5 := Try.isAgg5
  z5 := Try.sizeOf5
  v5 := Try.zeroValue5
  t91 := Try.underlying66
  a91 := Try.isAgg66
  z91 := Try.sizeOf66
  v91 := Try.zeroValue66
  i0 := by kernel_rfl
  i3 := by kernel_rfl
  i5 := by kernel_rfl
  i37 := by kernel_rfl
  i91 := by kernel_rfl
  i93 := by kernel_rfl
  i130 := by kernel_rfl }
open Go.RowKit in
theorem Buffer_Len (B b : Nat) (bs : List Value) (w : World) (h : Lib.IsBuffer 68 5 B b bs w) :
    Calls Try.prog 118 #[.pointer (some ⟨b, 0, none⟩)] w fun e w' => e = .returned (.int .i64 bs.length) ∧ ∃ n, w' = w.drewN n := Any.Buffer_Len laysM181 B b bs w h
def laysM251_ren : Go.Shelf.Ren := ⟨fun | 251 => 114 | n => n, fun | 130 => 70 | 3 => 3 | 4 => 4 | 0 => 0 | 93 => 68 | 37 => 45 | 91 => 66 | 5 => 5 | n => n, fun | n => n⟩
theorem laysM251 : Go.Proofs.LaysM.n251 Try.prog laysM251_ren := {
  mixed := by kernel_rfl
  f251 := Try.func114.trans (congrArg some (by kernel_rfl))
  t0 := Try.underlying0
  a0 := Try.isAgg0
  z0 := Try.sizeOf0
  v0 := Try.zeroValue0
  t3 := Try.underlying3
  a3 := Try.isAgg3
  z3 := Try.sizeOf3
  v3 := Try.zeroValue3
  t4 := Try.underlying4
  a4 := Try.isAgg4
  z4 := Try.sizeOf4
  v4 := Try.zeroValue4
  t37 := Try.underlying45
  a37 := Try.isAgg45
  z37 := Try.sizeOf45
  v37 := Try.zeroValue45
  t93 := Try.underlying68
  a93 := Try.isAgg68
  z93 := Try.sizeOf68
  v93 := Try.zeroValue68
  t130 := Try.underlying70
  a130 := Try.isAgg70
  z130 := Try.sizeOf70
  v130 := Try.zeroValue70
  t5 := Try.underlying5
  a5 := Try.isAgg5
  z5 := Try.sizeOf5
  v5 := Try.zeroValue5
  t91 := Try.underlying66
  a91 := Try.isAgg66
  z91 := Try.sizeOf66
  v91 := Try.zeroValue66
  i0 := by kernel_rfl
  i3 := by kernel_rfl
  i4 := by kernel_rfl
  i5 := by kernel_rfl
  i37 := by kernel_rfl
  i91 := by kernel_rfl
  i93 := by kernel_rfl
  i130 := by kernel_rfl }
open Go.RowKit in
theorem Buffer_tryGrow_room (b : Nat) (ao : Option Addr) (l cap n : Nat) (w : World) (c0 : w.cell? ⟨b, 0, none⟩ = some (.slice ao l cap)) (f0 : w.frozen? ⟨b, 0, none⟩ = false) (hlc : l ≤ cap) (hcap : cap ≤ maxLen) (hn : n ≤ cap - l) :
    Calls Try.prog 114 #[.pointer (some ⟨b, 0, none⟩), .int .i64 n] w fun e w' => e = .returned (.tuple #[.int .i64 l, .bool true]) ∧ w' = w.setCell ⟨b, 0, none⟩ (.slice ao (l + n) cap) := Any.Buffer_tryGrow_room laysM251 b ao l cap n w c0 f0 hlc hcap hn
open Go.RowKit in
theorem Buffer_tryGrow_none (b : Nat) (ao : Option Addr) (l cap n : Nat) (w : World) (c0 : w.cell? ⟨b, 0, none⟩ = some (.slice ao l cap)) (hlc : l ≤ cap) (hcap : cap ≤ maxLen) (hn : cap - l < n) :
    Calls Try.prog 114 #[.pointer (some ⟨b, 0, none⟩), .int .i64 n] w fun e w' => e = .returned (.tuple #[.int .i64 0, .bool false]) ∧ w' = w := Any.Buffer_tryGrow_none laysM251 b ao l cap n w c0 hlc hcap hn
def laysM324_ren : Go.Shelf.Ren := ⟨fun | 324 => 121 | n => n, fun | 20 => 20 | 4 => 4 | 75 => 80 | 0 => 0 | 80 => 94 | 9 => 9 | n => n, fun | 14 => 1 | n => n⟩
theorem laysM324 : Go.Proofs.LaysM.n324 Try.prog laysM324_ren := {
  mixed := by kernel_rfl
  f324 := Try.func121.trans (congrArg some (by kernel_rfl))
  t0 := Try.underlying0
  a0 := Try.isAgg0
  z0 := Try.sizeOf0
  v0 := Try.zeroValue0
  t4 := Try.underlying4
  a4 := Try.isAgg4
  z4 := Try.sizeOf4
  v4 := Try.zeroValue4
  t20 := Try.underlying20
  a20 := Try.isAgg20
  z20 := Try.sizeOf20
  v20 := Try.zeroValue20
  t75 := Try.underlying80
  a75 := Try.isAgg80
  z75 := Try.sizeOf80
  v75 := Try.zeroValue80
  g14 := by kernel_rfl
  t9 := Try.underlying9
  a9 := Try.isAgg9
  z9 := Try.sizeOf9
  v9 := Try.zeroValue9
  t80 := Try.underlying94
  a80 := Try.isAgg94
  z80 := Try.sizeOf94
  v80 := Try.zeroValue94
  i0 := by kernel_rfl
  i4 := by kernel_rfl
  i9 := by kernel_rfl
  i20 := by kernel_rfl
  i75 := by kernel_rfl
  i80 := by kernel_rfl
  m14 := by kernel_rfl }
theorem growSlice_catch_idle (w : World) :
    CallsD Try.prog 121 #[] .returning w fun e u' w' => e = .returned (.tuple #[]) ∧ u' = .returning ∧ w' = w := Any.growSlice_catch_idle laysM324 w
def laysM290_ren : Go.Shelf.Ren := ⟨fun | 290 => 119 | 324 => 121 | n => n, fun | 37 => 45 | 3 => 3 | 0 => 0 | 4 => 4 | 20 => 20 | 75 => 80 | 5 => 5 | 80 => 94 | 9 => 9 | n => n, fun | 14 => 1 | n => n⟩
theorem laysM290 : Go.Proofs.LaysM.n290 Try.prog laysM290_ren := {
  mixed := by kernel_rfl
  f290 := Try.func119.trans (congrArg some (by kernel_rfl))
  f324 := Try.func121.trans (congrArg some (by kernel_rfl))
  t0 := Try.underlying0
  a0 := Try.isAgg0
  z0 := Try.sizeOf0
  v0 := Try.zeroValue0
  t3 := Try.underlying3
  a3 := Try.isAgg3
  z3 := Try.sizeOf3
  v3 := Try.zeroValue3
  t4 := Try.underlying4
  a4 := Try.isAgg4
  z4 := Try.sizeOf4
  v4 := Try.zeroValue4
  t20 := Try.underlying20
  a20 := Try.isAgg20
  z20 := Try.sizeOf20
  v20 := Try.zeroValue20
  t37 := Try.underlying45
  a37 := Try.isAgg45
  z37 := Try.sizeOf45
  v37 := Try.zeroValue45
  t75 := Try.underlying80
  a75 := Try.isAgg80
  z75 := Try.sizeOf80
  v75 := Try.zeroValue80
  g14 := by kernel_rfl
  t5 := Try.underlying5
  a5 := Try.isAgg5
  z5 := Try.sizeOf5
  v5 := Try.zeroValue5
  t9 := Try.underlying9
  a9 := Try.isAgg9
  z9 := Try.sizeOf9
  v9 := Try.zeroValue9
  t80 := Try.underlying94
  a80 := Try.isAgg94
  z80 := Try.sizeOf94
  v80 := Try.zeroValue94
  i0 := by kernel_rfl
  i3 := by kernel_rfl
  i4 := by kernel_rfl
  i5 := by kernel_rfl
  i9 := by kernel_rfl
  i20 := by kernel_rfl
  i37 := by kernel_rfl
  i75 := by kernel_rfl
  i80 := by kernel_rfl
  m14 := by kernel_rfl }
open Go.RowKit in
theorem bytes_growSlice_row (g l c n : Nat) (cur : Array Value) (w : World) (hg : w.heap[g]? = some (.cells cur 5 (0, 0))) (hcs : cur.size = c) (hlc : l ≤ c) (hn : 1 ≤ n) (hlim : l + n ≤ 140737488355328) (hc2 : c ≤ 140737488355328) (h1 : ∀ v ∈ cur.toList.take l, v.oneCell' = true) :
    Calls Try.prog 119 #[.slice (some ⟨g, 0, none⟩) l c, .int .i64 n] w fun e w' => ∃ cap2 cells, e = .returned (.slice (some ⟨w.heap.size, 0, none⟩) l cap2) ∧ w'.heap[w.heap.size]? = some (.cells cells 5 (0, 0)) ∧
      cells.size = cap2 ∧ cells.toList.take l = cur.toList.take l ∧ l + n ≤ cap2 ∧ cap2 ≤ maxLen ∧ Below w.heap.size w w' := Any.bytes_growSlice_row laysM290 g l c n cur w hg hcs hlc hn hlim hc2 h1
open Go.RowKit in
theorem bytes_growSlice_nil (n : Nat) (w : World) (hn : 1 ≤ n) (hlim : n ≤ 140737488355328) :
    Calls Try.prog 119 #[.slice none 0 0, .int .i64 n] w fun e w' => ∃ cap2 cells, e = .returned (.slice (some ⟨w.heap.size, 0, none⟩) 0 cap2) ∧ w'.heap[w.heap.size]? = some (.cells cells 5 (0, 0)) ∧
      cells.size = cap2 ∧ n ≤ cap2 ∧ cap2 ≤ maxLen ∧ Below w.heap.size w w' := Any.bytes_growSlice_nil laysM290 n w hn hlim
def laysM183_ren : Go.Shelf.Ren := ⟨fun | 183 => 81 | n => n, fun | 130 => 70 | 37 => 45 | 0 => 0 | 93 => 68 | 3 => 3 | 5 => 5 | 91 => 66 | n => n, fun | n => n⟩
theorem laysM183 : Go.Proofs.LaysM.n183 Try.prog laysM183_ren := {
  mixed := by kernel_rfl
  f183 := Try.func81.trans (congrArg some (by kernel_rfl))
  t0 := Try.underlying0
  a0 := Try.isAgg0
  z0 := Try.sizeOf0
  v0 := Try.zeroValue0
  t3 := Try.underlying3
  a3 := Try.isAgg3
  z3 := Try.sizeOf3
  v3 := Try.zeroValue3
  t37 := Try.underlying45
  a37 := Try.isAgg45
  z37 := Try.sizeOf45
  v37 := Try.zeroValue45
  t93 := Try.underlying68
  a93 := Try.isAgg68
  z93 := Try.sizeOf68
  v93 := Try.zeroValue68
  t130 := Try.underlying70
  a130 := Try.isAgg70
  z130 := Try.sizeOf70
  v130 := Try.zeroValue70
  t5 := Try.underlying5
  a5 := Try.isAgg5
  z5 := Try.sizeOf5
  v5 := Try.zeroValue5
  t91 := Try.underlying66
  a91 := Try.isAgg66
  z91 := Try.sizeOf66
  v91 := Try.zeroValue66
  i0 := by kernel_rfl
  i3 := by kernel_rfl
  i5 := by kernel_rfl
  i37 := by kernel_rfl
  i91 := by kernel_rfl
  i93 := by kernel_rfl
  i130 := by kernel_rfl }
open Go.RowKit in
theorem Buffer_Bytes (B b : Nat) (bs : List Value) (w : World) (h : Lib.IsBuffer 68 5 B b bs w) :
    Calls Try.prog 81 #[.pointer (some ⟨b, 0, none⟩)] w fun e w' => ∃ v, e = .returned v ∧ w'.ownsRow B 5 1 v bs.length bs ∧ ∃ n, w' = w.drewN n := Any.Buffer_Bytes laysM183 B b bs w h
def lays212_ren : Go.Shelf.Ren := ⟨fun | 212 => 91 | 263 => 93 | 264 => 94 | n => n, fun | 46 => 84 | 51 => 88 | 146 => 89 | 53 => 91 | 148 => 92 | n => n, fun | n => n⟩
theorem lays212 : Go.Proofs.Lays.n212 Try.prog lays212_ren := {
  mixed := by kernel_rfl
  f212 := Try.func91.trans (congrArg some (by kernel_rfl))
  f263 := Try.func93.trans (congrArg some (by kernel_rfl))
  f264 := Try.func94.trans (congrArg some (by kernel_rfl))
  t46 := Try.underlying84
  a46 := Try.isAgg84
  z46 := Try.sizeOf84
  v46 := Try.zeroValue84
  t51 := Try.underlying88
  a51 := Try.isAgg88
  z51 := Try.sizeOf88
  v51 := Try.zeroValue88
  t53 := Try.underlying91
  a53 := Try.isAgg91
  z53 := Try.sizeOf91
  v53 := Try.zeroValue91
  t146 := Try.underlying89
  a146 := Try.isAgg89
  z146 := Try.sizeOf89
  v146 := Try.zeroValue89
  t148 := Try.underlying92
  a148 := Try.isAgg92
  z148 := Try.sizeOf92
  v148 := Try.zeroValue92 }
open Go.RowKit Go.Lib in
theorem bits_Mul (x y : Nat) (hx : x < 18446744073709551616) (hy : y < 18446744073709551616) (w : World) :
    Calls Try.prog 91 #[.int .u64 x, .int .u64 y] w fun e w' => e = .returned (.tuple #[.int .u64 ((x * y / 18446744073709551616 : Nat) : Int), .int .u64 ((x * y % 18446744073709551616 : Nat) : Int)]) ∧ w' = w := Any.bits_Mul lays212 x y hx hy w
end Go.Proofs.Yticofikbijldiaa.Hand
