/- Contracts of the shelf, laid at this program by the kit's lay-shelf.mjs and lay-plain.mjs (their print, without what is not used here). -/
import Derived.Shelf.LaysM
import Derived.Shelf.Bytes.Bytes
import Derived.Shelf.Bytes.WriteStringKept
import Derived.Test.YtlallihdiffheaaDoorProg
namespace Go.Proofs.YtlallihdiffheaaDoor.Hand
open Go.Shelf Go.Proofs
def laysM178_ren : Go.Shelf.Ren := ⟨fun | 178 => 85 | 251 => 104 | 252 => 105 | 181 => 111 | 184 => 112 | 290 => 113 | 324 => 115 | n => n, fun | 130 => 134 | 9 => 9 | 3 => 3 | 75 => 107 | 0 => 0 | 93 => 105 | 91 => 103 | 131 => 135 | 4 => 4 | 37 => 54 | 20 => 20 | 80 => 151 | 5 => 5 | n => n, fun | 14 => 2 | n => n⟩
theorem laysM178 : Go.Proofs.LaysM.n178 Tryd.prog laysM178_ren := {
  mixed := by kernel_rfl
  f178 := Tryd.func85.trans (congrArg some (by kernel_rfl))
  f181 := Tryd.func111.trans (congrArg some (by kernel_rfl))
  f184 := Tryd.func112.trans (congrArg some (by kernel_rfl))
  f251 := Tryd.func104.trans (congrArg some (by kernel_rfl))
  f252 := Tryd.func105.trans (congrArg some (by kernel_rfl))
  f290 := Tryd.func113.trans (congrArg some (by kernel_rfl))
  f324 := Tryd.func115.trans (congrArg some (by kernel_rfl))
  t0 := Tryd.underlying0
  a0 := Tryd.isAgg0
  z0 := Tryd.sizeOf0
  v0 := Tryd.zeroValue0
  t3 := Tryd.underlying3
  a3 := Tryd.isAgg3
  z3 := Tryd.sizeOf3
  v3 := Tryd.zeroValue3
  t4 := Tryd.underlying4
  a4 := Tryd.isAgg4
  z4 := Tryd.sizeOf4
  v4 := Tryd.zeroValue4
  t9 := Tryd.underlying9
  a9 := Tryd.isAgg9
  z9 := Tryd.sizeOf9
  v9 := Tryd.zeroValue9
  t20 := Tryd.underlying20
  a20 := Tryd.isAgg20
  z20 := Tryd.sizeOf20
  v20 := Tryd.zeroValue20
  t37 := Tryd.underlying54
  a37 := Tryd.isAgg54
  z37 := Tryd.sizeOf54
  v37 := Tryd.zeroValue54
  t75 := Tryd.underlying107
  a75 := Tryd.isAgg107
  z75 := Tryd.sizeOf107
  v75 := Tryd.zeroValue107
  t91 := Tryd.underlying103
  a91 := Tryd.isAgg103
  z91 := Tryd.sizeOf103
  v91 := Tryd.zeroValue103
  t93 := Tryd.underlying105
  a93 := Tryd.isAgg105
  z93 := Tryd.sizeOf105
  v93 := Tryd.zeroValue105
  t130 := Tryd.underlying134
  a130 := Tryd.isAgg134
  z130 := Tryd.sizeOf134
  v130 := Tryd.zeroValue134
  t131 := Tryd.underlying135
  a131 := Tryd.isAgg135
  z131 := Tryd.sizeOf135
  v131 := Tryd.zeroValue135
  g14 := by kernel_rfl
  t5 := Tryd.underlying5
  a5 := Tryd.isAgg5
  z5 := Tryd.sizeOf5
  v5 := Tryd.zeroValue5
  t80 := Tryd.underlying151
  a80 := Tryd.isAgg151
  z80 := Tryd.sizeOf151
  v80 := Tryd.zeroValue151
  i0 := by kernel_rfl
  i3 := by kernel_rfl
  i4 := by kernel_rfl
  i5 := by kernel_rfl
  i9 := by kernel_rfl
  i20 := by kernel_rfl
  i37 := by kernel_rfl
  i75 := by kernel_rfl
  i80 := by kernel_rfl
  i91 := by kernel_rfl
  i93 := by kernel_rfl
  i130 := by kernel_rfl
  i131 := by kernel_rfl
  m14 := by kernel_rfl }
def laysM183_ren : Go.Shelf.Ren := ⟨fun | 183 => 86 | n => n, fun | 130 => 134 | 37 => 54 | 0 => 0 | 93 => 105 | 3 => 3 | 5 => 5 | 91 => 103 | n => n, fun | n => n⟩
theorem laysM183 : Go.Proofs.LaysM.n183 Tryd.prog laysM183_ren := {
  mixed := by kernel_rfl
  f183 := Tryd.func86.trans (congrArg some (by kernel_rfl))
  t0 := Tryd.underlying0
  a0 := Tryd.isAgg0
  z0 := Tryd.sizeOf0
  v0 := Tryd.zeroValue0
  t3 := Tryd.underlying3
  a3 := Tryd.isAgg3
  z3 := Tryd.sizeOf3
  v3 := Tryd.zeroValue3
  t37 := Tryd.underlying54
  a37 := Tryd.isAgg54
  z37 := Tryd.sizeOf54
  v37 := Tryd.zeroValue54
  t93 := Tryd.underlying105
  a93 := Tryd.isAgg105
  z93 := Tryd.sizeOf105
  v93 := Tryd.zeroValue105
  t130 := Tryd.underlying134
  a130 := Tryd.isAgg134
  z130 := Tryd.sizeOf134
  v130 := Tryd.zeroValue134
  t5 := Tryd.underlying5
  a5 := Tryd.isAgg5
  z5 := Tryd.sizeOf5
  v5 := Tryd.zeroValue5
  t91 := Tryd.underlying103
  a91 := Tryd.isAgg103
  z91 := Tryd.sizeOf103
  v91 := Tryd.zeroValue103
  i0 := by kernel_rfl
  i3 := by kernel_rfl
  i5 := by kernel_rfl
  i37 := by kernel_rfl
  i91 := by kernel_rfl
  i93 := by kernel_rfl
  i130 := by kernel_rfl }
open Go.RowKit in
theorem Buffer_Bytes (B b : Nat) (bs : List Value) (w : World) (h : Lib.IsBuffer 105 5 B b bs w) :
    Calls Tryd.prog 86 #[.pointer (some ⟨b, 0, none⟩)] w fun e w' => ∃ v, e = .returned v ∧ w'.ownsRow B 5 1 v bs.length bs ∧ ∃ n, w' = w.drewN n := Any.Buffer_Bytes laysM183 B b bs w h
open Go.RowKit in
theorem Buffer_WriteString_kept (B b : Nat) (bs : List Value) (s : ByteArray) (w : World) (h : Lib.IsBuffer 105 5 B b bs w) (hBw : B ≤ w.heap.size) (h1 : ∀ v ∈ bs, v.oneCell' = true) (hlim : bs.length + s.size ≤ 140737488355328) :
    Calls Tryd.prog 85 #[.pointer (some ⟨b, 0, none⟩), .string s] w fun e w' => e = .returned (.tuple #[.int .i64 s.size, .nilIface]) ∧ Lib.IsBuffer 105 5 B b (bs ++ Lib.byteCells s.data.toList) w' ∧ Below B w w' ∧ Lib.OthersKept 5 (some b) w w' := Any.Buffer_WriteString_kept laysM178 B b bs s w h hBw h1 hlim
end Go.Proofs.YtlallihdiffheaaDoor.Hand
