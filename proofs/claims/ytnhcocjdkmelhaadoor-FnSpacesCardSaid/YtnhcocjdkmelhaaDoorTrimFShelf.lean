/- Contracts of the shelf, laid at this program by the kit's lay-shelf.mjs and lay-plain.mjs (their print, without what is not used here). -/
import Derived.Shelf.Spec.BytesTrimFunc
import Derived.Shelf.Unicode.IsSpaceAny
import Derived.Test.YtnhcocjdkmelhaaDoorProg
namespace Go.Proofs.YtnhcocjdkmelhaaDoor.Hand
open Go.Shelf Go.Proofs
def lays744_ren : Go.Shelf.Ren := ⟨fun | 44 => 33 | 56 => 48 | 32 => 30 | 33 => 60 | 49 => 44 | 50 => 65 | n => n, fun | 30 => 33 | 48 => 38 | 4 => 4 | 3 => 3 | 0 => 0 | 5 => 5 | 33 => 41 | 21 => 21 | 66 => 66 | 25 => 79 | 69 => 82 | 68 => 81 | n => n, fun | 2 => 2 | 3 => 3 | n => n⟩
theorem lays744 : Go.Proofs.Lays7.n44 Tryd.prog lays744_ren := {
  mixed := by kernel_rfl
  f32 := Tryd.func30.trans (congrArg some (by kernel_rfl))
  f33 := Tryd.func60.trans (congrArg some (by kernel_rfl))
  f44 := Tryd.func33.trans (congrArg some (by kernel_rfl))
  f49 := Tryd.func44.trans (congrArg some (by kernel_rfl))
  f50 := Tryd.func65.trans (congrArg some (by kernel_rfl))
  f56 := Tryd.func48.trans (congrArg some (by kernel_rfl))
  t0 := Tryd.underlying0
  a0 := Tryd.isAgg0
  z0 := Tryd.sizeOf0
  v0 := Tryd.zeroValue0
  i0 := by kernel_rfl
  t3 := Tryd.underlying3
  a3 := Tryd.isAgg3
  z3 := Tryd.sizeOf3
  v3 := Tryd.zeroValue3
  i3 := by kernel_rfl
  t4 := Tryd.underlying4
  a4 := Tryd.isAgg4
  z4 := Tryd.sizeOf4
  v4 := Tryd.zeroValue4
  i4 := by kernel_rfl
  t5 := Tryd.underlying5
  a5 := Tryd.isAgg5
  z5 := Tryd.sizeOf5
  v5 := Tryd.zeroValue5
  i5 := by kernel_rfl
  t21 := Tryd.underlying21
  a21 := Tryd.isAgg21
  z21 := Tryd.sizeOf21
  v21 := Tryd.zeroValue21
  i21 := by kernel_rfl
  t25 := Tryd.underlying79
  a25 := Tryd.isAgg79
  z25 := Tryd.sizeOf79
  v25 := Tryd.zeroValue79
  i25 := by kernel_rfl
  t30 := Tryd.underlying33
  a30 := Tryd.isAgg33
  z30 := Tryd.sizeOf33
  v30 := Tryd.zeroValue33
  i30 := by kernel_rfl
  t33 := Tryd.underlying41
  a33 := Tryd.isAgg41
  z33 := Tryd.sizeOf41
  v33 := Tryd.zeroValue41
  i33 := by kernel_rfl
  t48 := Tryd.underlying38
  a48 := Tryd.isAgg38
  z48 := Tryd.sizeOf38
  v48 := Tryd.zeroValue38
  i48 := by kernel_rfl
  t66 := Tryd.underlying66
  a66 := Tryd.isAgg66
  z66 := Tryd.sizeOf66
  t68 := Tryd.underlying81
  a68 := Tryd.isAgg81
  z68 := Tryd.sizeOf81
  v68 := Tryd.zeroValue81
  i68 := by kernel_rfl
  t69 := Tryd.underlying82
  a69 := Tryd.isAgg82
  z69 := Tryd.sizeOf82
  v69 := Tryd.zeroValue82
  i69 := by kernel_rfl
  g2 := by kernel_rfl
  g3 := by kernel_rfl }
open Go.RowKit in
theorem bytes_TrimRightFunc (g : Nat) (lb : Array Value) (eg : ∀ args w, (callFunc g args).run Tryd.prog w = .ok (.enter g args) w) (p : Nat → Bool) (s : ByteArray) (b off cap : Nat) (w : World)
    (hcap : s.size ≤ cap) (hs : s.size ≤ 9223372036854775807) (hB : BytesAt s b off w) (hT : Lib.Utf8Tabs 2 3 w) (hp : PredGrows Tryd.prog g lb p w) :
    Calls Tryd.prog 33 #[.slice (some ⟨b, off, none⟩) s.size cap, .func (.func g) #[] lb] w fun e w' => e = .returned (rightCut p s b off cap) ∧ Below w.heap.size w w' := Any7.bytes_TrimRightFunc lays744 g lb eg p s b off cap w hcap hs hB hT hp
def lays743_ren : Go.Shelf.Ren := ⟨fun | 43 => 35 | 55 => 49 | 32 => 30 | 49 => 44 | n => n, fun | 30 => 33 | 48 => 38 | 4 => 4 | 3 => 3 | 33 => 41 | 21 => 21 | 0 => 0 | 5 => 5 | 66 => 66 | 25 => 79 | 69 => 82 | 68 => 81 | n => n, fun | 2 => 2 | 3 => 3 | n => n⟩
theorem lays743 : Go.Proofs.Lays7.n43 Tryd.prog lays743_ren := {
  mixed := by kernel_rfl
  f32 := Tryd.func30.trans (congrArg some (by kernel_rfl))
  f43 := Tryd.func35.trans (congrArg some (by kernel_rfl))
  f49 := Tryd.func44.trans (congrArg some (by kernel_rfl))
  f55 := Tryd.func49.trans (congrArg some (by kernel_rfl))
  t0 := Tryd.underlying0
  a0 := Tryd.isAgg0
  z0 := Tryd.sizeOf0
  v0 := Tryd.zeroValue0
  i0 := by kernel_rfl
  t3 := Tryd.underlying3
  a3 := Tryd.isAgg3
  z3 := Tryd.sizeOf3
  v3 := Tryd.zeroValue3
  i3 := by kernel_rfl
  t4 := Tryd.underlying4
  a4 := Tryd.isAgg4
  z4 := Tryd.sizeOf4
  v4 := Tryd.zeroValue4
  i4 := by kernel_rfl
  t5 := Tryd.underlying5
  a5 := Tryd.isAgg5
  z5 := Tryd.sizeOf5
  v5 := Tryd.zeroValue5
  i5 := by kernel_rfl
  t21 := Tryd.underlying21
  a21 := Tryd.isAgg21
  z21 := Tryd.sizeOf21
  v21 := Tryd.zeroValue21
  i21 := by kernel_rfl
  t25 := Tryd.underlying79
  a25 := Tryd.isAgg79
  z25 := Tryd.sizeOf79
  v25 := Tryd.zeroValue79
  i25 := by kernel_rfl
  t30 := Tryd.underlying33
  a30 := Tryd.isAgg33
  z30 := Tryd.sizeOf33
  v30 := Tryd.zeroValue33
  i30 := by kernel_rfl
  t33 := Tryd.underlying41
  a33 := Tryd.isAgg41
  z33 := Tryd.sizeOf41
  v33 := Tryd.zeroValue41
  i33 := by kernel_rfl
  t48 := Tryd.underlying38
  a48 := Tryd.isAgg38
  z48 := Tryd.sizeOf38
  v48 := Tryd.zeroValue38
  i48 := by kernel_rfl
  t66 := Tryd.underlying66
  a66 := Tryd.isAgg66
  z66 := Tryd.sizeOf66
  t68 := Tryd.underlying81
  a68 := Tryd.isAgg81
  z68 := Tryd.sizeOf81
  v68 := Tryd.zeroValue81
  i68 := by kernel_rfl
  t69 := Tryd.underlying82
  a69 := Tryd.isAgg82
  z69 := Tryd.sizeOf82
  v69 := Tryd.zeroValue82
  i69 := by kernel_rfl
  g2 := by kernel_rfl
  g3 := by kernel_rfl }
open Go.RowKit in
theorem bytes_TrimLeftFunc (g : Nat) (lb : Array Value) (eg : ∀ args w, (callFunc g args).run Tryd.prog w = .ok (.enter g args) w) (p : Nat → Bool) (s : ByteArray) (b off cap : Nat) (w : World)
    (hcap : s.size ≤ cap) (hs : s.size ≤ 9223372036854775807) (hB : BytesAt s b off w) (hT : Lib.Utf8Tabs 2 3 w) (hp : PredGrows Tryd.prog g lb p w) :
    Calls Tryd.prog 35 #[.slice (some ⟨b, off, none⟩) s.size cap, .func (.func g) #[] lb] w fun e w' => e = .returned (leftCut p s b off cap) ∧ Below w.heap.size w w' := Any7.bytes_TrimLeftFunc lays743 g lb eg p s b off cap w hcap hs hB hT hp
end Go.Proofs.YtnhcocjdkmelhaaDoor.Hand
