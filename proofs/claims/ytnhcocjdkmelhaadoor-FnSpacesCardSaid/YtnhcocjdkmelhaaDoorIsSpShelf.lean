/- Contracts of the shelf, laid at this program by the kit's lay-shelf.mjs and lay-plain.mjs (their print, without what is not used here). -/
import Derived.Shelf.Strings.Builder1
import Derived.Shelf.Strings.Builder2
import Derived.Shelf.Strings.OnBuilder
import Derived.Shelf.Small.Utf8
import Derived.Shelf.Strings.BuilderF
import Derived.Shelf.Strings.BuilderK
import Derived.Shelf.Strings.Builder2Cap
import Derived.Shelf.Unicode.Latin
import Derived.Shelf.Unicode.Is16White
import Derived.Shelf.Unicode.IsSpaceAny
import Derived.Shelf.Unicode.Is16Any
import Derived.Shelf.Unicode.Is32Any
import Derived.Shelf.Unicode.ExclAny
import Derived.Shelf.Strings.BuilderCap
import Derived.Shelf.Bytes.TrimSpace
import Derived.Test.YtnhcocjdkmelhaaDoorProg
namespace Go.Proofs.YtnhcocjdkmelhaaDoor.Hand
open Go.Shelf Go.Proofs
def lays199_ren : Go.Shelf.Ren := ⟨fun | 199 => 25 | 261 => 37 | 311 => 50 | 312 => 51 | n => n, fun | 21 => 21 | 4 => 4 | 51 => 44 | 141 => 46 | 0 => 0 | 196 => 58 | 193 => 55 | 3 => 3 | 198 => 61 | 49 => 59 | 194 => 56 | 201 => 64 | 226 => 83 | 46 => 79 | 227 => 84 | n => n, fun | 6 => 0 | n => n⟩
theorem lays199 : Go.Proofs.Lays.n199 Tryd.prog lays199_ren := {
  mixed := by kernel_rfl
  f199 := Tryd.func25.trans (congrArg some (by kernel_rfl))
  f261 := Tryd.func37.trans (congrArg some (by kernel_rfl))
  f311 := Tryd.func50.trans (congrArg some (by kernel_rfl))
  f312 := Tryd.func51.trans (congrArg some (by kernel_rfl))
  t0 := Tryd.underlying0
  a0 := Tryd.isAgg0
  z0 := Tryd.sizeOf0
  v0 := Tryd.zeroValue0
  t3 := Tryd.underlying3
  a3 := Tryd.isAgg3
  z3 := Tryd.sizeOf3
  v3 := Tryd.zeroValue3
  t4 := Tryd.underlying4
  a4 := Tryd.isAgg4
  z4 := Tryd.sizeOf4
  v4 := Tryd.zeroValue4
  t21 := Tryd.underlying21
  a21 := Tryd.isAgg21
  z21 := Tryd.sizeOf21
  v21 := Tryd.zeroValue21
  t46 := Tryd.underlying79
  a46 := Tryd.isAgg79
  z46 := Tryd.sizeOf79
  v46 := Tryd.zeroValue79
  t49 := Tryd.underlying59
  a49 := Tryd.isAgg59
  z49 := Tryd.sizeOf59
  v49 := Tryd.zeroValue59
  t51 := Tryd.underlying44
  a51 := Tryd.isAgg44
  z51 := Tryd.sizeOf44
  v51 := Tryd.zeroValue44
  t141 := Tryd.underlying46
  a141 := Tryd.isAgg46
  z141 := Tryd.sizeOf46
  v141 := Tryd.zeroValue46
  t193 := Tryd.underlying55
  a193 := Tryd.isAgg55
  z193 := Tryd.sizeOf55
  v193 := Tryd.zeroValue55
  t194 := Tryd.underlying56
  a194 := Tryd.isAgg56
  z194 := Tryd.sizeOf56
  v194 := Tryd.zeroValue56
  t196 := Tryd.underlying58
  a196 := Tryd.isAgg58
  z196 := Tryd.sizeOf58
  v196 := Tryd.zeroValue58
  t198 := Tryd.underlying61
  a198 := Tryd.isAgg61
  z198 := Tryd.sizeOf61
  v198 := Tryd.zeroValue61
  t201 := Tryd.underlying64
  a201 := Tryd.isAgg64
  z201 := Tryd.sizeOf64
  v201 := Tryd.zeroValue64
  t226 := Tryd.underlying83
  a226 := Tryd.isAgg83
  z226 := Tryd.sizeOf83
  v226 := Tryd.zeroValue83
  t227 := Tryd.underlying84
  a227 := Tryd.isAgg84
  z227 := Tryd.sizeOf84
  v227 := Tryd.zeroValue84
  g6 := by kernel_rfl }
open Go.RowKit Go.Lib in
theorem unicode_IsSpace_any (r : Int) (w : World) (hlo : -2147483648 ≤ r) (hhi : r ≤ 2147483647) (hW : Lib.WhiteTab 0 w) :
    Calls Tryd.prog 25 #[.int .i32 r] w fun e w' => e = .returned (.bool (Lib.isSpaceZ r)) ∧ Below w.heap.size w w' := Any.unicode_IsSpace_any lays199 r w hlo hhi hW
end Go.Proofs.YtnhcocjdkmelhaaDoor.Hand
