/- Contracts of the shelf, laid at this program by the kit's lay-shelf.mjs and lay-plain.mjs (their print, without what is not used here). -/
import Derived.Shelf.Strings.Builder1
import Derived.Shelf.Strings.Builder2
import Derived.Shelf.Small.Utf8
import Derived.Shelf.Strings.BuilderF
import Derived.Shelf.Unicode.Latin
import Derived.Shelf.Unicode.Is16White
import Derived.Shelf.Unicode.IsSpaceAny
import Derived.Shelf.Unicode.Is16Any
import Derived.Shelf.Unicode.Is32Any
import Derived.Shelf.Unicode.ExclAny
import Derived.Shelf.Bytes.TrimSpace
import Derived.Test.YtnhcocjdkmelhaaDoorProg
namespace Go.Proofs.YtnhcocjdkmelhaaDoor.Hand
open Go.Shelf Go.Proofs
def laysbs188_ren : Go.Shelf.Ren := ⟨fun | 188 => 39 | 256 => 52 | 199 => 25 | 293 => 35 | 292 => 33 | 261 => 37 | 327 => 49 | 325 => 48 | 326 => 30 | 311 => 50 | 312 => 51 | 341 => 60 | 342 => 44 | 120 => 65 | n => n, fun | 37 => 33 | 3 => 3 | 0 => 0 | 5 => 5 | 4 => 4 | 40 => 38 | 119 => 66 | 21 => 21 | 51 => 44 | 141 => 46 | 105 => 41 | 196 => 58 | 193 => 55 | 198 => 61 | 49 => 59 | 194 => 56 | 201 => 64 | 226 => 83 | 46 => 79 | 227 => 84 | 139 => 82 | 138 => 81 | n => n, fun | 2 => 1 | 6 => 0 | 3 => 2 | 4 => 3 | n => n⟩
theorem laysbs188 : Go.Proofs.Lays.nbs188 Tryd.prog laysbs188_ren := {
  mixed := by kernel_rfl
  f120 := Tryd.func65.trans (congrArg some (by kernel_rfl))
  f188 := Tryd.func39.trans (congrArg some (by kernel_rfl))
  f199 := Tryd.func25.trans (congrArg some (by kernel_rfl))
  f256 := Tryd.func52.trans (congrArg some (by kernel_rfl))
  f261 := Tryd.func37.trans (congrArg some (by kernel_rfl))
  f292 := Tryd.func33.trans (congrArg some (by kernel_rfl))
  f293 := Tryd.func35.trans (congrArg some (by kernel_rfl))
  f311 := Tryd.func50.trans (congrArg some (by kernel_rfl))
  f312 := Tryd.func51.trans (congrArg some (by kernel_rfl))
  f325 := Tryd.func48.trans (congrArg some (by kernel_rfl))
  f326 := Tryd.func30.trans (congrArg some (by kernel_rfl))
  f327 := Tryd.func49.trans (congrArg some (by kernel_rfl))
  f341 := Tryd.func60.trans (congrArg some (by kernel_rfl))
  f342 := Tryd.func44.trans (congrArg some (by kernel_rfl))
  t0 := Tryd.underlying0
  a0 := Tryd.isAgg0
  z0 := Tryd.sizeOf0
  v0 := Tryd.zeroValue0
  t3 := Tryd.underlying3
  a3 := Tryd.isAgg3
  z3 := Tryd.sizeOf3
  v3 := Tryd.zeroValue3
  t4 := Tryd.underlying4
  a4 := Tryd.isAgg4
  z4 := Tryd.sizeOf4
  v4 := Tryd.zeroValue4
  t5 := Tryd.underlying5
  a5 := Tryd.isAgg5
  z5 := Tryd.sizeOf5
  v5 := Tryd.zeroValue5
  t21 := Tryd.underlying21
  a21 := Tryd.isAgg21
  z21 := Tryd.sizeOf21
  v21 := Tryd.zeroValue21
  t37 := Tryd.underlying33
  a37 := Tryd.isAgg33
  z37 := Tryd.sizeOf33
  v37 := Tryd.zeroValue33
  t40 := Tryd.underlying38
  a40 := Tryd.isAgg38
  z40 := Tryd.sizeOf38
  v40 := Tryd.zeroValue38
  t46 := Tryd.underlying79
  a46 := Tryd.isAgg79
  z46 := Tryd.sizeOf79
  v46 := Tryd.zeroValue79
  t49 := Tryd.underlying59
  a49 := Tryd.isAgg59
  z49 := Tryd.sizeOf59
  v49 := Tryd.zeroValue59
  t51 := Tryd.underlying44
  a51 := Tryd.isAgg44
  z51 := Tryd.sizeOf44
  v51 := Tryd.zeroValue44
  t105 := Tryd.underlying41
  a105 := Tryd.isAgg41
  z105 := Tryd.sizeOf41
  v105 := Tryd.zeroValue41
  t119 := Tryd.underlying66
  a119 := Tryd.isAgg66
  z119 := Tryd.sizeOf66
  t138 := Tryd.underlying81
  a138 := Tryd.isAgg81
  z138 := Tryd.sizeOf81
  v138 := Tryd.zeroValue81
  t139 := Tryd.underlying82
  a139 := Tryd.isAgg82
  z139 := Tryd.sizeOf82
  v139 := Tryd.zeroValue82
  t141 := Tryd.underlying46
  a141 := Tryd.isAgg46
  z141 := Tryd.sizeOf46
  v141 := Tryd.zeroValue46
  t193 := Tryd.underlying55
  a193 := Tryd.isAgg55
  z193 := Tryd.sizeOf55
  v193 := Tryd.zeroValue55
  t194 := Tryd.underlying56
  a194 := Tryd.isAgg56
  z194 := Tryd.sizeOf56
  v194 := Tryd.zeroValue56
  t196 := Tryd.underlying58
  a196 := Tryd.isAgg58
  z196 := Tryd.sizeOf58
  v196 := Tryd.zeroValue58
  t198 := Tryd.underlying61
  a198 := Tryd.isAgg61
  z198 := Tryd.sizeOf61
  v198 := Tryd.zeroValue61
  t201 := Tryd.underlying64
  a201 := Tryd.isAgg64
  z201 := Tryd.sizeOf64
  v201 := Tryd.zeroValue64
  t226 := Tryd.underlying83
  a226 := Tryd.isAgg83
  z226 := Tryd.sizeOf83
  v226 := Tryd.zeroValue83
  t227 := Tryd.underlying84
  a227 := Tryd.isAgg84
  z227 := Tryd.sizeOf84
  v227 := Tryd.zeroValue84
  g2 := by kernel_rfl
  g3 := by kernel_rfl
  g4 := by kernel_rfl
  g6 := by kernel_rfl
  gNamed := by kernel_rfl }
open Go.RowKit in
theorem bytes_TrimSpace (b o n c : Nat) (xs : List Int) (w : World) (hx : xs.length = n) (hnc : n ≤ c) (hbig : n ≤ 9223372036854775807) (hc : ∀ i, i < n → w.cell? ⟨b, o + i, none⟩ = some (.int .u8 (xs.getD i 0))) (hascii : ∀ i, i < n → 0 ≤ xs.getD i 0 ∧ xs.getD i 0 < 128) (htab : Lib.TabIs Tryd.prog w "bytes.asciiSpace" .u8 Lib.asciiSpaceTab) :
    Calls Tryd.prog 39 #[.slice (some ⟨b, o, none⟩) n c] w fun e w' => e = .returned (Lib.bytesTrimSpace b o c (Lib.bytesOf xs)) ∧ w' = w := Any.bytes_TrimSpace laysbs188 b o n c xs w hx hnc hbig hc hascii htab
def lays188_ren : Go.Shelf.Ren := ⟨fun | 188 => 39 | 256 => 52 | 199 => 25 | 293 => 35 | 292 => 33 | 261 => 37 | 327 => 49 | 325 => 48 | 326 => 30 | 311 => 50 | 312 => 51 | 341 => 60 | 342 => 44 | 120 => 65 | n => n, fun | 37 => 33 | 3 => 3 | 0 => 0 | 5 => 5 | 4 => 4 | 40 => 38 | 119 => 66 | 21 => 21 | 51 => 44 | 141 => 46 | 105 => 41 | 196 => 58 | 193 => 55 | 198 => 61 | 49 => 59 | 194 => 56 | 201 => 64 | 226 => 83 | 46 => 79 | 227 => 84 | 139 => 82 | 138 => 81 | n => n, fun | 2 => 1 | 6 => 0 | 3 => 2 | 4 => 3 | n => n⟩
theorem lays188 : Go.Proofs.Lays.n188 Tryd.prog lays188_ren := {
  mixed := by kernel_rfl
  f120 := Tryd.func65.trans (congrArg some (by kernel_rfl))
  f188 := Tryd.func39.trans (congrArg some (by kernel_rfl))
  f199 := Tryd.func25.trans (congrArg some (by kernel_rfl))
  f256 := Tryd.func52.trans (congrArg some (by kernel_rfl))
  f261 := Tryd.func37.trans (congrArg some (by kernel_rfl))
  f292 := Tryd.func33.trans (congrArg some (by kernel_rfl))
  f293 := Tryd.func35.trans (congrArg some (by kernel_rfl))
  f311 := Tryd.func50.trans (congrArg some (by kernel_rfl))
  f312 := Tryd.func51.trans (congrArg some (by kernel_rfl))
  f325 := Tryd.func48.trans (congrArg some (by kernel_rfl))
  f326 := Tryd.func30.trans (congrArg some (by kernel_rfl))
  f327 := Tryd.func49.trans (congrArg some (by kernel_rfl))
  f341 := Tryd.func60.trans (congrArg some (by kernel_rfl))
  f342 := Tryd.func44.trans (congrArg some (by kernel_rfl))
  t0 := Tryd.underlying0
  a0 := Tryd.isAgg0
  z0 := Tryd.sizeOf0
  v0 := Tryd.zeroValue0
  t3 := Tryd.underlying3
  a3 := Tryd.isAgg3
  z3 := Tryd.sizeOf3
  v3 := Tryd.zeroValue3
  t4 := Tryd.underlying4
  a4 := Tryd.isAgg4
  z4 := Tryd.sizeOf4
  v4 := Tryd.zeroValue4
  t5 := Tryd.underlying5
  a5 := Tryd.isAgg5
  z5 := Tryd.sizeOf5
  v5 := Tryd.zeroValue5
  t21 := Tryd.underlying21
  a21 := Tryd.isAgg21
  z21 := Tryd.sizeOf21
  v21 := Tryd.zeroValue21
  t37 := Tryd.underlying33
  a37 := Tryd.isAgg33
  z37 := Tryd.sizeOf33
  v37 := Tryd.zeroValue33
  t40 := Tryd.underlying38
  a40 := Tryd.isAgg38
  z40 := Tryd.sizeOf38
  v40 := Tryd.zeroValue38
  t46 := Tryd.underlying79
  a46 := Tryd.isAgg79
  z46 := Tryd.sizeOf79
  v46 := Tryd.zeroValue79
  t49 := Tryd.underlying59
  a49 := Tryd.isAgg59
  z49 := Tryd.sizeOf59
  v49 := Tryd.zeroValue59
  t51 := Tryd.underlying44
  a51 := Tryd.isAgg44
  z51 := Tryd.sizeOf44
  v51 := Tryd.zeroValue44
  t105 := Tryd.underlying41
  a105 := Tryd.isAgg41
  z105 := Tryd.sizeOf41
  v105 := Tryd.zeroValue41
  t119 := Tryd.underlying66
  a119 := Tryd.isAgg66
  z119 := Tryd.sizeOf66
  t138 := Tryd.underlying81
  a138 := Tryd.isAgg81
  z138 := Tryd.sizeOf81
  v138 := Tryd.zeroValue81
  t139 := Tryd.underlying82
  a139 := Tryd.isAgg82
  z139 := Tryd.sizeOf82
  v139 := Tryd.zeroValue82
  t141 := Tryd.underlying46
  a141 := Tryd.isAgg46
  z141 := Tryd.sizeOf46
  v141 := Tryd.zeroValue46
  t193 := Tryd.underlying55
  a193 := Tryd.isAgg55
  z193 := Tryd.sizeOf55
  v193 := Tryd.zeroValue55
  t194 := Tryd.underlying56
  a194 := Tryd.isAgg56
  z194 := Tryd.sizeOf56
  v194 := Tryd.zeroValue56
  t196 := Tryd.underlying58
  a196 := Tryd.isAgg58
  z196 := Tryd.sizeOf58
  v196 := Tryd.zeroValue58
  t198 := Tryd.underlying61
  a198 := Tryd.isAgg61
  z198 := Tryd.sizeOf61
  v198 := Tryd.zeroValue61
  t201 := Tryd.underlying64
  a201 := Tryd.isAgg64
  z201 := Tryd.sizeOf64
  v201 := Tryd.zeroValue64
  t226 := Tryd.underlying83
  a226 := Tryd.isAgg83
  z226 := Tryd.sizeOf83
  v226 := Tryd.zeroValue83
  t227 := Tryd.underlying84
  a227 := Tryd.isAgg84
  z227 := Tryd.sizeOf84
  v227 := Tryd.zeroValue84
  g2 := by kernel_rfl
  g3 := by kernel_rfl
  g4 := by kernel_rfl
  g6 := by kernel_rfl }
open Go.RowKit in
theorem bytes_TrimSpace_nil (w : World) :
    Calls Tryd.prog 39 #[.slice none 0 0] w fun e w' => e = .returned (.slice none 0 0) ∧ w' = w := Any.bytes_TrimSpace_nil lays188 w
end Go.Proofs.YtnhcocjdkmelhaaDoor.Hand
