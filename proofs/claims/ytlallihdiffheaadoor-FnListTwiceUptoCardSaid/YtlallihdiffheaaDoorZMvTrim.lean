import Derived.Shelf.LaysM
import Derived.Shelf.Strings.TrimSpaceAny
import Derived.Test.YtlallihdiffheaaDoorProg
import Derived.Test.YtlallihdiffheaaDoorTable
import Derived.Test.YtlallihdiffheaaDoorZLtPure
import Derived.Shelf.Unicode.IsSpaceAny
section
/- Contracts of the shelf, laid at this program by the kit's lay-shelf.mjs and lay-plain.mjs (their print, without what is not used here). -/
namespace Go.Proofs.YtlallihdiffheaaDoor.Hand
open Go.Shelf Go.Proofs
def lays163_ren : Go.Shelf.Ren := ⟨fun | 163 => 55 | 237 => 79 | 199 => 61 | 238 => 80 | 272 => 95 | 261 => 82 | 273 => 96 | 197 => 97 | 315 => 107 | 311 => 98 | 312 => 99 | 271 => 108 | 260 => 109 | 120 => 114 | n => n, fun | 9 => 9 | 37 => 54 | 3 => 3 | 0 => 0 | 5 => 5 | 4 => 4 | 40 => 89 | 119 => 99 | 21 => 21 | 51 => 75 | 141 => 101 | 105 => 117 | 196 => 122 | 193 => 119 | 198 => 125 | 49 => 123 | 194 => 120 | 201 => 128 | 226 => 138 | 46 => 139 | 227 => 140 | 139 => 147 | 138 => 146 | n => n, fun | 0 => 0 | 6 => 1 | 3 => 3 | 4 => 4 | n => n⟩
theorem lays163 : Go.Proofs.Lays.n163 Tryd.prog lays163_ren := {
  mixed := by kernel_rfl
  f120 := Tryd.func114.trans (congrArg some (by kernel_rfl))
  f163 := Tryd.func55.trans (congrArg some (by kernel_rfl))
  f197 := Tryd.func97.trans (congrArg some (by kernel_rfl))
  f199 := Tryd.func61.trans (congrArg some (by kernel_rfl))
  f237 := Tryd.func79.trans (congrArg some (by kernel_rfl))
  f238 := Tryd.func80.trans (congrArg some (by kernel_rfl))
  f260 := Tryd.func109.trans (congrArg some (by kernel_rfl))
  f261 := Tryd.func82.trans (congrArg some (by kernel_rfl))
  f271 := Tryd.func108.trans (congrArg some (by kernel_rfl))
  f272 := Tryd.func95.trans (congrArg some (by kernel_rfl))
  f273 := Tryd.func96.trans (congrArg some (by kernel_rfl))
  f311 := Tryd.func98.trans (congrArg some (by kernel_rfl))
  f312 := Tryd.func99.trans (congrArg some (by kernel_rfl))
  f315 := Tryd.func107.trans (congrArg some (by kernel_rfl))
  t0 := Tryd.underlying0
  a0 := Tryd.isAgg0
  z0 := Tryd.sizeOf0
  v0 := Tryd.zeroValue0
  t3 := Tryd.underlying3
  a3 := Tryd.isAgg3
  z3 := Tryd.sizeOf3
  v3 := Tryd.zeroValue3
  t4 := Tryd.underlying4
  a4 := Tryd.isAgg4
  z4 := Tryd.sizeOf4
  v4 := Tryd.zeroValue4
  t5 := Tryd.underlying5
  a5 := Tryd.isAgg5
  z5 := Tryd.sizeOf5
  v5 := Tryd.zeroValue5
  t9 := Tryd.underlying9
  a9 := Tryd.isAgg9
  z9 := Tryd.sizeOf9
  v9 := Tryd.zeroValue9
  t21 := Tryd.underlying21
  a21 := Tryd.isAgg21
  z21 := Tryd.sizeOf21
  v21 := Tryd.zeroValue21
  t37 := Tryd.underlying54
  a37 := Tryd.isAgg54
  z37 := Tryd.sizeOf54
  v37 := Tryd.zeroValue54
  t40 := Tryd.underlying89
  a40 := Tryd.isAgg89
  z40 := Tryd.sizeOf89
  v40 := Tryd.zeroValue89
  t46 := Tryd.underlying139
  a46 := Tryd.isAgg139
  z46 := Tryd.sizeOf139
  v46 := Tryd.zeroValue139
  t49 := Tryd.underlying123
  a49 := Tryd.isAgg123
  z49 := Tryd.sizeOf123
  v49 := Tryd.zeroValue123
  t51 := Tryd.underlying75
  a51 := Tryd.isAgg75
  z51 := Tryd.sizeOf75
  v51 := Tryd.zeroValue75
  t105 := Tryd.underlying117
  a105 := Tryd.isAgg117
  z105 := Tryd.sizeOf117
  v105 := Tryd.zeroValue117
  t119 := Tryd.underlying99
  a119 := Tryd.isAgg99
  z119 := Tryd.sizeOf99
  t138 := Tryd.underlying146
  a138 := Tryd.isAgg146
  z138 := Tryd.sizeOf146
  v138 := Tryd.zeroValue146
  t139 := Tryd.underlying147
  a139 := Tryd.isAgg147
  z139 := Tryd.sizeOf147
  v139 := Tryd.zeroValue147
  t141 := Tryd.underlying101
  a141 := Tryd.isAgg101
  z141 := Tryd.sizeOf101
  v141 := Tryd.zeroValue101
  t193 := Tryd.underlying119
  a193 := Tryd.isAgg119
  z193 := Tryd.sizeOf119
  v193 := Tryd.zeroValue119
  t194 := Tryd.underlying120
  a194 := Tryd.isAgg120
  z194 := Tryd.sizeOf120
  v194 := Tryd.zeroValue120
  t196 := Tryd.underlying122
  a196 := Tryd.isAgg122
  z196 := Tryd.sizeOf122
  v196 := Tryd.zeroValue122
  t198 := Tryd.underlying125
  a198 := Tryd.isAgg125
  z198 := Tryd.sizeOf125
  v198 := Tryd.zeroValue125
  t201 := Tryd.underlying128
  a201 := Tryd.isAgg128
  z201 := Tryd.sizeOf128
  v201 := Tryd.zeroValue128
  t226 := Tryd.underlying138
  a226 := Tryd.isAgg138
  z226 := Tryd.sizeOf138
  v226 := Tryd.zeroValue138
  t227 := Tryd.underlying140
  a227 := Tryd.isAgg140
  z227 := Tryd.sizeOf140
  v227 := Tryd.zeroValue140
  g0 := by kernel_rfl
  g3 := by kernel_rfl
  g4 := by kernel_rfl
  g6 := by kernel_rfl }
theorem Space_Extra_163 : Space.Extra Tryd.prog lays163_ren := {
  gNamed := by kernel_rfl }
open Go.RowKit in
theorem strings_TrimSpace_any (s : ByteArray) (w : World) (hs : s.size ≤ 9223372036854775807) (htab : Lib.TabIs Tryd.prog w "strings.asciiSpace" .u8 Lib.asciiSpaceTab) (hU8 : Lib.Utf8Tabs 3 4 w) (hWS : Lib.WhiteTab 1 w) :
    Calls Tryd.prog 55 #[.string s] w fun e w' => e = .returned (.string ⟨(Lib.trimSpaceD s.data.toList).toArray⟩) ∧ Below w.heap.size w w' := Any.strings_TrimSpace_any lays163 Space_Extra_163 s w hs htab hU8 hWS
end Go.Proofs.YtlallihdiffheaaDoor.Hand
end
section
/- strings.TrimSpace at any text: what it tells; its tables. -/
namespace Go.Proofs.YtlallihdiffheaaDoor.Hand
open Go.RowKit Go.Proofs.YtlallihdiffheaaDoorW.PrintWords Go.Proofs.YtlallihdiffheaaDoorW.PrintLast
set_option linter.unusedVariables false

def TabL (w : World) : Prop := Lib.TabIs Tryd.prog w "strings.asciiSpace" .u8 Lib.asciiSpaceTab ∧ Lib.Utf8Tabs 3 4 w ∧ Lib.WhiteTab 1 w
theorem tabL_below {w w' : World} (h : TabL w) (hb : Below w.heap.size w w') : TabL w' := ⟨tab_below h.1 hb, Utf8Tabs_below h.2.1 hb, WhiteTab_below h.2.2 hb⟩
theorem trim_any (s : ByteArray) (hs : s.size ≤ 9223372036854775807) (w : World) (hT : TabL w) : Calls Tryd.prog 55 #[.string s] w fun e w' => e = .returned (.string (trimB s)) ∧ Below w.heap.size w w' :=
  strings_TrimSpace_any s w hs hT.1 hT.2.1 hT.2.2
end Go.Proofs.YtlallihdiffheaaDoor.Hand
end
section
/- Contracts of the shelf, laid at this program by the kit's lay-shelf.mjs and lay-plain.mjs (their print, without what is not used here). -/
namespace Go.Proofs.YtlallihdiffheaaDoor.Hand
open Go.Shelf Go.Proofs
def lays199_ren : Go.Shelf.Ren := ⟨fun | 199 => 61 | 261 => 82 | 311 => 98 | 312 => 99 | n => n, fun | 21 => 21 | 4 => 4 | 51 => 75 | 141 => 101 | 0 => 0 | 196 => 122 | 193 => 119 | 3 => 3 | 198 => 125 | 49 => 123 | 194 => 120 | 201 => 128 | 226 => 138 | 46 => 139 | 227 => 140 | n => n, fun | 6 => 1 | n => n⟩
theorem lays199 : Go.Proofs.Lays.n199 Tryd.prog lays199_ren := {
  mixed := by kernel_rfl
  f199 := Tryd.func61.trans (congrArg some (by kernel_rfl))
  f261 := Tryd.func82.trans (congrArg some (by kernel_rfl))
  f311 := Tryd.func98.trans (congrArg some (by kernel_rfl))
  f312 := Tryd.func99.trans (congrArg some (by kernel_rfl))
  t0 := Tryd.underlying0
  a0 := Tryd.isAgg0
  z0 := Tryd.sizeOf0
  v0 := Tryd.zeroValue0
  t3 := Tryd.underlying3
  a3 := Tryd.isAgg3
  z3 := Tryd.sizeOf3
  v3 := Tryd.zeroValue3
  t4 := Tryd.underlying4
  a4 := Tryd.isAgg4
  z4 := Tryd.sizeOf4
  v4 := Tryd.zeroValue4
  t21 := Tryd.underlying21
  a21 := Tryd.isAgg21
  z21 := Tryd.sizeOf21
  v21 := Tryd.zeroValue21
  t46 := Tryd.underlying139
  a46 := Tryd.isAgg139
  z46 := Tryd.sizeOf139
  v46 := Tryd.zeroValue139
  t49 := Tryd.underlying123
  a49 := Tryd.isAgg123
  z49 := Tryd.sizeOf123
  v49 := Tryd.zeroValue123
  t51 := Tryd.underlying75
  a51 := Tryd.isAgg75
  z51 := Tryd.sizeOf75
  v51 := Tryd.zeroValue75
  t141 := Tryd.underlying101
  a141 := Tryd.isAgg101
  z141 := Tryd.sizeOf101
  v141 := Tryd.zeroValue101
  t193 := Tryd.underlying119
  a193 := Tryd.isAgg119
  z193 := Tryd.sizeOf119
  v193 := Tryd.zeroValue119
  t194 := Tryd.underlying120
  a194 := Tryd.isAgg120
  z194 := Tryd.sizeOf120
  v194 := Tryd.zeroValue120
  t196 := Tryd.underlying122
  a196 := Tryd.isAgg122
  z196 := Tryd.sizeOf122
  v196 := Tryd.zeroValue122
  t198 := Tryd.underlying125
  a198 := Tryd.isAgg125
  z198 := Tryd.sizeOf125
  v198 := Tryd.zeroValue125
  t201 := Tryd.underlying128
  a201 := Tryd.isAgg128
  z201 := Tryd.sizeOf128
  v201 := Tryd.zeroValue128
  t226 := Tryd.underlying138
  a226 := Tryd.isAgg138
  z226 := Tryd.sizeOf138
  v226 := Tryd.zeroValue138
  t227 := Tryd.underlying140
  a227 := Tryd.isAgg140
  z227 := Tryd.sizeOf140
  v227 := Tryd.zeroValue140
  g6 := by kernel_rfl }
open Go.RowKit Go.Lib in
theorem unicode_IsSpace_any (r : Int) (w : World) (hlo : -2147483648 ≤ r) (hhi : r ≤ 2147483647) (hW : Lib.WhiteTab 1 w) :
    Calls Tryd.prog 61 #[.int .i32 r] w fun e w' => e = .returned (.bool (Lib.isSpaceZ r)) ∧ Below w.heap.size w w' := Any.unicode_IsSpace_any lays199 r w hlo hhi hW
end Go.Proofs.YtlallihdiffheaaDoor.Hand
end
