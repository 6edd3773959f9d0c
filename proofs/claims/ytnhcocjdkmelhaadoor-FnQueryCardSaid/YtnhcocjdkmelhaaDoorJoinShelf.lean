/- Contracts of the shelf, laid at this program by the kit's lay-shelf.mjs and lay-plain.mjs (their print, without what is not used here). -/
import Derived.Shelf.Strings.Builder1
import Derived.Shelf.Strings.Builder2
import Derived.Shelf.Strings.OnBuilder
import Derived.Shelf.Small.Utf8
import Derived.Shelf.Strings.BuilderF
import Derived.Shelf.Strings.BuilderK
import Derived.Shelf.Strings.Builder2Cap
import Derived.Shelf.Unicode.Latin
import Derived.Shelf.Unicode.Is16White
import Derived.Shelf.Unicode.IsSpaceAny
import Derived.Shelf.Unicode.Is16Any
import Derived.Shelf.Unicode.Is32Any
import Derived.Shelf.Unicode.ExclAny
import Derived.Shelf.Strings.BuilderCap
import Derived.Shelf.Bytes.TrimSpace
import Derived.Test.YtnhcocjdkmelhaaDoorProg
namespace Go.Proofs.YtnhcocjdkmelhaaDoor.Hand
open Go.Shelf Go.Proofs
def lays156_ren : Go.Shelf.Ren := ⟨fun | 156 => 43 | 165 => 56 | 166 => 57 | 169 => 58 | 240 => 63 | 241 => 64 | 276 => 70 | 277 => 71 | n => n, fun | 31 => 48 | 9 => 9 | 3 => 3 | 4 => 4 | 0 => 0 | 20 => 20 | 72 => 74 | 76 => 76 | 70 => 72 | 37 => 33 | 75 => 69 | 127 => 88 | 164 => 95 | 5 => 5 | 80 => 78 | n => n, fun | n => n⟩
theorem lays156 : Go.Proofs.Lays.n156 Tryd.prog lays156_ren := {
  mixed := by kernel_rfl
  f156 := Tryd.func43.trans (congrArg some (by kernel_rfl))
  f165 := Tryd.func56.trans (congrArg some (by kernel_rfl))
  f166 := Tryd.func57.trans (congrArg some (by kernel_rfl))
  f169 := Tryd.func58.trans (congrArg some (by kernel_rfl))
  f240 := Tryd.func63.trans (congrArg some (by kernel_rfl))
  f241 := Tryd.func64.trans (congrArg some (by kernel_rfl))
  f276 := Tryd.func70.trans (congrArg some (by kernel_rfl))
  f277 := Tryd.func71.trans (congrArg some (by kernel_rfl))
  t0 := Tryd.underlying0
  a0 := Tryd.isAgg0
  z0 := Tryd.sizeOf0
  v0 := Tryd.zeroValue0
  t3 := Tryd.underlying3
  a3 := Tryd.isAgg3
  z3 := Tryd.sizeOf3
  v3 := Tryd.zeroValue3
  t4 := Tryd.underlying4
  a4 := Tryd.isAgg4
  z4 := Tryd.sizeOf4
  v4 := Tryd.zeroValue4
  t9 := Tryd.underlying9
  a9 := Tryd.isAgg9
  z9 := Tryd.sizeOf9
  v9 := Tryd.zeroValue9
  t20 := Tryd.underlying20
  a20 := Tryd.isAgg20
  z20 := Tryd.sizeOf20
  v20 := Tryd.zeroValue20
  t31 := Tryd.underlying48
  a31 := Tryd.isAgg48
  z31 := Tryd.sizeOf48
  v31 := Tryd.zeroValue48
  t37 := Tryd.underlying33
  a37 := Tryd.isAgg33
  z37 := Tryd.sizeOf33
  v37 := Tryd.zeroValue33
  t70 := Tryd.underlying72
  a70 := Tryd.isAgg72
  z70 := Tryd.sizeOf72
  v70 := Tryd.zeroValue72
  t72 := Tryd.underlying74
  a72 := Tryd.isAgg74
  z72 := Tryd.sizeOf74
  v72 := Tryd.zeroValue74
  t75 := Tryd.underlying69
  a75 := Tryd.isAgg69
  z75 := Tryd.sizeOf69
  v75 := Tryd.zeroValue69
  t76 := Tryd.underlying76
  a76 := Tryd.isAgg76
  z76 := Tryd.sizeOf76
  v76 := Tryd.zeroValue76
  t127 := Tryd.underlying88
  a127 := Tryd.isAgg88
  z127 := Tryd.sizeOf88
  v127 := Tryd.zeroValue88
  t164 := Tryd.underlying95
  a164 := Tryd.isAgg95
  z164 := Tryd.sizeOf95
  v164 := Tryd.zeroValue95 }
theorem Builder_Extra_156 : Builder.Extra Tryd.prog lays156_ren := {
  sizeBuilder := by kernel_rfl
  liesBuilder := by kernel_rfl
  t5 := Tryd.underlying5
  a5 := Tryd.isAgg5
  z5 := Tryd.sizeOf5
  v5 := Tryd.zeroValue5
  infoByte := by kernel_rfl
  cellsByte := by kernel_rfl
  sizeByte := by kernel_rfl
  neB5 := by decide }
open Go.RowKit in
theorem strings_Join_none (a : Option Addr) (c : Nat) (sep : ByteArray) (w : World) :
    Calls Tryd.prog 43 #[.slice a 0 c, .string sep] w fun e w' => e = .returned (.string ⟨#[]⟩) ∧ w' = w := Any.strings_Join_none lays156 Builder_Extra_156 a c sep w
open Go.RowKit in
theorem strings_Join (bk o c : Nat) (xs : List ByteArray) (sep : ByteArray) (w : World) (hcells : ∀ (j : Nat) x, xs[j]? = some x → w.cell? ⟨bk, o + j, none⟩ = some (.string x)) (hbk : bk < w.heap.size) (hN : xs.length ≤ 140737488355328) (hcap : xs.length ≤ c) (hlen : (Lib.join (xs.map (·.data.toList)) sep.data.toList).length ≤ 140737488355328) :
    Calls Tryd.prog 43 #[.slice (some ⟨bk, o, none⟩) xs.length c, .string sep] w fun e w' => e = .returned (.string ⟨(Lib.join (xs.map (·.data.toList)) sep.data.toList).toArray⟩) ∧ Below w.heap.size w w' := Any.strings_Join lays156 Builder_Extra_156 bk o c xs sep w hcells hbk hN hcap hlen
end Go.Proofs.YtnhcocjdkmelhaaDoor.Hand
