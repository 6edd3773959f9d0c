-- made by a program of this session, after the kit's print
import Derived.Test.YtlallihdiffheaaDoorProg
import Derived.Test.YtlallihdiffheaaDoorMakeCap
import Derived.Below
import Derived.Deep.Draws
import Derived.Deep.AppendLies
import Derived.Maps.AppendAt
import Derived.OwnWalk
import Derived.Laws.BytesArg
import Derived.Laws.MakeOwn
import Derived.Laws.OwnMore
import Derived.Deep.OwnRows
import Derived.Tactics
import Derived.Lib.ConvBytes
import Derived.Laws.Slices
import Derived.WalkKit
import Derived.KernelRfl
import Derived.RowKit3
import Derived.Deep.LoopGhost
import Derived.Deep.QuietTactic
import Derived.BigQuiet
import Derived.WideLaws
import Derived.Deep.DeepCutAuto
import Derived.Deep.CutBlock
import Derived.Deep.RegionHeld3
import Derived.Laws.Rows
import Derived.Lib.AppendStr
import Derived.ArgAppend
import Derived.Laws.IdiomCopy
import Derived.OrdersHeld
import Derived.Laws.BitsLemmas
import Derived.RowKit
import Derived.Test.YtlallihdiffheaaDoorWWords
import Derived.Test.YtlallihdiffheaaDoorWLast
import Derived.Test.YtlallihdiffheaaDoorWTab
import Derived.Test.YtlallihdiffheaaDoorWFour
import Derived.Test.YtlallihdiffheaaDoorWQPut
import Derived.Test.YtlallihdiffheaaDoorWApart
import Derived.Test.YtlallihdiffheaaDoorWArr
import Derived.Test.YtlallihdiffheaaDoorWZeros
import Derived.Test.YtlallihdiffheaaDoorWFoot
import Derived.Test.YtlallihdiffheaaDoorWKept
import Derived.Test.YtlallihdiffheaaDoorWShare
import Derived.Test.YtlallihdiffheaaDoorWN
import Derived.Test.YtlallihdiffheaaDoorWFootNe
import Derived.Test.YtlallihdiffheaaDoorWAt
import Derived.Test.YtlallihdiffheaaDoorWEqStruct
import Derived.Test.YtlallihdiffheaaDoorWRepsOne
import Derived.Test.YtlallihdiffheaaDoorWInv
import Derived.Test.YtlallihdiffheaaDoorWInvWords
import Derived.Test.YtlallihdiffheaaDoorWGuard
import Derived.Test.YtlallihdiffheaaDoorWNEv
import Derived.Test.YtlallihdiffheaaDoorWMore
namespace Go.Proofs.YtlallihdiffheaaDoor.GCo
open Go.RowKit Go.Proofs.YtlallihdiffheaaDoorW.PrintWords Go.Proofs.YtlallihdiffheaaDoorW.PrintLast Go.Proofs.YtlallihdiffheaaDoorW.PrintMore
attribute [local go_sem] max2_int min2_int max_two min_two max_three min_three max_four min_four   -- for this text's walks alone
set_option linter.unusedVariables false
set_option linter.unusedSimpArgs false



def errW : Option Int → Value
  | none => .nilIface
  | some c => .iface 0 (.int .i64 c)
theorem errW_none : errW none = .nilIface := rfl
theorem errW_some (c : Int) : errW (some c) = .iface 0 (.int .i64 c) := rfl

theorem info9 : (Tryd.prog.info? 9).map (fun i => (i.zero, i.size, i.bytes)) = some (some (.string ⟨#[]⟩), 1, 16) := by kernel_rfl
-- the values' own types

end Go.Proofs.YtlallihdiffheaaDoor.GCo
