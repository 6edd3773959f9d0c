/- A contract by hand: impl.guarded, of a function that does not panic: it tells false, and what the function did stands. -/
import Derived.Test.YtlallihdiffheaaProg
import Derived.Below
import Derived.Deep.Draws
import Derived.Deep.AppendLies
import Derived.Maps.AppendAt
import Derived.OwnWalk
import Derived.Laws.BytesArg
import Derived.Laws.MakeOwn
import Derived.Laws.OwnMore
import Derived.Deep.OwnRows
import Derived.Tactics
import Derived.Lib.ConvBytes
import Derived.Laws.Slices
import Derived.WalkKit
import Derived.KernelRfl
import Derived.RowKit3
import Derived.Deep.LoopGhost
import Derived.Deep.QuietTactic
import Derived.BigQuiet
import Derived.WideLaws
import Derived.Deep.DeepCutAuto
import Derived.Deep.CutBlock
import Derived.Deep.RegionHeld3
import Derived.Laws.Rows
import Derived.Lib.AppendStr
import Derived.ArgAppend
import Derived.Laws.IdiomCopy
import Derived.OrdersHeld
import Derived.Laws.BitsLemmas
import Derived.RowKit
import Derived.Test.YtlallihdiffheaaWWords
import Derived.Test.YtlallihdiffheaaWLast
import Derived.Test.YtlallihdiffheaaWTab
import Derived.Test.YtlallihdiffheaaWFour
import Derived.Test.YtlallihdiffheaaWQPut
import Derived.Test.YtlallihdiffheaaWApart
import Derived.Test.YtlallihdiffheaaWArr
import Derived.Test.YtlallihdiffheaaWZeros
import Derived.Test.YtlallihdiffheaaWFoot
import Derived.Test.YtlallihdiffheaaWKept
import Derived.Test.YtlallihdiffheaaWShare
import Derived.Test.YtlallihdiffheaaWN
import Derived.Test.YtlallihdiffheaaWFootNe
import Derived.Test.YtlallihdiffheaaWAt
import Derived.Test.YtlallihdiffheaaWEqStruct
import Derived.Test.YtlallihdiffheaaWRepsOne
import Derived.Test.YtlallihdiffheaaWInv
import Derived.Test.YtlallihdiffheaaWInvWords
import Derived.Test.YtlallihdiffheaaWGuard
import Derived.Test.YtlallihdiffheaaWNEv
import Derived.Test.YtlallihdiffheaaWMore
import Derived.LoopTactic
import Derived.Laws.RangeAny
import Derived.Lib.OthersKept
import Derived.Defers
import Derived.Recover
import Derived.Lib.Hide
import Derived.Outline
namespace Go.Proofs.Ytlallihdiffheaa.Hand
open Go.RowKit Go.Proofs.YtlallihdiffheaaW.PrintWords Go.Proofs.YtlallihdiffheaaW.PrintLast Go.Proofs.YtlallihdiffheaaW.PrintMore
set_option linter.unusedVariables false

theorem enters {P : Program} {f : FuncId} {fn : Func} {c : Code} (hf : P.funcs[f]? = some fn) (hname : (fn.name == "runtime.NumGoroutine") = false) (hb : fn.body = some c) (args : Array Value) (w : World) :
    (callFunc f args).run P w = .ok (.enter f args) w := by
  have h1 : ¬ fn.name = "runtime.NumGoroutine" := by simpa using hname
  simp [callFunc, hf, h1, hb]
end Go.Proofs.Ytlallihdiffheaa.Hand
