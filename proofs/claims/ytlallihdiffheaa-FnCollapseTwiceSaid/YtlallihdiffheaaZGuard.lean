/- A contract by hand: impl.guarded, of a function that does not panic: it tells false, and what the function did stands. -/
import Derived.Test.YtlallihdiffheaaProg
import Derived.Below
import Derived.Deep.Draws
import Derived.Deep.AppendLies
import Derived.Maps.AppendAt
import Derived.OwnWalk
import Derived.Laws.BytesArg
import Derived.Laws.MakeOwn
import Derived.Laws.OwnMore
import Derived.Deep.OwnRows
import Derived.Tactics
import Derived.Lib.ConvBytes
import Derived.Laws.Slices
import Derived.WalkKit
import Derived.KernelRfl
import Derived.RowKit3
import Derived.Deep.LoopGhost
import Derived.Deep.QuietTactic
import Derived.BigQuiet
import Derived.WideLaws
import Derived.Deep.DeepCutAuto
import Derived.Deep.CutBlock
import Derived.Deep.RegionHeld3
import Derived.Laws.Rows
import Derived.Lib.AppendStr
import Derived.ArgAppend
import Derived.Laws.IdiomCopy
import Derived.OrdersHeld
import Derived.Laws.BitsLemmas
import Derived.RowKit
import Derived.Test.YtlallihdiffheaaWWords
import Derived.Test.YtlallihdiffheaaWLast
import Derived.Test.YtlallihdiffheaaWTab
import Derived.Test.YtlallihdiffheaaWFour
import Derived.Test.YtlallihdiffheaaWQPut
import Derived.Test.YtlallihdiffheaaWApart
import Derived.Test.YtlallihdiffheaaWArr
import Derived.Test.YtlallihdiffheaaWZeros
import Derived.Test.YtlallihdiffheaaWFoot
import Derived.Test.YtlallihdiffheaaWKept
import Derived.Test.YtlallihdiffheaaWShare
import Derived.Test.YtlallihdiffheaaWN
import Derived.Test.YtlallihdiffheaaWFootNe
import Derived.Test.YtlallihdiffheaaWAt
import Derived.Test.YtlallihdiffheaaWEqStruct
import Derived.Test.YtlallihdiffheaaWRepsOne
import Derived.Test.YtlallihdiffheaaWInv
import Derived.Test.YtlallihdiffheaaWInvWords
import Derived.Test.YtlallihdiffheaaWGuard
import Derived.Test.YtlallihdiffheaaWNEv
import Derived.Test.YtlallihdiffheaaWMore
import Derived.LoopTactic
import Derived.Laws.RangeAny
import Derived.Lib.OthersKept
import Derived.Defers
import Derived.Recover
import Derived.Lib.Hide
import Derived.Outline
namespace Go.Proofs.Ytlallihdiffheaa.Hand
open Go.RowKit Go.Proofs.YtlallihdiffheaaW.PrintWords Go.Proofs.YtlallihdiffheaaW.PrintLast Go.Proofs.YtlallihdiffheaaW.PrintMore
set_option linter.unusedVariables false

theorem guard_idle (p : Addr) (w : World) :
    CallsD Try.prog 149 #[.pointer (some p)] .returning w fun e u' w' => e = .returned (.tuple #[]) ∧ u' = .returning ∧ w' = w := by
  refine callsD_of_wpS Try.func149 rfl fun c₀ cs hu => ?_
  apply wpS_seq
  apply wpS_region
  simp [wpOpsS, go_sem, recoverD, hu, Try.ntmps149, Exit.thenS]
  refine wpS_cond (t := false) (by simp [Act.eval, Array.replicate]) ?_
  simp only [Bool.false_eq_true, if_false]
  refine wpS_of_wp (wp_skip ?_)
  cases c₀
  simp_all [bodyPostS, results, Try.results149]

set_option maxRecDepth 100000 in
theorem guarded_any (K : Nat) (caps : Array Value) (w : World) (R : World → Prop) (hent : ∀ W, (callFunc K caps).run Try.prog W = .ok (.enter K caps) W)
    (hk : Calls Try.prog K caps (w.alloc (.cells #[.bool false] 4)) fun e W => e = .returned (.tuple #[]) ∧ W.heap[w.heap.size]? = some (.cells #[.bool false] 4 (0, 0)) ∧ R W) :
    Calls Try.prog 99 #[.func (.func K) #[] caps] w fun e W' => e = .returned (.bool false) ∧ ∃ W, R W ∧ W.heap[w.heap.size]? = some (.cells #[.bool false] 4 (0, 0)) ∧ W' = W.setCell ⟨w.heap.size, 0, none⟩ (.bool false) := by
  have hmf : ∀ (fn : Fn) (first cap : Array Value) (w : World), (Instr.makeFunc fn first cap).run Try.prog w = .ok (.func fn first cap) w := fun _ _ _ _ => rfl
  have HK := Lib.hid hk
  clear hk
  go_enter_defers Try.func99, Try.ntmps99
  go_wp2_with fail
  refine HK.out.mono ?_
  rintro e W ⟨rfl, h1, h2⟩
  have hc : W.cell? ⟨w.heap.size, 0, none⟩ = some (.bool false) := by simp [World.cell?, h1]
  have hf : W.frozen? ⟨w.heap.size, 0, none⟩ = false := by simp [World.frozen?, h1]
  have H1 := Lib.hid h1
  clear h1
  go_wp2
  refine leaves_cons (f := 149) (args := #[.pointer (some ⟨w.heap.size, 0, none⟩)]) (by simp) (by simp [go_sem]) ?_
  refine (guard_idle ⟨w.heap.size, 0, none⟩ _).mono ?_
  rintro e u' w'' ⟨rfl, rfl, rfl⟩
  have hc2 : (W.setCell ⟨w.heap.size, 0, none⟩ (.bool false)).cell? ⟨w.heap.size, 0, none⟩ = some (.bool false) := World.cell?_setCell_same _ _ _ hc
  simp [Leaves, settle, results, Try.results99, go_sem, hc2]
  exact ⟨W, h2, H1.out, rfl⟩
theorem enters {P : Program} {f : FuncId} {fn : Func} {c : Code} (hf : P.funcs[f]? = some fn) (hname : (fn.name == "runtime.NumGoroutine") = false) (hb : fn.body = some c) (args : Array Value) (w : World) :
    (callFunc f args).run P w = .ok (.enter f args) w := by
  have h1 : ¬ fn.name = "runtime.NumGoroutine" := by simpa using hname
  simp [callFunc, hf, h1, hb]
end Go.Proofs.Ytlallihdiffheaa.Hand
