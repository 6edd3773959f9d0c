/- A contract by hand: impl.guarded, of a function that does not panic: it tells false, and what the function did stands. -/
import Derived.Test.YtlallihdiffheaaDoorHB
namespace Go.Proofs.YtlallihdiffheaaDoor.Hand
open Go.RowKit Go.Proofs.YtlallihdiffheaaDoorW.PrintWords Go.Proofs.YtlallihdiffheaaDoorW.PrintLast Go.Proofs.YtlallihdiffheaaDoorW.PrintMore
set_option linter.unusedVariables false

theorem guard_idle (p : Addr) (w : World) :
    CallsD Tryd.prog 87 #[.pointer (some p)] .returning w fun e u' w' => e = .returned (.tuple #[]) ∧ u' = .returning ∧ w' = w := by
  refine callsD_of_wpS Tryd.func87 rfl fun c₀ cs hu => ?_
  apply wpS_seq
  apply wpS_region
  simp [wpOpsS, go_sem, recoverD, hu, Tryd.ntmps87, Exit.thenS]
  refine wpS_cond (t := false) (by simp [Act.eval, Array.replicate]) ?_
  simp only [Bool.false_eq_true, if_false]
  refine wpS_of_wp (wp_skip ?_)
  cases c₀
  simp_all [bodyPostS, results, Tryd.results87]

set_option maxRecDepth 100000 in
theorem guarded_any (K : Nat) (caps : Array Value) (w : World) (R : World → Prop) (hent : ∀ W, (callFunc K caps).run Tryd.prog W = .ok (.enter K caps) W)
    (hk : Calls Tryd.prog K caps (w.alloc (.cells #[.bool false] 4)) fun e W => e = .returned (.tuple #[]) ∧ W.heap[w.heap.size]? = some (.cells #[.bool false] 4 (0, 0)) ∧ R W) :
    Calls Tryd.prog 64 #[.func (.func K) #[] caps] w fun e W' => e = .returned (.bool false) ∧ ∃ W, R W ∧ W.heap[w.heap.size]? = some (.cells #[.bool false] 4 (0, 0)) ∧ W' = W.setCell ⟨w.heap.size, 0, none⟩ (.bool false) := by
  have hmf : ∀ (fn : Fn) (first cap : Array Value) (w : World), (Instr.makeFunc fn first cap).run Tryd.prog w = .ok (.func fn first cap) w := fun _ _ _ _ => rfl
  have HK := Lib.hid hk
  clear hk
  go_enter_defers Tryd.func64, Tryd.ntmps64
  go_wp2_with fail
  refine HK.out.mono ?_
  rintro e W ⟨rfl, h1, h2⟩
  have hc : W.cell? ⟨w.heap.size, 0, none⟩ = some (.bool false) := by simp [World.cell?, h1]
  have hf : W.frozen? ⟨w.heap.size, 0, none⟩ = false := by simp [World.frozen?, h1]
  have H1 := Lib.hid h1
  clear h1
  go_wp2
  refine leaves_cons (f := 87) (args := #[.pointer (some ⟨w.heap.size, 0, none⟩)]) (by simp) (by simp [go_sem]) ?_
  refine (guard_idle ⟨w.heap.size, 0, none⟩ _).mono ?_
  rintro e u' w'' ⟨rfl, rfl, rfl⟩
  have hc2 : (W.setCell ⟨w.heap.size, 0, none⟩ (.bool false)).cell? ⟨w.heap.size, 0, none⟩ = some (.bool false) := World.cell?_setCell_same _ _ _ hc
  simp [Leaves, settle, results, Tryd.results64, go_sem, hc2]
  exact ⟨W, h2, H1.out, rfl⟩
theorem enters {P : Program} {f : FuncId} {fn : Func} {c : Code} (hf : P.funcs[f]? = some fn) (hname : (fn.name == "runtime.NumGoroutine") = false) (hb : fn.body = some c) (args : Array Value) (w : World) :
    (callFunc f args).run P w = .ok (.enter f args) w := by
  have h1 : ¬ fn.name = "runtime.NumGoroutine" := by simpa using hname
  simp [callFunc, hf, h1, hb]
end Go.Proofs.YtlallihdiffheaaDoor.Hand
