/- laws.FnDomUnwrapped: its walk, with its answer. -/
import Derived.Test.YtlallihdiffheaaLawCut
namespace Go.Proofs.Ytlallihdiffheaa.Pure
open Go.RowKit Go.Proofs.Ytlallihdiffheaa.GT Go.Proofs.YtlallihdiffheaaW.PrintWords Go.Proofs.YtlallihdiffheaaW.PrintLast Go.Proofs.Ytlallihdiffheaa.Hand
theorem FnDomUnwrapped_walk {W : World} (x : Nd) (A3 A4 : Option Addr) (c3 c4 : Nat) (C3 : k34.C W A3 x.f3.length x.f3) (l3 : x.f3.length ≤ c3) (C4 : k25.C W A4 x.f4.length x.f4) (l4 : x.f4.length ≤ c4) (hx : OkT x) (A : Option Addr) (cap : Nat) (l : List Int) (C : Kd.C (Kd.int .i64) W A l.length l) (c : l.length ≤ cap) :
    Calls Try.prog 6 #[.agg #[.int .i64 x.f0, .string x.f1, .string x.f2, .slice A3 x.f3.length c3, .slice A4 x.f4.length c4], .slice A l.length cap] W fun e W' => e = .returned (.bool true) ∧ Below W.heap.size W W' :=
  Dom.law_unwrapped x hx l W A3 A4 A c3 c4 cap C3 l3 C4 l4 C c
end Go.Proofs.Ytlallihdiffheaa.Pure
