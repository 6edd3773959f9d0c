-- made by a program of this session, after the kit's print
import Derived.Test.YtlallihdiffheaaProg
import Derived.Test.YtlallihdiffheaaWWords
import Derived.Laws.MakeOwn
import Derived.Below
import Derived.Deep.Draws
import Derived.Deep.AppendLies
import Derived.Maps.AppendAt
import Derived.OwnWalk
import Derived.Laws.BytesArg
import Derived.Laws.OwnMore
import Derived.Deep.OwnRows
import Derived.Tactics
import Derived.Lib.ConvBytes
import Derived.Laws.Slices
import Derived.WalkKit
import Derived.KernelRfl
import Derived.RowKit3
import Derived.Deep.LoopGhost
import Derived.Deep.QuietTactic
import Derived.BigQuiet
import Derived.WideLaws
import Derived.Deep.DeepCutAuto
import Derived.Deep.CutBlock
import Derived.Deep.RegionHeld3
import Derived.Laws.Rows
import Derived.Lib.AppendStr
import Derived.ArgAppend
import Derived.Laws.IdiomCopy
import Derived.OrdersHeld
import Derived.Laws.BitsLemmas
import Derived.RowKit
import Derived.Test.YtlallihdiffheaaWLast
import Derived.Test.YtlallihdiffheaaWTab
import Derived.Test.YtlallihdiffheaaWFour
import Derived.Test.YtlallihdiffheaaWQPut
import Derived.Test.YtlallihdiffheaaWApart
import Derived.Test.YtlallihdiffheaaWArr
import Derived.Test.YtlallihdiffheaaWZeros
import Derived.Test.YtlallihdiffheaaWFoot
import Derived.Test.YtlallihdiffheaaWKept
import Derived.Test.YtlallihdiffheaaWShare
import Derived.Test.YtlallihdiffheaaWN
import Derived.Test.YtlallihdiffheaaWFootNe
import Derived.Test.YtlallihdiffheaaWAt
import Derived.Test.YtlallihdiffheaaWEqStruct
import Derived.Test.YtlallihdiffheaaWRepsOne
import Derived.Test.YtlallihdiffheaaWInv
import Derived.Test.YtlallihdiffheaaWInvWords
import Derived.Test.YtlallihdiffheaaWGuard
import Derived.Test.YtlallihdiffheaaWNEv
import Derived.Test.YtlallihdiffheaaWMore
namespace Go.Proofs.Ytlallihdiffheaa.GT
open Go.RowKit Go.Proofs.YtlallihdiffheaaW.PrintWords Go.Proofs.YtlallihdiffheaaW.PrintLast Go.Proofs.YtlallihdiffheaaW.PrintMore
attribute [local go_sem] max2_int min2_int max_two min_two max_three min_three max_four min_four   -- for this text's walks alone
set_option linter.unusedVariables false
set_option linter.unusedSimpArgs false



def errW : Option Int → Value
  | none => .nilIface
  | some c => .iface 0 (.int .i64 c)
theorem errW_none : errW none = .nilIface := rfl
theorem errW_some (c : Int) : errW (some c) = .iface 0 (.int .i64 c) := rfl

theorem info5 : (Try.prog.info? 5).map (fun i => (i.zero, i.size, i.bytes)) = some (some (.int .u8 0), 1, 1) := by kernel_rfl
theorem info9 : (Try.prog.info? 9).map (fun i => (i.zero, i.size, i.bytes)) = some (some (.string ⟨#[]⟩), 1, 16) := by kernel_rfl
-- the values' own types
/-! #### struct type 34 -/
structure S34 where
  f0 : ByteArray
  f1 : ByteArray
def z34 : S34 := ⟨(⟨#[]⟩ : ByteArray), (⟨#[]⟩ : ByteArray)⟩
def k34 : Kd S34 := Kd.iso (Kd.pair Kd.string Kd.string) (fun x : S34 => (x.f0, x.f1))
theorem k34_open {w : World} {x : S34} {cs : List Value} (h : k34.K w x cs) : cs = [.string x.f0, .string x.f1] := by
  obtain ⟨_, _, rfl, rfl, rfl⟩ := h
  exact rfl
theorem k34_openM {w : World} {base : Nat} {ok : Nat → Prop} {x : S34} {cs : List Value} (h : k34.M w base ok x cs) : cs = [.string x.f0, .string x.f1] := by
  obtain ⟨_, _, rfl, rfl, rfl⟩ := h
  exact rfl
theorem k34_mk (w : World) (x : S34)  : k34.K w x [.string x.f0, .string x.f1] := ⟨[.string x.f0], [.string x.f1], rfl, rfl, rfl⟩
theorem k34_mkM (w : World) (base : Nat) (ok : Nat → Prop) (x : S34)  : k34.M w base ok x [.string x.f0, .string x.f1] := ⟨[.string x.f0], [.string x.f1], rfl, rfl, rfl⟩
def rd_T34 (xs : List S34) (i : Int) : S34 := xs.getD i.toNat z34
theorem at_T34 {w : World} {A : Option Addr} {n : Nat} {xs : List S34} (h : Kd.C k34 w A n xs) (i : Int) (h0 : 0 ≤ i) (h1 : i < n) : ∃ ad , A = some ad ∧ w.cell? (ad.add (i.toNat * 2)) = some (.string (rd_T34 xs i).f0) ∧ w.cell? ⟨(ad.add (i.toNat * 2)).block, (ad.add (i.toNat * 2)).off + 1, none⟩ = some (.string (rd_T34 xs i).f1) := by
  obtain ⟨ad, c, e, _, hK, hc0⟩ := Kd.C_get h z34 i h0 h1
  have hc : ∀ j u, c[j]? = some u → w.cell? (ad.add (i.toNat * 2 + j)) = some u := hc0
  obtain rfl := k34_open hK
  exact ⟨ad, e, hc 0 _ rfl, by rw [← add_field _ _ 1 (by omega)]; exact hc 1 _ rfl⟩

def rd_L3 (xs : List (List S34)) (i : Int) : (List S34) := xs.getD i.toNat ([] : List S34)
theorem at_L3 {w : World} {A : Option Addr} {n : Nat} {xs : List (List S34)} (h : Kd.C (Kd.slice 34 k34) w A n xs) (i : Int) (h0 : 0 ≤ i) (h1 : i < n) : ∃ ad A0 c0, A = some ad ∧ w.cell? (ad.add i.toNat) = some (.slice A0 (rd_L3 xs i).length c0) ∧ (rd_L3 xs i).length ≤ c0 ∧ k34.C w A0 (rd_L3 xs i).length (rd_L3 xs i) := by
  obtain ⟨ad, c, e, _, hK, hc0⟩ := Kd.C_get h ([] : List S34) i h0 h1
  have hc : ∀ j u, c[j]? = some u → w.cell? (ad.add (i.toNat * 1 + j)) = some u := hc0
  obtain ⟨A0, c0, rfl, l0, g0⟩ := hK
  exact ⟨ad, A0, c0, e, by have hq := hc 0 _ rfl; rwa [Nat.mul_one, Nat.add_zero] at hq, l0, g0⟩

/-! #### struct type 25, nested in itself -/
structure S25 where
  f0 : Int
  f1 : ByteArray
  f2 : ByteArray
  f3 : (List S34)
  f4 : (List S25)
def z25 : S25 := ⟨(0 : Int), (⟨#[]⟩ : ByteArray), (⟨#[]⟩ : ByteArray), ([] : List S34), ([] : List S25)⟩
def F25 (d : Kd S25) : Kd S25 := Kd.iso (Kd.pair (Kd.int .i64) (Kd.pair Kd.string (Kd.pair Kd.string (Kd.pair (Kd.slice 34 k34) (Kd.slice 25 d))))) (fun x : S25 => (x.f0, x.f1, x.f2, x.f3, x.f4))
theorem mono25 : Kd.Mono F25 := Kd.mono_iso _ (Kd.mono_pair (Kd.mono_const _) (Kd.mono_pair (Kd.mono_const _) (Kd.mono_pair (Kd.mono_const _) (Kd.mono_pair (Kd.mono_const _) (Kd.mono_slice 25 Kd.mono_id)))))
theorem sub25 : Kd.Sub F25 [25, 34] := Kd.sub_iso _ (Kd.sub_pair (Kd.sub_const _ (by decide)) (Kd.sub_pair (Kd.sub_const _ (by decide)) (Kd.sub_pair (Kd.sub_const _ (by decide)) (Kd.sub_pair (Kd.sub_const _ (by decide)) (Kd.sub_slice 25 (by decide) Kd.sub_id)))))
theorem sz25 : ∀ n, (Kd.upto F25 5 [25, 34] n).sz = 5 := Kd.upto_sz (fun _ => rfl)
def k25 : Kd S25 := Kd.fix F25 5 [25, 34] sz25 (Kd.upto_E sub25)
theorem k25_open {w : World} {x : S25} {cs : List Value} (h : k25.K w x cs) : ∃ A3 c3 A4 c4, cs = [.int .i64 x.f0, .string x.f1, .string x.f2, .slice A3 x.f3.length c3, .slice A4 x.f4.length c4] ∧ x.f3.length ≤ c3 ∧ k34.C w A3 x.f3.length x.f3 ∧ x.f4.length ≤ c4 ∧ k25.C w A4 x.f4.length x.f4 := by
  obtain ⟨n, h⟩ := h
  cases n with
  | zero => exact h.elim
  | succ n =>
    obtain ⟨_, _, rfl, rfl, ⟨_, _, rfl, rfl, ⟨_, _, rfl, rfl, ⟨_, _, rfl, ⟨A3, c3, rfl, l3, g3⟩, ⟨A4, c4, rfl, l4, g4⟩⟩⟩⟩⟩ := h
    exact ⟨A3, c3, A4, c4, rfl, l3, g3, l4, Kd.fix_C g4⟩
theorem k25_openM {w : World} {base : Nat} {ok : Nat → Prop} {x : S25} {cs : List Value} (h : k25.M w base ok x cs) : ∃ v3 v4, cs = [.int .i64 x.f0, .string x.f1, .string x.f2, v3, v4] ∧ k34.R 34 w base ok v3 x.f3 ∧ k25.R 25 w base ok v4 x.f4 := by
  obtain ⟨n, h⟩ := h
  cases n with
  | zero => exact h.elim
  | succ n =>
    obtain ⟨_, _, rfl, rfl, ⟨_, _, rfl, rfl, ⟨_, _, rfl, rfl, ⟨_, _, rfl, ⟨v3, rfl, g3⟩, ⟨v4, rfl, g4⟩⟩⟩⟩⟩ := h
    exact ⟨v3, v4, rfl, g3, Kd.fix_R g4⟩
theorem k25_mk (w : World) (x : S25) {A3 : Option Addr} {c3 : Nat} (l3 : x.f3.length ≤ c3) (g3 : k34.C w A3 x.f3.length x.f3) {A4 : Option Addr} {c4 : Nat} (l4 : x.f4.length ≤ c4) (g4 : k25.C w A4 x.f4.length x.f4) : k25.K w x [.int .i64 x.f0, .string x.f1, .string x.f2, .slice A3 x.f3.length c3, .slice A4 x.f4.length c4] := by
  obtain ⟨n4, q4⟩ := Kd.fix_C_back mono25 g4
  have r4 := Kd.upto_C_le mono25 sz25 (show n4 ≤ n4 by omega) q4
  exact ⟨n4 + 1, ⟨[.int .i64 x.f0], [.string x.f1, .string x.f2, .slice A3 x.f3.length c3, .slice A4 x.f4.length c4], rfl, rfl, ⟨[.string x.f1], [.string x.f2, .slice A3 x.f3.length c3, .slice A4 x.f4.length c4], rfl, rfl, ⟨[.string x.f2], [.slice A3 x.f3.length c3, .slice A4 x.f4.length c4], rfl, rfl, ⟨[.slice A3 x.f3.length c3], [.slice A4 x.f4.length c4], rfl, ⟨A3, c3, rfl, l3, g3⟩, ⟨A4, c4, rfl, l4, r4⟩⟩⟩⟩⟩⟩
theorem k25_mkM (w : World) (base : Nat) (ok : Nat → Prop) (x : S25) {v3 : Value} (g3 : k34.R 34 w base ok v3 x.f3) {v4 : Value} (g4 : k25.R 25 w base ok v4 x.f4) : k25.M w base ok x [.int .i64 x.f0, .string x.f1, .string x.f2, v3, v4] := by
  obtain ⟨n4, q4⟩ := Kd.fix_R_back mono25 g4
  have r4 := Kd.upto_R_le mono25 sz25 (show n4 ≤ n4 by omega) q4
  exact ⟨n4 + 1, ⟨[.int .i64 x.f0], [.string x.f1, .string x.f2, v3, v4], rfl, rfl, ⟨[.string x.f1], [.string x.f2, v3, v4], rfl, rfl, ⟨[.string x.f2], [v3, v4], rfl, rfl, ⟨[v3], [v4], rfl, ⟨v3, rfl, g3⟩, ⟨v4, rfl, r4⟩⟩⟩⟩⟩⟩
def rd_T25 (xs : List S25) (i : Int) : S25 := xs.getD i.toNat z25
theorem at_T25 {w : World} {A : Option Addr} {n : Nat} {xs : List S25} (h : Kd.C k25 w A n xs) (i : Int) (h0 : 0 ≤ i) (h1 : i < n) : ∃ ad A3 c3 A4 c4, A = some ad ∧ w.cell? (ad.add (i.toNat * 5)) = some (.int .i64 (rd_T25 xs i).f0) ∧ w.cell? ⟨(ad.add (i.toNat * 5)).block, (ad.add (i.toNat * 5)).off + 1, none⟩ = some (.string (rd_T25 xs i).f1) ∧ w.cell? ⟨(ad.add (i.toNat * 5)).block, (ad.add (i.toNat * 5)).off + 2, none⟩ = some (.string (rd_T25 xs i).f2) ∧ w.cell? ⟨(ad.add (i.toNat * 5)).block, (ad.add (i.toNat * 5)).off + 3, none⟩ = some (.slice A3 (rd_T25 xs i).f3.length c3) ∧ w.cell? ⟨(ad.add (i.toNat * 5)).block, (ad.add (i.toNat * 5)).off + 4, none⟩ = some (.slice A4 (rd_T25 xs i).f4.length c4) ∧ (rd_T25 xs i).f3.length ≤ c3 ∧ k34.C w A3 (rd_T25 xs i).f3.length (rd_T25 xs i).f3 ∧ (rd_T25 xs i).f4.length ≤ c4 ∧ k25.C w A4 (rd_T25 xs i).f4.length (rd_T25 xs i).f4 := by
  obtain ⟨ad, c, e, _, hK, hc0⟩ := Kd.C_get h z25 i h0 h1
  have hc : ∀ j u, c[j]? = some u → w.cell? (ad.add (i.toNat * 5 + j)) = some u := hc0
  obtain ⟨A3, c3, A4, c4, rfl, l3, g3, l4, g4⟩ := k25_open hK
  exact ⟨ad, A3, c3, A4, c4, e, hc 0 _ rfl, by rw [← add_field _ _ 1 (by omega)]; exact hc 1 _ rfl, by rw [← add_field _ _ 2 (by omega)]; exact hc 2 _ rfl, by rw [← add_field _ _ 3 (by omega)]; exact hc 3 _ rfl, by rw [← add_field _ _ 4 (by omega)]; exact hc 4 _ rfl, l3, g3, l4, g4⟩

end Go.Proofs.Ytlallihdiffheaa.GT
