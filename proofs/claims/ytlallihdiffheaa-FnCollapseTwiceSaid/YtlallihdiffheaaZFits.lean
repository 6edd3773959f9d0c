/- laws.zzFits2 has an answer for each tree. Plain, over the printed function. -/
import Derived.Test.YtlallihdiffheaaZGTx2
namespace Go.Proofs.Ytlallihdiffheaa.Hand
open Go.RowKit Go.Proofs.Ytlallihdiffheaa.GT Go.Proofs.YtlallihdiffheaaW.PrintWords Go.Proofs.YtlallihdiffheaaW.PrintLast
set_option linter.unusedVariables false

theorem fits4 (a b : ByteArray) : ∃ r, laws_zzFits4.f a b = some r := by
  unfold laws_zzFits4.f
  split
  · exact ⟨_, rfl⟩
  · split <;> exact ⟨_, rfl⟩
theorem fits3_loop (l : List S34) (hl : (l.length : Int) ≤ 2147483647) : ∀ (k i : Nat), l.length - i < k → i ≤ l.length → ∃ r, laws_zzFits3.l0 k l (l.length : Int) (i : Int) = some r
  | 0, i, h, _ => by omega
  | k + 1, i, h, hi => by
    by_cases hc : i < l.length
    · have hw : wrap64 ((i : Int) + 1) = ((i + 1 : Nat) : Int) := by unfold wrap64; omega
      obtain ⟨r, hr⟩ := fits4 (rd_T34 l (i : Int)).f0 (rd_T34 l (i : Int)).f1
      obtain ⟨r2, hr2⟩ := fits3_loop l hl k (i + 1) (by omega) (by omega)
      rw [laws_zzFits3.l0, if_pos (by omega), if_pos (by omega), if_pos (by omega), hr, Option.bind_some, hw, hr2]
      split <;> exact ⟨_, rfl⟩
    · rw [laws_zzFits3.l0, if_neg (by omega)]
      exact ⟨_, rfl⟩
theorem fits2_any (x : S25) : ∃ k r, laws_zzFits2.f k x.f0 x.f1 x.f2 x.f3 x.f4 = some r := by
  refine ⟨x.f3.length + 1, ?_⟩
  have h3 : ∃ r, laws_zzFits3.f (x.f3.length + 1) x.f3 = some r := by
    unfold laws_zzFits3.f
    split
    · exact ⟨_, rfl⟩
    · exact fits3_loop x.f3 (by omega) _ 0 (by omega) (by omega)
  obtain ⟨r, hr⟩ := h3
  unfold laws_zzFits2.f
  rw [hr, Option.bind_some]
  repeat (first | exact ⟨_, rfl⟩ | split)
end Go.Proofs.Ytlallihdiffheaa.Hand
