/- FnLine, the plain part: the line below the head has dashes between bars, as wide as the column with its blanks, with a colon at the left, the right, or both ends by its alignment. -/
import Derived.Test.YtnhcocjdkmelhaaGFnLinex2
namespace Go.Proofs.Ytnhcocjdkmelhaa.Pure
open Go.RowKit Go.Proofs.Ytnhcocjdkmelhaa.GFnLine Go.Proofs.YtnhcocjdkmelhaaW.PrintWords Go.Proofs.YtnhcocjdkmelhaaW.PrintLast Go.Proofs.YtnhcocjdkmelhaaW.PrintMore
open Hand (piece lineTo isLeft isRight)
set_option linter.unusedVariables false
set_option linter.unusedSimpArgs false

theorem drop_consB (l : List ByteArray) (i : Nat) (h : i < l.length) : l.drop i = rdOf ByteArray.empty l (i : Int) :: l.drop (i + 1) := by
  rw [List.drop_eq_getElem_cons h]
  simp [rdOf, h]
theorem wrap_up (i : Nat) (h : i ≤ 140737488351232) : wrap64 ((i : Int) + 1) = ((i + 1 : Nat) : Int) := by
  unfold wrap64
  omega
def fitB (s : ByteArray) : Bool := decide (s.size ≤ 2147483647)
theorem fits_loop (l : List ByteArray) (hl : l.length ≤ 2147483647) : ∀ (d i k : Nat), l.length - i = d → i ≤ l.length → d < k → laws_zzFits5.l0 k l (l.length : Int) (i : Int) = some ((l.drop i).all fitB) := by
  intro d
  induction d with
  | zero =>
    intro i k hd hi hk
    obtain ⟨k, rfl⟩ : ∃ m, k = m + 1 := ⟨k - 1, by omega⟩
    simp only [laws_zzFits5.l0]
    rw [if_neg (by omega), List.drop_of_length_le (by omega)]
    rfl
  | succ d ih =>
    intro i k hd hi hk
    obtain ⟨k, rfl⟩ : ∃ m, k = m + 1 := ⟨k - 1, by omega⟩
    simp only [laws_zzFits5.l0]
    rw [if_pos (by omega), if_pos (by omega), if_pos (by omega), drop_consB l i (by omega), wrap_up i (by omega), List.all_cons]
    by_cases hc : ((rdOf ByteArray.empty l (i : Int)).size : Int) > 2147483647
    · rw [if_pos hc]
      have : fitB (rdOf ByteArray.empty l (i : Int)) = false := decide_eq_false (by omega)
      rw [this]
      rfl
    · rw [if_neg hc, ih (i + 1) k (by omega) (by omega) (by omega)]
      have : fitB (rdOf ByteArray.empty l (i : Int)) = true := decide_eq_true (by omega)
      rw [this]
      rfl
/-- n dashes. -/
def dashes (n : Nat) : ByteArray := ⟨(List.replicate n 45).toArray⟩
theorem dashes_size (n : Nat) : (dashes n).size = n := by simp [dashes, ByteArray.size]
theorem times_loop (n : Nat) (hn : n ≤ 1000) : ∀ (d i k : Nat), n - i = d → i ≤ n → d < k → spec_Times29.l0 k (⟨#[45]⟩ : ByteArray) (List.replicate i 45) (n : Int) (i : Int) = some (dashes n) := by
  intro d
  induction d with
  | zero =>
    intro i k hd hi hk
    obtain ⟨k, rfl⟩ : ∃ m, k = m + 1 := ⟨k - 1, by omega⟩
    simp only [spec_Times29.l0]
    obtain rfl : i = n := by omega
    rw [if_neg (by omega)]
    simp [strOfNums, dashes]
  | succ d ih =>
    intro i k hd hi hk
    obtain ⟨k, rfl⟩ : ∃ m, k = m + 1 := ⟨k - 1, by omega⟩
    simp only [spec_Times29.l0]
    have h1 : (ByteArray.mk #[45]).size = 1 := rfl
    rw [if_pos (by omega), if_pos (by rw [List.length_replicate, h1]; omega), wrap_up i (by omega)]
    have h2 : List.replicate i (45 : Int) ++ bytesOf (⟨#[45]⟩ : ByteArray) = List.replicate (i + 1) 45 := by
      rw [List.replicate_succ']
      rfl
    rw [h2]
    exact ih (i + 1) k (by omega) (by omega) (by omega)
theorem times_f (n : Int) (h0 : 0 ≤ n) (h1 : n ≤ 1000) (k : Nat) (hk : 1001 < k) : spec_Times29.f k (⟨#[45]⟩ : ByteArray) n = some (dashes n.toNat) := by
  obtain ⟨m, rfl⟩ : ∃ (m : Nat), n = (m : Int) := ⟨n.toNat, by omega⟩
  exact times_loop m (by omega) m 0 k (by omega) (by omega) (by omega)
/-- The line so far, as the law puts it together. -/
def acc (l : List ByteArray) (ns : List Int) (i : Nat) : ByteArray := ⟨((124 : UInt8) :: ((List.range i).map (fun (j : Nat) => piece (rdOf ByteArray.empty l (j : Int)) (rd ns (j : Int)).toNat)).flatten).toArray⟩
theorem acc_size (l : List ByteArray) (ns : List Int) : ∀ (i : Nat), (∀ j, j < i → rd ns (j : Int) ≤ 1000) → (acc l ns i).size ≤ 1 + 1004 * i := by
  intro i
  induction i with
  | zero => intro _; exact Nat.le_refl 1
  | succ i ih =>
    intro h
    have h1 := ih (fun j hj => h j (by omega))
    have h2 := h i (by omega)
    simp only [acc, ByteArray.size, List.size_toArray, List.length_cons, List.range_succ, List.map_append, List.flatten_append, List.length_append, List.map_cons, List.map_nil, List.flatten_cons, List.flatten_nil, List.append_nil, piece, List.length_replicate, List.length_nil] at h1 ⊢
    omega
theorem acc_next (l : List ByteArray) (ns : List Int) (i : Nat) (a c : UInt8) (h : piece (rdOf ByteArray.empty l (i : Int)) (rd ns (i : Int)).toNat = a :: (List.replicate (rd ns (i : Int)).toNat 45 ++ [c, 124])) :
    acc l ns i ++ ((((⟨#[a]⟩ : ByteArray) ++ dashes (rd ns (i : Int)).toNat) ++ (⟨#[c]⟩ : ByteArray)) ++ (⟨#[124]⟩ : ByteArray)) = acc l ns (i + 1) := by
  apply ByteArray.ext
  apply Array.ext'
  simp only [acc, dashes, ByteArray.data_append, Array.toList_append, List.range_succ, List.map_append, List.flatten_append, List.map_cons, List.map_nil, List.flatten_cons, List.flatten_nil, List.append_nil, h]
  simp
theorem chain (S : ByteArray) (n : Nat) (a c : UInt8) (R : Option Bool) (hn : n ≤ 1000) (hS : S.size ≤ 9007199254740992) :
    (if 1 + (dashes n).size ≤ 9223372036854775807 then (if ((⟨#[a]⟩ : ByteArray) ++ dashes n).size + 1 ≤ 9223372036854775807 then (if (((⟨#[a]⟩ : ByteArray) ++ dashes n) ++ (⟨#[c]⟩ : ByteArray)).size + 1 ≤ 9223372036854775807 then (if S.size + ((((⟨#[a]⟩ : ByteArray) ++ dashes n) ++ (⟨#[c]⟩ : ByteArray)) ++ (⟨#[124]⟩ : ByteArray)).size ≤ 9223372036854775807 then R else (none)) else (none)) else (none)) else (none)) = R := by
  have e1 : ∀ x : UInt8, (ByteArray.mk #[x]).size = 1 := fun _ => rfl
  simp only [ByteArray.size_append, dashes_size, e1]
  rw [if_pos (by omega), if_pos (by omega), if_pos (by omega), if_pos (by omega)]
theorem step (l : List ByteArray) (ns : List Int) (hl : l.length = ns.length) (hlen : ns.length ≤ 2147483647) (i k : Nat) (hi : i < ns.length) (h0 : ∀ j, j < i → rd ns (j : Int) ≤ 1000) (hn0 : 0 ≤ rd ns (i : Int)) (hn1 : rd ns (i : Int) ≤ 1000) (hk : 1001 < k) :
    laws_FnLine.l0 (k + 3) l ns (acc l ns i) ns (ns.length : Int) (i : Int) = laws_FnLine.l0 k l ns (acc l ns (i + 1)) ns (ns.length : Int) ((i + 1 : Nat) : Int) := by
  have hS := acc_size l ns i h0
  have hS2 : (acc l ns i).size ≤ 9007199254740992 := by omega
  have ht := times_f (rd ns (i : Int)) hn0 hn1 k hk
  have hm : (rd ns (i : Int)).toNat ≤ 1000 := by omega
  have e1 : (ByteArray.mk #[45]).size = 1 := rfl
  have e2 : (ByteArray.mk #[58]).size = 1 := rfl
  rw [show k + 3 = k + 2 + 1 from rfl]
  simp only [laws_FnLine.l0]
  rw [if_pos (by omega), if_pos (by omega), if_pos (by omega), if_neg (by omega), decide_eq_false (by omega), show k + 2 = k + 1 + 1 from rfl]
  simp only [laws_FnLine.j3]
  rw [if_neg (by simp), if_pos (by omega), if_pos (by omega)]
  have key : ∀ (x y : List UInt8), (x == y) = true → x = y := fun x y h => by simpa using h
  have nkey : ∀ (x y : List UInt8), (x == y) = false → ¬ x = y := fun x y h => by simpa using h
  rcases Hand.align_four (rdOf ByteArray.empty l (i : Int)) (rd ns (i : Int)).toNat with ⟨hA1, hA2, hA3, HPC⟩ | ⟨hA1, hA2, hA3, HPC⟩ | ⟨hA1, hA2, hA3, HPC⟩ | ⟨hA1, hA2, hA3, HPC⟩
  · rw [if_pos (key _ _ hA1)]
    simp only [laws_FnLine.j4]
    rw [if_pos (by trivial), if_pos (by omega), if_pos (by omega), if_neg (nkey _ _ hA3), if_neg (nkey _ _ hA2), ht]
    simp only [Option.bind_some, e1]
    rw [chain _ _ _ _ _ hm hS2, acc_next l ns i 58 45 HPC.out, wrap_up i (by omega)]
  · rw [if_neg (nkey _ _ hA1), hA2]
    simp only [laws_FnLine.j4]
    rw [if_pos (by trivial), if_pos (by omega), if_pos (by omega), if_neg (nkey _ _ hA3), if_pos (key _ _ hA2), ht]
    simp only [Option.bind_some, e1]
    rw [chain _ _ _ _ _ hm hS2, acc_next l ns i 58 58 HPC.out, wrap_up i (by omega)]
  · rw [if_neg (nkey _ _ hA1), hA2]
    simp only [laws_FnLine.j4]
    rw [if_neg (by simp), if_pos (by omega), if_pos (by omega), if_pos (key _ _ hA3), ht]
    simp only [Option.bind_some, e1]
    rw [chain _ _ _ _ _ hm hS2, acc_next l ns i 45 58 HPC.out, wrap_up i (by omega)]
  · rw [if_neg (nkey _ _ hA1), hA2]
    simp only [laws_FnLine.j4]
    rw [if_neg (by simp), if_pos (by omega), if_pos (by omega), if_neg (nkey _ _ hA3), if_neg (nkey _ _ hA2), ht]
    simp only [Option.bind_some, e1]
    rw [chain _ _ _ _ _ hm hS2, acc_next l ns i 45 45 HPC.out, wrap_up i (by omega)]
theorem str_nums (L : List UInt8) : strOfNums (Hand.numsOf L) = ⟨L.toArray⟩ := by
  have h : ∀ x : UInt8, UInt8.ofNat ((x.toNat : Int)).toNat = x := fun x => by simp
  apply ByteArray.ext
  apply Array.ext'
  simp only [strOfNums, Hand.numsOf, List.map_map]
  induction L with
  | nil => rfl
  | cons a L ih => simp only [List.map_cons, Function.comp, h, List.cons.injEq, true_and] at ih ⊢; exact ih
theorem acc_whole (l : List ByteArray) (ns : List Int) (h : 0 < ns.length) : strOfNums (Hand.numsOf (lineTo l ns ns.length)) = acc l ns ns.length := by
  rw [str_nums, lineTo, if_neg (by omega)]
  rfl
theorem line_loop (l : List ByteArray) (ns : List Int) (hl : l.length = ns.length) (hpos : 0 < ns.length) (hlen : ns.length ≤ 2147483647) : ∀ (d i k : Nat), ns.length - i = d → i ≤ ns.length → 3 * d + 1010 < k → (∀ j, j < i → 0 ≤ rd ns (j : Int) ∧ rd ns (j : Int) ≤ 1000) →
    laws_FnLine.l0 k l ns (acc l ns i) ns (ns.length : Int) (i : Int) = some true := by
  intro d
  induction d with
  | zero =>
    intro i k hd hi hk hall
    obtain ⟨k, rfl⟩ : ∃ m, k = m + 1 := ⟨k - 1, by omega⟩
    simp only [laws_FnLine.l0]
    obtain rfl : i = ns.length := by omega
    have hf : ∀ a0 : Int, (a0 = 0 ∨ a0 = 1) → impl_Line.f a0 l ns = some (acc l ns ns.length) := by
      intro a0 ha
      unfold impl_Line.f
      have hc : ∀ n ∈ ns, 0 ≤ n ∧ n ≤ 1000 := by
        intro n hn
        obtain ⟨j, hj, rfl⟩ := List.getElem_of_mem hn
        have := hall j hj
        rwa [show rd ns (j : Int) = ns[j]'hj from by simp [rd, rdOf, hj]] at this
      rw [if_pos ⟨ha, hl, hc, hlen⟩, acc_whole l ns hpos]
    rw [if_neg (by omega), hf 0 (.inl rfl)]
    simp only [Option.bind_some]
    rw [if_pos (by trivial), hf 1 (.inr rfl)]
    simp
  | succ d ih =>
    intro i k hd hi hk hall
    by_cases hb : 0 ≤ rd ns (i : Int) ∧ rd ns (i : Int) ≤ 1000
    · obtain ⟨k, rfl⟩ : ∃ m, k = m + 3 := ⟨k - 3, by omega⟩
      rw [step l ns hl hlen i k (by omega) (fun j hj => (hall j hj).2) hb.1 hb.2 (by omega)]
      refine ih (i + 1) k (by omega) (by omega) (by omega) (fun j hj => ?_)
      by_cases h : j = i
      · subst h; exact hb
      · exact hall j (by omega)
    · obtain ⟨k, rfl⟩ : ∃ m, k = m + 1 + 1 := ⟨k - 2, by omega⟩
      simp only [laws_FnLine.l0]
      rw [if_pos (by omega), if_pos (by omega), if_pos (by omega)]
      by_cases hneg : rd ns (i : Int) < 0
      · rw [if_pos hneg]
        simp [laws_FnLine.j3]
      · rw [if_neg hneg, decide_eq_true (by omega)]
        simp [laws_FnLine.j3]
theorem law_true (l : List ByteArray) (ns : List Int) : ∃ k, laws_FnLine.f k l ns = some true := by
  refine ⟨3 * ns.length + l.length + 5000, ?_⟩
  have hone : ∀ (k : Nat), laws_FnLine.j0 (k + 1) l ns true = some true := fun k => by simp [laws_FnLine.j0]
  generalize hK : 3 * ns.length + l.length + 5000 = K
  obtain ⟨K, rfl⟩ : ∃ m, K = m + 2 := ⟨K - 2, by omega⟩
  have hpart : laws_FnLine.j0 (K + 2) l ns (decide ((ns.length : Int) > 2147483647)) = some true := by
    by_cases h1 : (ns.length : Int) > 2147483647
    · rw [decide_eq_true h1]
      exact hone _
    · rw [decide_eq_false h1]
      simp only [laws_FnLine.j0]
      rw [if_neg (by simp)]
      by_cases h2 : (l.length : Int) = (ns.length : Int)
      · rw [if_pos h2]
        simp only [laws_FnLine.j1]
        by_cases h3 : ns.length = 0
        · rw [if_pos (by simp [h3])]
        · rw [if_neg (fun h => h3 (by have h4 : ((ns.length : Int) = 0) := by simpa using h
                                      omega))]
          exact line_loop l ns (by omega) (by omega) (by omega) ns.length 0 K (by omega) (by omega) (by omega) (fun j hj => by omega)
      · rw [if_neg h2]
        simp [laws_FnLine.j1]
  unfold laws_FnLine.f laws_zzFits5.f
  by_cases h1 : (l.length : Int) > 2147483647
  · rw [if_pos h1]
    simp only [Option.bind_some]
    rw [if_neg (by simp)]
    exact hone _
  · rw [if_neg h1]
    have := fits_loop l (by omega) l.length 0 (K + 2) (by omega) (by omega) (by omega)
    rw [show ((0 : Nat) : Int) = 0 from rfl] at this
    rw [this]
    simp only [Option.bind_some]
    split
    · exact hpart
    · exact hone _
theorem FnLine_walk {W : World} (A0 : Option Addr) (c0 : Nat) (l0 : List ByteArray) (hC0 : Kd.C Kd.string W A0 l0.length l0) (hc0 : l0.length ≤ c0) (A1 : Option Addr) (c1 : Nat) (l1 : List Int) (hC1 : Kd.C (Kd.int .i64) W A1 l1.length l1) (hc1 : l1.length ≤ c1) :
    Calls Try.prog 4 #[.slice A0 l0.length c0, .slice A1 l1.length c1] W fun e w' => e = .returned (.bool true) ∧ Below W.heap.size W w' := by
  obtain ⟨k, h⟩ := law_true l0 l1
  exact laws_FnLine.calls k A0 c0 l0 A1 c1 l1 true W hC0 hc0 hC1 hc1 h
end Go.Proofs.Ytnhcocjdkmelhaa.Pure
