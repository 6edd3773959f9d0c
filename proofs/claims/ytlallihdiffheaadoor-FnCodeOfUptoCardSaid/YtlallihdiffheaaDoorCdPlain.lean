/- Plain facts on laws.words29, laws.code29, spec.Lines29, laws.zzFits5, commonmark.zzIndex. -/
import Derived.Test.YtlallihdiffheaaDoorGCox
namespace Go.Proofs.YtlallihdiffheaaDoor.GCo
open Go.RowKit Go.Proofs.YtlallihdiffheaaDoorW.PrintWords Go.Proofs.YtlallihdiffheaaDoorW.PrintLast Go.Proofs.YtlallihdiffheaaDoorW.PrintMore
set_option linter.unusedVariables false
set_option linter.unusedSimpArgs false

theorem bt_is (x : ByteArray) (i : Nat) (h : i < x.size) : bt x (i : Int) = ((x[i]'h).toNat : Int) := by
  have := bt_at x (i : Int) (by simpa using h)
  rw [← this]
  simp
set_option maxHeartbeats 3200000 in
theorem words_step (x : ByteArray) (hx : x.size ≤ 1048576) (k i : Nat) (hi : i < x.size) :
    (bt x (i : Int) ≠ 45 ∧ laws_words29.l0 (k + 1) x (x.size : Int) (i : Int) = laws_words29.l0 k x (x.size : Int) ((i + 1 : Nat) : Int)) ∨ laws_words29.l0 (k + 1) x (x.size : Int) (i : Int) = some false := by
  have hw : wrap64 ((i : Int) + 1) = ((i + 1 : Nat) : Int) := by unfold wrap64; omega
  have hm : ¬ (i : Int) = 0 → 0 ≤ wrap64 ((i : Int) - 1) ∧ wrap64 ((i : Int) - 1) < (x.size : Int) := by unfold wrap64; omega
  obtain ⟨E, hE⟩ : ∃ E, laws_words29.l0 (k + 1) x (x.size : Int) (i : Int) = E := ⟨_, rfl⟩
  rw [hE]
  rw [laws_words29.l0, if_pos (by omega), if_pos (by omega), if_pos (by omega), hw] at hE
  generalize bt x (i : Int) = b at *
  generalize wrap64 ((i : Int) - 1) = m at *
  generalize laws_words29.l0 k x (x.size : Int) ((i + 1 : Nat) : Int) = R at *
  by_cases c1 : b ≥ 97 <;> by_cases c2 : b ≤ 122 <;> by_cases c3 : b ≥ 65 <;> by_cases c4 : b ≤ 90 <;> by_cases c5 : b ≥ 48 <;> by_cases c6 : b ≤ 57 <;> by_cases c7 : b = 32 <;> (first | (exfalso; omega) | skip)
  all_goals repeat (first | rw [if_pos c1] at hE | rw [if_neg c1] at hE | rw [if_pos c2] at hE | rw [if_neg c2] at hE | rw [if_pos c3] at hE | rw [if_neg c3] at hE | rw [if_pos c4] at hE | rw [if_neg c4] at hE | rw [if_pos c5] at hE | rw [if_neg c5] at hE | rw [if_pos c6] at hE | rw [if_neg c6] at hE | rw [if_pos c7] at hE | rw [if_neg c7] at hE)
  all_goals repeat' (split at hE)
  all_goals first
    | exact Or.inr hE.symm
    | exact Or.inl ⟨by omega, hE.symm⟩
    | (exfalso; have := hm (by assumption); omega)
theorem words_tot (x : ByteArray) (hx : x.size ≤ 1048576) : ∀ (d i : Nat), x.size - i ≤ d → i ≤ x.size → ∃ r, laws_words29.l0 (d + 1) x (x.size : Int) (i : Int) = some r ∧ (r = true → ∀ j, i ≤ j → j < x.size → bt x (j : Int) ≠ 45) := by
  intro d
  induction d with
  | zero =>
    intro i h1 h2
    refine ⟨true, ?_, fun _ j hj1 hj2 => by omega⟩
    rw [laws_words29.l0, if_neg (by omega)]
  | succ d ih =>
    intro i h1 h2
    by_cases hi : i < x.size
    · rcases words_step x hx (d + 1) i hi with ⟨hb, he⟩ | he
      · obtain ⟨r, hr, hall⟩ := ih (i + 1) (by omega) (by omega)
        refine ⟨r, by rw [he, hr], fun h j hj1 hj2 => ?_⟩
        by_cases e : j = i
        · subst e; exact hb
        · exact hall h j (by omega) hj2
      · exact ⟨false, he, fun h => by cases h⟩
    · refine ⟨true, ?_, fun _ j hj1 hj2 => by omega⟩
      rw [laws_words29.l0, if_neg (by omega)]
theorem words_any (x : ByteArray) (hx : x.size ≤ 1048576) : ∃ r, laws_words29.f (x.size + 1) x = some r ∧ (r = true → (45 : UInt8) ∉ x.data.toList) := by
  obtain ⟨r, h1, h2⟩ := words_tot x hx x.size 0 (by omega) (by omega)
  refine ⟨r, h1, fun hr hm => ?_⟩
  obtain ⟨j, hj, e⟩ := List.getElem_of_mem hm
  have hj2 : j < x.size := by simpa using hj
  have h3 := h2 hr j (by omega) hj2
  rw [bt_is x j hj2] at h3
  have h4 : (x[j]'hj2) = 45 := e
  rw [h4] at h3
  exact h3 rfl
/-- All bytes are of ASCII. -/
theorem asc_extract {x : ByteArray} (h : Hand.asc7 x = true) (a b : Nat) : Hand.asc7 (x.extract a b) = true := by
  refine Array.all_eq_true.2 fun i hi => decide_eq_true ?_
  have hi2 : i < (x.extract a b).size := hi
  rw [ByteArray.size_extract] at hi2
  have e : (x.extract a b).data[i]'hi = x.data[a + i]'(by show a + i < x.size; omega) := by simp [ByteArray.data_extract]
  rw [e]
  exact Hand.ascii_at h (a + i) (by omega)
theorem lines_tot (x : ByteArray) (hx : x.size ≤ 1048576) (ha : Hand.asc7 x = true) : ∀ (d i a : Nat) (l : List ByteArray), x.size - i ≤ d → i ≤ x.size → a ≤ i → l.length ≤ i → (∀ y ∈ l, y.size ≤ 1048576 ∧ Hand.asc7 y = true) →
    ∃ r, spec_Lines29.l0 (d + 1) x l (a : Int) (x.size : Int) (i : Int) = some r ∧ 0 < r.length ∧ r.length ≤ 1048577 ∧ ∀ y ∈ r, y.size ≤ 1048576 ∧ Hand.asc7 y = true := by
  intro d
  induction d with
  | zero =>
    intro i a l h1 h2 h3 h4 hl
    rw [spec_Lines29.l0, if_neg (by omega), if_pos (by omega), if_pos (by omega), if_pos (by omega)]
    refine ⟨_, rfl, by simp, by rw [List.length_append]; show l.length + 1 ≤ _; omega, fun y hy => ?_⟩
    rcases List.mem_append.1 hy with h | h
    · exact hl y h
    · rw [List.mem_singleton.1 h]
      exact ⟨by rw [ByteArray.size_extract]; omega, asc_extract ha _ _⟩
  | succ d ih =>
    intro i a l h1 h2 h3 h4 hl
    by_cases hi : i < x.size
    · have hw : wrap64 ((i : Int) + 1) = ((i + 1 : Nat) : Int) := by unfold wrap64; omega
      rw [spec_Lines29.l0, if_pos (by omega), if_pos (by omega), if_pos (by omega), hw]
      split
      · rw [if_pos (by omega), if_pos (by omega), if_pos (by omega), if_pos (by omega)]
        refine ih (i + 1) (i + 1) _ (by omega) (by omega) (by omega) (by rw [List.length_append]; show l.length + 1 ≤ _; omega) (fun y hy => ?_)
        rcases List.mem_append.1 hy with h | h
        · exact hl y h
        · rw [List.mem_singleton.1 h]
          exact ⟨by rw [ByteArray.size_extract]; omega, asc_extract ha _ _⟩
      · exact ih (i + 1) a l (by omega) (by omega) (by omega) (by omega) hl
    · rw [spec_Lines29.l0, if_neg (by omega), if_pos (by omega), if_pos (by omega), if_pos (by omega)]
      refine ⟨_, rfl, by simp, by rw [List.length_append]; show l.length + 1 ≤ _; omega, fun y hy => ?_⟩
      rcases List.mem_append.1 hy with h | h
      · exact hl y h
      · rw [List.mem_singleton.1 h]
        exact ⟨by rw [ByteArray.size_extract]; omega, asc_extract ha _ _⟩
theorem lines_mono (x : ByteArray) : ∀ (d : Nat) {k : Nat} {r : List ByteArray}, spec_Lines29.f k x = some r → spec_Lines29.f (k + d) x = some r
  | 0, _, _, h => h
  | d + 1, k, r, h => spec_Lines29.mono x (k + d) r (lines_mono x d h)
theorem code_end (x : ByteArray) (hx : x.size ≤ 1048576) (ha : Hand.asc7 x = true) (k : Nat) (hk : x.size ≤ k) : ∃ r, laws_code29.l0 (k + 2) x (x.size : Int) (x.size : Int) = some r := by
  obtain ⟨l, h1, h2, h3, h4⟩ := lines_tot x hx ha x.size 0 0 [] (by omega) (by omega) (by omega) (by simp) (by simp)
  have h5 : spec_Lines29.f (x.size + 1 + (k - x.size)) x = some l := lines_mono x _ h1
  rw [show x.size + 1 + (k - x.size) = k + 1 from by omega] at h5
  have hb : ∀ i : Int, 0 ≤ i → i < (l.length : Int) → ∃ r, spec_Blank29.f (rdOf ByteArray.empty l i) = some r := fun i hi0 hi1 => by
    have hm : rdOf ByteArray.empty l i ∈ l := by
      unfold rdOf
      have : i.toNat < l.length := by omega
      rw [List.getD_eq_getElem?_getD, List.getElem?_eq_getElem this]
      exact List.getElem_mem _
    obtain ⟨e1, e2⟩ := h4 _ hm
    unfold spec_Blank29.f
    rw [if_pos ⟨by omega, e2⟩]
    exact ⟨_, rfl⟩
  obtain ⟨r1, hr1⟩ := hb 0 (by omega) (by omega)
  have hw : wrap64 ((l.length : Int) - 1) = (l.length : Int) - 1 := by unfold wrap64; omega
  obtain ⟨r2, hr2⟩ := hb ((l.length : Int) - 1) (by omega) (by omega)
  rw [laws_code29.l0, if_neg (by omega), h5, Option.bind_some, if_pos (by omega), hr1, Option.bind_some, hw]
  split
  · exact ⟨_, rfl⟩
  · rw [if_pos (by omega), if_pos (by omega), hr2, Option.bind_some]
    exact ⟨_, rfl⟩
theorem code_tot (x : ByteArray) (hx : x.size ≤ 1048576) : ∀ (d i : Nat), x.size - i ≤ d → i ≤ x.size → (∀ j, j < i → bt x (j : Int) ≤ 126) → ∃ r, laws_code29.l0 (d + x.size + 2) x (x.size : Int) (i : Int) = some r := by
  have hend : ∀ d, (∀ j, j < x.size → bt x (j : Int) ≤ 126) → ∃ r, laws_code29.l0 (d + x.size + 2) x (x.size : Int) (x.size : Int) = some r := fun d hall =>
    code_end x hx (Array.all_eq_true.2 fun i hi => decide_eq_true (by
      have h1 := hall i hi
      rw [bt_is x i hi] at h1
      have h2 : (x.data[i]'hi).toNat = (x[i]'hi).toNat := rfl
      omega)) (d + x.size) (by omega)
  intro d
  induction d with
  | zero =>
    intro i h1 h2 hall
    obtain rfl : i = x.size := by omega
    exact hend 0 hall
  | succ d ih =>
    intro i h1 h2 hall
    by_cases hi : i < x.size
    · have hw : wrap64 ((i : Int) + 1) = ((i + 1 : Nat) : Int) := by unfold wrap64; omega
      have hnext : bt x (i : Int) ≤ 126 → ∃ r, laws_code29.l0 (d + x.size + 2) x (x.size : Int) ((i + 1 : Nat) : Int) = some r := fun hb =>
        ih (i + 1) (by omega) (by omega) fun j hj => by
          by_cases e : j = i
          · subst e; exact hb
          · exact hall j (by omega)
      rw [show d + 1 + x.size + 2 = (d + x.size + 2) + 1 from by omega, laws_code29.l0, if_pos (by omega), if_pos (by omega), if_pos (by omega), hw]
      split
      · exact hnext (by omega)
      · split
        · exact ⟨_, rfl⟩
        · split
          · exact ⟨_, rfl⟩
          · exact hnext (by omega)
    · obtain rfl : i = x.size := by omega
      exact hend (d + 1) hall
theorem code_any (x : ByteArray) (hx : x.size ≤ 1048576) : ∃ k r, laws_code29.f k x = some r := by
  obtain ⟨r, h⟩ := code_tot x hx x.size 0 (by omega) (by omega) (fun j hj => by omega)
  exact ⟨_, r, h⟩
theorem fits5_tot (l : List ByteArray) (hl : l.length ≤ 1048576) : ∀ (k i : Nat), l.length - i < k → i ≤ l.length → ∃ r, laws_zzFits5.l0 k l (l.length : Int) (i : Int) = some r
  | 0, i, h, _ => by omega
  | k + 1, i, h, hi => by
    by_cases hc : i < l.length
    · have hw : wrap64 ((i : Int) + 1) = ((i + 1 : Nat) : Int) := by unfold wrap64; omega
      obtain ⟨r2, hr2⟩ := fits5_tot l hl k (i + 1) (by omega) (by omega)
      rw [laws_zzFits5.l0, if_pos (by omega), if_pos (by omega), if_pos (by omega), hw, hr2]
      split <;> exact ⟨_, rfl⟩
    · rw [laws_zzFits5.l0, if_neg (by omega)]
      exact ⟨_, rfl⟩
theorem fits5_any (l : List ByteArray) (hl : l.length ≤ 1048576) : ∃ k r, laws_zzFits5.f k l = some r := by
  refine ⟨l.length + 1, ?_⟩
  unfold laws_zzFits5.f
  split
  · exact ⟨_, rfl⟩
  · exact fits5_tot l hl _ 0 (by omega) (by omega)
/-- What holds a byte that a text lacks isn't found in it. -/
theorem index_miss (x y : ByteArray) (c : UInt8) (hx : x.size ≤ 2000000) (hy : y.size ≤ 1000) (hc : c ∈ y.data.toList) (hn : c ∉ x.data.toList) : ∀ (k i : Nat), x.size + 1 < i + k → i ≤ x.size + 1 → commonmark_zzIndex.l0 k x y (i : Int) = some (-1)
  | 0, i, h1, h2 => by
    exfalso
    omega
  | k + 1, i, h1, h2 => by
    have hw : wrap64 ((i : Int) + (y.size : Int)) = ((i + y.size : Nat) : Int) := by unfold wrap64; omega
    have hw1 : wrap64 ((i : Int) + 1) = ((i + 1 : Nat) : Int) := by unfold wrap64; omega
    have hys : 0 < y.size := by
      rcases Nat.eq_zero_or_pos y.size with h | h
      · have h3 : y.data.toList.length = 0 := h
        rw [List.length_eq_zero_iff.1 h3] at hc
        cases hc
      · exact h
    rw [commonmark_zzIndex.l0, hw, hw1]
    split
    · rename_i hle
      rw [if_pos (by omega), if_pos (by omega)]
      split
      · rename_i he
        exfalso
        rw [ByteArray.toList_eq, ByteArray.toList_eq, ByteArray.data_extract, Array.toList_extract, List.extract_eq_take_drop] at he
        rw [← he] at hc
        exact hn (List.mem_of_mem_drop (List.mem_of_mem_take hc))
      · exact index_miss x y c hx hy hc hn k (i + 1) (by omega) (by omega)
    · rfl
def lgP : ByteArray := ⟨#[108, 97, 110, 103, 117, 97, 103, 101, 45]⟩
def lnP : ByteArray := ⟨#[108, 97, 110, 103, 45]⟩
theorem index_here (x : ByteArray) (hx : x.size ≤ 1048576) (k : Nat) : commonmark_zzIndex.f (k + 1) (lgP ++ x) lgP = some 0 := by
  have h9 : lgP.size = 9 := rfl
  have hsz : (lgP ++ x).size = 9 + x.size := by rw [ByteArray.size_append]; rfl
  unfold commonmark_zzIndex.f
  rw [commonmark_zzIndex.l0, h9, hsz, show wrap64 (0 + ((9 : Nat) : Int)) = 9 from by unfold wrap64; omega, if_pos (by omega), if_pos (by omega), if_pos (by omega), if_pos ?_]
  rw [ByteArray.toList_eq, ByteArray.toList_eq, ByteArray.data_extract, Array.toList_extract, List.extract_eq_take_drop, ByteArray.data_append, Array.toList_append]
  rfl
theorem contains_here (x : ByteArray) (hx : x.size ≤ 1048576) : commonmark_zzContains.f 1 (lgP ++ x) lgP = some true := by
  unfold commonmark_zzContains.f
  rw [index_here x hx, Option.bind_some]
  rfl
theorem replace_here (x : ByteArray) (hx : x.size ≤ 1048576) : commonmark_zzReplaceOne.f 1 (lgP ++ x) lgP ⟨#[]⟩ = some x := by
  have h9 : lgP.size = 9 := rfl
  have h0 : (ByteArray.mk #[]).size = 0 := rfl
  have hsz : (lgP ++ x).size = 9 + x.size := by rw [ByteArray.size_append]; rfl
  unfold commonmark_zzReplaceOne.f
  rw [index_here x hx, Option.bind_some, if_neg (by omega), h9, show wrap64 (0 + ((9 : Nat) : Int)) = 9 from by unfold wrap64; omega]
  simp only [ByteArray.size_append, ByteArray.size_extract, h9, h0]
  rw [if_pos (by omega), if_pos (by omega), if_pos (by omega), if_pos (by omega), if_pos (by omega), if_pos (by omega)]
  refine congrArg some (ByteArray.ext (Array.toList_inj.1 ?_))
  simp [ByteArray.data_extract, ByteArray.data_append, lgP]
  exact List.take_of_length_le (by simp)
theorem replace_miss (x : ByteArray) (hx : x.size ≤ 1048576) (hn : (45 : UInt8) ∉ x.data.toList) : commonmark_zzReplaceOne.f (x.size + 2) x lnP ⟨#[]⟩ = some x := by
  unfold commonmark_zzReplaceOne.f
  rw [show commonmark_zzIndex.f (x.size + 2) x lnP = some (-1) from index_miss x lnP 45 (by omega) (by decide) (by decide) hn _ 0 (by omega) (by omega), Option.bind_some, if_pos (by omega)]
end Go.Proofs.YtlallihdiffheaaDoor.GCo
