/- Items of lists: plain, over what spec.Item, spec.Lines and commonmark.zzReplaceBytes were printed as; a text without the character U+F002 has not its bytes. -/
import Derived.Test.YticofikbijldiaaPrefixPure
import Derived.Test.YticofikbijldiaaRun
import Derived.Test.YticofikbijldiaaGItx1
namespace Go.Proofs.Yticofikbijldiaa.Hand
open Go.RowKit Go.Proofs.YticofikbijldiaaW.PrintWords Go.Proofs.YticofikbijldiaaW.PrintLast Go.Proofs.YticofikbijldiaaW.PrintMore Go.Proofs.Yticofikbijldiaa.GIt
set_option linter.unusedVariables false

def mark3 : List Int := [239, 128, 130]
def NoMark (l : List Int) : Prop := ¬ mark3 <:+: l
theorem NoMark.sub {l t : List Int} (h : NoMark t) (hl : l <:+: t) : NoMark l := fun hm => h (hm.trans hl)
/-- A line is a part of the text. -/
theorem line_infix : ∀ (s acc x : List Int), x ∈ linesL acc s → x <:+: acc ++ s
  | [], acc, x, h => by
    simp only [linesL, List.mem_singleton] at h
    subst h
    rw [List.append_nil]
    exact List.infix_rfl
  | b :: s, acc, x, h => by
    unfold linesL at h
    split at h
    · rcases List.mem_cons.1 h with rfl | h
      · exact (List.prefix_append _ _).isInfix
      · have h2 := line_infix s [] x h
        rw [List.nil_append] at h2
        exact h2.trans ((List.suffix_cons b s).isInfix.trans (List.suffix_append acc (b :: s)).isInfix)
    · have h2 := line_infix s _ x h
      rwa [List.append_assoc] at h2
theorem lines_noMark {s : List Int} (h : NoMark s) : ∀ x ∈ linesL [] s, NoMark x := fun x hx => h.sub (by simpa using line_infix s [] x hx)
theorem replace_loop (l : List Int) (t : ByteArray) (hl : l.length ≤ 1048576) (hb : ∀ x ∈ l, 0 ≤ x ∧ x < 256) (hm : NoMark l) : ∀ (d i k : Nat) (x7 : List Int), l.length - i = d → i ≤ l.length → d + 1 ≤ k → x7.length ≤ i →
    commonmark_zzReplaceBytes.l0 k l ⟨#[239, 128, 130]⟩ t x7 (i : Int) = some (x7 ++ l.drop i) := by
  intro d
  induction d with
  | zero =>
    intro i k x7 hd hi hk _
    obtain ⟨k, rfl⟩ : ∃ m, k = m + 1 := ⟨k - 1, by omega⟩
    rw [commonmark_zzReplaceBytes.l0, if_neg (by omega), List.drop_eq_nil_of_le (by omega), List.append_nil]
  | succ d ih =>
    intro i k x7 hd hi hk hx
    obtain ⟨k, rfl⟩ : ∃ m, k = m + 1 := ⟨k - 1, by omega⟩
    have hlt : i < l.length := by omega
    have hw : wrap64 ((i : Int) + 1) = ((i + 1 : Nat) : Int) := by unfold wrap64; omega
    have hs3 : ((⟨#[239, 128, 130]⟩ : ByteArray).size : Int) = 3 := rfl
    have hw3 : wrap64 ((i : Int) + 3) = ((i + 3 : Nat) : Int) := by unfold wrap64; omega
    have e : rd l (i : Int) = l[i] := by simp [rd, hlt]
    have hgo : commonmark_zzReplaceBytes.l0 k l ⟨#[239, 128, 130]⟩ t (x7 ++ [rd l (i : Int)]) (wrap64 ((i : Int) + 1)) = some (x7 ++ l.drop i) := by
      rw [e, hw, ih (i + 1) k _ (by omega) (by omega) (by omega) (by rw [List.length_append, List.length_singleton]; omega), List.drop_eq_getElem_cons hlt]
      simp
    rw [commonmark_zzReplaceBytes.l0, if_pos (by omega), hs3, hw3]
    by_cases h3 : i + 3 ≤ l.length
    · have hne : ¬ (strOfNums ((l.take ((i + 3 : Nat) : Int).toNat).drop (i : Int).toNat)).toList = (⟨#[239, 128, 130]⟩ : ByteArray).toList := by
        intro h
        rw [Int.toNat_natCast, Int.toNat_natCast] at h
        have hsub : ((l.take (i + 3)).drop i) <:+: l := ((List.drop_suffix _ _).isInfix.trans (List.take_prefix _ _).isInfix)
        have hbb : ∀ x ∈ (l.take (i + 3)).drop i, 0 ≤ x ∧ x < 256 := fun x hx => hb x (hsub.subset hx)
        rw [ByteArray.toList_eq, ByteArray.toList_eq] at h
        have h2 : strOfNums ((l.take (i + 3)).drop i) = (⟨#[239, 128, 130]⟩ : ByteArray) := ByteArray.ext (Array.toList_inj.1 h)
        have h4 := congrArg bys h2
        rw [nums_byte _ hbb] at h4
        have h5 : bys (⟨#[239, 128, 130]⟩ : ByteArray) = mark3 := by decide +kernel
        rw [h5] at h4
        exact hm (h4 ▸ hsub)
      rw [if_pos (by omega), if_pos (by omega), if_pos (by omega), if_neg hne, if_pos (by omega)]
      exact hgo
    · rw [if_neg (by omega), if_pos (by omega), if_pos (by omega)]
      exact hgo
theorem replace_f (l : List Int) (t : ByteArray) (hl : l.length ≤ 1048576) (hb : ∀ x ∈ l, 0 ≤ x ∧ x < 256) (hm : NoMark l) : commonmark_zzReplaceBytes.f (l.length + 1) l ⟨#[239, 128, 130]⟩ t = some l := by
  unfold commonmark_zzReplaceBytes.f
  have h := replace_loop l t hl hb hm l.length 0 (l.length + 1) [] (by omega) (by omega) (by omega) (Nat.le_refl _)
  simpa using h
/-! ### The character -/
theorem decode_inner (s : ByteArray) (p j : Nat) (h0 : 0 < j) (hj : j < (Utf8.decode s p).2) : (s.get! (p + j)).toNat / 64 = 2 := by
  revert hj
  simp only [Utf8.decode]
  repeat' split
  all_goals (intro hj; simp_all)
  all_goals (have : j = 1 ∨ j = 2 ∨ j = 3 := by omega)
  all_goals (rcases this with rfl | rfl | rfl <;> first | omega | simp_all)
theorem decode_mark (s : ByteArray) (q : Nat) (h : q + 2 < s.size) (e0 : (s.get! q).toNat = 239) (e1 : (s.get! (q + 1)).toNat = 128) (e2 : (s.get! (q + 2)).toNat = 130) : (Utf8.decode s q).1 = 61442 := by
  have h1 : q + 1 < s.size := by omega
  simp [Utf8.decode, e0, e1, e2, h, h1, Utf8.valid]
theorem no_mark_at (s : ByteArray) : ∀ (b pos q : Nat), s.size ≤ pos + b → (∀ r ∈ rns s b pos, r ≠ 61442) → pos ≤ q → q + 2 < s.size → (s.get! q).toNat = 239 → (s.get! (q + 1)).toNat = 128 → (s.get! (q + 2)).toNat = 130 → False
  | 0, pos, q, hb, hr, hq, h, e0, e1, e2 => by omega
  | b + 1, pos, q, hb, hr, hq, h, e0, e1, e2 => by
    have hp : pos < s.size := by omega
    have hw := width_pos s pos hp
    rw [rns, if_pos hp] at hr
    by_cases e : q = pos
    · subst e
      have := hr _ List.mem_cons_self
      rw [decode_mark s q h e0 e1 e2] at this
      exact this rfl
    · by_cases hin : q < pos + (Utf8.decode s pos).2
      · have h2 := decode_inner s pos (q - pos) (by omega) (by omega)
        rw [show pos + (q - pos) = q by omega, e0] at h2
        omega
      · exact no_mark_at s b (pos + (Utf8.decode s pos).2) q (by omega) (fun r hr2 => hr r (List.mem_cons_of_mem _ hr2)) (by omega) h e0 e1 e2
theorem get_bys (s : ByteArray) (i : Nat) (h : i < s.size) : (bys s)[i]'(by rw [bys_length]; exact h) = ((s.get! i).toNat : Int) := by
  have e := bys_getD s i h
  rw [List.getD_eq_getElem?_getD, List.getElem?_eq_getElem (by rw [bys_length]; exact h)] at e
  rw [Option.getD_some] at e
  rw [e]
  congr 2
  simp [ByteArray.get!, h]
  rfl
theorem noMark_of_runes (s : ByteArray) (h : ∀ r ∈ runes s, r ≠ 61442) : NoMark (bys s) := by
  rintro ⟨a, b, hab⟩
  have hlen : a.length + 3 + b.length = s.size := by
    rw [← bys_length, ← hab]
    simp [mark3]
    omega
  have hget : ∀ j, j < 3 → (bys s)[a.length + j]? = mark3[j]? := by
    intro j hj
    rw [← hab, List.append_assoc, List.getElem?_append_right (by omega), Nat.add_sub_cancel_left, List.getElem?_append_left (by simp [mark3]; omega)]
  have hq : ∀ j, j < 3 → ∀ v, mark3[j]? = some v → ((s.get! (a.length + j)).toNat : Int) = v := by
    intro j hj v hv
    have h1 := hget j hj
    have hlt : a.length + j < s.size := by omega
    rw [List.getElem?_eq_getElem (by rw [bys_length]; exact hlt), get_bys s _ hlt, hv] at h1
    exact Option.some.inj h1
  have e0 := hq 0 (by omega) 239 rfl
  have e1 := hq 1 (by omega) 128 rfl
  have e2 := hq 2 (by omega) 130 rfl
  rw [Nat.add_zero] at e0
  exact no_mark_at s s.size 0 a.length (by omega) h (Nat.zero_le _) (by omega) (by omega) (by omega) (by omega)
/-! ### The lines, joined -/
theorem ilast_of (done : List ByteArray) (cur : ByteArray) : rdOf ByteArray.empty (done ++ [cur]) (done.length : Int) = cur := by simp [rdOf]
theorem iset_last (done : List ByteArray) (cur y : ByteArray) : (done ++ [cur]).set done.length y = done ++ [y] := by
  rw [List.set_append_right _ _ (Nat.le_refl _), Nat.sub_self]
  rfl
theorem ilines_loop (s : ByteArray) (hs : s.size ≤ 1048576) : ∀ (d i k : Nat) (done : List ByteArray) (cur : ByteArray), s.size - i = d → i ≤ s.size → d + 1 ≤ k → done.length ≤ i → cur.size ≤ i →
    ∃ L, spec_Lines.l0 k s (done ++ [cur]) (i : Int) = some (done ++ L) ∧ L.map bys = linesL (bys cur) ((bys s).drop i) ∧ L.length ≤ d + 1 := by
  intro d
  induction d with
  | zero =>
    intro i k done cur hd hi hk hx hc
    obtain ⟨k, rfl⟩ : ∃ m, k = m + 1 := ⟨k - 1, by omega⟩
    refine ⟨[cur], ?_, ?_, by simp⟩
    · rw [spec_Lines.l0, if_neg (by omega)]
    · rw [List.drop_eq_nil_of_le (show (bys s).length ≤ i by rw [bys_length]; omega)]
      rfl
  | succ d ih =>
    intro i k done cur hd hi hk hx hc
    obtain ⟨k, rfl⟩ : ∃ m, k = m + 1 := ⟨k - 1, by omega⟩
    have hlt : i < (bys s).length := by rw [bys_length]; omega
    have hw : wrap64 ((i : Int) + 1) = ((i + 1 : Nat) : Int) := by unfold wrap64; omega
    have hl : ((done ++ [cur]).length : Int) = (done.length : Int) + 1 := by simp
    have hwl : wrap64 ((done.length : Int) + 1 - 1) = (done.length : Int) := by unfold wrap64; omega
    have e : bt s (i : Int) = (bys s)[i] := by
      rw [bt_bys]
      simp [hlt]
    have hx1 : (s.extract i (i + 1)).size = 1 := by simp; omega
    rw [spec_Lines.l0, if_pos (by omega), if_pos (by omega), e, hw, hl, hwl, List.drop_eq_getElem_cons hlt]
    by_cases h : (bys s)[i] = 10
    · obtain ⟨L, h1, h2, h3⟩ := ih (i + 1) k (done ++ [cur]) ⟨#[]⟩ (by omega) (by omega) (by omega) (by simp; omega) (Nat.zero_le _)
      refine ⟨cur :: L, ?_, ?_, by rw [List.length_cons]; omega⟩
      · rw [if_pos h, if_pos (by simp; omega)]
        simpa using h1
      · rw [linesL, if_pos h, List.map_cons, h2]
        rfl
    · obtain ⟨L, h1, h2, h3⟩ := ih (i + 1) k done (cur ++ s.extract i (i + 1)) (by omega) (by omega) (by omega) (by omega) (by rw [ByteArray.size_append, hx1]; omega)
      refine ⟨L, ?_, ?_, by omega⟩
      · rw [if_neg h, if_pos (by omega), if_pos (by omega), if_pos (by omega), if_pos (by omega), ilast_of, Int.toNat_natCast, Int.toNat_natCast, Int.toNat_natCast, if_pos (by rw [hx1]; omega), iset_last]
        exact h1
      · rw [linesL, if_neg h, h2, bys_append, bys_extract]
        congr 2
        rw [List.drop_eq_getElem_cons hlt, show i + 1 - i = 1 by omega]
        rfl
theorem linesL_len : ∀ (s acc : List Int), (linesL acc s).length ≤ s.length + 1
  | [], acc => Nat.le_refl _
  | b :: s, acc => by
    unfold linesL
    split
    · rw [List.length_cons, List.length_cons]
      have := linesL_len s []
      omega
    · have := linesL_len s (acc ++ [b])
      rw [List.length_cons]
      omega
def pre (sep : List Int) (ls : List (List Int)) : Nat → List Int
  | 0 => []
  | i + 1 => pre sep ls i ++ (if i = 0 then [] else 10 :: sep) ++ ls.getD i []
theorem getD_len {ls : List (List Int)} {M : Nat} (h : ∀ x ∈ ls, x.length ≤ M) (i : Nat) : (ls.getD i []).length ≤ M := by
  rw [List.getD_eq_getElem?_getD]
  by_cases hi : i < ls.length
  · rw [List.getElem?_eq_getElem hi]
    exact h _ (List.getElem_mem hi)
  · rw [List.getElem?_eq_none (by omega)]
    exact Nat.zero_le _
theorem pre_len {sep : List Int} {ls : List (List Int)} (hs : sep.length ≤ 256) (hl : ∀ x ∈ ls, x.length ≤ 65536) : ∀ i, (pre sep ls i).length ≤ i * 65793
  | 0 => Nat.zero_le _
  | i + 1 => by
    have h := pre_len hs hl i
    have h2 := getD_len hl i
    have h3 : (if i = 0 then [] else 10 :: sep : List Int).length ≤ 257 := by
      split
      · exact Nat.zero_le _
      · rw [List.length_cons]
        omega
    rw [pre, List.length_append, List.length_append]
    omega
theorem item_inner (ind : Nat) (hind : ind ≤ 256) (x7 : ByteArray) (hx7 : x7.size ≤ 65536) (L : List ByteArray) (n : Int) (i : Nat) (hi : i ≤ 1048577) (k : Nat) : ∀ (d j : Nat) (x5 : ByteArray), ind - j = d → j ≤ ind → x5.size ≤ 1099511627776 + j →
    ∃ y, bys y = bys x5 ++ List.replicate d 32 ++ bys x7 ∧ spec_Item.l1 (d + 1 + k) (ind : Int) x5 x7 (j : Int) L n (i : Int) = spec_Item.l0 k (ind : Int) y L n ((i + 1 : Nat) : Int) := by
  intro d
  induction d with
  | zero =>
    intro j x5 hd hj hx
    refine ⟨x5 ++ x7, by rw [bys_append]; simp, ?_⟩
    have hw : wrap64 ((i : Int) + 1) = ((i + 1 : Nat) : Int) := by unfold wrap64; omega
    rw [show 0 + 1 + k = k + 1 by omega, spec_Item.l1, if_neg (by omega), if_pos (by omega), hw]
  | succ d ih =>
    intro j x5 hd hj hx
    have hw : wrap64 ((j : Int) + 1) = ((j + 1 : Nat) : Int) := by unfold wrap64; omega
    have hx1 : (x5 ++ (⟨#[32]⟩ : ByteArray)).size = x5.size + 1 := by rw [ByteArray.size_append]; rfl
    obtain ⟨y, h1, h2⟩ := ih (j + 1) (x5 ++ (⟨#[32]⟩ : ByteArray)) (by omega) (by omega) (by omega)
    refine ⟨y, ?_, ?_⟩
    · rw [h1, bys_append, show bys (⟨#[32]⟩ : ByteArray) = [32] from rfl, List.replicate_succ]
      simp
    · rw [show d + 1 + 1 + k = (d + 1 + k) + 1 by omega, spec_Item.l1, if_pos (by omega), if_pos (by omega), hw]
      exact h2
theorem item_loop (ind : Nat) (hind : ind ≤ 256) (L : List ByteArray) (hL : L.length ≤ 65537) (hl : ∀ x ∈ L, x.size ≤ 65536) : ∀ (d i k : Nat) (x5 : ByteArray), L.length - i = d → i ≤ L.length → 258 * d < k → bys x5 = pre (List.replicate ind 32) (L.map bys) i →
    ∃ r, spec_Item.l0 k (ind : Int) x5 L (L.length : Int) (i : Int) = some r ∧ bys r = pre (List.replicate ind 32) (L.map bys) L.length := by
  have hl2 : ∀ x ∈ L.map bys, x.length ≤ 65536 := by
    intro x hx
    obtain ⟨y, hy, rfl⟩ := List.mem_map.1 hx
    rw [bys_length]
    exact hl y hy
  intro d
  induction d with
  | zero =>
    intro i k x5 hd hi hk hx
    obtain ⟨k, rfl⟩ : ∃ m, k = m + 1 := ⟨k - 1, by omega⟩
    obtain rfl : i = L.length := by omega
    exact ⟨x5, by rw [spec_Item.l0, if_neg (by omega)], hx⟩
  | succ d ih =>
    intro i k x5 hd hi hk hx
    obtain ⟨k, rfl⟩ : ∃ m, k = m + 1 := ⟨k - 1, by omega⟩
    have hlt : i < L.length := by omega
    have hk0 : 258 * d + 258 < k + 1 := by
      rw [Nat.mul_add] at hk
      exact hk
    clear hk
    have hk1 : 258 * d < k := by omega
    have hk2 : 258 * d < k - (ind + 1) := by omega
    have hk3 : k = ind + 1 + (k - (ind + 1)) := by omega
    clear hk0
    have hw : wrap64 ((i : Int) + 1) = ((i + 1 : Nat) : Int) := by unfold wrap64; omega
    have e : rdOf ByteArray.empty L (i : Int) = L[i] := by simp [rdOf, hlt]
    have eg : (L.map bys).getD i [] = bys L[i] := by simp [List.getD_eq_getElem?_getD, hlt]
    have hs : x5.size = (bys x5).length := (bys_length x5).symm
    have hp := pre_len (sep := List.replicate ind 32) (by rw [List.length_replicate]; exact hind) hl2 i
    have hLi := hl _ (List.getElem_mem hlt)
    rw [hx] at hs
    rw [spec_Item.l0, if_pos (by omega), if_pos (by omega), if_pos (by omega), e]
    by_cases h0 : i = 0
    · subst h0
      rw [if_neg (by omega), if_pos (by omega), hw]
      refine ih 1 k _ (by omega) (by omega) hk1 ?_
      have e0 : pre (List.replicate ind 32) (L.map bys) 0 = [] := rfl
      have e1 : pre (List.replicate ind 32) (L.map bys) 1 = pre (List.replicate ind 32) (L.map bys) 0 ++ [] ++ (L.map bys).getD 0 [] := rfl
      rw [bys_append, hx, e1, eg, e0]
      rfl
    · rw [if_pos (by omega), if_pos (by omega)]
      obtain ⟨k2, hk4⟩ : ∃ k2, k2 = k - (ind + 1) := ⟨_, rfl⟩
      rw [← hk4] at hk2 hk3
      have hx1 : (x5 ++ (⟨#[10]⟩ : ByteArray)).size = x5.size + 1 := by rw [ByteArray.size_append]; rfl
      obtain ⟨y, h1, h2⟩ := item_inner ind hind L[i] hLi L (L.length : Int) i (by omega) k2 ind 0 (x5 ++ (⟨#[10]⟩ : ByteArray)) (by omega) (by omega) (by omega)
      rw [hk3]
      have h3 := ih (i + 1) k2 y (by omega) (by omega) hk2 (by
        rw [h1, bys_append, hx, pre, eg, if_neg h0, show bys (⟨#[10]⟩ : ByteArray) = [10] from rfl]
        simp)
      obtain ⟨r, h4, h5⟩ := h3
      refine ⟨r, ?_, h5⟩
      rw [← h4]
      simpa using h2
theorem item_f (s : ByteArray) (ind : Nat) (hs : s.size ≤ 65536) (hind : ind ≤ 256) : ∃ k r, spec_Item.f k s (ind : Int) = some r ∧ bys r = pre (List.replicate ind 32) (linesL [] (bys s)) (linesL [] (bys s)).length := by
  obtain ⟨K, hK⟩ : ∃ K, 17000000 ≤ K := ⟨_, Nat.le_refl _⟩
  obtain ⟨L, h1, h2, h3⟩ := ilines_loop s (by omega) s.size 0 K [] ⟨#[]⟩ (by omega) (by omega) (by omega) (Nat.le_refl _) (Nat.le_refl _)
  rw [List.drop_zero] at h2
  rw [List.nil_append, List.nil_append] at h1
  have e0 : bys (⟨#[]⟩ : ByteArray) = [] := rfl
  rw [e0] at h2
  have hLn : L.length ≤ 65537 := by omega
  have hl : ∀ x ∈ L, x.size ≤ 65536 := by
    intro x hx
    have hm : bys x ∈ linesL [] (bys s) := by rw [← h2]; exact List.mem_map_of_mem hx
    have := (line_infix (bys s) [] (bys x) hm).length_le
    rw [List.nil_append, bys_length, bys_length] at this
    omega
  obtain ⟨r, h4, h5⟩ := item_loop ind hind L hLn hl L.length 0 K ⟨#[]⟩ (by omega) (by omega) (by omega) rfl
  refine ⟨K, r, ?_, ?_⟩
  · unfold spec_Item.f spec_Lines.f
    rw [show ((0 : Nat) : Int) = 0 from rfl] at h1 h4
    rw [h1]
    exact h4
  · rw [h5, ← h2, List.length_map]
end Go.Proofs.Yticofikbijldiaa.Hand
