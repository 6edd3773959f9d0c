/- FnDomKinds, the plain part: no name is one of inline and of block nodes; headings are h1 to h6, and blocks. No condition. -/
import Derived.Test.YticofikbijldiaaPFnDomKindsx3
namespace Go.Proofs.Yticofikbijldiaa.Pure
open Go.RowKit Go.Proofs.Yticofikbijldiaa.PFnDomKinds Go.Proofs.YticofikbijldiaaW.PrintWords Go.Proofs.YticofikbijldiaaW.PrintLast

def ch (x : List UInt8) : List (List UInt8) → Option Bool
  | [] => some false
  | c :: cs => if x = c then some true else ch x cs
theorem ch_eq (x : List UInt8) (l : List (List UInt8)) : ch x l = some (decide (x ∈ l)) := by
  induction l with
  | nil => rfl
  | cons c cs ih =>
    unfold ch
    by_cases h : x = c
    · rw [if_pos h]; simp [h]
    · rw [if_neg h, ih]; simp [h]
def inlineL : List (List UInt8) := [[35, 116, 101, 120, 116], [97], [97, 98, 98, 114], [97, 99, 114, 111, 110, 121, 109], [97, 117, 100, 105, 111], [98], [98, 100, 105], [98, 100, 111], [98, 105, 103], [98, 114], [98, 117, 116, 116, 111, 110], [99, 97, 110, 118, 97, 115], [99, 105, 116, 101], [99, 111, 100, 101], [100, 97, 116, 97], [100, 97, 116, 97, 108, 105, 115, 116], [100, 101, 108], [100, 102, 110], [101, 109], [101, 109, 98, 101, 100], [105], [105, 102, 114, 97, 109, 101], [105, 109, 103], [105, 110, 112, 117, 116], [105, 110, 115], [107, 98, 100], [108, 97, 98, 101, 108], [109, 97, 112], [109, 97, 114, 107], [109, 101, 116, 101, 114], [110, 111, 115, 99, 114, 105, 112, 116], [111, 98, 106, 101, 99, 116], [111, 117, 116, 112, 117, 116], [112, 105, 99, 116, 117, 114, 101], [112, 114, 111, 103, 114, 101, 115, 115], [113], [114, 117, 98, 121], [115], [115, 97, 109, 112], [115, 99, 114, 105, 112, 116], [115, 101, 108, 101, 99, 116], [115, 108, 111, 116], [115, 109, 97, 108, 108], [115, 112, 97, 110], [115, 116, 114, 111, 110, 103], [115, 117, 98], [115, 117, 112], [115, 118, 103], [116, 101, 109, 112, 108, 97, 116, 101], [116, 101, 120, 116, 97, 114, 101, 97], [116, 105, 109, 101], [117], [116, 116], [118, 97, 114], [118, 105, 100, 101, 111], [119, 98, 114]]
def blockL : List (List UInt8) := [[97, 100, 100, 114, 101, 115, 115], [97, 114, 116, 105, 99, 108, 101], [97, 115, 105, 100, 101], [98, 108, 111, 99, 107, 113, 117, 111, 116, 101], [100, 101, 116, 97, 105, 108, 115], [100, 105, 97, 108, 111, 103], [100, 100], [100, 105, 118], [100, 108], [100, 116], [102, 105, 101, 108, 100, 115, 101, 116], [102, 105, 103, 99, 97, 112, 116, 105, 111, 110], [102, 105, 103, 117, 114, 101], [102, 111, 111, 116, 101, 114], [102, 111, 114, 109], [104, 49], [104, 50], [104, 51], [104, 52], [104, 53], [104, 54], [104, 101, 97, 100, 101, 114], [104, 103, 114, 111, 117, 112], [104, 114], [108, 105], [109, 97, 105, 110], [110, 97, 118], [111, 108], [112], [112, 114, 101], [115, 101, 99, 116, 105, 111, 110], [116, 97, 98, 108, 101], [117, 108]]
def headL : List (List UInt8) := [[104, 49], [104, 50], [104, 51], [104, 52], [104, 53], [104, 54]]
set_option maxRecDepth 100000 in
theorem inline_eq (a : ByteArray) : dom_NameIsInlineNode.f a = some (decide (a.toList ∈ inlineL)) := (show dom_NameIsInlineNode.f a = ch a.toList inlineL from rfl).trans (ch_eq _ _)
set_option maxRecDepth 100000 in
theorem block_eq (a : ByteArray) : dom_NameIsBlockNode.f a = some (decide (a.toList ∈ blockL)) := (show dom_NameIsBlockNode.f a = ch a.toList blockL from rfl).trans (ch_eq _ _)
theorem head_eq (a : ByteArray) : dom_NameIsHeading.f a = some (decide (a.toList ∈ headL)) := (show dom_NameIsHeading.f a = ch a.toList headL from rfl).trans (ch_eq _ _)
theorem kind_eq (a : ByteArray) : impl_NameKind.f a = some (decide (a.toList ∈ inlineL), decide (a.toList ∈ blockL), decide (a.toList ∈ headL)) := by
  unfold impl_NameKind.f
  rw [inline_eq, block_eq, head_eq]
  rfl
set_option maxRecDepth 100000 in
theorem apart : ∀ x ∈ blockL, ¬ x ∈ inlineL := by decide +kernel
theorem head_block : ∀ x ∈ headL, x ∈ blockL := by decide +kernel
theorem kind_p : impl_NameKind.f (⟨#[112]⟩ : ByteArray) = some (false, true, false) := by
  rw [kind_eq]
  decide +kernel
theorem bt0 (x y : UInt8) : bt (⟨#[x, y]⟩ : ByteArray) 0 = (x.toNat : Int) := rfl
theorem bt1 (x y : UInt8) : bt (⟨#[x, y]⟩ : ByteArray) 1 = (y.toNat : Int) := rfl
theorem two_in (x y : UInt8) (e0 : (x.toNat : Int) = 104) (e1 : (y.toNat : Int) ≥ 49) (e3 : (y.toNat : Int) ≤ 54) : [x, y] ∈ headL := by
  have hx : x = 104 := UInt8.toNat_inj.1 (by show x.toNat = 104; omega)
  have hy : y = 49 ∨ y = 50 ∨ y = 51 ∨ y = 52 ∨ y = 53 ∨ y = 54 := by
    have : y.toNat = 49 ∨ y.toNat = 50 ∨ y.toNat = 51 ∨ y.toNat = 52 ∨ y.toNat = 53 ∨ y.toNat = 54 := by omega
    rcases this with h | h | h | h | h | h
    · exact .inl (UInt8.toNat_inj.1 h)
    · exact .inr (.inl (UInt8.toNat_inj.1 h))
    · exact .inr (.inr (.inl (UInt8.toNat_inj.1 h)))
    · exact .inr (.inr (.inr (.inl (UInt8.toNat_inj.1 h))))
    · exact .inr (.inr (.inr (.inr (.inl (UInt8.toNat_inj.1 h)))))
    · exact .inr (.inr (.inr (.inr (.inr (UInt8.toNat_inj.1 h)))))
  subst hx
  rcases hy with rfl | rfl | rfl | rfl | rfl | rfl <;> decide +kernel
theorem of_two (a : ByteArray) (h2 : (a.size : Int) = 2) (h0 : bt a 0 = 104) (h1 : bt a 1 ≥ 49) (h3 : bt a 1 ≤ 54) : a.toList ∈ headL := by
  obtain ⟨⟨l⟩⟩ := a
  have hl : l.length = 2 := by
    have : ((l.length : Nat) : Int) = 2 := h2
    omega
  match l, hl with
  | [x, y], _ =>
    have e : (ByteArray.mk (Array.mk [x, y])).toList = [x, y] := ByteArray.toList_mk [x, y]
    rw [e]
    exact two_in x y h0 h1 h3
theorem of_list {a : ByteArray} {l : List UInt8} (h : a.toList = l) : a = ⟨l.toArray⟩ := by
  obtain ⟨⟨m⟩⟩ := a
  have : m = l := by rw [← h]; simp [ByteArray.toList_eq]
  rw [this]
theorem head_true (a : ByteArray) (h : a.toList ∈ headL) : laws_FnDomKinds.f a = some true := by
  simp only [headL, List.mem_cons, List.not_mem_nil, or_false] at h
  rcases h with h | h | h | h | h | h <;> (rw [of_list h]; decide +kernel)

theorem law_of (a : ByteArray) (i b : Bool) (hk : impl_NameKind.f a = some (i, b, false)) (hib : b = true → i = false)
    (hn : (a.size : Int) = 2 → bt a 0 = 104 → bt a 1 ≥ 49 → ¬ bt a 1 ≤ 54) : laws_FnDomKinds.f a = some true := by
  unfold laws_FnDomKinds.f
  rw [hk, kind_p]
  simp only [Option.bind_some]
  have hd : (a.size : Int) = 2 → bt a 0 = 104 → bt a 1 ≥ 49 → decide (bt a 1 ≤ 54) = false := fun x y z => decide_eq_false (hn x y z)
  by_cases c0 : (a.size : Int) > 2147483647
  · rw [if_pos c0]
  rw [if_neg c0]
  by_cases c1 : (a.size : Int) = 2
  · rw [if_pos c1, if_pos (show 0 < (a.size : Int) by omega)]
    by_cases c2 : bt a 0 = 104
    · rw [if_pos c2, if_pos (show 1 < (a.size : Int) by omega)]
      by_cases c3 : bt a 1 ≥ 49
      · rw [if_pos c3, hd c1 c2 c3]
        cases i <;> cases b <;> simp_all
      · rw [if_neg c3]
        cases i <;> cases b <;> simp_all
    · rw [if_neg c2]
      cases i <;> cases b <;> simp_all
  · rw [if_neg c1]
    cases i <;> cases b <;> simp_all

theorem FnDomKinds : laws_FnDomKinds.Pure := by
  intro a _
  by_cases hH : a.toList ∈ headL
  · exact head_true a hH
  · refine law_of a (decide (a.toList ∈ inlineL)) (decide (a.toList ∈ blockL)) ?_ ?_ (fun x y z u => hH (of_two a x y z u))
    · rw [kind_eq, decide_eq_false hH]
    · intro h
      exact decide_eq_false (apart _ (of_decide_eq_true h))

end Go.Proofs.Yticofikbijldiaa.Pure
