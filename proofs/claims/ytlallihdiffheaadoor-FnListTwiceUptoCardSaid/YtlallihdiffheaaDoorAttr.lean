/- dom.GetAttribute and dom.GetAttributeOr by hand; impl.AttributeOf, impl.AttributeOr. -/
import Derived.Test.YtlallihdiffheaaDoorTree
import Derived.Test.YtlallihdiffheaaDoorFine
import Derived.Deep.RegionLaw
namespace Go.Proofs.YtlallihdiffheaaDoor.Hand
open Go.RowKit Go.Proofs.YtlallihdiffheaaDoorW.PrintWords Go.Proofs.YtlallihdiffheaaDoorW.PrintLast Go.Proofs.YtlallihdiffheaaDoor.GT
set_option linter.unusedVariables false
set_option linter.unusedSimpArgs false

/-- The value of a key's first attribute. -/
def seek (key : ByteArray) (l : List (ByteArray × ByteArray)) : Option ByteArray := (l.find? (fun a => a.1.toList == key.toList)).map (·.2)
theorem seek_hit {key : ByteArray} {l : List (ByteArray × ByteArray)} {j : Nat} {k x : ByteArray} (h : ∀ a ∈ l.take j, (a.1.toList == key.toList) = false) (hj : l[j]? = some (k, x)) (hk : (k.toList == key.toList) = true) : seek key l = some x := by
  have hl := (List.getElem?_eq_some_iff.1 hj).1
  have e : l = l.take j ++ ((k, x) :: l.drop (j + 1)) := by
    have h1 := List.take_append_drop j l
    rw [List.drop_eq_getElem_cons hl] at h1
    have h2 := (List.getElem?_eq_some_iff.1 hj).2
    rw [h2] at h1
    exact h1.symm
  rw [seek, e, List.find?_append, List.find?_eq_none.2 (fun a ha => by rw [h a ha]; decide)]
  simp [hk]
theorem seek_none {key : ByteArray} {l : List (ByteArray × ByteArray)} (h : ∀ a ∈ l, (a.1.toList == key.toList) = false) : seek key l = none := by
  rw [seek, List.find?_eq_none.2 (fun a ha => by rw [h a ha]; decide)]
  rfl
theorem attrCells_get0 (l : List (ByteArray × ByteArray)) : ∀ (j : Nat) (k x : ByteArray), l[j]? = some (k, x) → (attrCells l)[j * 3]? = some (.string ⟨#[]⟩) := by
  induction l with
  | nil => intro j k x h; simp at h
  | cons a t ih =>
    intro j k x h
    obtain ⟨k0, x0⟩ := a
    cases j with
    | zero => rfl
    | succ j =>
      rw [List.getElem?_cons_succ] at h
      have := ih j k x h
      rw [show (j + 1) * 3 = j * 3 + 3 by omega]
      exact this
/-- One attribute's cells. -/
theorem attrs_at {w : World} {v : Value} {l : List (ByteArray × ByteArray)} (h : AttrsAt w v l) : ∃ A c, v = .slice A l.length c ∧ l.length ≤ c ∧ l.length ≤ 9223372036854775807 ∧ ∀ j, j < l.length → ∃ ad k x, A = some ad ∧ l[j]? = some (k, x) ∧
    w.cell? (ad.add (j * 3)) = some (.string ⟨#[]⟩) ∧ w.cell? ⟨(ad.add (j * 3)).block, (ad.add (j * 3)).off + 1, none⟩ = some (.string k) ∧ w.cell? ⟨(ad.add (j * 3)).block, (ad.add (j * 3)).off + 2, none⟩ = some (.string x) ∧ (ad.add (j * 3)).block < w.heap.size := by
  obtain ⟨A, c, rfl⟩ := own_slice h
  refine ⟨A, c, rfl, ?_, ?_, fun j hj => ?_⟩
  · rcases h.2 with ⟨hv, hz⟩ | ⟨g, cap, cur, hv, _, _, hc, _⟩
    · omega
    · injection hv with _ _ hv
      omega
  · rcases h.2 with ⟨hv, hz⟩ | ⟨g, cap, cur, hv, _, _, hc, hm, _⟩
    · omega
    · simp only [maxLen] at hm
      omega
  · obtain ⟨g, cap, he, _, _⟩ := h.form (by omega)
    injection he with he _ _
    subst he
    obtain ⟨⟨k, x⟩, hkx⟩ : ∃ a, l[j]? = some a := ⟨_, List.getElem?_eq_getElem hj⟩
    obtain ⟨c1, c2⟩ := attrCells_get l j k x hkx
    have c0 := attrCells_get0 l j k x hkx
    have hb : ((⟨g, 0, none⟩ : Addr).add (j * 3)) = ⟨g, j * 3, none⟩ := by
      unfold Addr.add
      by_cases h0 : j * 3 = 0 <;> simp [h0]
    have d0 := h.cells (g := g) rfl _ _ c0
    have d1 := h.cells (g := g) rfl _ _ c1
    have d2 := h.cells (g := g) rfl _ _ c2
    have e1 : ((⟨g, 0, none⟩ : Addr).add (j * 3 + 1)) = ⟨g, j * 3 + 1, none⟩ := by unfold Addr.add; simp
    have e2 : ((⟨g, 0, none⟩ : Addr).add (j * 3 + 2)) = ⟨g, j * 3 + 2, none⟩ := by unfold Addr.add; simp
    rw [e1] at d1
    rw [e2] at d2
    refine ⟨_, k, x, rfl, hkx, d0, by rw [hb]; exact d1, by rw [hb]; exact d2, ?_⟩
    exact World.block_lt_of_cell? w _ d0
set_option maxRecDepth 100000 in
set_option maxHeartbeats 1600000 in
theorem getAttribute_any {w : World} {H : NMap} (hw : Holds w H) {b : Nat} {par f l v x : Option Nat} {q : Pay} (hb : H b = some ⟨par, f, l, v, x, q⟩) (key : ByteArray) :
    Calls Tryd.prog 54 #[.pointer (some ⟨b, 0, none⟩), .string key] w fun e w' => e = .returned (.tuple #[.string ((seek key q.attrs).getD ⟨#[]⟩), .bool (seek key q.attrs).isSome]) ∧ Below w.heap.size w w' := by
  obtain ⟨-, -, -, -, -, -, -, -, b9⟩ := hw.opened hb
  obtain ⟨A, c, hv, hc, hm, hat⟩ := attrs_at (hw.attrs b _ hb)
  simp only at hv hc hm hat
  rw [hv] at b9
  have HAT := Lib.hid hat
  generalize q.attrs = at_ at *
  clear hw hb hv hat
  go_enter Tryd.func54, Tryd.ntmps54
  go_wp2
  go_loopw [13] (fun k0 wr => ∃ j : Nat, k0 = .int .i64 j ∧ j ≤ at_.length ∧ (∀ a ∈ at_.take j, (a.1.toList == key.toList) = false) ∧ Below w.heap.size w wr) (fun k0 _ => at_.length - (intOf k0).toNat)
  case atStart => exact ⟨0, rfl, Nat.zero_le _, by simp, Below.refl _ _⟩
  case round =>
    obtain ⟨j, rfl, hj, hno, hbw⟩ := hrel
    have HNO := Lib.hid hno
    have HBW := Lib.hid hbw
    clear hno hbw
    by_cases hlt : j < at_.length
    · obtain ⟨ad, k, y, rfl, hk, d0, d1, d2, hbl⟩ := HAT.out j hlt
      replace d0 := (HBW.out.cell hbl).trans d0
      replace d1 := (HBW.out.cell (p := ⟨(ad.add (j * 3)).block, (ad.add (j * 3)).off + 1, none⟩) hbl).trans d1
      replace d2 := (HBW.out.cell (p := ⟨(ad.add (j * 3)).block, (ad.add (j * 3)).off + 2, none⟩) hbl).trans d2
      have HK := Lib.hid hk
      clear hk
      cases hh : (k.toList == key.toList) with
      | true =>
        go_wp2
        go_ret2
        have h := seek_hit HNO.out HK.out hh
        rw [h]
        exact ⟨rfl, below_alloc HBW.out _⟩
      | false =>
        go_wp2
        go_roundw
        case rel =>
          refine ⟨j + 1, by go_num, hlt, fun a ha => ?_, below_alloc HBW.out _⟩
          rw [List.take_add_one, HK.out] at ha
          rcases List.mem_append.1 ha with ha | ha
          · exact HNO.out a ha
          · simp only [Option.toList_some, List.mem_singleton] at ha
            rw [ha]
            exact hh
        case measure => simp [intOf]; omega
    · obtain rfl : j = at_.length := by omega
      go_wp2
      go_ret2
      have h := HNO.out
      rw [List.take_length] at h
      rw [seek_none h]
      exact ⟨rfl, HBW.out⟩
set_option maxRecDepth 100000 in
set_option maxHeartbeats 1600000 in
theorem getAttributeOr_any {w : World} {H : NMap} (hw : Holds w H) {b : Nat} {par f l v x : Option Nat} {q : Pay} (hb : H b = some ⟨par, f, l, v, x, q⟩) (key fb : ByteArray) :
    Calls Tryd.prog 100 #[.pointer (some ⟨b, 0, none⟩), .string key, .string fb] w fun e w' => e = .returned (.string ((seek key q.attrs).getD fb)) ∧ Below w.heap.size w w' := by
  obtain ⟨-, -, -, -, -, -, -, -, b9⟩ := hw.opened hb
  obtain ⟨A, c, hv, hc, hm, hat⟩ := attrs_at (hw.attrs b _ hb)
  simp only at hv hc hm hat
  rw [hv] at b9
  have HAT := Lib.hid hat
  generalize q.attrs = at_ at *
  clear hw hb hv hat
  go_enter Tryd.func100, Tryd.ntmps100
  go_wp2
  go_loopw [14] (fun k0 wr => ∃ j : Nat, k0 = .int .i64 j ∧ j ≤ at_.length ∧ (∀ a ∈ at_.take j, (a.1.toList == key.toList) = false) ∧ Below w.heap.size w wr) (fun k0 _ => at_.length - (intOf k0).toNat)
  case atStart => exact ⟨0, rfl, Nat.zero_le _, by simp, Below.refl _ _⟩
  case round =>
    obtain ⟨j, rfl, hj, hno, hbw⟩ := hrel
    have HNO := Lib.hid hno
    have HBW := Lib.hid hbw
    clear hno hbw
    by_cases hlt : j < at_.length
    · obtain ⟨ad, k, y, rfl, hk, d0, d1, d2, hbl⟩ := HAT.out j hlt
      replace d0 := (HBW.out.cell hbl).trans d0
      replace d1 := (HBW.out.cell (p := ⟨(ad.add (j * 3)).block, (ad.add (j * 3)).off + 1, none⟩) hbl).trans d1
      replace d2 := (HBW.out.cell (p := ⟨(ad.add (j * 3)).block, (ad.add (j * 3)).off + 2, none⟩) hbl).trans d2
      have HK := Lib.hid hk
      clear hk
      cases hh : (k.toList == key.toList) with
      | true =>
        go_wp2
        go_ret
        have h := seek_hit HNO.out HK.out hh
        rw [h]
        exact ⟨rfl, below_alloc HBW.out _⟩
      | false =>
        go_wp2
        go_roundw
        case rel =>
          refine ⟨j + 1, by go_num, hlt, fun a ha => ?_, below_alloc HBW.out _⟩
          rw [List.take_add_one, HK.out] at ha
          rcases List.mem_append.1 ha with ha | ha
          · exact HNO.out a ha
          · simp only [Option.toList_some, List.mem_singleton] at ha
            rw [ha]
            exact hh
        case measure => simp [intOf]; omega
    · obtain rfl : j = at_.length := by omega
      go_wp2
      go_ret
      have h := HNO.out
      rw [List.take_length] at h
      rw [seek_none h]
      exact ⟨rfl, HBW.out⟩
end Go.Proofs.YtlallihdiffheaaDoor.Hand
