/- dom's first children and siblings, by hand. -/
import Derived.Test.YtlallihdiffheaaKids
namespace Go.Proofs.Ytlallihdiffheaa.Dom
open Go.RowKit Go.Proofs.YtlallihdiffheaaW.PrintWords Go.Proofs.YtlallihdiffheaaW.PrintLast Go.Proofs.YtlallihdiffheaaW.PrintMore Go.Proofs.Ytlallihdiffheaa.GT Go.Proofs.Ytlallihdiffheaa.Hand
set_option linter.unusedVariables false
set_option linter.unusedSimpArgs false

theorem rowK_head (r : F Pay) (i : Nat) : ((rowK false r i).head?).map Prod.fst = r.headOr none := by
  cases r with
  | nil => rfl
  | node b p k r => simp [rowK, F.headOr]
theorem rowK_last (a : F Pay) (i : Nat) : ((rowK false a i).getLast?).map Prod.fst = a.lastOr none := by
  rcases snoc_split a with h | ⟨a2, l, q, k, h⟩
  · subst h; rfl
  · subst h
    rw [rowK_app, F.lastOr_app]
    simp [rowK, F.lastOr]
variable {w : World} {H : NMap} {c : Nat} {par first last prev next : Option Nat} {q : Pay}
theorem firstNode_any (hw : Holds w H) (hc : H c = some ⟨par, first, last, prev, next, q⟩) : Calls Try.prog 117 #[.pointer (some ⟨c, 0, none⟩)] w fun e w' => e = .returned (ptrV first) ∧ w' = w := by
  obtain ⟨u, hu⟩ := ptrV_form first
  have n1 := (hw.opened hc).2.1
  rw [hu] at n1 ⊢
  clear hw hc hu
  go_enter Try.func117, Try.ntmps117
  go_wp2
  go_ret
  exact ⟨rfl, rfl⟩
theorem prevNode_any (hw : Holds w H) (hc : H c = some ⟨par, first, last, prev, next, q⟩) : Calls Try.prog 119 #[.pointer (some ⟨c, 0, none⟩)] w fun e w' => e = .returned (ptrV prev) ∧ w' = w := by
  obtain ⟨u, hu⟩ := ptrV_form prev
  have n1 := (hw.opened hc).2.2.2.1
  rw [hu] at n1 ⊢
  clear hw hc hu
  go_enter Try.func119, Try.ntmps119
  go_wp2
  go_ret
  exact ⟨rfl, rfl⟩
theorem nextNode_any (hw : Holds w H) (hc : H c = some ⟨par, first, last, prev, next, q⟩) : Calls Try.prog 121 #[.pointer (some ⟨c, 0, none⟩)] w fun e w' => e = .returned (ptrV next) ∧ w' = w := by
  obtain ⟨u, hu⟩ := ptrV_form next
  have n1 := (hw.opened hc).2.2.2.2.1
  rw [hu] at n1 ⊢
  clear hw hc hu
  go_enter Try.func121, Try.ntmps121
  go_wp2
  go_ret
  exact ⟨rfl, rfl⟩
theorem skip_any (w : World) (v : Value) : Calls Try.prog 153 #[v] w fun e w' => e = .returned (ptrV none) ∧ w' = w := by
  go_enter Try.func153, Try.ntmps153
  go_wp2
  go_ret
  exact ⟨rfl, rfl⟩
set_option maxRecDepth 100000 in
set_option maxHeartbeats 1600000 in
theorem firstElement_any (hw : Holds w H) (hc : H c = some ⟨par, first, last, prev, next, q⟩) {r : F Pay} (hr : first = r.headOr none) {pp pv : Option Nat} (hs : Sits H pp pv none r) (i : Nat) : Calls Try.prog 118 #[.pointer (some ⟨c, 0, none⟩)] w fun e w' => e = .returned (ptrV (((rowK true r i).head?).map Prod.fst)) ∧ w' = w := by
  obtain ⟨u, hu⟩ := ptrV_form (r.headOr none)
  have n1 := (hw.opened hc).2.1
  rw [hr, hu] at n1
  obtain ⟨R, hR⟩ : ∃ R, R = ((rowK true r i).head?).map Prod.fst := ⟨_, rfl⟩
  rw [← hR]
  have HR := Lib.hid hR
  have HU := Lib.hid hu
  have HW := Lib.hid hw
  have HS := Lib.hid hs
  clear hw hc hu hs hr hR
  go_enter Try.func118, Try.ntmps118
  go_wp2
  go_loopg [3] r.len (fun gk c0 wr => ∃ (k0 rest : F Pay), c0 = ptrV (rest.headOr none) ∧ gk = rest.len ∧ r = k0.app rest ∧ rowK true k0 i = [] ∧ wr = w)
  case atStart => exact ⟨.nil, r, HU.out.symm, rfl, rfl, rfl, rfl⟩
  case round =>
    obtain ⟨k0, rest, rfl, rfl, hkk, hnone, rfl⟩ := hrel
    rcases headOr_cases rest with hg | ⟨d, dq, dk, r2, hg⟩
    · subst hg
      simp only [show ptrV ((F.nil : F Pay).headOr none) = .pointer none from rfl]
      have hRn : R = none := by rw [HR.out, hkk, F.app_nil, hnone]; rfl
      subst hRn
      clear hkk hnone
      go_wp2
      go_ret
      exact ⟨rfl, rfl⟩
    · subst hg
      simp only [show ptrV ((F.node d dq dk r2).headOr none) = .pointer (some ⟨d, 0, none⟩) from rfl]
      have hss := HS.out
      rw [hkk] at hss
      obtain ⟨-, hd, -, -⟩ := (sits_app H k0 _ _ _ _).1 hss
      have ho := HW.out.opened hd
      have hnext := ho.2.2.2.2.1
      have htype := ho.2.2.2.2.2.1
      obtain ⟨u4, hu4⟩ := ptrV_form (r2.headOr none)
      rw [hu4] at hnext
      have happ := rowK_app true k0 (.node d dq dk r2) i
      rw [← hkk, hnone, List.nil_append] at happ
      have HU4 := Lib.hid hu4
      by_cases ht : dq.type = 3
      · rw [ht] at htype
        have hRn : R = some d := by rw [HR.out, happ, rowK, if_pos (.inr ht)]; rfl
        subst hRn
        clear hkk hnone hss hd ho hu4 happ ht
        go_wp2
        go_ret
        exact ⟨rfl, rfl⟩
      · have hbt : (dq.type == 3) = false := by simpa using ht
        have HN := Lib.hid (show rowK true (k0.app (.node d dq dk .nil)) i = [] by rw [rowK_app, hnone, List.nil_append, rowK, if_neg (fun h => h.elim (fun h => by cases h) ht)]; rfl)
        have HKK := Lib.hid hkk
        clear hkk hnone hss hd ho hu4 happ ht
        go_wp2
        go_roundg r2.len
        case measure => simp [F.len]
        case rel => exact ⟨k0.app (.node d dq dk .nil), r2, HU4.out.symm, rfl, by rw [F.app_assoc]; exact HKK.out, HN.out, rfl⟩
set_option maxRecDepth 100000 in
set_option maxHeartbeats 1600000 in
theorem nextElement_any (hw : Holds w H) (hc : H c = some ⟨par, first, last, prev, next, q⟩) {r : F Pay} (hr : next = r.headOr none) {pp pv : Option Nat} (hs : Sits H pp pv none r) (i : Nat) : Calls Try.prog 122 #[.pointer (some ⟨c, 0, none⟩)] w fun e w' => e = .returned (ptrV (((rowK true r i).head?).map Prod.fst)) ∧ w' = w := by
  obtain ⟨u, hu⟩ := ptrV_form (r.headOr none)
  have n1 := (hw.opened hc).2.2.2.2.1
  rw [hr, hu] at n1
  obtain ⟨R, hR⟩ : ∃ R, R = ((rowK true r i).head?).map Prod.fst := ⟨_, rfl⟩
  rw [← hR]
  have HR := Lib.hid hR
  have HU := Lib.hid hu
  have HW := Lib.hid hw
  have HS := Lib.hid hs
  clear hw hc hu hs hr hR
  go_enter Try.func122, Try.ntmps122
  go_wp2
  go_loopg [3] r.len (fun gk c0 wr => ∃ (k0 rest : F Pay), c0 = ptrV (rest.headOr none) ∧ gk = rest.len ∧ r = k0.app rest ∧ rowK true k0 i = [] ∧ wr = w)
  case atStart => exact ⟨.nil, r, HU.out.symm, rfl, rfl, rfl, rfl⟩
  case round =>
    obtain ⟨k0, rest, rfl, rfl, hkk, hnone, rfl⟩ := hrel
    rcases headOr_cases rest with hg | ⟨d, dq, dk, r2, hg⟩
    · subst hg
      simp only [show ptrV ((F.nil : F Pay).headOr none) = .pointer none from rfl]
      have hRn : R = none := by rw [HR.out, hkk, F.app_nil, hnone]; rfl
      subst hRn
      clear hkk hnone
      go_wp2
      go_ret
      exact ⟨rfl, rfl⟩
    · subst hg
      simp only [show ptrV ((F.node d dq dk r2).headOr none) = .pointer (some ⟨d, 0, none⟩) from rfl]
      have hss := HS.out
      rw [hkk] at hss
      obtain ⟨-, hd, -, -⟩ := (sits_app H k0 _ _ _ _).1 hss
      have ho := HW.out.opened hd
      have hnext := ho.2.2.2.2.1
      have htype := ho.2.2.2.2.2.1
      obtain ⟨u4, hu4⟩ := ptrV_form (r2.headOr none)
      rw [hu4] at hnext
      have happ := rowK_app true k0 (.node d dq dk r2) i
      rw [← hkk, hnone, List.nil_append] at happ
      have HU4 := Lib.hid hu4
      by_cases ht : dq.type = 3
      · rw [ht] at htype
        have hRn : R = some d := by rw [HR.out, happ, rowK, if_pos (.inr ht)]; rfl
        subst hRn
        clear hkk hnone hss hd ho hu4 happ ht
        go_wp2
        go_ret
        exact ⟨rfl, rfl⟩
      · have hbt : (dq.type == 3) = false := by simpa using ht
        have HN := Lib.hid (show rowK true (k0.app (.node d dq dk .nil)) i = [] by rw [rowK_app, hnone, List.nil_append, rowK, if_neg (fun h => h.elim (fun h => by cases h) ht)]; rfl)
        have HKK := Lib.hid hkk
        clear hkk hnone hss hd ho hu4 happ ht
        go_wp2
        go_roundg r2.len
        case measure => simp [F.len]
        case rel => exact ⟨k0.app (.node d dq dk .nil), r2, HU4.out.symm, rfl, by rw [F.app_assoc]; exact HKK.out, HN.out, rfl⟩
set_option maxRecDepth 100000 in
set_option maxHeartbeats 1600000 in
theorem prevElement_any (hw : Holds w H) (hc : H c = some ⟨par, first, last, prev, next, q⟩) {a : F Pay} (hr : prev = a.lastOr none) {pp nx : Option Nat} (hs : Sits H pp none nx a) : Calls Try.prog 120 #[.pointer (some ⟨c, 0, none⟩)] w fun e w' => e = .returned (ptrV (((rowK true a 0).getLast?).map Prod.fst)) ∧ w' = w := by
  obtain ⟨u, hu⟩ := ptrV_form (a.lastOr none)
  have n1 := (hw.opened hc).2.2.2.1
  rw [hr, hu] at n1
  obtain ⟨R, hR⟩ : ∃ R, R = ((rowK true a 0).getLast?).map Prod.fst := ⟨_, rfl⟩
  rw [← hR]
  have HR := Lib.hid hR
  have HU := Lib.hid hu
  have HW := Lib.hid hw
  have HS := Lib.hid hs
  clear hw hc hu hs hr hR
  go_enter Try.func120, Try.ntmps120
  go_wp2
  go_loopg [3] a.len (fun gk c0 wr => ∃ (a1 rest : F Pay), c0 = ptrV (a1.lastOr none) ∧ gk = a1.len ∧ a = a1.app rest ∧ rowK true rest a1.len = [] ∧ wr = w)
  case atStart => exact ⟨a, .nil, HU.out.symm, rfl, (F.app_nil a).symm, rfl, rfl⟩
  case round =>
    obtain ⟨a1, rest, rfl, rfl, hkk, hnone, rfl⟩ := hrel
    rcases snoc_split a1 with hg | ⟨a2, d, dq, dk, hg⟩
    · subst hg
      simp only [show ptrV ((F.nil : F Pay).lastOr none) = .pointer none from rfl]
      have hRn : R = none := by
        rw [HR.out, hkk]
        have h : rowK true ((F.nil : F Pay).app rest) 0 = [] := hnone
        rw [h]
        rfl
      subst hRn
      clear hkk hnone
      go_wp2
      go_ret
      exact ⟨rfl, rfl⟩
    · subst hg
      have hs2 := HS.out
      rw [hkk, F.app_assoc] at hs2
      obtain ⟨-, hs3⟩ := (sits_app H a2 _ _ _ _).1 hs2
      have ho := HW.out.opened hs3.1
      have hprev := ho.2.2.2.1
      have htype := ho.2.2.2.2.2.1
      obtain ⟨u4, hu4⟩ := ptrV_form (a2.lastOr none)
      rw [hu4] at hprev
      have hlr : (a2.app (F.node d dq dk .nil)).lastOr none = some d := by rw [F.lastOr_app]; rfl
      simp only [hlr, show ptrV (some d) = .pointer (some ⟨d, 0, none⟩) from rfl]
      have happ : rowK true a 0 = rowK true a2 0 ++ rowK true (.node d dq dk .nil) a2.len := by
        rw [hkk, rowK_app, Nat.zero_add, hnone, List.append_nil, rowK_app, Nat.zero_add]
      have HU4 := Lib.hid hu4
      by_cases ht : dq.type = 3
      · rw [ht] at htype
        have hRn : R = some d := by rw [HR.out, happ, rowK, if_pos (.inr ht)]; simp [rowK]
        subst hRn
        clear hkk hnone hs2 hs3 ho hu4 happ ht hlr
        go_wp2
        go_ret
        exact ⟨rfl, rfl⟩
      · have hbt : (dq.type == 3) = false := by simpa using ht
        have HN := Lib.hid (show rowK true ((F.node d dq dk .nil).app rest) a2.len = [] by
          rw [F.len_app] at hnone
          rw [rowK_app, rowK, if_neg (fun h => h.elim (fun h => by cases h) ht)]
          exact hnone)
        have HKK := Lib.hid hkk
        clear hkk hnone hs2 hs3 ho hu4 happ ht hlr
        go_wp2
        go_roundg a2.len
        case measure => rw [F.len_app]; simp [F.len]
        case rel => exact ⟨a2, (F.node d dq dk .nil).app rest, HU4.out.symm, rfl, by rw [HKK.out, F.app_assoc], HN.out, rfl⟩
end Go.Proofs.Ytlallihdiffheaa.Dom
