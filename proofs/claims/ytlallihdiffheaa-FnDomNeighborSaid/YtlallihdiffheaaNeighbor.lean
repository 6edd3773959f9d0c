/- dom's eight neighbors, impl.neighbor and impl.Neighbor by hand. -/
import Derived.Test.YtlallihdiffheaaNearN
namespace Go.Proofs.Ytlallihdiffheaa.Dom
open Go.RowKit Go.Proofs.YtlallihdiffheaaW.PrintWords Go.Proofs.YtlallihdiffheaaW.PrintLast Go.Proofs.YtlallihdiffheaaW.PrintMore Go.Proofs.Ytlallihdiffheaa.GT Go.Proofs.Ytlallihdiffheaa.Hand
set_option linter.unusedVariables false
set_option linter.unusedSimpArgs false
set_option linter.unusedSectionVars false

def initW (w : World) (F1 S G : Nat) : World := ((w.alloc (.cells #[.func (.func F1) #[] #[]] 121 (0, 0))).alloc (.cells #[.func (.func S) #[] #[]] 121 (0, 0))).alloc (.cells #[.func (.func G) #[] #[]] 95 (0, 0))
theorem init_any (w : World) (F1 S G : Nat) : Calls Try.prog 151 #[.func (.func F1) #[] #[], .func (.func S) #[] #[], .func (.func G) #[] #[]] w fun e w' => e = .returned (.func (.func 170) #[] #[.pointer (some ⟨w.heap.size, 0, none⟩), .pointer (some ⟨w.heap.size + 1, 0, none⟩), .pointer (some ⟨w.heap.size + 1 + 1, 0, none⟩)]) ∧ w' = initW w F1 S G := by
  have hmf : ∀ (fn : Fn) (first cap : Array Value) (w : World), (Instr.makeFunc fn first cap).run Try.prog w = .ok (.func fn first cap) w := fun _ _ _ _ => rfl
  go_enter Try.func151, Try.ntmps151
  go_wp2
  go_ret
  exact ⟨rfl, rfl⟩
theorem init_facts (w : World) (F1 S G : Nat) : (initW w F1 S G).cell? ⟨w.heap.size, 0, none⟩ = some (.func (.func F1) #[] #[]) ∧ (initW w F1 S G).cell? ⟨w.heap.size + 1, 0, none⟩ = some (.func (.func S) #[] #[]) ∧ (initW w F1 S G).cell? ⟨w.heap.size + 1 + 1, 0, none⟩ = some (.func (.func G) #[] #[]) ∧ Below w.heap.size w (initW w F1 S G) := by
  have h0 : (initW w F1 S G).heap[w.heap.size]? = some (.cells #[.func (.func F1) #[] #[]] 121 (0, 0)) := by
    unfold initW
    rw [Below.heap_alloc _ _ _ (by simp only [World.size_alloc]; omega), Below.heap_alloc _ _ _ (by simp only [World.size_alloc]; omega)]
    exact heap_alloc_new _ _
  have h1 : (initW w F1 S G).heap[w.heap.size + 1]? = some (.cells #[.func (.func S) #[] #[]] 121 (0, 0)) := by
    unfold initW
    rw [Below.heap_alloc _ _ _ (by simp only [World.size_alloc]; omega), ← World.size_alloc w]
    exact heap_alloc_new _ _
  have h2 : (initW w F1 S G).heap[w.heap.size + 1 + 1]? = some (.cells #[.func (.func G) #[] #[]] 95 (0, 0)) := by
    unfold initW
    rw [← World.size_alloc w, ← World.size_alloc (w.alloc _)]
    exact heap_alloc_new _ _
  exact ⟨(out_cell h0 0).1, (out_cell h1 0).1, (out_cell h2 0).1, below_alloc (below_alloc (below_alloc (Below.refl _ _) _) _) _⟩
section
variable {w : World} {H : NMap} {b : Nat} {p : Pay} {k : F Pay} (hw : Holds w H) (hs : Sits H none none none (.node b p k .nil)) (hn : Neat (.node b p k .nil)) {js : List Int} {c : Nat} {q : Pay} {ck : F Pay} (hsub : subF b p k js = some (c, q, ck))
include hw hs hn hsub
set_option maxRecDepth 100000 in
set_option maxHeartbeats 1600000 in
theorem GetNextNeighborNode_any : Calls Try.prog 109 #[.pointer (some ⟨c, 0, none⟩)] w fun en w' => en = .returned (ptrV ((nearK (some false) true false b p k js ck).map Prod.fst)) ∧ Below w.heap.size w w' := by
  obtain ⟨i1, i2, i3, i4⟩ := init_facts w 117 121 152
  have hcl := closure_any firstNode_C nextNode_C (fun v W => enters Try.func117 (by rfl) (by rfl) _ _) (fun v W => enters Try.func121 (by rfl) (by rfl) _ _) (hw.below i4) hs hn hsub w.heap.size (w.heap.size + 1) (w.heap.size + 1 + 1) i1 i2 i3
  have hent : ∀ W, (callFunc 170 #[.pointer (some ⟨c, 0, none⟩), .pointer (some ⟨w.heap.size, 0, none⟩), .pointer (some ⟨w.heap.size + 1, 0, none⟩), .pointer (some ⟨w.heap.size + 1 + 1, 0, none⟩)]).run Try.prog W = .ok (.enter 170 #[.pointer (some ⟨c, 0, none⟩), .pointer (some ⟨w.heap.size, 0, none⟩), .pointer (some ⟨w.heap.size + 1, 0, none⟩), .pointer (some ⟨w.heap.size + 1 + 1, 0, none⟩)]) W :=
    fun W => enters Try.func170 (by rfl) (by rfl) _ _
  obtain ⟨R, hR⟩ : ∃ R, R = (nearK (some false) true false b p k js ck).map Prod.fst := ⟨_, rfl⟩
  rw [← hR] at hcl ⊢
  obtain ⟨u, hu⟩ := ptrV_form R
  rw [hu] at hcl ⊢
  have HCL := Lib.hid hcl
  have I4 := Lib.hid i4
  clear hw hs hn hsub i1 i2 i3 i4 hcl hR hu
  go_enter Try.func109, Try.ntmps109
  go_wp2_with (first
    | (go_at_call 151; refine (init_any _ _ _ _).mono ?_; rintro en w1 ⟨rfl, rfl⟩)
    | (refine HCL.out.mono ?_; rintro en w1 ⟨rfl, rfl⟩))
  go_ret
  exact ⟨rfl, I4.out⟩
set_option maxRecDepth 100000 in
set_option maxHeartbeats 1600000 in
theorem GetNextNeighborElement_any : Calls Try.prog 110 #[.pointer (some ⟨c, 0, none⟩)] w fun en w' => en = .returned (ptrV ((nearK (some true) true true b p k js ck).map Prod.fst)) ∧ Below w.heap.size w w' := by
  obtain ⟨i1, i2, i3, i4⟩ := init_facts w 118 122 152
  have hcl := closure_any firstElement_C nextElement_C (fun v W => enters Try.func118 (by rfl) (by rfl) _ _) (fun v W => enters Try.func122 (by rfl) (by rfl) _ _) (hw.below i4) hs hn hsub w.heap.size (w.heap.size + 1) (w.heap.size + 1 + 1) i1 i2 i3
  have hent : ∀ W, (callFunc 170 #[.pointer (some ⟨c, 0, none⟩), .pointer (some ⟨w.heap.size, 0, none⟩), .pointer (some ⟨w.heap.size + 1, 0, none⟩), .pointer (some ⟨w.heap.size + 1 + 1, 0, none⟩)]).run Try.prog W = .ok (.enter 170 #[.pointer (some ⟨c, 0, none⟩), .pointer (some ⟨w.heap.size, 0, none⟩), .pointer (some ⟨w.heap.size + 1, 0, none⟩), .pointer (some ⟨w.heap.size + 1 + 1, 0, none⟩)]) W :=
    fun W => enters Try.func170 (by rfl) (by rfl) _ _
  obtain ⟨R, hR⟩ : ∃ R, R = (nearK (some true) true true b p k js ck).map Prod.fst := ⟨_, rfl⟩
  rw [← hR] at hcl ⊢
  obtain ⟨u, hu⟩ := ptrV_form R
  rw [hu] at hcl ⊢
  have HCL := Lib.hid hcl
  have I4 := Lib.hid i4
  clear hw hs hn hsub i1 i2 i3 i4 hcl hR hu
  go_enter Try.func110, Try.ntmps110
  go_wp2_with (first
    | (go_at_call 151; refine (init_any _ _ _ _).mono ?_; rintro en w1 ⟨rfl, rfl⟩)
    | (refine HCL.out.mono ?_; rintro en w1 ⟨rfl, rfl⟩))
  go_ret
  exact ⟨rfl, I4.out⟩
set_option maxRecDepth 100000 in
set_option maxHeartbeats 1600000 in
theorem GetNextNeighborNodeExcludingOwnChild_any : Calls Try.prog 111 #[.pointer (some ⟨c, 0, none⟩)] w fun en w' => en = .returned (ptrV ((nearK (none) true false b p k js ck).map Prod.fst)) ∧ Below w.heap.size w w' := by
  obtain ⟨i1, i2, i3, i4⟩ := init_facts w 153 121 152
  have hcl := closure_any skip_C nextNode_C (fun v W => enters Try.func153 (by rfl) (by rfl) _ _) (fun v W => enters Try.func121 (by rfl) (by rfl) _ _) (hw.below i4) hs hn hsub w.heap.size (w.heap.size + 1) (w.heap.size + 1 + 1) i1 i2 i3
  have hent : ∀ W, (callFunc 170 #[.pointer (some ⟨c, 0, none⟩), .pointer (some ⟨w.heap.size, 0, none⟩), .pointer (some ⟨w.heap.size + 1, 0, none⟩), .pointer (some ⟨w.heap.size + 1 + 1, 0, none⟩)]).run Try.prog W = .ok (.enter 170 #[.pointer (some ⟨c, 0, none⟩), .pointer (some ⟨w.heap.size, 0, none⟩), .pointer (some ⟨w.heap.size + 1, 0, none⟩), .pointer (some ⟨w.heap.size + 1 + 1, 0, none⟩)]) W :=
    fun W => enters Try.func170 (by rfl) (by rfl) _ _
  obtain ⟨R, hR⟩ : ∃ R, R = (nearK (none) true false b p k js ck).map Prod.fst := ⟨_, rfl⟩
  rw [← hR] at hcl ⊢
  obtain ⟨u, hu⟩ := ptrV_form R
  rw [hu] at hcl ⊢
  have HCL := Lib.hid hcl
  have I4 := Lib.hid i4
  clear hw hs hn hsub i1 i2 i3 i4 hcl hR hu
  go_enter Try.func111, Try.ntmps111
  go_wp2_with (first
    | (go_at_call 151; refine (init_any _ _ _ _).mono ?_; rintro en w1 ⟨rfl, rfl⟩)
    | (refine HCL.out.mono ?_; rintro en w1 ⟨rfl, rfl⟩))
  go_ret
  exact ⟨rfl, I4.out⟩
set_option maxRecDepth 100000 in
set_option maxHeartbeats 1600000 in
theorem GetNextNeighborElementExcludingOwnChild_any : Calls Try.prog 112 #[.pointer (some ⟨c, 0, none⟩)] w fun en w' => en = .returned (ptrV ((nearK (none) true true b p k js ck).map Prod.fst)) ∧ Below w.heap.size w w' := by
  obtain ⟨i1, i2, i3, i4⟩ := init_facts w 153 122 152
  have hcl := closure_any skip_C nextElement_C (fun v W => enters Try.func153 (by rfl) (by rfl) _ _) (fun v W => enters Try.func122 (by rfl) (by rfl) _ _) (hw.below i4) hs hn hsub w.heap.size (w.heap.size + 1) (w.heap.size + 1 + 1) i1 i2 i3
  have hent : ∀ W, (callFunc 170 #[.pointer (some ⟨c, 0, none⟩), .pointer (some ⟨w.heap.size, 0, none⟩), .pointer (some ⟨w.heap.size + 1, 0, none⟩), .pointer (some ⟨w.heap.size + 1 + 1, 0, none⟩)]).run Try.prog W = .ok (.enter 170 #[.pointer (some ⟨c, 0, none⟩), .pointer (some ⟨w.heap.size, 0, none⟩), .pointer (some ⟨w.heap.size + 1, 0, none⟩), .pointer (some ⟨w.heap.size + 1 + 1, 0, none⟩)]) W :=
    fun W => enters Try.func170 (by rfl) (by rfl) _ _
  obtain ⟨R, hR⟩ : ∃ R, R = (nearK (none) true true b p k js ck).map Prod.fst := ⟨_, rfl⟩
  rw [← hR] at hcl ⊢
  obtain ⟨u, hu⟩ := ptrV_form R
  rw [hu] at hcl ⊢
  have HCL := Lib.hid hcl
  have I4 := Lib.hid i4
  clear hw hs hn hsub i1 i2 i3 i4 hcl hR hu
  go_enter Try.func112, Try.ntmps112
  go_wp2_with (first
    | (go_at_call 151; refine (init_any _ _ _ _).mono ?_; rintro en w1 ⟨rfl, rfl⟩)
    | (refine HCL.out.mono ?_; rintro en w1 ⟨rfl, rfl⟩))
  go_ret
  exact ⟨rfl, I4.out⟩
set_option maxRecDepth 100000 in
set_option maxHeartbeats 1600000 in
theorem GetPrevNeighborNode_any : Calls Try.prog 113 #[.pointer (some ⟨c, 0, none⟩)] w fun en w' => en = .returned (ptrV ((nearK (some false) false false b p k js ck).map Prod.fst)) ∧ Below w.heap.size w w' := by
  obtain ⟨i1, i2, i3, i4⟩ := init_facts w 117 119 152
  have hcl := closure_any firstNode_C prevNode_C (fun v W => enters Try.func117 (by rfl) (by rfl) _ _) (fun v W => enters Try.func119 (by rfl) (by rfl) _ _) (hw.below i4) hs hn hsub w.heap.size (w.heap.size + 1) (w.heap.size + 1 + 1) i1 i2 i3
  have hent : ∀ W, (callFunc 170 #[.pointer (some ⟨c, 0, none⟩), .pointer (some ⟨w.heap.size, 0, none⟩), .pointer (some ⟨w.heap.size + 1, 0, none⟩), .pointer (some ⟨w.heap.size + 1 + 1, 0, none⟩)]).run Try.prog W = .ok (.enter 170 #[.pointer (some ⟨c, 0, none⟩), .pointer (some ⟨w.heap.size, 0, none⟩), .pointer (some ⟨w.heap.size + 1, 0, none⟩), .pointer (some ⟨w.heap.size + 1 + 1, 0, none⟩)]) W :=
    fun W => enters Try.func170 (by rfl) (by rfl) _ _
  obtain ⟨R, hR⟩ : ∃ R, R = (nearK (some false) false false b p k js ck).map Prod.fst := ⟨_, rfl⟩
  rw [← hR] at hcl ⊢
  obtain ⟨u, hu⟩ := ptrV_form R
  rw [hu] at hcl ⊢
  have HCL := Lib.hid hcl
  have I4 := Lib.hid i4
  clear hw hs hn hsub i1 i2 i3 i4 hcl hR hu
  go_enter Try.func113, Try.ntmps113
  go_wp2_with (first
    | (go_at_call 151; refine (init_any _ _ _ _).mono ?_; rintro en w1 ⟨rfl, rfl⟩)
    | (refine HCL.out.mono ?_; rintro en w1 ⟨rfl, rfl⟩))
  go_ret
  exact ⟨rfl, I4.out⟩
set_option maxRecDepth 100000 in
set_option maxHeartbeats 1600000 in
theorem GetPrevNeighborElement_any : Calls Try.prog 114 #[.pointer (some ⟨c, 0, none⟩)] w fun en w' => en = .returned (ptrV ((nearK (some true) false true b p k js ck).map Prod.fst)) ∧ Below w.heap.size w w' := by
  obtain ⟨i1, i2, i3, i4⟩ := init_facts w 118 120 152
  have hcl := closure_any firstElement_C prevElement_C (fun v W => enters Try.func118 (by rfl) (by rfl) _ _) (fun v W => enters Try.func120 (by rfl) (by rfl) _ _) (hw.below i4) hs hn hsub w.heap.size (w.heap.size + 1) (w.heap.size + 1 + 1) i1 i2 i3
  have hent : ∀ W, (callFunc 170 #[.pointer (some ⟨c, 0, none⟩), .pointer (some ⟨w.heap.size, 0, none⟩), .pointer (some ⟨w.heap.size + 1, 0, none⟩), .pointer (some ⟨w.heap.size + 1 + 1, 0, none⟩)]).run Try.prog W = .ok (.enter 170 #[.pointer (some ⟨c, 0, none⟩), .pointer (some ⟨w.heap.size, 0, none⟩), .pointer (some ⟨w.heap.size + 1, 0, none⟩), .pointer (some ⟨w.heap.size + 1 + 1, 0, none⟩)]) W :=
    fun W => enters Try.func170 (by rfl) (by rfl) _ _
  obtain ⟨R, hR⟩ : ∃ R, R = (nearK (some true) false true b p k js ck).map Prod.fst := ⟨_, rfl⟩
  rw [← hR] at hcl ⊢
  obtain ⟨u, hu⟩ := ptrV_form R
  rw [hu] at hcl ⊢
  have HCL := Lib.hid hcl
  have I4 := Lib.hid i4
  clear hw hs hn hsub i1 i2 i3 i4 hcl hR hu
  go_enter Try.func114, Try.ntmps114
  go_wp2_with (first
    | (go_at_call 151; refine (init_any _ _ _ _).mono ?_; rintro en w1 ⟨rfl, rfl⟩)
    | (refine HCL.out.mono ?_; rintro en w1 ⟨rfl, rfl⟩))
  go_ret
  exact ⟨rfl, I4.out⟩
set_option maxRecDepth 100000 in
set_option maxHeartbeats 1600000 in
theorem GetPrevNeighborNodeExcludingOwnChild_any : Calls Try.prog 115 #[.pointer (some ⟨c, 0, none⟩)] w fun en w' => en = .returned (ptrV ((nearK (none) false false b p k js ck).map Prod.fst)) ∧ Below w.heap.size w w' := by
  obtain ⟨i1, i2, i3, i4⟩ := init_facts w 153 119 152
  have hcl := closure_any skip_C prevNode_C (fun v W => enters Try.func153 (by rfl) (by rfl) _ _) (fun v W => enters Try.func119 (by rfl) (by rfl) _ _) (hw.below i4) hs hn hsub w.heap.size (w.heap.size + 1) (w.heap.size + 1 + 1) i1 i2 i3
  have hent : ∀ W, (callFunc 170 #[.pointer (some ⟨c, 0, none⟩), .pointer (some ⟨w.heap.size, 0, none⟩), .pointer (some ⟨w.heap.size + 1, 0, none⟩), .pointer (some ⟨w.heap.size + 1 + 1, 0, none⟩)]).run Try.prog W = .ok (.enter 170 #[.pointer (some ⟨c, 0, none⟩), .pointer (some ⟨w.heap.size, 0, none⟩), .pointer (some ⟨w.heap.size + 1, 0, none⟩), .pointer (some ⟨w.heap.size + 1 + 1, 0, none⟩)]) W :=
    fun W => enters Try.func170 (by rfl) (by rfl) _ _
  obtain ⟨R, hR⟩ : ∃ R, R = (nearK (none) false false b p k js ck).map Prod.fst := ⟨_, rfl⟩
  rw [← hR] at hcl ⊢
  obtain ⟨u, hu⟩ := ptrV_form R
  rw [hu] at hcl ⊢
  have HCL := Lib.hid hcl
  have I4 := Lib.hid i4
  clear hw hs hn hsub i1 i2 i3 i4 hcl hR hu
  go_enter Try.func115, Try.ntmps115
  go_wp2_with (first
    | (go_at_call 151; refine (init_any _ _ _ _).mono ?_; rintro en w1 ⟨rfl, rfl⟩)
    | (refine HCL.out.mono ?_; rintro en w1 ⟨rfl, rfl⟩))
  go_ret
  exact ⟨rfl, I4.out⟩
set_option maxRecDepth 100000 in
set_option maxHeartbeats 1600000 in
theorem GetPrevNeighborElementExcludingOwnChild_any : Calls Try.prog 116 #[.pointer (some ⟨c, 0, none⟩)] w fun en w' => en = .returned (ptrV ((nearK (none) false true b p k js ck).map Prod.fst)) ∧ Below w.heap.size w w' := by
  obtain ⟨i1, i2, i3, i4⟩ := init_facts w 153 120 152
  have hcl := closure_any skip_C prevElement_C (fun v W => enters Try.func153 (by rfl) (by rfl) _ _) (fun v W => enters Try.func120 (by rfl) (by rfl) _ _) (hw.below i4) hs hn hsub w.heap.size (w.heap.size + 1) (w.heap.size + 1 + 1) i1 i2 i3
  have hent : ∀ W, (callFunc 170 #[.pointer (some ⟨c, 0, none⟩), .pointer (some ⟨w.heap.size, 0, none⟩), .pointer (some ⟨w.heap.size + 1, 0, none⟩), .pointer (some ⟨w.heap.size + 1 + 1, 0, none⟩)]).run Try.prog W = .ok (.enter 170 #[.pointer (some ⟨c, 0, none⟩), .pointer (some ⟨w.heap.size, 0, none⟩), .pointer (some ⟨w.heap.size + 1, 0, none⟩), .pointer (some ⟨w.heap.size + 1 + 1, 0, none⟩)]) W :=
    fun W => enters Try.func170 (by rfl) (by rfl) _ _
  obtain ⟨R, hR⟩ : ∃ R, R = (nearK (none) false true b p k js ck).map Prod.fst := ⟨_, rfl⟩
  rw [← hR] at hcl ⊢
  obtain ⟨u, hu⟩ := ptrV_form R
  rw [hu] at hcl ⊢
  have HCL := Lib.hid hcl
  have I4 := Lib.hid i4
  clear hw hs hn hsub i1 i2 i3 i4 hcl hR hu
  go_enter Try.func116, Try.ntmps116
  go_wp2_with (first
    | (go_at_call 151; refine (init_any _ _ _ _).mono ?_; rintro en w1 ⟨rfl, rfl⟩)
    | (refine HCL.out.mono ?_; rintro en w1 ⟨rfl, rfl⟩))
  go_ret
  exact ⟨rfl, I4.out⟩
set_option maxRecDepth 100000 in
set_option maxHeartbeats 1600000 in
theorem neighbor0_any : Calls Try.prog 71 #[.pointer (some ⟨c, 0, none⟩), .int .i64 0] w fun en w' => en = .returned (ptrV ((nearK (some false) true false b p k js ck).map Prod.fst)) ∧ Below w.heap.size w w' := by
  have hcl := GetNextNeighborNode_any hw hs hn hsub
  obtain ⟨R, hR⟩ : ∃ R, R = (nearK (some false) true false b p k js ck).map Prod.fst := ⟨_, rfl⟩
  rw [← hR] at hcl ⊢
  obtain ⟨u, hu⟩ := ptrV_form R
  rw [hu] at hcl ⊢
  have HCL := Lib.hid hcl
  clear hw hs hn hsub hcl hR hu
  go_enter Try.func71, Try.ntmps71
  go_wp2_with (go_at_call 109; refine HCL.out.mono ?_; rintro en w1 ⟨rfl, hb1⟩; have HB1 := Lib.hid hb1; clear hb1)
  go_ret
  exact ⟨rfl, HB1.out⟩
set_option maxRecDepth 100000 in
set_option maxHeartbeats 1600000 in
theorem neighbor1_any : Calls Try.prog 71 #[.pointer (some ⟨c, 0, none⟩), .int .i64 1] w fun en w' => en = .returned (ptrV ((nearK (some true) true true b p k js ck).map Prod.fst)) ∧ Below w.heap.size w w' := by
  have hcl := GetNextNeighborElement_any hw hs hn hsub
  obtain ⟨R, hR⟩ : ∃ R, R = (nearK (some true) true true b p k js ck).map Prod.fst := ⟨_, rfl⟩
  rw [← hR] at hcl ⊢
  obtain ⟨u, hu⟩ := ptrV_form R
  rw [hu] at hcl ⊢
  have HCL := Lib.hid hcl
  clear hw hs hn hsub hcl hR hu
  go_enter Try.func71, Try.ntmps71
  go_wp2_with (go_at_call 110; refine HCL.out.mono ?_; rintro en w1 ⟨rfl, hb1⟩; have HB1 := Lib.hid hb1; clear hb1)
  go_ret
  exact ⟨rfl, HB1.out⟩
set_option maxRecDepth 100000 in
set_option maxHeartbeats 1600000 in
theorem neighbor2_any : Calls Try.prog 71 #[.pointer (some ⟨c, 0, none⟩), .int .i64 2] w fun en w' => en = .returned (ptrV ((nearK (none) true false b p k js ck).map Prod.fst)) ∧ Below w.heap.size w w' := by
  have hcl := GetNextNeighborNodeExcludingOwnChild_any hw hs hn hsub
  obtain ⟨R, hR⟩ : ∃ R, R = (nearK (none) true false b p k js ck).map Prod.fst := ⟨_, rfl⟩
  rw [← hR] at hcl ⊢
  obtain ⟨u, hu⟩ := ptrV_form R
  rw [hu] at hcl ⊢
  have HCL := Lib.hid hcl
  clear hw hs hn hsub hcl hR hu
  go_enter Try.func71, Try.ntmps71
  go_wp2_with (go_at_call 111; refine HCL.out.mono ?_; rintro en w1 ⟨rfl, hb1⟩; have HB1 := Lib.hid hb1; clear hb1)
  go_ret
  exact ⟨rfl, HB1.out⟩
set_option maxRecDepth 100000 in
set_option maxHeartbeats 1600000 in
theorem neighbor3_any : Calls Try.prog 71 #[.pointer (some ⟨c, 0, none⟩), .int .i64 3] w fun en w' => en = .returned (ptrV ((nearK (none) true true b p k js ck).map Prod.fst)) ∧ Below w.heap.size w w' := by
  have hcl := GetNextNeighborElementExcludingOwnChild_any hw hs hn hsub
  obtain ⟨R, hR⟩ : ∃ R, R = (nearK (none) true true b p k js ck).map Prod.fst := ⟨_, rfl⟩
  rw [← hR] at hcl ⊢
  obtain ⟨u, hu⟩ := ptrV_form R
  rw [hu] at hcl ⊢
  have HCL := Lib.hid hcl
  clear hw hs hn hsub hcl hR hu
  go_enter Try.func71, Try.ntmps71
  go_wp2_with (go_at_call 112; refine HCL.out.mono ?_; rintro en w1 ⟨rfl, hb1⟩; have HB1 := Lib.hid hb1; clear hb1)
  go_ret
  exact ⟨rfl, HB1.out⟩
set_option maxRecDepth 100000 in
set_option maxHeartbeats 1600000 in
theorem neighbor4_any : Calls Try.prog 71 #[.pointer (some ⟨c, 0, none⟩), .int .i64 4] w fun en w' => en = .returned (ptrV ((nearK (some false) false false b p k js ck).map Prod.fst)) ∧ Below w.heap.size w w' := by
  have hcl := GetPrevNeighborNode_any hw hs hn hsub
  obtain ⟨R, hR⟩ : ∃ R, R = (nearK (some false) false false b p k js ck).map Prod.fst := ⟨_, rfl⟩
  rw [← hR] at hcl ⊢
  obtain ⟨u, hu⟩ := ptrV_form R
  rw [hu] at hcl ⊢
  have HCL := Lib.hid hcl
  clear hw hs hn hsub hcl hR hu
  go_enter Try.func71, Try.ntmps71
  go_wp2_with (go_at_call 113; refine HCL.out.mono ?_; rintro en w1 ⟨rfl, hb1⟩; have HB1 := Lib.hid hb1; clear hb1)
  go_ret
  exact ⟨rfl, HB1.out⟩
set_option maxRecDepth 100000 in
set_option maxHeartbeats 1600000 in
theorem neighbor5_any : Calls Try.prog 71 #[.pointer (some ⟨c, 0, none⟩), .int .i64 5] w fun en w' => en = .returned (ptrV ((nearK (some true) false true b p k js ck).map Prod.fst)) ∧ Below w.heap.size w w' := by
  have hcl := GetPrevNeighborElement_any hw hs hn hsub
  obtain ⟨R, hR⟩ : ∃ R, R = (nearK (some true) false true b p k js ck).map Prod.fst := ⟨_, rfl⟩
  rw [← hR] at hcl ⊢
  obtain ⟨u, hu⟩ := ptrV_form R
  rw [hu] at hcl ⊢
  have HCL := Lib.hid hcl
  clear hw hs hn hsub hcl hR hu
  go_enter Try.func71, Try.ntmps71
  go_wp2_with (go_at_call 114; refine HCL.out.mono ?_; rintro en w1 ⟨rfl, hb1⟩; have HB1 := Lib.hid hb1; clear hb1)
  go_ret
  exact ⟨rfl, HB1.out⟩
set_option maxRecDepth 100000 in
set_option maxHeartbeats 1600000 in
theorem neighbor6_any : Calls Try.prog 71 #[.pointer (some ⟨c, 0, none⟩), .int .i64 6] w fun en w' => en = .returned (ptrV ((nearK (none) false false b p k js ck).map Prod.fst)) ∧ Below w.heap.size w w' := by
  have hcl := GetPrevNeighborNodeExcludingOwnChild_any hw hs hn hsub
  obtain ⟨R, hR⟩ : ∃ R, R = (nearK (none) false false b p k js ck).map Prod.fst := ⟨_, rfl⟩
  rw [← hR] at hcl ⊢
  obtain ⟨u, hu⟩ := ptrV_form R
  rw [hu] at hcl ⊢
  have HCL := Lib.hid hcl
  clear hw hs hn hsub hcl hR hu
  go_enter Try.func71, Try.ntmps71
  go_wp2_with (go_at_call 115; refine HCL.out.mono ?_; rintro en w1 ⟨rfl, hb1⟩; have HB1 := Lib.hid hb1; clear hb1)
  go_ret
  exact ⟨rfl, HB1.out⟩
set_option maxRecDepth 100000 in
set_option maxHeartbeats 1600000 in
theorem neighbor7_any : Calls Try.prog 71 #[.pointer (some ⟨c, 0, none⟩), .int .i64 7] w fun en w' => en = .returned (ptrV ((nearK (none) false true b p k js ck).map Prod.fst)) ∧ Below w.heap.size w w' := by
  have hcl := GetPrevNeighborElementExcludingOwnChild_any hw hs hn hsub
  obtain ⟨R, hR⟩ : ∃ R, R = (nearK (none) false true b p k js ck).map Prod.fst := ⟨_, rfl⟩
  rw [← hR] at hcl ⊢
  obtain ⟨u, hu⟩ := ptrV_form R
  rw [hu] at hcl ⊢
  have HCL := Lib.hid hcl
  clear hw hs hn hsub hcl hR hu
  go_enter Try.func71, Try.ntmps71
  go_wp2_with (go_at_call 116; refine HCL.out.mono ?_; rintro en w1 ⟨rfl, hb1⟩; have HB1 := Lib.hid hb1; clear hb1)
  go_ret
  exact ⟨rfl, HB1.out⟩
end
/-- What a kind asks for: first children, direction, elements. -/
def kindOf (kd : Int) : Option (Option Bool × Bool × Bool) :=
  if kd = 0 then some (some false, true, false) else if kd = 1 then some (some true, true, true) else if kd = 2 then some (none, true, false) else if kd = 3 then some (none, true, true) else if kd = 4 then some (some false, false, false) else if kd = 5 then some (some true, false, true) else if kd = 6 then some (none, false, false) else if kd = 7 then some (none, false, true) else none
end Go.Proofs.Ytlallihdiffheaa.Dom
