/- impl.at by hand: the node at a path. -/
import Derived.Test.YtlallihdiffheaaPath
import Derived.Deep.LoopGhost
namespace Go.Proofs.Ytlallihdiffheaa.Hand
open Go.RowKit Go.Proofs.YtlallihdiffheaaW.PrintWords Go.Proofs.YtlallihdiffheaaW.PrintLast Go.Proofs.Ytlallihdiffheaa.GT
set_option linter.unusedVariables false
set_option linter.unusedSimpArgs false

theorem take_rd (l : List Int) (j : Nat) (h : j < l.length) : l.take (j + 1) = l.take j ++ [rd l (j : Int)] := by
  rw [List.take_add_one, List.getElem?_eq_getElem h]
  simp [rd, h]
/-- Beyond a node that isn't there, no path leads anywhere. -/
theorem subF_none {b : Nat} {p : Pay} {k : F Pay} {l : List Int} {j : Nat} (h : subF b p k (l.take j) = none) : subF b p k l = none := by
  have key : ∀ (is js : List Int) (b : Nat) (p : Pay) (k : F Pay), subF b p k is = none → subF b p k (is ++ js) = none := by
    intro is
    induction is with
    | nil => intro js b p k h; cases h
    | cons i is ih =>
      intro js b p k h
      rw [List.cons_append]
      rw [subF] at h ⊢
      split
      · rfl
      · rename_i hi
        rw [if_neg hi] at h
        cases e : k.dropF i.toNat with
        | nil => rfl
        | node c q ck r =>
          rw [e] at h
          exact ih js c q ck h
  have := key (l.take j) (l.drop j) b p k h
  rwa [List.take_append_drop] at this
theorem dropF_blocks {f : F Pay} {i c : Nat} {q : Pay} {ck r : F Pay} (h : f.dropF i = .node c q ck r) : ck.blocks.length + 1 ≤ f.blocks.length := by
  obtain ⟨a, ha, -⟩ := F.dropF_split f i c q ck r h
  rw [ha, F.blocks_app]
  simp only [F.blocks, List.length_append, List.length_cons]
  omega
theorem subF_len : ∀ {is : List Int} {b : Nat} {p : Pay} {k : F Pay} {c : Nat} {q : Pay} {ck : F Pay}, subF b p k is = some (c, q, ck) → ck.blocks.length ≤ k.blocks.length
  | [], b, p, k, c, q, ck, h => by
    simp only [subF, Option.some.injEq, Prod.mk.injEq] at h
    obtain ⟨-, -, rfl⟩ := h
    exact Nat.le_refl _
  | i :: is, b, p, k, c, q, ck, h => by
    rw [subF] at h
    split at h
    · cases h
    · cases e : k.dropF i.toNat with
      | nil => rw [e] at h; cases h
      | node d qd kd r =>
        rw [e] at h
        have := subF_len (is := is) h
        have := dropF_blocks e
        omega
theorem ptrV_form0 (o : Option Nat) : ∃ u, ptrV o = .pointer u := by cases o <;> exact ⟨_, rfl⟩
theorem dropF_nil_le {P : Type} (f : F P) {i m : Nat} (h : f.dropF i = .nil) (hm : i ≤ m) : f.dropF m = .nil := (F.dropF_len f m).2 (Nat.le_trans ((F.dropF_len f i).1 h) hm)
set_option maxRecDepth 100000 in
set_option maxHeartbeats 3200000 in
theorem implAt_any {w : World} {H : NMap} {b : Nat} {p : Pay} {k : F Pay} (hw : Holds w H) (hs : Sits H none none none (.node b p k .nil)) (hn : Neat (.node b p k .nil)) (path : List Int) (A : Option Addr) (c : Nat) (hC : Kd.C (Kd.int .i64) w A path.length path) (hl : path.length ≤ 9223372036854775807) (hbk : k.blocks.length ≤ 1000000) :
    Calls Try.prog 64 #[.pointer (some ⟨b, 0, none⟩), .slice A path.length c] w fun e w' => e = .returned (ptrV (k.atF b path)) ∧ w' = w := by
  have HW := Lib.hid hw
  have HS := Lib.hid hs
  have HN := Lib.hid hn
  have HC := Lib.hid hC
  rw [subF_at path b p k]
  clear hw hs hn hC
  go_enter Try.func64, Try.ntmps64
  go_wp2
  go_loop [5, 13] (fun x0 j0 => ∃ (j : Nat) (cb : Nat) (cq : Pay) (ck : F Pay), j0 = .int .i64 j ∧ j ≤ path.length ∧ x0 = .pointer (some ⟨cb, 0, none⟩) ∧ subF b p k (path.take j) = some (cb, cq, ck)) (fun _ j0 => path.length - (intOf j0).toNat)
  case atStart => exact ⟨0, b, p, k, rfl, Nat.zero_le _, rfl, rfl⟩
  case round =>
    obtain ⟨j, cb, cq, ck, rfl, hj, rfl, hsub⟩ := hrel
    by_cases hlt : j < path.length
    · obtain ⟨ad, rfl, hcell⟩ := Kd.at_int HC.out (j : Int) (by omega) (by omega)
      rw [Int.toNat_natCast] at hcell
      have htk := take_rd path j hlt
      obtain ⟨v, hv⟩ : ∃ v, v = rd path (j : Int) := ⟨_, rfl⟩
      rw [← hv] at hcell htk
      obtain ⟨par, prev, next, hL, -, -, -⟩ := lies HS.out HN.out _ _ cb cq ck rfl hsub
      obtain ⟨-, n1, -, -, -, -, -, -, -⟩ := HW.out.opened hL.here
      have HL := Lib.hid hL
      have HSUB := Lib.hid hsub
      have HTK := Lib.hid htk
      obtain ⟨u, hu⟩ := ptrV_form0 (ck.headOr none)
      rw [hu] at n1
      have HU := Lib.hid hu
      clear hv hL hsub htk hu
      have none_ : (∀ t, subF cb cq ck [v] = some t → False) → (subF b p k path).map (·.1) = none := fun h => by
        have h1 : subF b p k (path.take (j + 1)) = none := by
          rw [HTK.out, subF_snoc, HSUB.out]
          show subF cb cq ck [v] = none
          cases e : subF cb cq ck [v] with
          | none => rfl
          | some t => exact (h t e).elim
        rw [subF_none h1]
        rfl
      have HNONE := Lib.hid none_
      clear none_
      go_wp2
      go_loopg [8, 9] v.toNat (fun gk c0 i0 wr => ∃ i : Nat, i0 = .int .i64 i ∧ c0 = ptrV ((ck.dropF i).headOr none) ∧ gk = v.toNat - i ∧ i ≤ v.toNat ∧ wr = w)
      case atStart => exact ⟨0, rfl, by rw [F.dropF_zero]; exact HU.out.symm, rfl, Nat.zero_le _, rfl⟩
      case round =>
        obtain ⟨i, rfl, rfl, rfl, hi, rfl⟩ := hrel
        by_cases hiv : (i : Int) < v
        · have hd : decide ((i : Int) < v) = true := decide_eq_true hiv
          cases e : ck.dropF i with
          | nil =>
            have hd2 : decide (v < 0) = false := decide_eq_false (by omega)
            have HE := Lib.hid e
            clear e
            simp only [show ptrV ((F.nil : F Pay).headOr none) = .pointer none from rfl]
            go_wp2
            go_ret
            refine ⟨?_, rfl⟩
            rw [HNONE.out (fun t ht => ?_)]
            · rfl
            · rw [subF, if_neg (by omega), dropF_nil_le ck HE.out (show i ≤ v.toNat by omega)] at ht
              cases ht
          | node d q kk r =>
            obtain ⟨a, ha, hal⟩ := F.dropF_split ck i d q kk r e
            have hks := HL.out.kids
            rw [ha] at hks
            obtain ⟨-, hk2⟩ := (sits_app H a _ _ _ _).1 hks
            obtain ⟨-, -, -, -, d4, -, -, -, -⟩ := HW.out.opened hk2.1
            have hil : i + 1 ≤ 1000000 := by
              have h1 := subF_len HSUB.out
              have h2 := congrArg F.len ha
              rw [F.len_app, F.len] at h2
              have h3 := len_le_blocks ck
              omega
            have hnx : ck.dropF (i + 1) = r := F.dropF_succ ck i d q kk r e
            obtain ⟨u2, hu2⟩ := ptrV_form0 (r.headOr none)
            rw [hu2] at d4
            rw [← hnx] at hu2
            have HU2 := Lib.hid hu2
            clear hks hk2 ha hal e hnx hu2
            simp only [show ptrV ((F.node d q kk r).headOr none) = .pointer (some ⟨d, 0, none⟩) from rfl]
            go_wp2
            go_roundg (v.toNat - (i + 1))
            case measure => omega
            case rel => exact ⟨i + 1, by go_num, HU2.out.symm, rfl, by omega, rfl⟩
        · have hd : decide ((i : Int) < v) = false := decide_eq_false hiv
          by_cases hneg : v < 0
          · have hd2 : decide (v < 0) = true := decide_eq_true hneg
            go_wp2
            go_ret
            refine ⟨?_, rfl⟩
            rw [HNONE.out (fun t ht => ?_)]
            · rfl
            · rw [subF, if_pos hneg] at ht
              cases ht
          · have hd2 : decide (v < 0) = false := decide_eq_false hneg
            have hiv2 : i = v.toNat := by omega
            cases e : ck.dropF i with
            | nil =>
              have HE := Lib.hid e
              have HIV := Lib.hid hiv2
              clear e hiv2
              simp only [show ptrV ((F.nil : F Pay).headOr none) = .pointer none from rfl]
              go_wp2
              go_ret
              refine ⟨?_, rfl⟩
              rw [HNONE.out (fun t ht => ?_)]
              · rfl
              · rw [subF, if_neg (by omega), ← HIV.out, HE.out] at ht
                cases ht
            | node d q kk r =>
              have HE := Lib.hid e
              have HIV := Lib.hid hiv2
              clear e hiv2
              simp only [show ptrV ((F.node d q kk r).headOr none) = .pointer (some ⟨d, 0, none⟩) from rfl]
              go_wp2
              go_round
              case rel =>
                refine ⟨j + 1, d, q, kk, by go_num, hlt, rfl, ?_⟩
                rw [HTK.out, subF_snoc, HSUB.out]
                show subF cb cq ck [v] = _
                rw [subF, if_neg (by omega), ← HIV.out, HE.out]
                rfl
              case measure => simp [intOf]; omega
    · obtain rfl : j = path.length := by omega
      go_wp2
      go_ret
      rw [List.take_length] at hsub
      rw [hsub]
      exact ⟨rfl, rfl⟩
end Go.Proofs.Ytlallihdiffheaa.Hand
