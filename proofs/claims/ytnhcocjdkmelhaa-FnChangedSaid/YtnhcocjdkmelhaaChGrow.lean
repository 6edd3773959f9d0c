/- table.growSlice at [][][]byte and [][]byte: rows and cells put behind, up to an index. -/
import Derived.Test.YtnhcocjdkmelhaaChRT
namespace Go.Proofs.Ytnhcocjdkmelhaa.Hand
open Go.RowKit Go.Proofs.YtnhcocjdkmelhaaW.PrintWords Go.Proofs.YtnhcocjdkmelhaaW.PrintLast Go.Proofs.YtnhcocjdkmelhaaW.PrintMore
set_option linter.unusedVariables false

/-- A cell: a row of bytes; an empty one may be the nil slice. -/
def DB (w : World) (v : Value) (s : ByteArray) : Prop := BRow w v s ∨ (v = .slice none 0 0 ∧ s = ByteArray.empty)
theorem DB_kp (w w1 : World) (x : Value) (s : ByteArray) (h : Kp 46 50 w w1) (hd : DB w x s) : DB w1 x s := by
  rcases hd with ⟨k, cap, cur, fr, rfl, h1, h2, h3⟩ | hd
  · exact .inl ⟨k, cap, cur, fr, rfl, h1, h k _ _ _ h2 (by decide) (by decide), h3⟩
  · exact .inr hd
theorem DB.one {w : World} {x : Value} {s : ByteArray} (h : DB w x s) : x.oneCell' = true := by
  rcases h with h | ⟨rfl, _⟩
  · exact h.one
  · rfl
theorem Turned.append {D : World → Value → ByteArray → Prop} {e1 e2 : TypeId} {base : Nat} (hD : ∀ w w1 x s, Kp e1 e2 w w1 → D w x s → D w1 x s) {w w1 : World} {v v1 x : Value} {s : ByteArray} {ws : List Value} {ss : List ByteArray} (h : w.ownsRow base e1 1 v ss.length ws) (hC : Cells D w ws ss) (hx : D w x s)
    (hO : w1.ownsRow base e1 1 v1 (ws ++ [x]).length (ws ++ [x])) (hg : w.grownBy w1 v.ownBlock) (hv : v1.ownBlock = v.ownBlock ∨ ∃ b, v1.ownBlock = some b ∧ w.heap.size ≤ b) : Turned D e1 base w w1 v v1 (ss ++ [s]) := by
  have hl : ws.length = ss.length := by have := h.1; omega
  refine ⟨⟨ws ++ [x], ?_, (hC.snoc hl hx).mono fun x s hx => hD w w1 x s (Kp.grown1 hg h) hx⟩, hg, hv⟩
  rw [List.length_append, List.length_singleton, ← hl]
  rwa [List.length_append, List.length_singleton] at hO
theorem Turned.slice {D : World → Value → ByteArray → Prop} {e1 : TypeId} {base : Nat} {w w1 : World} {u v : Value} {ss : List ByteArray} (h : Turned D e1 base w w1 u v ss) : ∃ A c ws, v = .slice A ss.length c ∧ w1.ownsRow base e1 1 (.slice A ss.length c) ss.length ws ∧ Cells D w1 ws ss := by
  obtain ⟨ws, h1, h2⟩ := h.own
  obtain ⟨A, c, rfl⟩ := own_slice h1
  exact ⟨A, c, ws, rfl, h1, h2⟩
theorem grow_num (k : Int) (n : Nat) (hk : -1 ≤ k ∧ k ≤ 1000) (hn : n ≤ 1099511627776) (h : ¬ k < n) : wrap64 (wrap64 (k - n) + 1) = k + 1 - n ∧ 0 ≤ k + 1 - n := by
  have h1 : wrap64 (k - n) = k - n := by unfold wrap64; omega
  rw [h1]
  constructor
  · unfold wrap64; omega
  · omega
theorem grow_none (k : Int) (n : Nat) (h : k < n) : (k + 1 - n).toNat = 0 := by omega

set_option maxRecDepth 100000 in
set_option maxHeartbeats 1600000 in
theorem growCells_any (u : Value) (ws : List Value) (ss : List ByteArray) (k : Int) (base : Nat) (w : World) (hk : -1 ≤ k ∧ k ≤ 1000) (hl : ss.length ≤ 1099511627776) (hbase : base ≤ w.heap.size)
    (hO : w.ownsRow base 46 1 u ss.length ws) (hC : Cells DB w ws ss) :
    Calls Try.prog 33 #[u, .int .i64 k, .slice none 0 0] w fun e w' => ∃ v, e = .returned v ∧ Turned DB 46 base w w' u v (ss ++ List.replicate (k + 1 - ss.length).toNat ByteArray.empty) := by
  obtain ⟨A, c, rfl⟩ := own_slice hO
  have H0 := Lib.hid (Turned.refl (D := DB) hO hC)
  have HK := Lib.hid hk
  have HL := Lib.hid hl
  clear hO hC
  by_cases hlt : k < (ss.length : Int)
  · have HN := Lib.hid (grow_none k ss.length hlt)
    go_enter Try.func33, Try.ntmps33
    go_wp2
    go_ret
    exact ⟨_, rfl, by rw [HN.out, List.replicate_zero, List.append_nil]; exact H0.out⟩
  · obtain ⟨hM1, hM2⟩ := grow_num k ss.length hk hl hlt
    obtain ⟨G, hG⟩ : ∃ G : Nat, k + 1 - (ss.length : Int) = G := ⟨_, (Int.toNat_of_nonneg hM2).symm⟩
    have HG := Lib.hid (show (k + 1 - (ss.length : Int)).toNat = G by omega)
    have hG1 : G ≤ 1001 := by omega
    rw [hG] at hM1
    clear hG hM2 hk hl
    go_enter Try.func33, Try.ntmps33
    go_wp2
    go_loopw [0, 20] (fun v0 k0 wr => ∃ (v : Value) (j : Nat), v = v0 ∧ k0 = .int .i64 j ∧ j ≤ G ∧ Turned DB 46 base w wr (.slice A ss.length c) v (ss ++ List.replicate j ByteArray.empty)) (fun _ k0 _ => G - (intOf k0).toNat)
    case atStart => exact ⟨_, 0, rfl, rfl, Nat.zero_le _, by rw [List.replicate_zero, List.append_nil]; exact H0.out⟩
    case round =>
      obtain ⟨v, j, rfl, rfl, hj, hT⟩ := hrel
      have HT := Lib.hid hT
      clear hT
      by_cases hjl : j < G
      · obtain ⟨st, hst⟩ : ∃ x, x = ss ++ List.replicate j ByteArray.empty := ⟨_, rfl⟩
        have hsl : st.length = ss.length + j := by rw [hst]; simp
        have hnx : ss ++ List.replicate (j + 1) ByteArray.empty = st ++ [ByteArray.empty] := by rw [hst, List.append_assoc, List.replicate_succ']
        rw [← hst] at HT
        obtain ⟨A1, c1, ws1, rfl, hO1, hC1⟩ := HT.out.slice
        have hwl : ws1.length = st.length := by have := hO1.1; omega
        have hfit : (ws1.length + 1) * 24 ≤ 140737488355328 := by have := HL.out; omega
        have HO1 := Lib.hid hO1
        have HC1 := Lib.hid hC1
        have HWL := Lib.hid hwl
        have HFit := Lib.hid hfit
        have HNX := Lib.hid hnx
        have HBS := Lib.hid (Nat.le_trans hbase HT.out.grown.size)
        clear hst hsl hnx hO1 hC1 hwl hfit
        go_wp2_with (at_builtin; refine print_append (w0 := wr) base rfl _ _ 50 46 (.slice none 0 0) 24 rfl Try.underlying50 infoBytes rfl (by decide) (.slice A1 st.length c1) ws1 (.slice none 0 0) rfl rfl rfl ?own ?bel ?base ?len ?_; (case own => rw [HWL.out]; exact HO1.out); (case bel => exact Below.refl _ _); (case base => exact HBS.out); (case len => exact HFit.out); intro v1 w1 hown hb1 hg1 hv1; have HT1 := Lib.hid (Turned.append DB_kp HO1.out HC1.out (.inr ⟨rfl, rfl⟩) hown hg1 hv1); clear hown hb1 hg1 hv1)
        go_roundw
        case rel => exact ⟨v1, j + 1, rfl, by go_num, hjl, by rw [HNX.out]; exact HT.out.step HT1.out⟩
        case measure => simp [intOf]; omega
      · obtain rfl : j = G := by omega
        go_wp2
        go_ret
        exact ⟨_, rfl, by rw [HG.out]; exact HT.out⟩
set_option maxRecDepth 100000 in
set_option maxHeartbeats 1600000 in
theorem growRows_any (u : Value) (vs : List Value) (sss : List (List ByteArray)) (k : Int) (base : Nat) (w : World) (hk : -1 ≤ k ∧ k ≤ 1000) (hl : sss.length ≤ 1099511627776) (hbase : base ≤ w.heap.size) (hR : RT DB 46 50 base w u vs sss) :
    Calls Try.prog 32 #[u, .int .i64 k, .slice none 0 0] w fun e w' => ∃ v vs', e = .returned v ∧ RT DB 46 50 base w' v vs' (sss ++ List.replicate (k + 1 - sss.length).toNat []) ∧ w.grownBy w' u.ownBlock := by
  obtain ⟨A, c, rfl⟩ := own_slice hR.own
  have HR := Lib.hid hR
  have HL := Lib.hid hl
  clear hR
  by_cases hlt : k < (sss.length : Int)
  · have HN := Lib.hid (grow_none k sss.length hlt)
    go_enter Try.func32, Try.ntmps32
    go_wp2
    go_ret
    exact ⟨_, vs, rfl, by rw [HN.out, List.replicate_zero, List.append_nil]; exact HR.out, ⟨rfl, rfl, rfl, Nat.le_refl _, fun _ _ _ => rfl⟩⟩
  · obtain ⟨hM1, hM2⟩ := grow_num k sss.length hk hl hlt
    obtain ⟨G, hG⟩ : ∃ G : Nat, k + 1 - (sss.length : Int) = G := ⟨_, (Int.toNat_of_nonneg hM2).symm⟩
    have HG := Lib.hid (show (k + 1 - (sss.length : Int)).toNat = G by omega)
    have hG1 : G ≤ 1001 := by omega
    rw [hG] at hM1
    clear hG hM2 hk hl
    go_enter Try.func32, Try.ntmps32
    go_wp2
    go_loopw [0, 20] (fun v0 k0 wr => ∃ (v : Value) (j : Nat) (vs : List Value), v = v0 ∧ k0 = .int .i64 j ∧ j ≤ G ∧ RT DB 46 50 base wr v vs (sss ++ List.replicate j []) ∧ w.grownBy wr (Value.slice A sss.length c).ownBlock ∧ (∀ k, v.ownBlock = some k → (Value.slice A sss.length c).ownBlock = some k ∨ w.heap.size ≤ k)) (fun _ k0 _ => G - (intOf k0).toNat)
    case atStart => exact ⟨_, 0, vs, rfl, rfl, Nat.zero_le _, by rw [List.replicate_zero, List.append_nil]; exact HR.out, ⟨rfl, rfl, rfl, Nat.le_refl _, fun _ _ _ => rfl⟩, fun k hk => .inl hk⟩
    case round =>
      obtain ⟨v, j, vs1, rfl, rfl, hj, hT⟩ := hrel
      have HT := Lib.hid hT
      clear hT
      by_cases hjl : j < G
      · obtain ⟨st, hst⟩ : ∃ x, x = sss ++ List.replicate j ([] : List ByteArray) := ⟨_, rfl⟩
        have hsl : st.length = sss.length + j := by rw [hst]; simp
        have hnx : sss ++ List.replicate (j + 1) ([] : List ByteArray) = st ++ [[]] := by rw [hst, List.append_assoc, List.replicate_succ']
        rw [← hst] at HT
        obtain ⟨A1, c1, rfl⟩ := own_slice HT.out.1.own
        have hwl : vs1.length = st.length := by have := HT.out.1.own.1; omega
        have hfit : (vs1.length + 1) * 24 ≤ 140737488355328 := by have := HL.out; omega
        have HWL := Lib.hid hwl
        have HFit := Lib.hid hfit
        have HNX := Lib.hid hnx
        have HBS := Lib.hid (Nat.le_trans hbase HT.out.2.1.size)
        clear hst hsl hnx hwl hfit
        go_wp2_with (at_builtin; refine print_append (w0 := wr) base rfl _ _ 41 50 (.slice none 0 0) 24 rfl Try.underlying41 infoRows rfl (by decide) (.slice A1 st.length c1) vs1 (.slice none 0 0) rfl rfl rfl ?own ?bel ?base ?len ?_; (case own => rw [HWL.out]; exact HT.out.1.own); (case bel => exact Below.refl _ _); (case base => exact HBS.out); (case len => exact HFit.out); intro v1 w1 hown hb1 hg1 hv1; have HO1 := Lib.hid hown; have HG1 := Lib.hid hg1; have HV1 := Lib.hid hv1; clear hown hb1 hg1 hv1)
        have HR1 := Lib.hid (HT.out.1.snoc (w1 := w1) (v1 := v1) (x := .slice none 0 0) (ws := []) (ss := []) (by decide) DB_kp (own_nil _ _ _ _) (fun i x s hx => by simp at hx) (fun k hk => by cases hk) (by have := HO1.out; rwa [List.length_append, List.length_singleton] at this) HG1.out)
        go_roundw
        case rel =>
          refine ⟨v1, j + 1, _, rfl, by go_num, hjl, by rw [HNX.out]; exact HR1.out, grown_then HT.out.2.1 HG1.out HT.out.2.2, fun k hk => ?_⟩
          rcases HV1.out with e | ⟨b, e, hb⟩
          · exact HT.out.2.2 k (by rw [← e]; exact hk)
          · rw [e] at hk
            obtain rfl := Option.some.inj hk
            exact .inr (Nat.le_trans HT.out.2.1.size hb)
        case measure => simp [intOf]; omega
      · obtain rfl : j = G := by omega
        go_wp2
        go_ret
        exact ⟨_, vs1, rfl, by rw [HG.out]; exact HT.out.1, HT.out.2.1⟩
end Go.Proofs.Ytnhcocjdkmelhaa.Hand
