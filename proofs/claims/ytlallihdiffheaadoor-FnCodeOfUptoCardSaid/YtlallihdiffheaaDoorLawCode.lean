/- laws.FnCodeOf by hand: the walk. -/
import Derived.Test.YtlallihdiffheaaDoorCdImpl
import Derived.Test.YtlallihdiffheaaDoorInline
namespace Go.Proofs.YtlallihdiffheaaDoor.Hand
open Go.RowKit Go.Proofs.YtlallihdiffheaaDoorW.PrintWords Go.Proofs.YtlallihdiffheaaDoorW.PrintLast Go.Proofs.YtlallihdiffheaaDoorW.PrintMore Go.Proofs.YtlallihdiffheaaDoor.GT Go.Proofs.YtlallihdiffheaaDoor.GCo
set_option linter.unusedVariables false
set_option linter.unusedSimpArgs false

set_option maxRecDepth 100000 in
theorem tag29_any (w : World) : Calls Tryd.prog 14 #[.string ⟨#[99, 111, 100, 101]⟩, .slice none 0 0] w fun e w' => e = .returned (.agg #[.int .i64 0, .string ⟨#[99, 111, 100, 101]⟩, .string ⟨#[]⟩, .slice none 0 0, .slice none 0 0]) ∧ Below w.heap.size w w' := by
  have hb := below_alloc (Below.refl w.heap.size w) (.cells #[.int .i64 0, .string ⟨#[99, 111, 100, 101]⟩, .string ⟨#[]⟩, .slice none 0 0, .slice none 0 0] 25 (0, 0))
  have hx := heap_alloc_new w (.cells #[.int .i64 0, .string ⟨#[99, 111, 100, 101]⟩, .string ⟨#[]⟩, .slice none 0 0, .slice none 0 0] 25 (0, 0))
  have HB := Lib.hid hb
  have HX := Lib.hid hx
  clear hb hx
  go_enter Tryd.func14, Tryd.ntmps14
  go_wp2
  refine bodyPost_ret (results_cell_row rfl _ _ w.heap.size 25 #[.int .i64 0, .string ⟨#[99, 111, 100, 101]⟩, .string ⟨#[]⟩, .slice none 0 0, .slice none 0 0] (0, 0) _ rfl HX.out Tryd.underlying25 rfl (by kernel_rfl)) rfl ?_
  exact ⟨rfl, HB.out⟩
set_option maxRecDepth 100000 in
theorem text29_any (t : ByteArray) (w : World) : Calls Tryd.prog 16 #[.string t] w fun e w' => e = .returned (.agg #[.int .i64 1, .string ⟨#[]⟩, .string t, .slice none 0 0, .slice none 0 0]) ∧ Below w.heap.size w w' := by
  have hb := below_alloc (Below.refl w.heap.size w) (.cells #[.int .i64 1, .string ⟨#[]⟩, .string t, .slice none 0 0, .slice none 0 0] 25 (0, 0))
  have hx := heap_alloc_new w (.cells #[.int .i64 1, .string ⟨#[]⟩, .string t, .slice none 0 0, .slice none 0 0] 25 (0, 0))
  have HB := Lib.hid hb
  have HX := Lib.hid hx
  clear hb hx
  go_enter Tryd.func16, Tryd.ntmps16
  go_wp2
  refine bodyPost_ret (results_cell_row rfl _ _ w.heap.size 25 #[.int .i64 1, .string ⟨#[]⟩, .string t, .slice none 0 0, .slice none 0 0] (0, 0) _ rfl HX.out Tryd.underlying25 rfl (by kernel_rfl)) rfl ?_
  exact ⟨rfl, HB.out⟩
theorem join_size (l : List ByteArray) (j : Nat) : (joinB (l.take j)).size ≤ (joinL l).length := by
  have h : (joinB (l.take j)).size = (joinL (l.take j)).length := by show (joinL (l.take j)).toArray.size = _; simp
  rw [h]
  have e : joinL l = joinL (l.take j) ++ joinL (l.drop j) := by
    unfold joinL
    rw [← List.flatten_append, ← List.map_append, List.take_append_drop]
  rw [e, List.length_append]
  omega
theorem elem_size (l : List ByteArray) (j : Nat) (h : j < l.length) : (rdOf ByteArray.empty l (j : Int)).size ≤ (joinL l).length := by
  have hm : rdOf ByteArray.empty l (j : Int) = l[j]'h := by simp [rdOf, h]
  rw [hm]
  have e0 : l = l.take j ++ ((l[j]'h) :: l.drop (j + 1)) := by rw [← List.drop_eq_getElem_cons h, List.take_append_drop]
  have e : joinL l = joinL (l.take j) ++ ((l[j]'h).data.toList ++ joinL (l.drop (j + 1))) := by
    conv => lhs; rw [e0]
    simp only [joinL, List.map_append, List.map_cons, List.flatten_append, List.flatten_cons]
  rw [e, List.length_append, List.length_append]
  have h9 : (l[j]'h).data.toList.length = (l[j]'h).size := Array.length_toList ..
  omega
theorem take_rd (l : List ByteArray) (j : Nat) (h : j < l.length) : l.take (j + 1) = l.take j ++ [rdOf ByteArray.empty l (j : Int)] := by
  have hm : rdOf ByteArray.empty l (j : Int) = l[j]'h := by simp [rdOf, h]
  rw [hm, List.take_add_one, List.getElem?_eq_getElem h]
  rfl
/-- One attribute in a block of its own. -/
theorem attr1_C {w : World} {g : Nat} {k x : ByteArray} (h : w.heap[g]? = some (.cells #[.string k, .string x] 29 (0, 0))) : k29.C w (some ⟨g, 0, none⟩) 1 [⟨k, x⟩] := by
  refine ⟨rfl, by decide, fun _ => ⟨_, rfl, fun j p hj => ?_⟩⟩
  cases j with
  | succ j => simp at hj
  | zero =>
    simp only [List.getElem?_cons_zero, Option.some.injEq] at hj
    subst hj
    refine ⟨[.string k, .string x], rfl, k29_mk w ⟨k, x⟩, fun i u hu => ?_⟩
    have hk2 : k29.sz = 2 := rfl
    rw [hk2]
    rcases i with _ | _ | i
    · simp only [List.getElem?_cons_zero, Option.some.injEq] at hu
      rw [← hu]
      have h0 := (out_cell h 0).1
      simpa [Addr.add] using h0
    · simp only [List.getElem?_cons_succ, List.getElem?_cons_zero, Option.some.injEq] at hu
      rw [← hu]
      have h0 := (out_cell h 1).1
      simpa [Addr.add] using h0
    · simp at hu
set_option maxRecDepth 100000 in
set_option maxHeartbeats 12800000 in
theorem law_code (l : List ByteArray) (lang : ByteArray) (w : World) (A : Option Addr) (c : Nat) (hC : Kd.C Kd.string w A l.length l) (hc : l.length ≤ c) (hn : l.length ≤ 1048576) (hj : (joinL l).length ≤ 1048576) (hls : lang.size ≤ 1048576) :
    Calls Tryd.prog 4 #[.slice A l.length c, .string lang] w fun e w' => e = .returned (.bool true) ∧ Below w.heap.size w w' := by
  obtain ⟨k5, r5, h5⟩ := fits5_any l hn
  obtain ⟨rw_, hw1, hw2⟩ := words_any lang hls
  have hF := laws_zzFits5.calls k5 A c l r5 w hC hc h5
  have hWd := fun W => laws_words29.calls (lang.size + 1) lang rw_ W hw1
  have HF := Lib.hid hF
  have HWD := Lib.hid hWd
  have HW2 := Lib.hid hw2
  have HC := Lib.hid hC
  have hbig : ¬ (lang.size : Int) > 2147483647 := by omega
  have HN := Lib.hid (And.intro hn (And.intro hj hls))
  clear hF hWd hw1 hw2 h5 hn hj hC
  go_enter Tryd.func4, Tryd.ntmps4
  cases r5 with
  | false =>
    go_wp2_with (first
    | (go_at_call 12; refine HF.out.mono ?_; rintro e w1 ⟨rfl, hd⟩; have HB1 := Lib.hid (show Below w.heap.size w w1 from by obtain ⟨m, rfl⟩ := hd; exact pw_below_drewN (Below.refl _ _) m); clear hd)
    | (go_at_call 13; refine (HWD.out _).mono ?_; rintro e w2 ⟨rfl, hd2⟩; have HB2 := Lib.hid (show Below w.heap.size w w2 from by obtain ⟨m, rfl⟩ := hd2; exact pw_below_drewN HB1.out m); clear hd2))
    go_ret
    exact ⟨rfl, HB1.out⟩
  | true =>
  cases rw_ with
  | false =>
    go_wp2_with (first
    | (go_at_call 12; refine HF.out.mono ?_; rintro e w1 ⟨rfl, hd⟩; have HB1 := Lib.hid (show Below w.heap.size w w1 from by obtain ⟨m, rfl⟩ := hd; exact pw_below_drewN (Below.refl _ _) m); clear hd)
    | (go_at_call 13; refine (HWD.out _).mono ?_; rintro e w2 ⟨rfl, hd2⟩; have HB2 := Lib.hid (show Below w.heap.size w w2 from by obtain ⟨m, rfl⟩ := hd2; exact pw_below_drewN HB1.out m); clear hd2))
    go_ret
    exact ⟨rfl, HB2.out⟩
  | true =>
  cases hE : lang.toList.isEmpty with
  | true =>
    go_wp2_with (first
    | (go_at_call 12; refine HF.out.mono ?_; rintro e w1 ⟨rfl, hd⟩; have HB1 := Lib.hid (show Below w.heap.size w w1 from by obtain ⟨m, rfl⟩ := hd; exact pw_below_drewN (Below.refl _ _) m); clear hd)
    | (go_at_call 13; refine (HWD.out _).mono ?_; rintro e w2 ⟨rfl, hd2⟩; have HB2 := Lib.hid (show Below w.heap.size w w2 from by obtain ⟨m, rfl⟩ := hd2; exact pw_below_drewN HB1.out m); clear hd2))
    go_ret
    exact ⟨rfl, HB2.out⟩
  | false =>
  go_wp2_with (first
    | (go_at_call 12; refine HF.out.mono ?_; rintro e w1 ⟨rfl, hd⟩; have HB1 := Lib.hid (show Below w.heap.size w w1 from by obtain ⟨m, rfl⟩ := hd; exact pw_below_drewN (Below.refl _ _) m); clear hd)
    | (go_at_call 13; refine (HWD.out _).mono ?_; rintro e w2 ⟨rfl, hd2⟩; have HB2 := Lib.hid (show Below w.heap.size w w2 from by obtain ⟨m, rfl⟩ := hd2; exact pw_below_drewN HB1.out m); clear hd2))
  go_loopw [29] (fun k0 wr => ∃ i : Nat, k0 = .int .i64 i ∧ wr = w2 ∧ i ≤ lang.size ∧ Hid (∀ (j : Nat) (h : j < lang.size), j < i → ¬ (lang[j]'h) = 32)) (fun k0 _ => lang.size - (intOf k0).toNat)
  case atStart => exact ⟨0, rfl, rfl, Nat.zero_le _, Lib.hid (fun j h hj => by omega)⟩
  case round =>
    obtain ⟨i, rfl, rfl, hi, hall⟩ := hrel
    by_cases hlt : i < lang.size
    · have p5 : 0 ≤ (i : Int) := by omega
      have q5 : (i : Int) < (lang.size : Int) := by omega
      have hx5 := bt_at lang (i : Int)
      replace p5 := eq_true p5
      replace q5 := eq_true q5
      cases hb0 : (((lang[i]'hlt).toNat : Int) == 32) with
      | true =>
        go_wp2
        go_ret
        exact ⟨rfl, HB2.out⟩
      | false =>
        go_wp2
        go_roundw
        case rel =>
          refine ⟨i + 1, by go_num, by first | rfl | trivial, hlt, Lib.hid (fun j h hj => ?_)⟩
          by_cases e : j = i
          · subst e
            intro e2
            rw [e2] at hb0
            exact absurd hb0 (by decide)
          · exact hall.out j h (by omega)
        case measure => simp [intOf]; omega
    · obtain rfl : i = lang.size := by omega
      have h32 : (32 : UInt8) ∉ lang.data.toList := fun hm => by
        obtain ⟨j, hj, e⟩ := List.getElem_of_mem hm
        have hj2 : j < lang.size := by simpa using hj
        exact hall.out j hj2 hj2 e
      have H32 := Lib.hid h32
      clear h32 hall
      have hcat : lgP.size + lang.size ≤ 9223372036854775807 := by have : lgP.size = 9 := rfl; omega
      go_wp2_with (go_at_call 14; refine (tag29_any _).mono ?_; rintro e w3 ⟨rfl, hb3⟩; have HB3 := Lib.hid (below_then HB2.out HB2.out.size hb3); clear hb3)
      obtain ⟨W4, hW4⟩ : ∃ W, W = (w3.alloc (.cells #[.int .i64 0, .string ⟨#[99, 111, 100, 101]⟩, .string ⟨#[]⟩, .slice (some ⟨w3.heap.size + 1, 0, none⟩) 1 1, .slice none 0 0] 25 (0, 0))).alloc (.cells #[.string ⟨#[99, 108, 97, 115, 115]⟩, .string ((⟨#[108, 97, 110, 103, 117, 97, 103, 101, 45]⟩ : ByteArray) ++ lang)] 29 (0, 0)) := ⟨_, rfl⟩
      have g0 : W4.heap[w3.heap.size]? = some (.cells #[.int .i64 0, .string ⟨#[99, 111, 100, 101]⟩, .string ⟨#[]⟩, .slice (some ⟨w3.heap.size + 1, 0, none⟩) 1 1, .slice none 0 0] 25 (0, 0)) := by
        rw [hW4, Below.heap_alloc _ _ _ (by simp only [World.size_alloc]; omega)]
        exact heap_alloc_new _ _
      have g1 : W4.heap[w3.heap.size + 1]? = some (.cells #[.string classK, .string (lgP ++ lang)] 29 (0, 0)) := by
        have h := heap_alloc_new (w3.alloc (.cells #[.int .i64 0, .string ⟨#[99, 111, 100, 101]⟩, .string ⟨#[]⟩, .slice (some ⟨w3.heap.size + 1, 0, none⟩) 1 1, .slice none 0 0] 25 (0, 0))) (.cells #[.string classK, .string (lgP ++ lang)] 29 (0, 0))
        rw [World.size_alloc] at h
        rw [hW4]
        exact h
      have hb4 : Below w.heap.size w W4 := by rw [hW4]; exact below_alloc (below_alloc HB3.out _) _
      have hs4 : w3.heap.size + 2 ≤ W4.heap.size := by rw [hW4]; simp only [World.size_alloc]; omega
      rw [← hW4]
      clear hW4
      obtain ⟨bn, hbn⟩ : ∃ b, b = w3.heap.size := ⟨_, rfl⟩
      have hbw : w.heap.size ≤ bn := by rw [hbn]; exact HB3.out.size
      rw [← hbn] at g0 g1 hs4 ⊢
      have HG0 := Lib.hid g0
      have HG1 := Lib.hid g1
      have HB4 := Lib.hid hb4
      clear g0 g1 hb4 hbn HB3 hcat
      go_loopg [7, 45] l.length (fun gk s0 k0 wr => ∃ (j : Nat) (v : Value), k0 = .int .i64 j ∧ s0 = .string (joinB (l.take j)) ∧ gk = l.length - j ∧ j ≤ l.length ∧ wr.heap[bn]? = some (.cells #[.int .i64 0, .string ⟨#[99, 111, 100, 101]⟩, .string ⟨#[]⟩, .slice (some ⟨bn + 1, 0, none⟩) 1 1, v] 25 (0, 0)) ∧ wr.heap[bn + 1]? = some (.cells #[.string classK, .string (lgP ++ lang)] 29 (0, 0)) ∧ KidsAt (bn + 2) wr v ((l.take j).map tx) ∧ bn + 2 ≤ wr.heap.size ∧ Below w.heap.size w wr)
      case atStart => exact ⟨0, _, rfl, rfl, rfl, Nat.zero_le _, HG0.out, HG1.out, KidsAt.nil _ _, hs4, HB4.out⟩
      case round =>
        obtain ⟨j, v, rfl, rfl, rfl, hjl, ho1, ho2, hka, hsz2, hb⟩ := hrel
        have hlen : ((l.take j).map tx).length = j := by rw [List.length_map, List.length_take]; omega
        obtain ⟨Av, cv, rfl⟩ : ∃ A c, v = .slice A j c := by
          obtain ⟨css, h, _⟩ := hka
          rw [hlen] at h
          exact own_slice h
        obtain ⟨o0, -⟩ := out_cell ho1 0
        obtain ⟨o1, -⟩ := out_cell ho1 1
        obtain ⟨o2, -⟩ := out_cell ho1 2
        obtain ⟨o3, -⟩ := out_cell ho1 3
        obtain ⟨o4, fo4⟩ := out_cell ho1 4
        simp only [List.getElem?_toArray, List.getElem?_cons_succ, List.getElem?_cons_zero] at o0 o1 o2 o3 o4
        have HLEN := Lib.hid hlen
        have HKA := Lib.hid hka
        have HB1' := Lib.hid hb
        have HO1 := Lib.hid ho1
        have HO2 := Lib.hid ho2
        clear hka hb ho1 ho2 hlen
        by_cases hlt : j < l.length
        · obtain ⟨ad, hA, hcell⟩ := Kd.at_string HC.out (j : Int) (by omega) (by omega)
          subst hA
          rw [Int.toNat_natCast] at hcell
          have hbl := World.block_lt_of_cell? w _ hcell
          have hcell2 := (HB1'.out.cell hbl).trans hcell
          have hxs := elem_size l j hlt
          have hss := join_size l j
          have htk := take_rd l j hlt
          have hjs := joinB_snoc (l.take j) (rdOf ByteArray.empty l (j : Int))
          rw [← htk] at hjs
          obtain ⟨x, hx⟩ : ∃ x, x = rdOf ByteArray.empty l (j : Int) := ⟨_, rfl⟩
          obtain ⟨sj, hsj⟩ : ∃ s, s = joinB (l.take j) := ⟨_, rfl⟩
          have hHN := HN.out
          rw [← hx] at hcell2 hxs hjs htk
          rw [← hsj] at hss hjs ⊢
          obtain ⟨kc, rc, hkc⟩ := code_any x (by omega)
          have hcd := fun W => laws_code29.calls kc x rc W hkc
          have HCD := Lib.hid hcd
          have hcat2 : sj.size + x.size ≤ 9223372036854775807 := by omega
          have HJS := Lib.hid hjs
          have HTK := Lib.hid htk
          have h0 : 0 ≤ (j : Int) := by omega
          have h1 : (j : Int) < (l.length : Int) := by omega
          clear hcell hxs hss hx hsj hHN hkc hcd hjs htk
          cases rc with
          | false =>
            go_wp2_with (go_at_call 15; refine (HCD.out _).mono ?_; rintro e w5 ⟨rfl, hb5⟩; have HB5 := Lib.hid (below_then HB1'.out HB1'.out.size hb5); clear hb5)
            go_ret
            exact ⟨rfl, HB5.out⟩
          | true =>
            go_wp2_with (go_at_call 15; refine (HCD.out _).mono ?_; rintro e w5 ⟨rfl, hb5⟩; replace o4 := (hb5.cell (p := ⟨bn, 4, none⟩) (by show bn < _; omega)).trans o4; have hg1 := (hb5.block bn (by omega)).trans HO1.out; have hg2 := (hb5.block (bn + 1) (by omega)).trans HO2.out; have hka5 := HKA.out.below hb5; have fo5 := (out_cell hg1 4).2; have hs5 := Nat.le_trans hsz2 hb5.size; have HB5 := Lib.hid (below_then HB1'.out HB1'.out.size hb5); have HG1 := Lib.hid hg1; have HG2 := Lib.hid hg2; have HKA5 := Lib.hid hka5; clear hb5 hg1 hg2 hka5)
            go_region_law (first
              | (go_simp
                 go_at_call 16
                 refine (text29_any x _).mono ?_
                 rintro e w6 ⟨rfl, hbw0⟩
                 have hbw6 := below_then (below_drew (Below.refl w5.heap.size w5)) (Nat.le_refl _) hbw0
                 have HBW := Lib.hid hbw6
                 have ho4' : w6.cell? ⟨bn, 4, none⟩ = some (.slice Av j cv) := (hbw6.cell (p := ⟨bn, 4, none⟩) (World.block_lt_of_cell? w5 _ o4)).trans o4
                 have hol : bn < w6.heap.size := by have := hbw6.size; omega
                 clear hbw6 hbw0)
              | (obtain ⟨css, hcs1, hcs2, hcs3⟩ := HKA5.out.below HBW.out
                 rw [HLEN.out] at hcs1
                 refine step_append_cells (w0 := w6) (bn + 2) rfl (.tmp 56) (.tmp 59) 23 25 _ 5 88 rfl Tryd.underlying23 infoTree rfl (by decide) (by decide) (.slice Av j cv) j css.flatten [.int .i64 1, .string ⟨#[]⟩, .string x, .slice none 0 0, .slice none 0 0] (by simp [Act.eval, Act.put]) (by simp [Act.eval, Act.put]) rfl (by simp [Value.oneCell']) hcs1 (Below.refl _ _) (Nat.le_trans hs5 HBW.out.size) (by have := HN.out.1; omega) ?_
                 intro v1 w2 hown hb2 hg hv2
                 obtain ⟨A1, c1, rfl⟩ := own_slice hown
                 have hne : ∀ z, z < bn + 2 → some z ≠ (Value.slice Av j cv).ownBlock := fun z hz e => by have := own_base hcs1 z e.symm; omega
                 have hoW : w2.heap[bn]? = _ := (hg.block bn (by have := HBW.out.size; omega) (hne bn (by omega))).trans ((HBW.out.block bn (by omega)).trans HG1.out)
                 obtain ⟨ho4'', fo4''⟩ := out_cell hoW 4
                 simp only [List.getElem?_toArray, List.getElem?_cons_succ, List.getElem?_cons_zero] at ho4''
                 have HOWN := Lib.hid hown
                 have HGR := Lib.hid hg
                 have HV2 := Lib.hid hv2
                 have HOW := Lib.hid hoW
                 have HCS := Lib.hid (And.intro hcs1 (And.intro hcs2 hcs3))
                 have HNE := Lib.hid hne
                 clear hown hb2 hg hv2 hoW hcs1 hcs2 hcs3 hne))
            all_goals (
              go_wp2
              go_roundg (l.length - (j + 1))
              case measure => omega
              case rel =>
                have hs1 := HBW.out.size
                have hs2 := HGR.out.size
                have hn' := HN.out.1
                have hw64 : wrap64 ((j : Int) + 1) = ((j + 1 : Nat) : Int) := by unfold wrap64; omega
                refine ⟨j + 1, _, by rw [hw64], by rw [HJS.out], rfl, hlt, Lib.heap_setCell_same HOW.out _, ?_, ?_, ?_, ?_⟩
                · exact (Below.heap_setCell _ _ _ _ (by show bn + 1 ≠ bn; omega)).trans ((HGR.out.block (bn + 1) (by omega) (HNE.out (bn + 1) (by omega))).trans ((HBW.out.block (bn + 1) (by omega)).trans HG2.out))
                · have hx : (l.take (j + 1)).map tx = (l.take j).map tx ++ [tx x] := by rw [HTK.out, List.map_append]; rfl
                  rw [hx]
                  refine (KidsAt.push HCS.out.2.1 HCS.out.2.2 rfl (show bn + 2 ≤ w6.heap.size by omega) (Nat.le_refl _) (fun g hg => own_lt HCS.out.1 g hg) (fun W hW => k25_mk W (tx x) (A3 := none) (c3 := 0) (Nat.le_refl _) ⟨rfl, Nat.zero_le _, fun h => absurd h (Nat.lt_irrefl _)⟩ (A4 := none) (c4 := 0) (Nat.le_refl _) ⟨rfl, Nat.zero_le _, fun h => absurd h (Nat.lt_irrefl _)⟩) (by rw [HLEN.out]; exact HOWN.out) HGR.out HV2.out).store ⟨bn, 4, none⟩ (by show bn < _; omega) _
                · rw [World.size_setCell]
                  omega
                · exact ((below_then HB5.out HB5.out.size HBW.out).grown HGR.out (by omega) (fun z hz => by have := own_base HCS.out.1 z hz; omega)).setCell (by show _ ≤ bn; omega) _)
        · obtain rfl : j = l.length := by omega
          have htl := HKA.out.tells (by rw [HLEN.out]; have := HN.out.1; omega)
          rw [HLEN.out] at htl
          obtain ⟨A4, c4, he, hle, hT⟩ := htl
          injection he with he1 _ he3
          subst he1 he3
          have hTW := hT wr (fun k _ _ => rfl)
          have hcall := codeOf_any l (by have := HN.out.1; omega) (by have := HN.out.2.1; omega) lang HN.out.2.2 (HW2.out (by first | rfl | trivial)) H32.out wr (some ⟨bn + 1, 0, none⟩) Av 1 cv (attr1_C HO2.out) (Nat.le_refl _) (by have h := hTW; rwa [List.take_length] at h) hle
          have htake : joinB (l.take l.length) = joinB l := by rw [List.take_length]
          have HCALL := Lib.hid (show Calls Tryd.prog 17 #[.agg #[.int .i64 0, .string ⟨#[99, 111, 100, 101]⟩, .string ⟨#[]⟩, .slice (some ⟨bn + 1, 0, none⟩) 1 1, .slice Av l.length cv]] wr _ from hcall)
          rw [htake]
          clear hTW hcall hT htake
          go_wp2_with (go_at_call 17; refine HCALL.out.mono ?_; rintro e w8 ⟨rfl, hb8⟩; have HB8 := Lib.hid (below_then HB1'.out HB1'.out.size hb8); clear hb8)
          go_ret
          exact ⟨rfl, HB8.out⟩
end Go.Proofs.YtlallihdiffheaaDoor.Hand
