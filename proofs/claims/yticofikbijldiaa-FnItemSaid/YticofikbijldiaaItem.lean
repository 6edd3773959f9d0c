/- commonmark.renderMultiLineListItem, commonmark.ZzItem, impl.Item by hand. -/
import Derived.Test.YticofikbijldiaaBufByte
import Derived.Test.YticofikbijldiaaRepeat
import Derived.Test.YticofikbijldiaaItemPure
import Derived.Test.YticofikbijldiaaUnder
import Derived.Lib.SlBytesConst
namespace Go.Proofs.Yticofikbijldiaa.Hand
open Go.RowKit Go.Proofs.YticofikbijldiaaW.PrintWords Go.Proofs.YticofikbijldiaaW.PrintLast Go.Proofs.YticofikbijldiaaW.PrintMore Go.Proofs.Yticofikbijldiaa.GIt
set_option linter.unusedVariables false
set_option linter.unusedSimpArgs false

def bv (l : List Int) : List Value := l.map (Value.int .u8)
theorem bv_one (l : List Int) : ∀ v ∈ bv l, v.oneCell' = true := by
  intro v hv
  obtain ⟨x, _, rfl⟩ := List.mem_map.1 hv
  rfl
theorem bv_length (l : List Int) : (bv l).length = l.length := List.length_map _
theorem bv_append (l m : List Int) : bv (l ++ m) = bv l ++ bv m := List.map_append
theorem row_lt {T e : TypeId} {B b : Nat} {bs : List Value} {w : World} (h : Lib.IsBuffer T e B b bs w) {k : Nat} (hk : RowOf w b = some k) : k < w.heap.size := by
  obtain ⟨hB, lr, hc⟩ := h.cases
  rcases hc with ⟨_, hbk⟩ | ⟨g, cap, cur, hbk, hBg, hg, _⟩
  · rw [RowOf_heap hbk] at hk
    exact absurd hk (by simp [Value.ownBlock])
  · rw [RowOf_heap hbk] at hk
    obtain rfl : g = k := by simpa [Value.ownBlock] using hk
    exact Lib.lt_of_heap hg
theorem row_nil {T : TypeId} {b : Nat} {w : World} {lr : Int} (hbk : w.heap[b]? = some (.cells #[.slice none 0 0, .int .i64 0, .int .i8 lr] T (0, 0))) : RowOf w b = none := by
  rw [RowOf_heap hbk]
  rfl
theorem Fine.below {b : Nat} {w w' : World} (h : Below w.heap.size w w') (hb : b < w.heap.size) : Fine b w w' :=
  ⟨h.size, fun k hk _ _ => h.block k hk, .inl (by unfold RowOf; rw [h.cell (p := ⟨b, 0, none⟩) hb])⟩
theorem buf_below {T e : TypeId} {B b : Nat} {bs : List Value} {w w' : World} (h : Lib.IsBuffer T e B b bs w) (hb : Below w.heap.size w w') : Lib.IsBuffer T e B b bs w' := by
  obtain ⟨hB, v, lr, hk, ho, hn⟩ := h
  refine ⟨hB, v, lr, (hb.block b (Lib.lt_of_heap hk)).trans hk, ?_, hn⟩
  exact pw_own_below ho hb
/-- A part of what came in, where only the buffer has turned. -/
theorem part_move {b : Nat} {lr : Int} {T : TypeId} {w wr : World} {v : Value} {l : List Int} (h : Part w v l) (hbk : w.heap[b]? = some (.cells #[.slice none 0 0, .int .i64 0, .int .i8 lr] T (0, 0))) (hf : Fine b w wr) : Part wr v l := by
  obtain ⟨A, c, hv, hc, hC⟩ := h
  refine ⟨A, c, hv, hc, C_of_ints ?_⟩
  have hR : ReadsInt w .u8 A l.length l := Kd.reads_of_C (enc := Value.int .u8) (d := (0 : Int)) (h1 := fun _ => rfl) hC
  refine ⟨hR.1, hR.2.1, fun hn => ?_⟩
  obtain ⟨ad, e, hcell⟩ := hR.2.2 hn
  refine ⟨ad, e, fun j hj => ?_⟩
  have h0 := hcell j hj
  refine hf.cell h0 (fun eb => ?_) (by rw [row_nil hbk]; simp)
  simp only [World.cell?, eb, hbk] at h0
  split at h0
  · exact absurd h0 (by simp)
  · rcases hoff : (ad.add j).off with _ | _ | _ | k
    · rw [hoff] at h0; simp at h0
    · rw [hoff] at h0; simp at h0
    · rw [hoff] at h0; simp at h0
    · rw [hoff] at h0; simp at h0
theorem replace_any (A : Option Addr) (c : Nat) (l : List Int) (t : ByteArray) (w : World) (hC : (Kd.int .u8).C w A l.length l) (hc : l.length ≤ c) (hl : l.length ≤ 1048576) (hb : ∀ x ∈ l, 0 ≤ x ∧ x < 256) (hm : NoMark l) :
    Calls Try.prog 90 #[.slice A l.length c, .string ⟨#[239, 128, 130]⟩, .string t] w fun e w' => ∃ p c2, e = .returned (.slice p l.length c2) ∧ (∀ a, p = some a → w.heap.size ≤ a.block) ∧ (0 < l.length → ∃ a, p = some a ∧ ∀ j v, (bv l)[j]? = some v → w'.cell? (a.add j) = some v) ∧ Below w.heap.size w w' := by
  refine (commonmark_zzReplaceBytes.calls (l.length + 1) A c l ⟨#[239, 128, 130]⟩ t l w hC hc (replace_f l t hl hb hm)).mono ?_
  rintro e w' ⟨v, rfl, hR, hB⟩
  have ho : w'.ownsRow w.heap.size 5 1 v l.length (bv l) := Kd.own_of_R (enc := Value.int .u8) (h1 := fun _ => rfl) hR
  rcases ho.2 with ⟨rfl, h0⟩ | ⟨g, cap, cur, rfl, hBg, hg, hnc, hcm, hcs, htk⟩
  · exact ⟨none, 0, by rw [h0], fun a ha => by simp at ha, fun hn => by omega, hB⟩
  · refine ⟨some ⟨g, 0, none⟩, cap, rfl, fun a ha => ?_, fun _ => ⟨_, rfl, ?_⟩, hB⟩
    · obtain rfl := Option.some.inj ha
      exact hBg
    · rw [Nat.mul_one] at htk
      rw [← htk]
      exact Lib.cells_of_row hg l.length
/-- What stands in the buffer behind i rounds. -/
def outs (sep : List Int) (ls : List (List Int)) (i : Nat) : List Int := pre sep ls i ++ (if 0 < i ∧ i < ls.length then [10] else [])
theorem outs_last (sep : List Int) (ls : List (List Int)) : outs sep ls ls.length = pre sep ls ls.length := by
  rw [outs, if_neg (by omega), List.append_nil]
theorem outs_zero (sep : List Int) (ls : List (List Int)) : outs sep ls 0 = [] := by
  rw [outs, if_neg (by omega), List.append_nil]
  rfl
theorem outs_first (sep : List Int) (ls : List (List Int)) (h : 0 < ls.length) : outs sep ls 1 = outs sep ls 0 ++ ls.getD 0 [] ++ (if 1 < ls.length then [10] else []) := by
  rw [outs_zero, outs, pre, pre]
  simp
theorem outs_next (sep : List Int) (ls : List (List Int)) (i : Nat) (h0 : i ≠ 0) (h : i < ls.length) : outs sep ls (i + 1) = outs sep ls i ++ sep ++ ls.getD i [] ++ (if i + 1 < ls.length then [10] else []) := by
  rw [outs, outs, pre, if_neg h0, if_pos (show 0 < i ∧ i < ls.length by omega)]
  by_cases h2 : i + 1 < ls.length
  · rw [if_pos (by omega), if_pos h2]
    simp
  · rw [if_neg (by omega), if_neg h2]
    simp
theorem outs_len {sep : List Int} {ls : List (List Int)} (hs : sep.length ≤ 256) (hl : ∀ x ∈ ls, x.length ≤ 65536) (i : Nat) (hi : i ≤ 65537) : (outs sep ls i).length ≤ 8589934592 := by
  have h := pre_len hs hl i
  rw [outs, List.length_append]
  split <;> simp <;> omega
theorem repeat_any (g c n : Nat) (hn : n ≤ 256) (w : World) (hg : w.cell? ⟨g, 0, none⟩ = some (.int .u8 32)) :
    Calls Try.prog 89 #[.slice (some ⟨g, 0, none⟩) 1 c, .int .i64 (n : Int)] w fun e w' => e = .returned (.slice (some ⟨w.heap.size, 0, none⟩) n n) ∧ (∀ j v, (bv (List.replicate n 32))[j]? = some v → w'.cell? ⟨w.heap.size, j, none⟩ = some v) ∧ Below w.heap.size w w' ∧ w.heap.size < w'.heap.size := by
  by_cases h0 : n = 0
  · subst h0
    refine (repeat_none (some ⟨g, 0, none⟩) c w).mono ?_
    rintro e w' ⟨rfl, rfl⟩
    exact ⟨rfl, fun j v hj => by simp [bv] at hj, (Below.refl _ _).alloc (Nat.le_refl _) _, by simp⟩
  · refine (repeat_pos g c n (by omega) hn w hg).mono ?_
    rintro e w' ⟨rfl, hb⟩
    have hcell : ∀ j, j < n → w'.cell? ⟨w.heap.size, j, none⟩ = some (.int .u8 32) := by
      intro j hj
      have := hb.holds j 32 (by rw [List.getElem?_replicate, if_pos hj])
      simpa using this
    refine ⟨rfl, fun j v hj => ?_, hb.below, World.block_lt_of_cell? w' _ (hcell 0 (by omega))⟩
    have hjn : j < n := by
      have := (List.getElem?_eq_some_iff.1 hj).1
      rw [bv_length, List.length_replicate] at this
      exact this
    rw [hcell j hjn]
    simpa [bv, hjn] using hj
theorem cells_C {w : World} {A : Addr} {l : List Int} (hl : l.length ≤ 9223372036854775807) (h : ∀ j v, (bv l)[j]? = some v → w.cell? (A.add j) = some v) : (Kd.int .u8).C w (some A) l.length l := by
  refine C_of_ints ⟨rfl, hl, fun _ => ⟨A, rfl, fun j hj => ?_⟩⟩
  refine h j _ ?_
  rw [bv, List.getElem?_map, List.getElem?_eq_getElem hj, List.getD_eq_getElem?_getD, List.getElem?_eq_getElem hj]
  rfl
theorem write_fine (B b : Nat) (x l : List Int) (p : Option Addr) (m c : Nat) (hm : l.length = m) (w : World) (h : Lib.IsBuffer 68 5 B b (bv x) w) (hBw : B ≤ w.heap.size) (hlim : x.length + m ≤ 140737488355328)
    (hp : 0 < m → ∃ a, p = some a ∧ a.block ≠ b ∧ RowOf w b ≠ some a.block ∧ ∀ j v, (bv l)[j]? = some v → w.cell? (a.add j) = some v) :
    Calls Try.prog 112 #[.pointer (some ⟨b, 0, none⟩), .slice p m c] w fun e w' => e = .returned (.tuple #[.int .i64 m, .nilIface]) ∧ Lib.IsBuffer 68 5 B b (bv (x ++ l)) w' ∧ Below B w w' ∧ Fine b w w' := by
  by_cases h0 : m = 0
  · subst h0
    obtain rfl : l = [] := List.eq_nil_of_length_eq_zero hm
    rw [List.append_nil]
    exact write_none B b c (bv x) p w h hBw
  · have hp2 := hp (Nat.pos_of_ne_zero h0)
    obtain ⟨a, rfl, hab, har, hc⟩ := hp2
    rw [bv_append]
    exact write_some B b (bv x) (bv l) a m c w h hBw (bv_one _) (by rw [bv_length]; exact hm) (Nat.pos_of_ne_zero h0) hab har hc (bv_one _) (by rw [bv_length]; exact hlim)
theorem lines_own {w w1 : World} {v : Value} {vs : List Value} {ls : List (List Int)} (hown : w1.ownsRow w.heap.size 45 1 v vs.length vs) (hp : Parts w vs ls) (hpos : 0 < ls.length) :
    ∃ g1 cb, v = .slice (some ⟨g1, 0, none⟩) vs.length cb ∧ w.heap.size ≤ g1 ∧ g1 < w1.heap.size ∧ vs.length ≤ cb ∧ ∀ i, i < vs.length → ∃ u, vs[i]? = some u ∧ w1.cell? ⟨g1, i, none⟩ = some u := by
  rcases hown.2 with ⟨_, h0⟩ | ⟨g, cap, cur, rfl, hBg, hg, hnc, hcm, hcs, htk⟩
  · have := hp.1
    omega
  · refine ⟨g, cap, rfl, hBg, Lib.lt_of_heap hg, hnc, fun i hi => ?_⟩
    refine ⟨vs[i], List.getElem?_eq_getElem hi, ?_⟩
    have h1 := Lib.cells_of_row hg vs.length i vs[i] (by
      rw [Nat.mul_one] at htk
      rw [htk]
      exact List.getElem?_eq_getElem hi)
    rwa [Lib.addr_add, Nat.zero_add] at h1
theorem linesL_pos (acc s : List Int) : 0 < (linesL acc s).length := by
  obtain ⟨x, t, h⟩ := linesL_ne acc s
  rw [h]
  simp
theorem lines_data {xs : List Int} (hl : xs.length ≤ 65536) (hb : ∀ x ∈ xs, 0 ≤ x ∧ x < 256) (hm : NoMark xs) : ∀ l ∈ linesL [] xs, l.length ≤ 65536 ∧ (∀ x ∈ l, 0 ≤ x ∧ x < 256) ∧ NoMark l := by
  intro l h
  have hi : l <:+: xs := by simpa using line_infix xs [] l h
  exact ⟨Nat.le_trans hi.length_le hl, fun x hx => hb x (hi.subset hx), hm.sub hi⟩
/-- Bytes that can be read, neither in the buffer nor in its row. -/
def Src (b : Nat) (w : World) (p : Option Addr) (l : List Int) : Prop := 0 < l.length → ∃ a, p = some a ∧ a.block ≠ b ∧ RowOf w b ≠ some a.block ∧ ∀ j v, (bv l)[j]? = some v → w.cell? (a.add j) = some v
theorem Src.line {T e : TypeId} {B b : Nat} {bs : List Value} {wr w3 : World} {p : Option Addr} {l : List Int} (hI : Lib.IsBuffer T e B b bs wr) (hb3 : Below wr.heap.size wr w3) (hp1 : ∀ a, p = some a → wr.heap.size ≤ a.block)
    (hp2 : 0 < l.length → ∃ a, p = some a ∧ ∀ j v, (bv l)[j]? = some v → w3.cell? (a.add j) = some v) : Src b w3 p l := by
  intro h
  obtain ⟨a, ha, hc⟩ := hp2 h
  have h1 := hp1 a ha
  have h2 := hI.lt
  refine ⟨a, ha, by omega, ?_, hc⟩
  rcases (Fine.below hb3 h2).row with e | ⟨g, hg, e⟩
  · rw [e]
    intro h3
    have := row_lt hI h3
    omega
  · rw [show RowOf w3 b = RowOf wr b by unfold RowOf; rw [hb3.cell (p := ⟨b, 0, none⟩) h2]]
    intro h3
    have := row_lt hI h3
    omega
theorem Src.fine {b : Nat} {w3 w4 : World} {p : Option Addr} {l : List Int} (h : Src b w3 p l) (hf : Fine b w3 w4) : Src b w4 p l := by
  intro hl
  obtain ⟨a, ha, h1, h2, hc⟩ := h hl
  have hlt : a.block < w3.heap.size := by
    have h0 : (bv l)[0]? = some (.int .u8 l[0]) := by rw [bv, List.getElem?_map, List.getElem?_eq_getElem hl]; rfl
    have := World.block_lt_of_cell? w3 _ (hc 0 _ h0)
    rwa [Lib.block_add] at this
  refine ⟨a, ha, h1, ?_, fun j v hj => hf.cell (hc j v hj) (by rw [Lib.block_add]; exact h1) (by rw [Lib.block_add]; exact h2)⟩
  rcases hf.row with e | ⟨g, hg, e⟩
  · rw [e]
    exact h2
  · rw [e]
    intro h3
    have := Option.some.inj h3
    omega
theorem method_write (a : Addr) (w : World) : (method 226 70 (.pointer (some a)) "Write").run Try.prog w = .ok (112, .pointer (some a)) w := by kernel_rfl
theorem method_rune (a : Addr) (w : World) : (method 226 70 (.pointer (some a)) "WriteRune").run Try.prog w = .ok (113, .pointer (some a)) w := by kernel_rfl
set_option maxHeartbeats 3200000 in
set_option maxRecDepth 100000 in
theorem render_any (b g c n : Nat) (lr : Int) (xs : List Int) (w : World) (hC : (Kd.int .u8).C w (some ⟨g, 0, none⟩) xs.length xs) (hc : xs.length ≤ c) (hl : xs.length ≤ 65536) (hb : ∀ x ∈ xs, 0 ≤ x ∧ x < 256) (hm : NoMark xs) (hn : n ≤ 256)
    (hbk : w.heap[b]? = some (.cells #[.slice none 0 0, .int .i64 0, .int .i8 lr] 68 (0, 0))) :
    Calls Try.prog 80 #[.iface 70 (.pointer (some ⟨b, 0, none⟩)), .slice (some ⟨g, 0, none⟩) xs.length c, .int .i64 (n : Int)] w fun e w' => e = .returned (.tuple #[]) ∧ Lib.IsBuffer 68 5 b b (bv (pre (List.replicate n 32) (linesL [] xs) (linesL [] xs).length)) w' ∧ Below b w w' := by
  have hblt := Lib.lt_of_heap hbk
  have HZ := Lib.hid (zzLines_any g c xs w hC hc (by omega))
  have HD := Lib.hid (lines_data hl hb hm)
  have hpos := linesL_pos [] xs
  have hlen := linesL_len xs []
  generalize linesL [] xs = ls at *
  have HBK := Lib.hid hbk
  clear hC hbk hb hm
  go_enter Try.func80, Try.ntmps80
  go_wp2_with (first
    | (go_at_call 83; refine HZ.out.mono ?_; rintro e w1 ⟨v, vs, rfl, hown, hparts, hvl, hbw⟩; obtain ⟨g1, cb, rfl, hg0, hg1, hcb, hcells⟩ := lines_own hown hparts hpos; have HCL := Lib.hid hcells; have HPT := Lib.hid hparts; have HBW := Lib.hid hbw; clear hown hparts hbw hcells; have hcv := Lib.run_convert_bytes_const (P := Try.prog) w1 45 5 #[.int .u8 32] 1 1 Try.underlying45 Try.underlying5; have hk1 := cellNew w1 (.int .u8 32) 5 (1, 2))
    | (go_at_call 89; refine (repeat_any _ _ n hn _ hk1).mono ?_; rintro e w2 ⟨rfl, hcell, hb2, hsz2⟩; rw [World.size_alloc] at hcell; have hcs := Kd.C_string (P := Try.prog) (c := n) Try.underlying45 Try.underlying5 Try.underlying9 (cells_C (w := w2) (A := ⟨w1.heap.size + 1, 0, none⟩) (l := List.replicate n 32) (by rw [List.length_replicate]; omega) (fun j v hj => by rw [Lib.addr_add, Nat.zero_add]; exact hcell j v hj)); rw [List.length_replicate] at hcs; obtain ⟨t, ht⟩ : ∃ t, t = strOfNums (List.replicate n 32) := ⟨_, rfl⟩; have hts : t.size ≤ 256 := (by rw [ht, ← bys_length, nums_byte _ (fun x hx => by rw [List.eq_of_mem_replicate hx]; omega), List.length_replicate]; exact hn); rw [← ht] at hcs; clear ht; have HCE := Lib.hid hcell; have HB2 := Lib.hid hb2; clear hcell hb2))
  have hvn := HPT.out.1
  rw [World.size_alloc] at hsz2
  have hsz1 : w.heap.size ≤ w1.heap.size := HBW.out.size
  have hbW2 : Below w.heap.size w w2 := by
    have h1 : Below w.heap.size w (w1.alloc (.cells #[.int .u8 32] 5 (1, 2))) := HBW.out.alloc hsz1 _
    exact h1.trans (HB2.out.mono (by rw [World.size_alloc]; omega))
  have hbk2 : w2.heap[b]? = some (.cells #[.slice none 0 0, .int .i64 0, .int .i8 lr] 68 (0, 0)) := (hbW2.block b hblt).trans HBK.out
  have hrow : RowOf w2 b = none := row_nil hbk2
  rw [hvn] at hcb ⊢
  have HVN := Lib.hid hvn
  clear hvn
  go_loopg [22] ls.length (fun gk iv wr => ∃ i : Nat, iv = .int .i64 (i : Int) ∧ gk = ls.length - i ∧ i ≤ ls.length ∧ Aside0 (Lib.IsBuffer 68 5 b b (bv (outs (List.replicate n 32) ls i)) wr) ∧ Aside0 (Fine b w2 wr) ∧ Aside0 (Below b w2 wr))
  case atStart => exact ⟨0, rfl, rfl, Nat.zero_le _, ⟨by rw [outs_zero]; exact ⟨Nat.le_refl _, _, _, hbk2, World.ownsRow_nil _ _ _ _, by simp [Value.ownBlock]⟩⟩, ⟨Fine.refl _ _⟩, ⟨Below.refl _ _⟩⟩
  case round =>
    obtain ⟨i, rfl, rfl, hi, hI, hF, hB⟩ := hrel
    have HI := Lib.hid hI.out
    have HF := Lib.hid hF.out
    have HB := Lib.hid hB.out
    clear hI hF hB
    by_cases hlt : i < ls.length
    · obtain ⟨u, hu1, hu2⟩ := HCL.out i (by rw [HVN.out]; exact hlt)
      have hl0 : ls[i]? = some ls[i] := List.getElem?_eq_getElem hlt
      obtain ⟨ld1, ld2, ld3⟩ := HD.out ls[i] (List.getElem_mem hlt)
      have hgd : ls.getD i [] = ls[i] := by rw [List.getD_eq_getElem?_getD, hl0]; rfl
      obtain ⟨A, cl, rfl, hcl, hCl⟩ := part_move (HPT.out.2 i u ls[i] hu1 hl0) HBK.out ((Fine.below (hbW2.mono (Nat.le_refl _)) hblt).trans HF.out)
      have hcell : wr.cell? ⟨g1, i, none⟩ = some (.slice A ls[i].length cl) := by
        have h2 : w2.cell? ⟨g1, i, none⟩ = some (.slice A ls[i].length cl) := by
          have h3 : (w1.alloc (.cells #[.int .u8 32] 5 (1, 2))).cell? ⟨g1, i, none⟩ = some (.slice A ls[i].length cl) := (World.cell?_of_block (Below.heap_alloc _ _ _ hg1)).trans hu2
          exact (World.cell?_of_block (HB2.out.block g1 (by rw [World.size_alloc]; omega))).trans h3
        exact HF.out.cell h2 (by show g1 ≠ b; omega) (by rw [hrow]; simp)
      have hm1 := method_write ⟨b, 0, none⟩
      have hm2 := method_rune ⟨b, 0, none⟩
      have HR := Lib.hid (replace_any A cl ls[i] (⟨#[239, 128, 130]⟩ ++ t) wr hCl hcl (by omega) ld2 ld3)
      obtain ⟨l, hl2⟩ : ∃ l, l = ls[i] := ⟨_, rfl⟩
      rw [← hl2] at HR hcell hgd ld1
      have HGD := Lib.hid hgd
      have i0 : (0 : Int) ≤ (i : Int) := by omega
      have i1 : (i : Int) < (ls.length : Int) := by omega
      have hd : decide ((i : Int) < (ls.length : Int)) = true := decide_eq_true i1
      have hw1 : wrap64 ((ls.length : Int) - 1) = (ls.length : Int) - 1 := by unfold wrap64; omega
      clear hu1 hu2 hl0 ld2 ld3 hCl hcl hgd hl2
      have hol := outs_len (sep := List.replicate n 32) (by rw [List.length_replicate]; exact hn) (fun x hx => (HD.out x hx).1) i (by omega)
      have hblr := HI.out.lt
      obtain ⟨x, hx⟩ : ∃ x, x = outs (List.replicate n 32) ls i := ⟨_, rfl⟩
      rw [← hx] at HI hol
      have HX := Lib.hid hx
      clear hx
      have hSI : Src b w2 (some ⟨w1.heap.size + 1, 0, none⟩) (List.replicate n 32) := fun hn0 => ⟨_, rfl, by show w1.heap.size + 1 ≠ b; omega, by rw [hrow]; simp, fun j v hj => by rw [Lib.addr_add, Nat.zero_add]; exact HCE.out j v hj⟩
      have HSI := Lib.hid (hSI.fine HF.out)
      clear hSI
      by_cases hi0 : i = 0
      · subst hi0
        by_cases hlast : 1 < ls.length
        · have hdl : decide ((0 : Int) < (ls.length : Int) - 1) = true := decide_eq_true (by omega)
          go_wp2_with (first
            | (go_at_call 90; refine HR.out.mono ?_; rintro e w3 ⟨p, c2, rfl, hp1, hp2, hb3⟩; have HS := Lib.hid (Src.line HI.out hb3 hp1 hp2); have HI3 := Lib.hid (buf_below HI.out hb3); have HF3 := Lib.hid (HF.out.trans (Fine.below hb3 hblr)); have HB3 := Lib.hid (HB.out.trans (hb3.mono (Nat.le_of_lt hblr))); clear hp1 hp2 hb3)
            | (go_at_call 112; refine (write_fine b b x l p l.length c2 rfl _ HI3.out (Nat.le_of_lt HI3.out.lt) (by omega) HS.out).mono ?_; rintro e w4 ⟨rfl, hi4, hb4, hf4⟩; have HI4 := Lib.hid hi4; have HB4 := Lib.hid (HB3.out.trans hb4); have HF4 := Lib.hid (HF3.out.trans hf4); clear hi4 hb4 hf4)
            | (go_at_call 113; refine (write_feed b b (bv (x ++ l)) _ HI4.out (Nat.le_of_lt HI4.out.lt) (bv_one _) (by rw [bv_length, List.length_append]; omega)).mono ?_; rintro e w5 ⟨rfl, hi5, hb5, hf5⟩; have HI5 := Lib.hid hi5; have HB5 := Lib.hid (HB4.out.trans hb5); have HF5 := Lib.hid (HF4.out.trans hf5); clear hi5 hb5 hf5))
          go_roundg (ls.length - 1)
          case measure => omega
          case rel =>
            refine ⟨1, rfl, rfl, by omega, ⟨?_⟩, ⟨HF5.out⟩, ⟨HB5.out⟩⟩
            rw [outs_first _ _ (by omega), if_pos hlast, HGD.out, ← HX.out, bv_append _ [10]]
            exact HI5.out
        · obtain hls : ls.length = 1 := by omega
          have hdl : decide ((0 : Int) < (ls.length : Int) - 1) = false := decide_eq_false (by omega)
          have HLS := Lib.hid hls
          clear hls
          go_wp2_with (first
            | (go_at_call 90; refine HR.out.mono ?_; rintro e w3 ⟨p, c2, rfl, hp1, hp2, hb3⟩; have HS := Lib.hid (Src.line HI.out hb3 hp1 hp2); have HI3 := Lib.hid (buf_below HI.out hb3); have HF3b := Lib.hid (Fine.below hb3 hblr); have HF3 := Lib.hid (HF.out.trans (Fine.below hb3 hblr)); have HB3 := Lib.hid (HB.out.trans (hb3.mono (Nat.le_of_lt hblr))); clear hp1 hp2 hb3)
            | (go_at_call 112; refine (write_fine b b x l p l.length c2 rfl _ HI3.out (Nat.le_of_lt HI3.out.lt) (by omega) HS.out).mono ?_; rintro e w4 ⟨rfl, hi4, hb4, hf4⟩; have HI4 := Lib.hid hi4; have HB4 := Lib.hid (HB3.out.trans hb4); have HF4 := Lib.hid (HF3.out.trans hf4); clear hi4 hb4 hf4))
          go_roundg (ls.length - 1)
          case measure => omega
          case rel =>
            refine ⟨1, rfl, rfl, by omega, ⟨?_⟩, ⟨HF4.out⟩, ⟨HB4.out⟩⟩
            rw [outs_first _ _ (by omega), if_neg hlast, HGD.out, ← HX.out, List.append_nil]
            exact HI4.out
      · have HIND := Lib.hid (show ∀ W, Lib.IsBuffer 68 5 b b (bv x) W → Fine b wr W → Calls Try.prog 112 #[.pointer (some ⟨b, 0, none⟩), .slice (some ⟨w1.heap.size + 1, 0, none⟩) n n] W (fun e w' => e = .returned (.tuple #[.int .i64 n, .nilIface]) ∧ Lib.IsBuffer 68 5 b b (bv (x ++ List.replicate n 32)) w' ∧ Below b W w' ∧ Fine b W w') from
          fun W hI hf => write_fine b b x (List.replicate n 32) (some ⟨w1.heap.size + 1, 0, none⟩) n n List.length_replicate W hI (Nat.le_of_lt hI.lt) (by omega) (fun h0 => HSI.out.fine hf (by rw [List.length_replicate]; exact h0)))
        have hi1 : ((i : Int) != 0) = true := by
          have : ¬ (i : Int) = 0 := by omega
          simpa using this
        by_cases hlast : i + 1 < ls.length
        · have hdl : decide ((i : Int) < (ls.length : Int) - 1) = true := decide_eq_true (by omega)
          go_wp2_with (first
            | (go_at_call 90; refine HR.out.mono ?_; rintro e w3 ⟨p, c2, rfl, hp1, hp2, hb3⟩; have HS := Lib.hid (Src.line HI.out hb3 hp1 hp2); have HI3 := Lib.hid (buf_below HI.out hb3); have HF3b := Lib.hid (Fine.below hb3 hblr); have HF3 := Lib.hid (HF.out.trans (Fine.below hb3 hblr)); have HB3 := Lib.hid (HB.out.trans (hb3.mono (Nat.le_of_lt hblr))); clear hp1 hp2 hb3)
            | (go_at_call 112; refine (write_fine b b (x ++ List.replicate n 32) l p l.length c2 rfl _ HI4.out (Nat.le_of_lt HI4.out.lt) (by rw [List.length_append, List.length_replicate]; omega) HS4.out).mono ?_; rintro e w5 ⟨rfl, hi5, hb5, hf5⟩; have HI5 := Lib.hid hi5; have HB5 := Lib.hid (HB4.out.trans hb5); have HF5 := Lib.hid (HF4.out.trans hf5); clear hi5 hb5 hf5)
            | (go_at_call 112; refine (HIND.out _ HI3.out HF3b.out).mono ?_; rintro e w4 ⟨rfl, hi4, hb4, hf4⟩; have HI4 := Lib.hid hi4; have HB4 := Lib.hid (HB3.out.trans hb4); have HF4 := Lib.hid (HF3.out.trans hf4); have HS4 := Lib.hid (HS.out.fine hf4); clear hi4 hb4 hf4)
            | (go_at_call 113; refine (write_feed b b (bv (x ++ List.replicate n 32 ++ l)) _ HI5.out (Nat.le_of_lt HI5.out.lt) (bv_one _) (by rw [bv_length, List.length_append, List.length_append, List.length_replicate]; omega)).mono ?_; rintro e w6 ⟨rfl, hi6, hb6, hf6⟩; have HI6 := Lib.hid hi6; have HB6 := Lib.hid (HB5.out.trans hb6); have HF6 := Lib.hid (HF5.out.trans hf6); clear hi6 hb6 hf6))
          go_roundg (ls.length - (i + 1))
          case measure => omega
          case rel =>
            refine ⟨i + 1, by first | rfl | (rw [show wrap64 ((i : Int) + 1) = ((i + 1 : Nat) : Int) by unfold wrap64; omega]) | simp, rfl, by omega, ⟨?_⟩, ⟨HF6.out⟩, ⟨HB6.out⟩⟩
            rw [outs_next _ _ _ hi0 hlt, if_pos hlast, HGD.out, ← HX.out, bv_append _ [10]]
            exact HI6.out
        · have hdl : decide ((i : Int) < (ls.length : Int) - 1) = false := decide_eq_false (by omega)
          go_wp2_with (first
            | (go_at_call 90; refine HR.out.mono ?_; rintro e w3 ⟨p, c2, rfl, hp1, hp2, hb3⟩; have HS := Lib.hid (Src.line HI.out hb3 hp1 hp2); have HI3 := Lib.hid (buf_below HI.out hb3); have HF3b := Lib.hid (Fine.below hb3 hblr); have HF3 := Lib.hid (HF.out.trans (Fine.below hb3 hblr)); have HB3 := Lib.hid (HB.out.trans (hb3.mono (Nat.le_of_lt hblr))); clear hp1 hp2 hb3)
            | (go_at_call 112; refine (write_fine b b (x ++ List.replicate n 32) l p l.length c2 rfl _ HI4.out (Nat.le_of_lt HI4.out.lt) (by rw [List.length_append, List.length_replicate]; omega) HS4.out).mono ?_; rintro e w5 ⟨rfl, hi5, hb5, hf5⟩; have HI5 := Lib.hid hi5; have HB5 := Lib.hid (HB4.out.trans hb5); have HF5 := Lib.hid (HF4.out.trans hf5); clear hi5 hb5 hf5)
            | (go_at_call 112; refine (HIND.out _ HI3.out HF3b.out).mono ?_; rintro e w4 ⟨rfl, hi4, hb4, hf4⟩; have HI4 := Lib.hid hi4; have HB4 := Lib.hid (HB3.out.trans hb4); have HF4 := Lib.hid (HF3.out.trans hf4); have HS4 := Lib.hid (HS.out.fine hf4); clear hi4 hb4 hf4))
          go_roundg (ls.length - (i + 1))
          case measure => omega
          case rel =>
            refine ⟨i + 1, by first | rfl | (rw [show wrap64 ((i : Int) + 1) = ((i + 1 : Nat) : Int) by unfold wrap64; omega]) | simp, rfl, by omega, ⟨?_⟩, ⟨HF5.out⟩, ⟨HB5.out⟩⟩
            rw [outs_next _ _ _ hi0 hlt, if_neg hlast, HGD.out, ← HX.out, List.append_nil]
            exact HI5.out
    · obtain rfl : i = ls.length := by omega
      have hd : decide ((ls.length : Int) < (ls.length : Int)) = false := decide_eq_false (by omega)
      go_wp2
      go_end0
      refine ⟨rfl, ?_, ?_⟩
      · have := HI.out
        rwa [outs_last] at this
      · exact (hbW2.mono (by omega)).trans HB.out
end Go.Proofs.Yticofikbijldiaa.Hand
