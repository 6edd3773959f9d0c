/- impl.CodeOf by hand: at a code element of texts, of a class language-... -/
import Derived.Test.YtlallihdiffheaaDoorCdCode
import Derived.Test.YtlallihdiffheaaDoorMadeA
import Derived.Test.YtlallihdiffheaaDoorBytes
namespace Go.Proofs.YtlallihdiffheaaDoor.Hand
open Go.RowKit Go.Proofs.YtlallihdiffheaaDoorW.PrintWords Go.Proofs.YtlallihdiffheaaDoorW.PrintLast Go.Proofs.YtlallihdiffheaaDoorW.PrintMore Go.Proofs.YtlallihdiffheaaDoor.GT Go.Proofs.YtlallihdiffheaaDoor.GCo
set_option linter.unusedVariables false
set_option linter.unusedSimpArgs false

/-- A text's node. -/
def tx (t : ByteArray) : Nd := ⟨1, ⟨#[]⟩, t, [], []⟩
/-- Texts, one behind the other. -/
def joinL (ts : List ByteArray) : List UInt8 := (ts.map (fun t => t.data.toList)).flatten
def joinB (ts : List ByteArray) : ByteArray := ⟨(joinL ts).toArray⟩
theorem joinB_snoc (ts : List ByteArray) (t : ByteArray) : joinB (ts ++ [t]) = joinB ts ++ t := by
  refine ByteArray.ext (Array.toList_inj.1 ?_)
  simp [joinB, joinL, ByteArray.data_append]
theorem texts_of : ∀ (k : F Pay) (ts : List ByteArray), Neat k → erase k = ts.map tx → TextsF k ∧ catF k = joinL ts
  | .nil, ts, hn, h => by
    cases ts with
    | nil => exact ⟨trivial, rfl⟩
    | cons t ts => cases h
  | .node b p k r, ts, hn, h => by
    cases ts with
    | nil => cases h
    | cons t ts =>
      simp only [erase, List.map_cons, List.cons.injEq] at h
      obtain ⟨h1, h2⟩ := texts_of r ts hn.2.2 h.2
      have h3 := h.1
      unfold nodeOf at h3
      by_cases e3 : p.type = 3
      · rw [if_pos e3] at h3
        injection h3 with h3
        exact absurd h3 (by decide)
      · rw [if_neg e3] at h3
        by_cases e1 : p.type = 1
        · rw [if_pos e1] at h3
          injection h3 with _ _ h3
          refine ⟨⟨e1, ?_, h1⟩, ?_⟩
          · rcases hn.1 with ⟨_, h⟩ | ⟨h, _⟩ | h | h
            · exact h
            · rw [e1] at h; exact absurd h (by decide)
            · exact absurd h e3
            · rw [e1] at h; exact absurd h (by decide)
          · simp only [catF, h2, h3, joinL, List.map_cons, List.flatten_cons]
        · rw [if_neg e1] at h3
          by_cases e4 : p.type = 4
          · rw [if_pos e4] at h3
            injection h3 with h3
            exact absurd h3 (by decide)
          · rw [if_neg e4] at h3
            injection h3 with h3
            exact absurd h3 (by decide)
theorem tnL_texts : ∀ (ts : List ByteArray), TnL ts.length (ts.map tx)
  | [] => .nil
  | t :: ts => by
    have h := TnL.cons 1 ts.length (tx t) (ts.map tx) (.text t) (tnL_texts ts)
    rw [Nat.add_comm] at h
    exact h
theorem bytes_nums (l : List UInt8) : Lib.byteCells l = nums .u8 (bys ⟨l.toArray⟩) := by
  simp [Lib.byteCells, nums, bys]
set_option maxRecDepth 100000 in
theorem zzCode_any {H : NMap} {w : World} (hw : Holds w H) {c : Nat} {par v x : Option Nat} {q : Pay} {k : F Pay} (hs : Sits H par v x (.node c q k .nil)) (ht : q.type = 3) (hd : q.data = codeB)
    (lang : ByteArray) (hl : lang.size ≤ 1048576) (h45 : (45 : UInt8) ∉ lang.data.toList) (h32 : (32 : UInt8) ∉ lang.data.toList) (hq : seek classK q.attrs = some (lgP ++ lang)) (hk : TextsF k) (hlen : (catF k).length ≤ 100000000) :
    Calls Tryd.prog 36 #[.pointer (some ⟨c, 0, none⟩)] w fun e w' => ∃ v, e = .returned (.tuple #[v, .string lang]) ∧ w'.ownsRow w.heap.size 5 1 v (catF k).length (Lib.byteCells (catF k)) ∧ Below w.heap.size w w' := by
  have HX := Lib.hid (codeWithout_any hw hs ht hd lang hl h45 h32 hq hk hlen)
  clear hw hs ht hd hl h45 h32 hq hk hlen
  go_enter Tryd.func36, Tryd.ntmps36
  go_wp2_with (go_at_call 62; refine HX.out.mono ?_; rintro e w1 ⟨v, rfl, hown, hb⟩; have HO := Lib.hid (And.intro hown hb); clear hown hb)
  go_ret2
  exact ⟨v, rfl, HO.out.1, HO.out.2⟩
set_option maxRecDepth 100000 in
set_option maxHeartbeats 1600000 in
theorem codeOf_any (ts : List ByteArray) (hts : ts.length ≤ 1048576) (hlen : (joinL ts).length ≤ 100000000) (lang : ByteArray) (hl : lang.size ≤ 1048576) (h45 : (45 : UInt8) ∉ lang.data.toList) (h32 : (32 : UInt8) ∉ lang.data.toList)
    (w : World) (A3 A4 : Option Addr) (c3 c4 : Nat) (h3 : k29.C w A3 1 [⟨classK, lgP ++ lang⟩]) (l3 : 1 ≤ c3) (h4 : k25.C w A4 ts.length (ts.map tx)) (l4 : ts.length ≤ c4) :
    Calls Tryd.prog 17 #[.agg #[.int .i64 0, .string codeB, .string ⟨#[]⟩, .slice A3 1 c3, .slice A4 ts.length c4]] w fun e w' => e = .returned (.tuple #[.string (joinB ts), .string lang]) ∧ Below w.heap.size w w' := by
  obtain ⟨W, hW⟩ : ∃ W, W = w.alloc (.cells #[.int .i64 0, .string codeB, .string ⟨#[]⟩, .slice A3 1 c3, .slice A4 ts.length c4] 25 (0, 0)) := ⟨_, rfl⟩
  have hb0 : Below w.heap.size w W := by rw [hW]; exact below_alloc (Below.refl _ _) _
  have hn0 : W.heap[w.heap.size]? = some (.cells #[.int .i64 0, .string codeB, .string ⟨#[]⟩, .slice A3 1 c3, .slice A4 ts.length c4] 25 (0, 0)) := by rw [hW]; exact heap_alloc_new _ _
  have hmade := made_tree (.elem ts.length codeB [⟨classK, lgP ++ lang⟩] (ts.map tx) (by simp) (tnL_texts ts)) W (fun _ => none) A3 A4 c3 c4 (Holds.empty _) (Kd.C_below h3 hb0) l3 (by simp only [List.length_map]; exact Kd.C_below h4 hb0) (by simp only [List.length_map]; exact l4)
  have HM := Lib.hid (show Calls Tryd.prog 31 #[.agg #[.int .i64 0, .string codeB, .string ⟨#[]⟩, .slice A3 1 c3, .slice A4 ts.length c4]] W (MadePost ⟨0, codeB, ⟨#[]⟩, [⟨classK, lgP ++ lang⟩], ts.map tx⟩ (fun _ => none) W) from by simpa only [List.length_map, List.length_cons, List.length_nil] using hmade)
  have hcall : ∀ (b : Nat) (p : Pay) (k : F Pay) (K : NMap) (w1 : World), Made ⟨0, codeB, ⟨#[]⟩, [⟨classK, lgP ++ lang⟩], ts.map tx⟩ (fun _ => none) W b p k K w1 →
      Calls Tryd.prog 36 #[.pointer (some ⟨b, 0, none⟩)] w1 fun e w' => ∃ Av cv n, e = .returned (.tuple #[.slice Av n cv, .string lang]) ∧ (convert 54 9 (.slice Av n cv)).run Tryd.prog w' = .ok (.string (joinB ts)) w' ∧ Below w1.heap.size w1 w' := by
    intro b p k K w1 hm
    have ht := elem_type hm.tells
    have h5 := hm.tells
    unfold nodeOf at h5
    rw [if_pos ht] at h5
    injection h5 with _ e1 _ e3 e4
    obtain ⟨t1, t2⟩ := texts_of k ts hm.neat.2.1 e4
    have hat : seek classK p.attrs = some (lgP ++ lang) := by
      have h6 : p.attrs = [(classK, lgP ++ lang)] := by
        have h7 := congrArg (List.map attrOf) e3
        rw [List.map_map] at h7
        simpa [attrOf, attrTo, Function.comp_def] using h7
      rw [h6]
      simp [seek]
    refine (zzCode_any hm.holds hm.sits ht e1 lang hl h45 h32 hat t1 (by rw [t2]; exact hlen)).mono ?_
    rintro e w' ⟨v, rfl, hown, hb⟩
    rw [t2] at hown
    obtain ⟨Av, cv, rfl⟩ := own_slice hown
    rw [bytes_nums] at hown
    refine ⟨Av, cv, _, rfl, ?_, hb⟩
    have h8 := string_of_reads (P := Tryd.prog) (dst := 9) (c := cv) Tryd.underlying54 Tryd.underlying5 Tryd.underlying9 (own_reads' hown)
    rw [str_bys] at h8
    exact h8
  have HC := Lib.hid hcall
  have HB := Lib.hid hb0
  have HW := Lib.hid hW
  obtain ⟨m0, -⟩ := out_cell hn0 0
  obtain ⟨m1, -⟩ := out_cell hn0 1
  obtain ⟨m2, -⟩ := out_cell hn0 2
  obtain ⟨m3, -⟩ := out_cell hn0 3
  obtain ⟨m4, -⟩ := out_cell hn0 4
  clear hcall hmade hb0 hn0 hW h3 h4 hl h45 h32 hlen hts m0 m1 m2 m3 m4
  generalize lgP ++ lang = cls at *
  rw [HW.out] at HM HC HB
  clear HW
  go_enter Tryd.func17, Tryd.ntmps17
  go_wp2_with (first
    | (go_at_call 31; refine HM.out.mono ?_; rintro e w1 ⟨b, p, k, K, rfl, hm⟩; have HZ := Lib.hid (HC.out b p k K w1 hm); have HB1 := Lib.hid (below_then HB.out HB.out.size hm.below); clear hm)
    | (go_at_call 36; refine HZ.out.mono ?_; rintro e w2 ⟨Av, cv, n, rfl, hcv, hb2⟩; have HB2 := Lib.hid (below_then HB1.out HB1.out.size hb2); clear hb2))
  go_ret2
  exact ⟨rfl, HB2.out⟩
end Go.Proofs.YtlallihdiffheaaDoor.Hand
