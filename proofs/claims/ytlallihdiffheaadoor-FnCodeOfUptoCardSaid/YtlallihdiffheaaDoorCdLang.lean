/- commonmark.getCodeLanguage at a node of class language-..: the language. -/
import Derived.Test.YtlallihdiffheaaDoorCdPlain
import Derived.Test.YtlallihdiffheaaDoorAttr
namespace Go.Proofs.YtlallihdiffheaaDoor.Hand
open Go.RowKit Go.Proofs.YtlallihdiffheaaDoorW.PrintWords Go.Proofs.YtlallihdiffheaaDoorW.PrintLast Go.Proofs.YtlallihdiffheaaDoorW.PrintMore Go.Proofs.YtlallihdiffheaaDoor.GCo
set_option linter.unusedVariables false
set_option linter.unusedSimpArgs false

theorem infoS : (Tryd.prog.info? 9).map (fun i => (i.zero, i.size, i.bytes)) = some (some (.string ⟨#[]⟩), 1, 16) := by kernel_rfl
set_option maxRecDepth 100000 in
set_option maxHeartbeats 6400000 in
theorem split1_any (s : ByteArray) (hs : s.size ≤ 1048585) (hno : (32 : UInt8) ∉ s.data.toList) (w : World) : Calls Tryd.prog 101 #[.string s, .string ⟨#[32]⟩] w fun e w' => ∃ (ad : Addr) (c : Nat), e = .returned (.slice (some ad) 1 c) ∧ w'.cell? ad = some (.string s) ∧ Below w.heap.size w w' := by
  have hk := index_miss s ⟨#[32]⟩ 32 (by omega) (by decide) (by decide) hno (s.size + 2) 0 (by omega) (by omega)
  have HI := Lib.hid (fun W => commonmark_zzIndex.calls (s.size + 2) s ⟨#[32]⟩ (-1) W hk)
  clear hk hno
  go_enter Tryd.func101, Tryd.ntmps101
  go_wp2
  go_loopw [0, 5] (fun a v wr => a = .string s ∧ Kd.R Kd.string 9 wr w.heap.size (fun _ => True) v [] ∧ Below w.heap.size w wr) (fun a _ _ => 0)
  case atStart => exact ⟨rfl, Kd.R_nil _ _ _ _ _, Below.refl _ _⟩
  case round =>
    obtain ⟨rfl, hR, hb⟩ := hrel
    have HR := Lib.hid hR
    have HB := Lib.hid hb
    clear hR hb
    go_wp2_with (first | (go_at_call 110; refine (HI.out _).mono ?_; rintro e w1 ⟨rfl, hd⟩; obtain ⟨nd, rfl⟩ := hd) | ((with_reducible refine gate_builtin (b := .append) (xs := #[.tmp 42, .tmp 44]) rfl ?_); at_builtin; refine Kd.R_append Kd.string (w0 := w) w.heap.size rfl (.tmp 42) (.tmp 44) 32 9 (.string ⟨#[]⟩) 16 rfl Tryd.underlying32 infoS rfl (by decide) (by omega) u5 [] (s) [.string (s)] (fun _ => True) (fun _ => False) rfl rfl ?aP (fun _ hk => hk.elim) ?aF ?aO ?aB ?aS ?aL ?_; (case aP => exact rfl); (case aB => exact (by repeat (first | (with_reducible first | exact HB.out | apply below_alloc | apply pw_below_drewN | apply below_drew1) | exact HB.out))); (case aF => exact (fun _ _ => trivial)); (case aO => exact (by (with_reducible repeat (first | apply Kd.R_alloc | apply Kd.R_drewN | apply Kd.R_drew)); exact HR.out)); (case aS => exact (below_size (by repeat (first | (with_reducible first | exact HB.out | apply below_alloc | apply pw_below_drewN | apply below_drew1) | exact HB.out)))); (case aL => simp); intro v9 w9 ho hb9 hg hat; have HO9 := Lib.hid ho; have HB9 := Lib.hid hb9; clear ho hb9 hg hat))
    go_ret
    obtain ⟨ad, c, hv⟩ := Kd.R_slice1 HO9.out (by simp)
    obtain ⟨A2, c2, hv2, _, hC⟩ := Kd.R_reads HO9.out
    rw [hv] at hv2
    have hA : A2 = some ad := by injection hv2 with h1 _ _; exact h1.symm
    subst hA
    obtain ⟨ad2, e2, hcell⟩ := Kd.at_string hC 0 (by decide) (by simp)
    obtain rfl : ad = ad2 := by
      have := e2
      simpa using this
    refine ⟨ad, c, by rw [hv]; rfl, ?_, HB9.out⟩
    simpa [Addr.add, rdOf] using hcell
/-- The class of a language. -/
def classK : ByteArray := ⟨#[99, 108, 97, 115, 115]⟩
set_option maxRecDepth 100000 in
set_option maxHeartbeats 6400000 in
theorem language_any {w : World} {H : NMap} (hw : Holds w H) {b : Nat} {par f l v x : Option Nat} {q : Pay} (hb : H b = some ⟨par, f, l, v, x, q⟩) (lang : ByteArray) (hl : lang.size ≤ 1048576) (h45 : (45 : UInt8) ∉ lang.data.toList) (h32 : (32 : UInt8) ∉ lang.data.toList) (hq : seek classK q.attrs = some (lgP ++ lang)) :
    Calls Tryd.prog 84 #[.pointer (some ⟨b, 0, none⟩)] w fun e w' => e = .returned (.string lang) ∧ Below w.heap.size w w' := by
  have hsz : (lgP ++ lang).size ≤ 1048585 := by rw [ByteArray.size_append]; have : lgP.size = 9 := rfl; omega
  have hno : (32 : UInt8) ∉ (lgP ++ lang).data.toList := by
    rw [ByteArray.data_append, Array.toList_append, List.mem_append]
    rintro (h | h)
    · exact absurd h (by decide)
    · exact h32 h
  have hattr := getAttributeOr_any hw hb classK ⟨#[]⟩
  rw [hq] at hattr
  have HAT := Lib.hid (show Calls Tryd.prog 100 #[.pointer (some ⟨b, 0, none⟩), .string ⟨#[99, 108, 97, 115, 115]⟩, .string ⟨#[]⟩] w fun e w' => e = .returned (.string (lgP ++ lang)) ∧ Below w.heap.size w w' from hattr)
  have HSP := Lib.hid (fun W => split1_any (lgP ++ lang) hsz hno W)
  have HC := Lib.hid (fun W => commonmark_zzContains.calls 1 (lgP ++ lang) lgP true W (contains_here lang hl))
  have HR1 := Lib.hid (fun W => commonmark_zzReplaceOne.calls 1 (lgP ++ lang) lgP ⟨#[]⟩ lang W (replace_here lang hl))
  have HR2 := Lib.hid (fun W => commonmark_zzReplaceOne.calls (lang.size + 2) lang lnP ⟨#[]⟩ lang W (replace_miss lang hl h45))
  obtain ⟨cls, hcls⟩ : ∃ cls, lgP ++ lang = cls := ⟨_, rfl⟩
  rw [hcls] at HAT HSP HC HR1
  clear hw hb hq hattr hsz hno h45 h32 hl hcls
  go_enter Tryd.func84, Tryd.ntmps84
  go_wp2_with (first
    | (go_at_call 100; refine HAT.out.mono ?_; rintro e w1 ⟨rfl, hb1⟩; have HB1 := Lib.hid hb1; clear hb1)
    | (go_at_call 101; refine (HSP.out _).mono ?_; rintro e w2 ⟨ad, c, rfl, hcell, hb2⟩; have hbl := World.block_lt_of_cell? w2 _ hcell; have HB2 := Lib.hid (below_then HB1.out HB1.out.size hb2); clear hb2))
  go_loopw [13] (fun k0 wr => k0 = .int .i64 0 ∧ wr = w2) (fun k0 _ => 0)
  case atStart => exact ⟨rfl, rfl⟩
  case round =>
    obtain ⟨rfl, rfl⟩ := hrel
    go_wp2_with (first
      | (go_at_call 102; refine (HC.out _).mono ?_; rintro e w3 ⟨rfl, hd⟩; obtain ⟨nd, rfl⟩ := hd)
      | (go_at_call_of 103 (Value.string cls); refine (HR1.out _).mono ?_; rintro e w4 ⟨rfl, hd⟩; obtain ⟨nd, rfl⟩ := hd)
      | (go_at_call_of 103 (Value.string lang); refine (HR2.out _).mono ?_; rintro e w5 ⟨rfl, hd⟩; obtain ⟨nd, rfl⟩ := hd))
    go_ret
    refine ⟨rfl, ?_⟩
    repeat (first | (with_reducible first | exact HB2.out | apply below_alloc | apply pw_below_drewN | apply below_drew1) | exact HB2.out)
end Go.Proofs.YtlallihdiffheaaDoor.Hand
