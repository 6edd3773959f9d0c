/- tablePlugin.writeHeaderUnderline by hand. -/
import Derived.Test.YtnhcocjdkmelhaaLine
namespace Go.Proofs.Ytnhcocjdkmelhaa.Hand
open Go.RowKit Go.Proofs.YtnhcocjdkmelhaaW.PrintWords Go.Proofs.YtnhcocjdkmelhaaW.PrintLast Go.Proofs.YtnhcocjdkmelhaaW.PrintMore
set_option linter.unusedVariables false
set_option linter.unusedSimpArgs false

set_option maxRecDepth 100000 in
set_option maxHeartbeats 64000000 in
theorem header_any (pb b : Nat) (A1 A2 : Option Addr) (c1 c2 : Nat) (l : List ByteArray) (ns : List Int) (hl : l.length = ns.length) (hn : ∀ n ∈ ns, 0 ≤ n ∧ n ≤ 1000) (hlen : ns.length ≤ 2147483647) (w0 w : World) (hC1 : Kd.C Kd.string w0 A1 ns.length l) (hC2 : Kd.C (Kd.int .i64) w0 A2 ns.length ns)
    (hB : Buf w0.heap.size b 4398046511104 pb [] w0 w) :
    Calls Try.prog 30 #[.pointer (some ⟨pb, 0, none⟩), .iface 69 (.pointer (some ⟨b, 0, none⟩)), .slice A1 ns.length c1, .slice A2 ns.length c2] w fun e w' => e = .returned (.tuple #[]) ∧ Buf w0.heap.size b 4398046511104 pb (lineTo l ns ns.length) w0 w' := by
  have H1 := Lib.hid hC1
  have H2 := Lib.hid hC2
  have HB := Lib.hid hB
  have HN := Lib.hid hn
  have hm : ∀ W, (method 233 69 (.pointer (some ⟨b, 0, none⟩)) "WriteString").run Try.prog W = .ok (72, .pointer (some ⟨b, 0, none⟩)) W := fun W => method_ws _ _
  have hna : ∀ W, (nilAhead 233 69 (.pointer (some ⟨b, 0, none⟩)) "WriteString").run Try.prog W = .ok (some false) W := fun W => ahead_ws _ _
  have HL := Lib.hid hl
  clear hC1 hC2 hB hn hl
  go_enter Try.func30, Try.ntmps30
  go_wp2
  go_loopw [14] (fun i0 wr => ∃ (i : Nat), i0 = .int .i64 i ∧ i ≤ ns.length ∧ Buf w0.heap.size b 4398046511104 pb (lineTo l ns i) w0 wr) (fun i0 _ => ns.length - (intOf i0).toNat)
  case atStart => exact ⟨0, rfl, Nat.zero_le _, HB.out⟩
  case round =>
    obtain ⟨i, rfl, hi, hbuf⟩ := hrel
    have hb := hbuf.below
    by_cases hlt : i < ns.length
    · obtain ⟨ad, rfl, hcell⟩ := Kd.at_int H2.out (i : Int) (by omega) (by omega)
      rw [Int.toNat_natCast] at hcell
      obtain ⟨n, hn⟩ : ∃ n, n = rd ns (i : Int) := ⟨_, rfl⟩
      rw [← hn] at hcell
      replace hcell := (hb.cell (World.block_lt_of_cell? w0 _ hcell)).trans hcell
      have hp := hbuf.cell
      have h0 : (0 : Int) ≤ (i : Int) := by omega
      have h1 : (i : Int) < (ns.length : Int) := by omega
      obtain ⟨s, hs⟩ : ∃ s, s = rdOf ByteArray.empty l (i : Int) := ⟨_, rfl⟩
      have hal := align_any A1 c1 l i (by rw [HL.out]; exact hlt) wr (Kd.C_below (by rw [HL.out]; exact H1.out) hb)
      rw [← hs, HL.out] at hal
      have hsucc := lineTo_succ l ns i
      rw [← hs, ← hn] at hsucc
      have hnb : 0 ≤ n ∧ n ≤ 1000 := by
        rw [hn, show rd ns (i : Int) = ns[i]'hlt from by simp [rd, rdOf, hlt]]
        exact HN.out _ (List.getElem_mem _)
      obtain ⟨hn0, hn1⟩ := hnb
      have hprl := lineTo_len l ns HN.out (i + 1) hlt
      obtain ⟨pr, hpr⟩ : ∃ pr, pr = lineTo l ns i := ⟨_, rfl⟩
      rw [← hpr] at hsucc hbuf
      have HCUR := Lib.hid hbuf
      have HAL := Lib.hid hal
      have HS := Lib.hid hsucc
      have HI := Lib.hid (show i = 0 → pr = [] from fun hz => by rw [hpr, hz]; rfl)
      clear hal hs hn hpr hbuf hb hsucc
      rcases align_four s n.toNat with ⟨hA1, hA2, hA3, HPC⟩ | ⟨hA1, hA2, hA3, HPC⟩ | ⟨hA1, hA2, hA3, HPC⟩ | ⟨hA1, hA2, hA3, HPC⟩
      all_goals
        cases hz : ((i : Int) == 0)
        all_goals
          go_wp2_with (first | (go_at_call 35; refine HAL.out.mono ?_; rintro e w1 ⟨rfl, rfl⟩) | (go_at_call 72; refine (ws1_any _ HCUR.out (Nat.le_refl _) (by decide)).mono ?_; rintro e w2 ⟨rfl, hcur⟩; replace hp := hcur.cell; replace HCUR := Lib.hid hcur; clear hcur))
          go_region_law (first | (go_simp; go_at_call 36; refine (dash_any n hn0 hn1 (HCUR.out.drew (Nat.le_refl _)) (Nat.le_refl _)).mono ?_; rintro e w3 ⟨rfl, hcur⟩; replace hp := hcur.cell; replace HCUR := Lib.hid hcur; clear hcur) | (go_simp; go_at_call 72; refine (wsn_any n.toNat 45 HCUR.out (Nat.le_refl _) (by omega) (by decide)).mono ?_; rintro e w2 ⟨rfl, hcur⟩; replace hp := hcur.cell; replace HCUR := Lib.hid hcur; clear hcur))
          all_goals
            go_wp2_with (go_at_call 72; refine (ws1_any _ HCUR.out (Nat.le_refl _) (by decide)).mono ?_; rintro e w2 ⟨rfl, hcur⟩; replace hp := hcur.cell; replace HCUR := Lib.hid hcur; clear hcur)
            have hfin : Buf w0.heap.size b 4398046511104 pb (lineTo l ns (i + 1)) w0 w2 := by
              refine ⟨?_, HCUR.out.below, by omega, HCUR.out.ne, HCUR.out.pad⟩
              have hh := HCUR.out.buf
              rw [HS.out, HPC.out]
              first
                | (have hi0 : i = 0 := by simpa using hz
                   rw [if_pos hi0]
                   rw [HI.out hi0] at hh
                   simpa using hh)
                | (have hi0 : ¬ i = 0 := by simpa using hz
                   rw [if_neg hi0]
                   simpa using hh)
            exact ⟨⟨i + 1, by rw [Int.natCast_add]; rfl, hlt, hfin⟩, by show ns.length - ((i : Int) + 1).toNat < ns.length - (i : Int).toNat; omega⟩
    · have hge : ¬ ((i : Int) < (ns.length : Int)) := by omega
      have HE := Lib.hid (show i = ns.length by omega)
      have HBB := Lib.hid hbuf
      clear hbuf hb hi hlt
      go_wp2
      go_end0
      exact ⟨rfl, HE.out ▸ HBB.out⟩
end Go.Proofs.Ytnhcocjdkmelhaa.Hand
