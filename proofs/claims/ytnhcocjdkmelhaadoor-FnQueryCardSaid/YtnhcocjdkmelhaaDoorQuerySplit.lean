/- converter.zzSplit at "&" by hand; strings.Join by the shelf's contract. -/
import Derived.Test.YtnhcocjdkmelhaaDoorGQix1
import Derived.Test.YtnhcocjdkmelhaaDoorJoinShelf
import Derived.Test.YtnhcocjdkmelhaaDoorQueryUrl
import Derived.Lib.TrimByte
namespace Go.Proofs.YtnhcocjdkmelhaaDoor.Hand
open Go.RowKit Go.Proofs.YtnhcocjdkmelhaaDoorW.PrintWords Go.Proofs.YtnhcocjdkmelhaaDoorW.PrintLast Go.Proofs.YtnhcocjdkmelhaaDoorW.PrintMore Go.Proofs.YtnhcocjdkmelhaaDoor.GQi
set_option linter.unusedVariables false
set_option linter.unusedSimpArgs false

/-- The parts between the signs '&'. -/
def splitU : List UInt8 → List (List UInt8)
  | [] => [[]]
  | x :: t => if x = 38 then [] :: splitU t else (match splitU t with
    | [] => [[x]]
    | h :: r => (x :: h) :: r)
theorem splitU_none : ∀ l : List UInt8, (38 : UInt8) ∉ l → splitU l = [l] := by
  intro l
  induction l with
  | nil => intro _; rfl
  | cons x t ih =>
    intro h
    simp only [List.mem_cons, not_or] at h
    rw [splitU, if_neg (fun e => h.1 e.symm), ih h.2]
theorem splitU_at : ∀ (a b : List UInt8), (38 : UInt8) ∉ a → splitU (a ++ 38 :: b) = a :: splitU b := by
  intro a
  induction a with
  | nil => intro b _; simp [splitU]
  | cons x t ih =>
    intro b h
    simp only [List.mem_cons, not_or] at h
    rw [List.cons_append, splitU, if_neg (fun e => h.1 e.symm), ih b h.2]
def splitB (s : ByteArray) : List ByteArray := (splitU s.data.toList).map (fun l => (⟨l.toArray⟩ : ByteArray))
theorem splitB_none {s : ByteArray} (h : (38 : UInt8) ∉ s.data.toList) : splitB s = [s] := by
  rw [splitB, splitU_none _ h]
  rfl
theorem splitB_at {s : ByteArray} {a b : List UInt8} (e : s.data.toList = a ++ 38 :: b) (h : (38 : UInt8) ∉ a) : splitB s = s.extract 0 a.length :: splitB (s.extract (a.length + 1) s.size) := by
  have e1 : s.extract 0 a.length = ⟨a.toArray⟩ := by
    rw [Lib.extract_upto, e]
    simp
  have e2 : s.extract (a.length + 1) s.size = ⟨b.toArray⟩ := by
    rw [Lib.extract_from, e]
    simp
  rw [e1, e2, splitB, e, splitU_at a b h, splitB]
  simp
theorem ext_one (s : ByteArray) (i : Nat) (h : i < s.data.toList.length) : (s.extract i (i + 1)).toList = [s.data.toList[i]'h] := by
  rw [ByteArray.toList_eq, ByteArray.data_extract, Array.toList_extract, List.extract_eq_take_drop, show i + 1 - i = 1 by omega, List.drop_eq_getElem_cons h]
  rfl
theorem index_loop (s : ByteArray) (hs : s.size ≤ 100000) : ∀ (d i k : Nat), s.size - i = d → i ≤ s.size → d < k → (∀ j (h : j < s.data.toList.length), j < i → s.data.toList[j]'h ≠ 38) →
    ((38 : UInt8) ∉ s.data.toList ∧ converter_zzIndex.l0 k s (⟨#[38]⟩ : ByteArray) (i : Int) = some (-1)) ∨ (∃ a b, s.data.toList = a ++ 38 :: b ∧ (38 : UInt8) ∉ a ∧ converter_zzIndex.l0 k s (⟨#[38]⟩ : ByteArray) (i : Int) = some (a.length : Int)) := by
  have hsz : s.data.toList.length = s.size := Array.length_toList ..
  have h1 : (ByteArray.mk #[38]).size = 1 := rfl
  have ht : (ByteArray.mk #[38]).toList = [38] := by decide +kernel
  intro d
  induction d with
  | zero =>
    intro i k hd hi hk hall
    obtain ⟨k, rfl⟩ : ∃ m, k = m + 1 := ⟨k - 1, by omega⟩
    left
    refine ⟨fun hm => ?_, ?_⟩
    · obtain ⟨j, hj, e⟩ := List.getElem_of_mem hm
      exact hall j hj (by omega) e
    · simp only [converter_zzIndex.l0]
      rw [h1, if_neg (by unfold wrap64; omega)]
  | succ d ih =>
    intro i k hd hi hk hall
    obtain ⟨k, rfl⟩ : ∃ m, k = m + 1 := ⟨k - 1, by omega⟩
    have hlt : i < s.data.toList.length := by omega
    have hw : wrap64 ((i : Int) + ((1 : Nat) : Int)) = ((i + 1 : Nat) : Int) := by unfold wrap64; omega
    have hw2 : wrap64 ((i : Int) + 1) = ((i + 1 : Nat) : Int) := by unfold wrap64; omega
    simp only [converter_zzIndex.l0]
    rw [h1, hw, hw2, if_pos (by omega), if_pos (by omega), if_pos (by omega), show ((i : Int)).toNat = i from by omega, show (((i + 1 : Nat) : Int)).toNat = i + 1 from by omega, ext_one s i hlt, ht]
    by_cases c : s.data.toList[i]'hlt = 38
    · right
      refine ⟨s.data.toList.take i, s.data.toList.drop (i + 1), ?_, fun hm => ?_, ?_⟩
      · rw [← c, ← List.drop_eq_getElem_cons hlt, List.take_append_drop]
      · obtain ⟨j, hj, e⟩ := List.getElem_of_mem hm
        rw [List.length_take] at hj
        rw [List.getElem_take] at e
        exact hall j (by omega) (by omega) e
      · rw [if_pos (by rw [c]), List.length_take, Nat.min_eq_left (by omega)]
    · rw [if_neg (fun e => c (List.cons.inj e).1)]
      exact ih (i + 1) k (by omega) (by omega) (by omega) (fun j hj hji => by
        by_cases e : j = i
        · subst e; exact c
        · exact hall j hj (by omega))
theorem index_any (s : ByteArray) (hs : s.size ≤ 100000) : ((38 : UInt8) ∉ s.data.toList ∧ ∃ k, converter_zzIndex.f k s (⟨#[38]⟩ : ByteArray) = some (-1)) ∨ (∃ a b, s.data.toList = a ++ 38 :: b ∧ (38 : UInt8) ∉ a ∧ ∃ k, converter_zzIndex.f k s (⟨#[38]⟩ : ByteArray) = some (a.length : Int)) := by
  rcases index_loop s hs s.size 0 (s.size + 1) (by omega) (by omega) (by omega) (fun j _ hj => by omega) with ⟨h1, h2⟩ | ⟨a, b, h1, h2, h3⟩
  · exact .inl ⟨h1, _, h2⟩
  · exact .inr ⟨a, b, h1, h2, _, h3⟩
def szv : Value → Nat
  | .string s => s.size
  | _ => 0
theorem infoS : (Tryd.prog.info? 9).map (fun i => (i.zero, i.size, i.bytes)) = some (some (.string ⟨#[]⟩), 1, 16) := by kernel_rfl
set_option maxRecDepth 100000 in
set_option maxHeartbeats 6400000 in
theorem split_any (s : ByteArray) (hs : s.size ≤ 100000) (w : World) : Calls Tryd.prog 40 #[.string s, .string ⟨#[38]⟩] w fun e w' => ∃ v0_ : Value, e = .returned (v0_) ∧ Kd.R Kd.string 9 w' w.heap.size (fun _ => True) v0_ (splitB s) ∧ Below w.heap.size w w' := by
  go_enter Tryd.func40, Tryd.ntmps40
  go_wp2
  go_loopw [0, 5] (fun a v wr => ∃ (t : ByteArray) (ps : List ByteArray), a = .string t ∧ t.size ≤ 100000 ∧ ps.length + t.size ≤ 100000 ∧ splitB s = ps ++ splitB t ∧ Kd.R Kd.string 9 wr w.heap.size (fun _ => True) v ps ∧ Below w.heap.size w wr) (fun a _ _ => szv a)
  case atStart => exact ⟨s, [], rfl, hs, by simpa using hs, rfl, Kd.R_nil _ _ _ _ _, Below.refl _ _⟩
  case round =>
    obtain ⟨t, ps, rfl, ht, hpt, hsp, hR, hb⟩ := hrel
    have HR := Lib.hid hR
    have HB := Lib.hid hb
    have HSP := Lib.hid hsp
    clear hR hb hsp
    rcases index_any t ht with ⟨hno, k, hk⟩ | ⟨a, b, hab, hna, k, hk⟩
    · have HI := Lib.hid (fun W => converter_zzIndex.calls k t ⟨#[38]⟩ (-1) W hk)
      have HN := Lib.hid hno
      clear hk hno
      go_wp2_with (first | (go_at_call 53; refine (HI.out _).mono ?_; rintro e w1 ⟨rfl, hd⟩; obtain ⟨nd, rfl⟩ := hd) | ((with_reducible refine gate_builtin (b := .append) (xs := #[.tmp 42, .tmp 44]) rfl ?_); at_builtin; refine Kd.R_append Kd.string (w0 := w) w.heap.size rfl (.tmp 42) (.tmp 44) 48 9 (.string ⟨#[]⟩) 16 rfl Tryd.underlying48 infoS rfl (by decide) (by omega) u5 ps (t) [.string (t)] (fun _ => True) (fun _ => False) rfl rfl ?aP (fun _ hk => hk.elim) ?aF ?aO ?aB ?aS ?aL ?_; (case aP => exact rfl); (case aB => exact (by repeat (first | (with_reducible first | exact HB.out | apply below_alloc | apply pw_below_drewN | apply below_drew1) | exact HB.out))); (case aF => exact (fun _ _ => trivial)); (case aO => exact (by (with_reducible repeat (first | apply Kd.R_alloc | apply Kd.R_drewN | apply Kd.R_drew)); exact HR.out)); (case aS => exact (below_size (by repeat (first | (with_reducible first | exact HB.out | apply below_alloc | apply pw_below_drewN | apply below_drew1) | exact HB.out)))); (case aL => omega); intro v9 w9 ho hb9 hg hat; have HO9 := Lib.hid ho; have HB9 := Lib.hid hb9; clear ho hb9 hg hat))
      go_ret
      exact ⟨v9, rfl, by rw [HSP.out, splitB_none HN.out]; exact HO9.out, HB9.out⟩
    · have hal : a.length + 1 ≤ t.size := by
        have h2 := congrArg List.length hab
        rw [Array.length_toList, List.length_append, List.length_cons] at h2
        have : t.data.size = t.size := rfl
        omega
      have HI := Lib.hid (fun W => converter_zzIndex.calls k t ⟨#[38]⟩ (a.length : Int) W hk)
      have HE := Lib.hid (splitB_at hab hna)
      clear hk hab hna
      generalize a.length = m at *
      have hsz1 : (t.extract (m + 1) t.size).size = t.size - (m + 1) := by simp
      have h0 : (0 : Int) ≤ (m : Int) := by omega
      have h1 : (m : Int) ≤ (t.size : Int) := by omega
      have h2 : (m : Int) + 1 ≤ (t.size : Int) := by omega
      have hneg : ¬ ((m : Int) < 0) := by omega
      go_wp2_with (first | (go_at_call 53; refine (HI.out _).mono ?_; rintro e w1 ⟨rfl, hd⟩; obtain ⟨nd, rfl⟩ := hd) | ((with_reducible refine gate_builtin (b := .append) (xs := #[.tmp 46, .tmp 50]) rfl ?_); at_builtin; refine Kd.R_append Kd.string (w0 := w) w.heap.size rfl (.tmp 46) (.tmp 50) 48 9 (.string ⟨#[]⟩) 16 rfl Tryd.underlying48 infoS rfl (by decide) (by omega) u5 ps (t.extract 0 m) [.string (t.extract 0 m)] (fun _ => True) (fun _ => False) rfl rfl ?aP (fun _ hk => hk.elim) ?aF ?aO ?aB ?aS ?aL ?_; (case aP => exact rfl); (case aB => exact (by repeat (first | (with_reducible first | exact HB.out | apply below_alloc | apply pw_below_drewN | apply below_drew1) | exact HB.out))); (case aF => exact (fun _ _ => trivial)); (case aO => exact (by (with_reducible repeat (first | apply Kd.R_alloc | apply Kd.R_drewN | apply Kd.R_drew)); exact HR.out)); (case aS => exact (below_size (by repeat (first | (with_reducible first | exact HB.out | apply below_alloc | apply pw_below_drewN | apply below_drew1) | exact HB.out)))); (case aL => omega); intro v9 w9 ho hb9 hg hat; have HO9 := Lib.hid ho; have HB9 := Lib.hid hb9; clear ho hb9 hg hat))
      go_roundw
      case rel => exact ⟨t.extract (m + 1) t.size, ps ++ [t.extract 0 m], rfl, by omega, by simp; omega, by rw [HSP.out, HE.out]; simp, HO9.out, HB9.out⟩
      case measure => simp [szv]; omega
end Go.Proofs.YtnhcocjdkmelhaaDoor.Hand
