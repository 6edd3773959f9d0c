/- dom.HasID and impl.HasID by hand (ids without white space, of ASCII); strings.TrimSpace by the shelf's contract (its table as the program's text lays it). -/
import Derived.Test.YtlallihdiffheaaDoorLiving
import Derived.Test.YtlallihdiffheaaDoorGood
import Derived.Test.YtlallihdiffheaaDoorTable
import Derived.Test.YtlallihdiffheaaDoorTrimShelf
namespace Go.Proofs.YtlallihdiffheaaDoor.Hand
open Go.RowKit Go.Proofs.YtlallihdiffheaaDoorW.PrintWords Go.Proofs.YtlallihdiffheaaDoorW.PrintLast Go.Proofs.YtlallihdiffheaaDoor.GT
set_option linter.unusedVariables false
set_option linter.unusedSimpArgs false

def TabB (w : World) : Prop := Lib.TabIs Tryd.prog w "strings.asciiSpace" .u8 Lib.asciiSpaceTab
theorem tabB_below {w w' : World} (h : TabB w) (hb : Below w.heap.size w w') : TabB w' := tab_below h hb
/-- No white space, ASCII alone. -/
def wordB (s : ByteArray) : Bool := decide (s.size ≤ 9223372036854775807) && s.data.toList.all (fun b => decide (32 < b.toNat) && decide (b.toNat < 128))
set_option maxRecDepth 100000 in
theorem word_sp (b : UInt8) (h : 32 < b.toNat) : Lib.isSp b = false := by
  have : ∀ n, n < 256 → 32 < n → Lib.isSp (UInt8.ofNat n) = false := by decide
  have h2 := this b.toNat b.toNat_lt h
  simpa using h2
theorem trim_word {s : ByteArray} (h : wordB s = true) : (⟨(Lib.trimSpace s.data.toList).toArray⟩ : ByteArray) = s := by
  unfold wordB at h
  simp only [Bool.and_eq_true, List.all_eq_true, decide_eq_true_eq] at h
  have key : ∀ l : List UInt8, (∀ b ∈ l, 32 < b.toNat) → l.dropWhile Lib.isSp = l := by
    intro l hl
    cases l with
    | nil => rfl
    | cons b t => rw [List.dropWhile_cons, word_sp b (hl b (by simp))]; rfl
  unfold Lib.trimSpace
  rw [key _ (fun b hb => (h.2 b hb).1), key _ (fun b hb => (h.2 b (List.mem_reverse.1 hb)).1), List.reverse_reverse]
theorem trimWord_any {s : ByteArray} (h : wordB s = true) (w : World) (hT : TabB w) : Calls Tryd.prog 55 #[.string s] w fun e w' => e = .returned (.string s) ∧ Below w.heap.size w w' := by
  have e := trim_word h
  unfold wordB at h
  simp only [Bool.and_eq_true, List.all_eq_true, decide_eq_true_eq] at h
  refine (strings_TrimSpace s w h.1 (fun j b hj => (h.2 b (List.mem_of_getElem? hj)).2) hT).mono ?_
  rintro r w' ⟨h1, rfl⟩
  rw [e] at h1
  exact ⟨h1, ⟨rfl, rfl, rfl, by rw [Lib.bytesWorld_size]; omega, fun j hj => Lib.bytesWorld_at_old w _ s j hj⟩⟩
def idK : ByteArray := ⟨#[105, 100]⟩
def hasV (o : Option ByteArray) (id : ByteArray) : Bool :=
  match o with
  | none => false
  | some v => v.toList == id.toList
set_option maxRecDepth 100000 in
set_option maxHeartbeats 1600000 in
theorem hasID_any {w : World} {H : NMap} (hw : Holds w H) {b : Nat} {par f l v x : Option Nat} {q : Pay} (hb : H b = some ⟨par, f, l, v, x, q⟩) (id : ByteArray) (hword : ∀ z, seek idK q.attrs = some z → wordB z = true) (hT : TabB w) :
    Calls Tryd.prog 30 #[.pointer (some ⟨b, 0, none⟩), .string id] w fun e w' => e = .returned (.bool (hasV (seek idK q.attrs) id)) ∧ Below w.heap.size w w' := by
  have HG := Lib.hid (getAttribute_any hw hb idK)
  have HT := Lib.hid hT
  clear hT
  cases hs : seek idK q.attrs with
  | none =>
    rw [hs] at HG
    clear hs hword
    go_enter Tryd.func30, Tryd.ntmps30
    go_wp2_with (go_at_call 54; refine HG.out.mono ?_; simp only [Option.getD_none, Option.isSome_none]; rintro e w1 ⟨rfl, hb1⟩; have HB1 := Lib.hid hb1; clear hb1)
    go_ret
    exact ⟨rfl, HB1.out⟩
  | some z =>
    rw [hs] at HG
    have HZ := Lib.hid (hword z hs)
    clear hs hword
    go_enter Tryd.func30, Tryd.ntmps30
    go_wp2_with (first
      | (go_at_call 54; refine HG.out.mono ?_; simp only [Option.getD_some, Option.isSome_some]; rintro e w1 ⟨rfl, hb1⟩; have HB1 := Lib.hid hb1; clear hb1)
      | (go_at_call 55; refine (trimWord_any HZ.out w1 (tabB_below HT.out HB1.out)).mono ?_; rintro e w2 ⟨rfl, hb2⟩; have HB2 := Lib.hid hb2; clear hb2))
    go_ret
    exact ⟨rfl, HB1.out.trans (HB2.out.mono HB1.out.size)⟩
end Go.Proofs.YtlallihdiffheaaDoor.Hand
namespace Go.Proofs.YtlallihdiffheaaDoor.Dom
open Go.RowKit Go.Proofs.YtlallihdiffheaaDoorW.PrintWords Go.Proofs.YtlallihdiffheaaDoorW.PrintLast Go.Proofs.YtlallihdiffheaaDoor.Hand Go.Proofs.YtlallihdiffheaaDoor.GT
set_option linter.unusedVariables false
set_option maxRecDepth 100000 in
set_option maxHeartbeats 1600000 in
theorem implHasID_any {n : Nat} {x : Nd} (hx : Tn n x) (h0 : x.f0 = 0 ∨ x.f0 = 3) (w : World) (A3 A4 : Option Addr) (c3 c4 : Nat) (h3 : k29.C w A3 x.f3.length x.f3) (l3 : x.f3.length ≤ c3) (h4 : k25.C w A4 x.f4.length x.f4) (l4 : x.f4.length ≤ c4)
    (id : ByteArray) (hword : ∀ z, seekA idK x = some z → wordB z = true) (hT : TabB w) :
    Calls Tryd.prog 10 #[.agg #[.int .i64 x.f0, .string x.f1, .string x.f2, .slice A3 x.f3.length c3, .slice A4 x.f4.length c4], .string id] w fun e w' => e = .returned (.bool (hasV (seekA idK x) id)) ∧ Below w.heap.size w w' := by
  have H3 := Lib.hid h3
  have H4 := Lib.hid h4
  have HW := Lib.hid hword
  have HT := Lib.hid hT
  clear h3 h4 hword hT
  go_enter Tryd.func10, Tryd.ntmps10
  go_wp2_with fail
  go_at_call 31
  refine (made_root hx h0 _ (fun _ => none) A3 A4 c3 c4 (Holds.empty _) (Kd.C_alloc H3.out _) l3 (Kd.C_alloc H4.out _) l4).mono ?_
  rintro e w1 ⟨b, p, k, K, rfl, hm, hp⟩
  have HB1 : Hid (Below w.heap.size w w1) := Lib.hid (below_then (below_alloc (Below.refl _ _) _) (by rw [World.size_alloc]; omega) hm.below)
  have hp2 := made_attrs hm.tells hp
  have HH := Lib.hid (hasID_any hm.holds hm.sits.1 id (by rw [hp2]; exact HW.out) (tabB_below HT.out HB1.out))
  rw [hp2] at HH
  clear hm hp hp2
  go_wp2_with (go_at_call 30; refine HH.out.mono ?_; rintro e w2 ⟨rfl, hb2⟩; have HB2 := Lib.hid hb2; clear hb2)
  go_ret
  exact ⟨rfl, HB1.out.trans (HB2.out.mono HB1.out.size)⟩
end Go.Proofs.YtlallihdiffheaaDoor.Dom
