import Derived.Test.YtlallihdiffheaaZClPos
import Derived.Test.YtlallihdiffheaaZNamed
import Derived.Test.YtlallihdiffheaaZLives
import Derived.Test.YtlallihdiffheaaZGSxx1
import Derived.Deep.RegionLaw
import Derived.Deep.LoopGhost
import Derived.Deep.CutRange
import Derived.Test.YtlallihdiffheaaZInline
import Derived.StillTailTactics
section
/- The small functions that collapse.Collapse calls: white space of a text, suffixes, the next node, a node taken out. -/
namespace Go.Proofs.Ytlallihdiffheaa.Hand
open Go.RowKit Go.Proofs.YtlallihdiffheaaW.PrintWords Go.Proofs.YtlallihdiffheaaW.PrintLast Go.Proofs.YtlallihdiffheaaW.PrintMore Go.Proofs.Ytlallihdiffheaa.GT
set_option linter.unusedVariables false
set_option linter.unusedSimpArgs false

def sp : ByteArray := ⟨#[32]⟩
theorem empty_bys {s : ByteArray} (h : ¬ 0 < s.size) : s = ⟨#[]⟩ := by
  obtain ⟨⟨l⟩⟩ := s
  cases l with
  | nil => rfl
  | cons a t => exact absurd (Nat.zero_lt_succ t.length) h
set_option maxRecDepth 100000 in
set_option maxHeartbeats 1000000 in
/-- White space of any text. -/
theorem blanksE_any (s : ByteArray) (w : World) (hs : s.size ≤ 2147483647) :
    Calls Try.prog 141 #[.string s] w fun e w' => e = .returned (.string (strOfNums (col (bys s)))) ∧ Below w.heap.size w w' := by
  by_cases h : 0 < s.size
  · exact blanks_any s w hs h
  · obtain rfl := empty_bys h
    have hb := below_alloc (Below.refl w.heap.size w) (.cells #[.string ⟨#[]⟩] 9 (0, 0))
    have HB := Lib.hid hb
    clear hb
    go_enter Try.func141, Try.ntmps141
    go_wp2
    go_ret
    exact ⟨rfl, HB.out⟩
theorem hasSuffix_f (s : ByteArray) (hs : s.size ≤ 2147483647) : GSx.strings_HasSuffix.f s sp = some (ends (bys s)) ∧ GSx.stringslite_HasSuffix.f s sp = some (ends (bys s)) := by
  have h2 : GSx.stringslite_HasSuffix.f s sp = some (ends (bys s)) := by
    have h1 : sp.size = 1 := rfl
    unfold GSx.stringslite_HasSuffix.f
    rw [h1]
    by_cases h : (s.size : Int) ≥ ((1 : Nat) : Int)
    · have hw : wrap64 ((s.size : Int) - ((1 : Nat) : Int)) = (((s.size - 1 : Nat)) : Int) := by unfold wrap64; omega
      rw [if_pos h, hw, if_pos (by omega), if_pos (by omega), Int.toNat_natCast]
      congr 1
      have e : ends (bys s) = (bys (s.extract (s.size - 1) s.size) == [32]) := by
        rw [bys_extract, show s.size - (s.size - 1) = 1 by omega]
        rcases List.eq_nil_or_concat (bys s) with h0 | ⟨i, x, h0⟩
        · have := bys_length s
          rw [h0] at this
          simp at this
          omega
        · rw [List.concat_eq_append] at h0
          have hlen := bys_length s
          rw [h0] at hlen ⊢
          simp only [List.length_append, List.length_singleton] at hlen
          rw [show s.size - 1 = i.length by omega]
          simp [ends]
      rw [e]
      generalize s.extract (s.size - 1) s.size = t
      have : (t.toList == sp.toList) = (bys t == [32]) := by
        rw [Bool.eq_iff_iff, beq_iff_eq, beq_iff_eq]
        constructor
        · intro h
          have h3 : t.data.toList = [32] := by
            rw [← ByteArray.toList_eq t, h, ByteArray.toList_eq]
            rfl
          simp [bys, h3]
        · intro h
          have h3 := str_bys t
          rw [h] at h3
          rw [← h3]
          rfl
      exact this
    · rw [if_neg h]
      obtain rfl := empty_bys (s := s) (by omega)
      rfl
  exact ⟨by unfold GSx.strings_HasSuffix.f; rw [h2]; rfl, h2⟩
theorem hasSuffix_any (s : ByteArray) (hs : s.size ≤ 2147483647) (w : World) :
    Calls Try.prog 142 #[.string s, .string ⟨#[32]⟩] w fun e w' => e = .returned (.bool (ends (bys s))) ∧ Below w.heap.size w w' := by
  refine (GSx.strings_HasSuffix.calls s sp (ends (bys s)) w (hasSuffix_f s hs).1).mono ?_
  rintro e w' ⟨rfl, hd⟩
  exact ⟨rfl, hd.below⟩
theorem trimSuffix_any (s : ByteArray) (hs : s.size ≤ 2147483647) (w : World) :
    Calls Try.prog 144 #[.string s, .string ⟨#[32]⟩] w fun e w' => e = .returned (.string (strOfNums (trim (bys s)))) ∧ Below w.heap.size w w' := by
  have hf : GSx.strings_TrimSuffix.f s sp = some (strOfNums (trim (bys s))) := by
    unfold GSx.strings_TrimSuffix.f GSx.stringslite_TrimSuffix.f
    rw [(hasSuffix_f s hs).2, Option.bind_some]
    cases he : ends (bys s) with
    | false =>
      simp only [Bool.false_eq_true, if_false, Option.bind_some, trim, he, str_bys]
    | true =>
      have h0 : 0 < s.size := by
        have := bys_length s
        cases hb : bys s with
        | nil => rw [hb] at he; cases he
        | cons x t => rw [hb] at this; simp at this; omega
      have hw : wrap64 ((s.size : Int) - (sp.size : Int)) = (((s.size - 1 : Nat)) : Int) := by
        have h1 : sp.size = 1 := rfl
        rw [h1]
        unfold wrap64
        omega
      rw [hw, if_pos rfl, if_pos (by omega), if_pos (by omega), Option.bind_some, Int.toNat_natCast]
      congr 1
      simp only [trim, he, if_true]
      rw [← str_bys (s.extract 0 (s.size - 1)), bys_extract, List.drop_zero, Nat.sub_zero, ← bys_length, ← List.dropLast_eq_take]
  refine (GSx.strings_TrimSuffix.calls s sp _ w hf).mono ?_
  rintro e w' ⟨rfl, hd⟩
  exact ⟨rfl, hd.below⟩
set_option maxRecDepth 100000 in
set_option maxHeartbeats 1600000 in
/-- A node is taken out: what stands behind it, or above it, is told. -/
theorem removeNode_any {w : World} {H : NMap} {f a r ck : F Pay} {n c : Nat} {q : Pay} {par prev next : Option Nat} (hw : Holds w H) (hs : Sits H par prev next f) (hd : f.blocks.Nodup) (hk : f.kidsOf n = some (a.app (.node c q ck r))) :
    Calls Try.prog 143 #[.pointer (some ⟨c, 0, none⟩)] w fun e w' => e = .returned (ptrV (r.headOr (some n))) ∧ ∃ H', Turned H w f H' w' ∧ Sits H' par prev next (f.setKids n (a.app r)) := by
  obtain ⟨rn, hn, -, -, hks⟩ := hs.at_kids hk
  obtain ⟨-, hc, -⟩ := (sits_app H a _ _ _ _).1 hks
  obtain ⟨c0, -, -, -, c4, -⟩ := hw.opened hc
  have hrem := removeChild_sits hw hs hd hk
  have HREM := Lib.hid hrem
  clear hrem hw hs hd hk hn hks hc
  cases r with
  | nil =>
    rw [show ptrV ((F.nil : F Pay).headOr none) = .pointer none from rfl] at c4
    rw [show ptrV (some n) = .pointer (some ⟨n, 0, none⟩) from rfl] at c0
    rw [show ptrV ((F.nil : F Pay).headOr (some n)) = .pointer (some ⟨n, 0, none⟩) from rfl]
    go_enter Try.func143, Try.ntmps143
    go_wp2_with (go_at_call 102; refine HREM.out.mono ?_; rintro e w2 ⟨rfl, H', h1, h2, h3⟩; have HR := Lib.hid (And.intro h1 h2); clear h1 h2 h3)
    go_ret
    exact ⟨rfl, H', HR.out.1, HR.out.2⟩
  | node d dq dk r =>
    rw [show ptrV ((F.node d dq dk r).headOr none) = .pointer (some ⟨d, 0, none⟩) from rfl] at c4
    rw [show ptrV (some n) = .pointer (some ⟨n, 0, none⟩) from rfl] at c0
    rw [show ptrV ((F.node d dq dk r).headOr (some n)) = .pointer (some ⟨d, 0, none⟩) from rfl]
    go_enter Try.func143, Try.ntmps143
    go_wp2_with (go_at_call 102; refine HREM.out.mono ?_; rintro e w2 ⟨rfl, H', h1, h2, h3⟩; have HR := Lib.hid (And.intro h1 h2); clear h1 h2 h3)
    go_ret
    exact ⟨rfl, H', HR.out.1, HR.out.2⟩
theorem ptr_nil (W : World) (n : Nat) : (binOp .eql 70 (.pointer none) (.pointer (some ⟨n, 0, none⟩))).run Try.prog W = .ok (.bool false) W := by
  obtain ⟨j, hte, _⟩ := Option.map_eq_some_iff.1 infoNode
  have h : ∀ d : Nat, (Op.equalIn (d + 1) 70 (.pointer none) (.pointer (some ⟨n, 0, none⟩))).run Try.prog W = .ok false W := fun d => by
    simp [Op.equalIn, run_underlying Try.underlying70, sizeOf, typeInfo, hte]
  simp only [binOp]
  simp [Op.equal, Op.maxDepth, h 9999]
/-- The node that was met last stands right below this one. -/
def isUp (H : NMap) (prev : Option Nat) (n : Nat) : Bool := match prev with
  | none => false
  | some d => match H d with
    | some rd => decide (rd.parent = some n)
    | none => false
def goesTo (up : Bool) (fn xn pn : Option Nat) : Option Nat := if up then xn.or pn else (fn.or xn).or pn
theorem ptrV_or (o : Option Nat) : o = none ∨ ∃ b, o = some b := by cases o <;> simp
theorem ptrV_none : ptrV none = .pointer none := rfl
theorem ptrV_some (b : Nat) : ptrV (some b) = .pointer (some ⟨b, 0, none⟩) := rfl
set_option maxRecDepth 100000 in
set_option maxHeartbeats 6400000 in
theorem nextNode_any {w : World} {H : NMap} {n : Nat} {pn fn ln vn xn : Option Nat} {qn : Pay} (hw : Holds w H) (hn : H n = some ⟨pn, fn, ln, vn, xn, qn⟩) (prev : Option Nat) (hp : ∀ d, prev = some d → ∃ rd, H d = some rd ∧ ∀ m, rd.parent = some m → ∃ rm, H m = some rm)
    (df bx : Nat) (pb : Bool) (hdf : ∀ W, Below w.heap.size w W → W.cell? ⟨df, 2, none⟩ = some (.func (.func 137) #[] #[.pointer (some ⟨bx, 0, none⟩)]))
    (hpre : ∀ W, Below w.heap.size w W → Calls Try.prog 137 #[.pointer (some ⟨n, 0, none⟩), .pointer (some ⟨bx, 0, none⟩)] W fun e w' => e = .returned (.bool pb) ∧ Below W.heap.size W w') :
    Calls Try.prog 140 #[ptrV prev, .pointer (some ⟨n, 0, none⟩), .pointer (some ⟨df, 0, none⟩)] w fun e w' => e = .returned (ptrV (goesTo (isUp H prev n || pb) fn xn pn)) ∧ Below w.heap.size w w' := by
  have hent : ∀ (W : World), (callFunc 137 #[.pointer (some ⟨n, 0, none⟩), .pointer (some ⟨bx, 0, none⟩)]).run Try.prog W = .ok (.enter 137 #[.pointer (some ⟨n, 0, none⟩), .pointer (some ⟨bx, 0, none⟩)]) W :=
    fun W => enters Try.func137 (by rfl) (by rfl) _ _
  have hcell : ∀ W, Below w.heap.size w W → W.cell? ⟨n, 0, none⟩ = some (ptrV pn) ∧ W.cell? ⟨n, 1, none⟩ = some (ptrV fn) ∧ W.cell? ⟨n, 4, none⟩ = some (ptrV xn) := fun W hb => by
    obtain ⟨a, b, _, _, c, _⟩ := (hw.below hb).opened hn
    exact ⟨a, b, c⟩
  have hd0 := hdf w (Below.refl _ _)
  obtain ⟨u, hu⟩ := ptrV_form pn
  rw [hu] at hcell
  have HU := Lib.hid hu
  clear hu
  have HP := Lib.hid hpre
  cases prev with
  | none =>
    clear hp hpre hdf hw hn
    rw [show isUp H none n = false from rfl, Bool.false_or]
    rcases ptrV_or fn with rfl | ⟨f1, rfl⟩ <;> rcases ptrV_or xn with rfl | ⟨x1, rfl⟩ <;> cases pb <;> (
      simp only [ptrV_none, ptrV_some] at hcell ⊢
      have HC := Lib.hid hcell
      clear hcell
      go_enter Try.func140, Try.ntmps140
      go_wp2_with (go_at_call 137; first
          | (refine (HP.out _ (Below.refl _ _)).mono ?_; rintro e w1 ⟨rfl, hb1⟩; have HB1 := Lib.hid hb1; obtain ⟨x0, x1, x4⟩ := HC.out w1 HB1.out; clear hb1)
          | (refine (HP.out _ (below_drew (Below.refl _ _))).mono ?_; rintro e w1 ⟨rfl, hb1⟩; have HB1 := Lib.hid (below_then (below_drew (Below.refl w.heap.size w)) (Nat.le_refl _) hb1); obtain ⟨x0, x1, x4⟩ := HC.out w1 HB1.out; clear hb1))
      go_ret
      first
        | exact ⟨rfl, HB1.out⟩
        | (refine ⟨?_, HB1.out⟩; show _ = Ending.returned (ptrV pn); rw [HU.out]; rfl))
  | some d =>
    obtain ⟨rd, hrd, hpar⟩ := hp d rfl
    have hd0c := (hw.opened (b := d) (p := rd.parent) (f := rd.first) (l := rd.last) (v := rd.prev) (x := rd.next) (q := rd.pay) hrd).1
    by_cases hup : rd.parent = some n
    · have hq1 := ptr_same ⟨n, 0, none⟩
      have e : isUp H (some d) n = true := by simp [isUp, hrd, hup]
      rw [e, Bool.true_or]
      rw [hup, ptrV_some] at hd0c
      obtain ⟨x0, x1, x4⟩ := hcell w (Below.refl _ _)
      clear hp hpre hdf hw hn hcell hpar hrd e hup
      rcases ptrV_or xn with rfl | ⟨x1, rfl⟩ <;> (
        simp only [ptrV_none, ptrV_some] at x4 ⊢
        go_enter Try.func140, Try.ntmps140
        go_wp2
        go_ret
        first
        | exact ⟨rfl, below_drew (Below.refl _ _)⟩
        | exact ⟨rfl, Below.refl _ _⟩
        | (refine ⟨?_, Below.refl _ _⟩; show _ = Ending.returned (ptrV pn); rw [HU.out]; rfl)
        | (refine ⟨?_, below_drew (Below.refl _ _)⟩; show _ = Ending.returned (ptrV pn); rw [HU.out]; rfl))
    · have e : isUp H (some d) n = false := by simp [isUp, hrd, hup]
      rw [e, Bool.false_or]
      have hq2 : (binOp .eql 70 (ptrV rd.parent) (.pointer (some ⟨n, 0, none⟩))).run Try.prog w = .ok (.bool false) w := by
        cases hm : rd.parent with
        | none => exact ptr_nil w n
        | some m =>
          obtain ⟨rm, hrm⟩ := hpar m hm
          exact ptr_other hw hrm hn (fun e => hup (by rw [hm, e]))
      obtain ⟨u3, hu3⟩ := ptrV_form rd.parent
      rw [hu3] at hd0c hq2
      clear hp hpre hdf hw hn hpar hrd e hup
      rcases ptrV_or fn with rfl | ⟨f1, rfl⟩ <;> rcases ptrV_or xn with rfl | ⟨x1, rfl⟩ <;> cases pb <;> (
        simp only [ptrV_none, ptrV_some] at hcell ⊢
        have HC := Lib.hid hcell
        clear hcell
        go_enter Try.func140, Try.ntmps140
        go_wp2_with (go_at_call 137; first
            | (refine (HP.out _ (Below.refl _ _)).mono ?_; rintro e w1 ⟨rfl, hb1⟩; have HB1 := Lib.hid hb1; obtain ⟨x0, x1, x4⟩ := HC.out w1 HB1.out; clear hb1)
            | (refine (HP.out _ (below_drew (Below.refl _ _))).mono ?_; rintro e w1 ⟨rfl, hb1⟩; have HB1 := Lib.hid (below_then (below_drew (Below.refl w.heap.size w)) (Nat.le_refl _) hb1); obtain ⟨x0, x1, x4⟩ := HC.out w1 HB1.out; clear hb1))
        go_ret
        first
          | exact ⟨rfl, HB1.out⟩
          | (refine ⟨?_, HB1.out⟩; show _ = Ending.returned (ptrV pn); rw [HU.out]; rfl))
end Go.Proofs.Ytlallihdiffheaa.Hand
end
section
/- What the loop of collapse.Collapse keeps, and what each of its steps does to it. -/
namespace Go.Proofs.Ytlallihdiffheaa.Hand
open Go.RowKit Go.Proofs.YtlallihdiffheaaW.PrintWords
set_option linter.unusedVariables false
set_option linter.unusedSimpArgs false

theorem plug_perm : ∀ c : Cx, ∃ o : List Nat, ∀ f : F Pay, (plug c f).blocks.Perm (o ++ f.blocks)
  | .top => ⟨[], fun f => List.Perm.refl _⟩
  | .up a n p r c => by
    obtain ⟨o, ho⟩ := plug_perm c
    refine ⟨o ++ (a.blocks ++ n :: r.blocks), fun f => (ho _).trans ?_⟩
    rw [F.blocks_app, F.blocks, List.append_assoc, List.append_assoc, List.cons_append]
    exact List.Perm.append_left o (List.Perm.append_left a.blocks (List.Perm.cons n List.perm_append_comm))
section
variable (V : Ways)
def SibOk (g : G) (prev : Option Nat) (a : F Pay) : Prop := cutG V g a = .nil ∨ ∃ d, prev = some d ∧ d ∈ tops (cutG V g a)
theorem SibOk.set {g : G} {prev : Option Nat} {a : F Pay} {d : Nat} {l : List Int} (v : List Int) (hg : g d = some l) (h : SibOk V g prev a) : SibOk V (setG g d (some v)) prev a := by
  obtain ⟨h1, h2⟩ := cutG_same V g v hg a
  rcases h with h | ⟨x, e, h⟩
  · left
    rw [h] at h1
    cases hc : cutG V (setG g d (some v)) a with
    | nil => rfl
    | node b p k r => rw [hc] at h1; cases h1
  · exact .inr ⟨x, e, by rw [h2]; exact h⟩
def InPos (kk : F Pay) (d : Nat) : Prop := ∃ (cx : Cx) (a : F Pay) (q : Pay) (k r : F Pay), kk = plug cx (a.app (.node d q k r)) ∧ OkC V cx ∧ q.type = 1
/-- The tree as it was. -/
structure Fx (b : Nat) (p0 : Pay) (kk : F Pay) (H0 : NMap) : Prop where
  sits : Sits H0 none none none (.node b p0 kk .nil)
  nodup : (F.node b p0 kk .nil).blocks.Nodup
  te : TE kk
  heft : heft kk ≤ 1000000
variable (b : Nat) (p0 : Pay) (kk : F Pay) (H0 : NMap) (w0 : World)
structure Cm (K : NMap) (g : G) (rem : List EvI) (todo : List Nat) (pt : Option Nat) (keep : Bool) (prev : Option Nat) (w : World) : Prop where
  holds : Holds w K
  sits : Sits K none none none (.node b p0 (cutG V g kk) .nil)
  stays : Stays H0 w0 w
  dom : ∀ x, K x = none ↔ H0 x = none
  fut : runG rem pt keep g = runG (evF V kk) none false (gOf H0)
  gtodo : ∀ x ∈ todo, g x = gOf H0 x
  prv : ∀ d, prev = some d → d ∈ (cutG V g kk).blocks ∧ d ∉ todo
  ptx : ∀ d, pt = some d → d ∉ todo ∧ InPos V kk d ∧ ∃ l, g d = some l ∧ l.length ≤ 1000000 ∧ ∀ x ∈ l, 0 ≤ x ∧ x < 256
def LoopI (m : Nat) (pt : Option Nat) (keep : Bool) (prev : Option Nat) (node : Nat) (w : World) : Prop :=
  ∃ (K : NMap) (g : G) (cx : Cx) (a r : F Pay), kk = plug cx (a.app r) ∧ OkC V cx ∧ node = hd r (parN b cx) ∧ SibOk V g prev a ∧ Cm V b p0 kk H0 w0 K g (evF V r ++ after V cx) (r.blocks ++ todoC cx) pt keep prev w ∧ m = (evF V r ++ after V cx).length
/-- An element was met; where the walk stands at it. -/
inductive PosM (c : Nat) (q : Pay) (rem : List EvI) (todo : List Nat) (g : G) (prev : Option Nat) : Prop
  | down (cx : Cx) (a kc r : F Pay) (hk : kk = plug cx (a.app (.node c q kc r))) (ho : OkC V cx) (hr : rem = (if V.pre q.data then [] else evF V kc ++ [.e (V.kd q.data)]) ++ (evF V r ++ after V cx)) (ht : todo = kc.blocks ++ (r.blocks ++ todoC cx))
  | up (cx : Cx) (a1 a r : F Pay) (hk : kk = plug cx (a1.app (.node c q a r))) (ho : OkC V cx) (hp : V.pre q.data = false) (hr : rem = evF V r ++ after V cx) (ht : todo = r.blocks ++ todoC cx) (hs : SibOk V g prev a)
variable {V b p0 kk H0 w0}
theorem PosM.set {c : Nat} {q : Pay} {rem : List EvI} {todo : List Nat} {g : G} {prev : Option Nat} {d : Nat} {l : List Int} (v : List Int) (hg : g d = some l) (h : PosM V kk c q rem todo g prev) : PosM V kk c q rem todo (setG g d (some v)) prev := by
  cases h with
  | down cx a kc r hk ho hr ht => exact .down cx a kc r hk ho hr ht
  | up cx a1 a r hk ho hp hr ht hs => exact .up cx a1 a r hk ho hp hr ht (hs.set V v hg)
section
variable {K : NMap} {g : G} {rem : List EvI} {todo : List Nat} {pt : Option Nat} {keep : Bool} {prev : Option Nat} {w : World}
theorem Cm.weaken (h : Cm V b p0 kk H0 w0 K g rem todo pt keep prev w) {todo' : List Nat} (ht : ∀ x ∈ todo', x ∈ todo) : Cm V b p0 kk H0 w0 K g rem todo' pt keep prev w :=
  ⟨h.holds, h.sits, h.stays, h.dom, h.fut, fun x hx => h.gtodo x (ht x hx), fun d hd => ⟨(h.prv d hd).1, fun hx => (h.prv d hd).2 (ht d hx)⟩, fun d hd => ⟨fun hx => (h.ptx d hd).1 (ht d hx), (h.ptx d hd).2⟩⟩
theorem Cm.moved (h : Cm V b p0 kk H0 w0 K g rem todo pt keep prev w) {w' : World} (hb : Below w.heap.size w w') : Cm V b p0 kk H0 w0 K g rem todo pt keep prev w' :=
  ⟨h.holds.below hb, h.sits, h.stays.trans (Stays.of_below hb), h.dom, h.fut, h.gtodo, h.prv, h.ptx⟩
theorem Fx.nk (F0 : Fx b p0 kk H0) : kk.blocks.Nodup ∧ b ∉ kk.blocks := by
  have h := F0.nodup
  simp only [F.blocks, List.append_nil, List.nodup_cons] at h
  exact ⟨h.2, h.1⟩
/-- What lies at a place. -/
theorem Cm.at (h : Cm V b p0 kk H0 w0 K g rem todo pt keep prev w) {cx : Cx} {a f : F Pay} (hk : kk = plug cx (a.app f)) (ho : OkC V cx) : Sits K (some (parN b cx)) ((cutG V g a).lastOr none) none (cutG V g f) ∧ Sits K (some (parN b cx)) none none (cutG V g (a.app f)) := by
  have h1 := h.sits.2.1
  rw [hk, cutG_plug V g cx _ ho] at h1
  have h2 := sits_plug _ _ _ h1
  rw [parN_cut] at h2
  refine ⟨?_, h2⟩
  rw [cutG_app] at h2
  exact ((sits_app K _ _ _ _ _).1 h2).2
/-- What the walk hasn't met is as it was. -/
theorem Cm.rest (F0 : Fx b p0 kk H0) (h : Cm V b p0 kk H0 w0 K g rem todo pt keep prev w) {cx : Cx} {a f : F Pay} (hk : kk = plug cx (a.app f)) {x : F Pay} (hx : ∃ par pv nx, Sits H0 par pv nx x) (ht : ∀ i ∈ x.blocks, i ∈ todo) : cutG V g x = x := by
  obtain ⟨par, pv, nx, hx⟩ := hx
  rw [cutG_congr V (gOf H0) g x (fun i hi => h.gtodo i (ht i hi))]
  exact (gOf_sits V x _ _ _ hx).2
theorem Fx.at (F0 : Fx b p0 kk H0) {cx : Cx} {a f : F Pay} (hk : kk = plug cx (a.app f)) : Sits H0 (some (parN b cx)) (a.lastOr none) none f := by
  have h1 := F0.sits.2.1
  rw [hk] at h1
  exact ((sits_app H0 _ _ _ _ _).1 (sits_plug _ _ _ h1)).2
theorem Fx.pos (F0 : Fx b p0 kk H0) {cx : Cx} {a f : F Pay} (hk : kk = plug cx (a.app f)) : ((a.app f).blocks ++ todoC cx).Nodup ∧ (parN b cx = b ∨ parN b cx ∈ kk.blocks ∧ parN b cx ∉ (a.app f).blocks ++ todoC cx) ∧ (∀ x ∈ f.blocks, x ∈ kk.blocks) := by
  obtain ⟨h1, h2, h3⟩ := plug_blocks cx (a.app f)
  obtain ⟨h4, h5⟩ := h3 (by rw [← hk]; exact F0.nk.1)
  refine ⟨h4, ?_, fun x hx => by rw [hk]; exact h1 x (by rw [F.blocks_app]; exact List.mem_append.2 (.inr hx))⟩
  rw [hk]
  exact h5 b
theorem cut_mem {cx : Cx} {a f : F Pay} (hk : kk = plug cx (a.app f)) (ho : OkC V cx) {d : Nat} (hd : d ∈ (cutG V g f).blocks) : d ∈ (cutG V g kk).blocks := by
  rw [hk, cutG_plug V g cx _ ho, cutG_app]
  exact (plug_blocks _ _).1 d (by rw [F.blocks_app]; exact List.mem_append.2 (.inr hd))
/-- Behind an element: the next place. -/
theorem Cm.past (F0 : Fx b p0 kk H0) (h : Cm V b p0 kk H0 w0 K g rem todo pt keep prev w) {c : Nat} {q : Pay} {kc r a : F Pay} {cx : Cx} (hq : q.type = 3) (hk : kk = plug cx (a.app (.node c q kc r))) (ho : OkC V cx) (hf : runG (evF V r ++ after V cx) pt keep g = runG rem pt keep g) (ht : ∀ x ∈ r.blocks ++ todoC cx, x ∈ todo) :
    LoopI V b p0 kk H0 w0 (evF V r ++ after V cx).length pt keep (some c) (hd r (parN b cx)) w := by
  have ht3 : ¬ q.type = 1 := by rw [hq]; decide
  have ha : (a.app (.node c q kc .nil)).app r = a.app (.node c q kc r) := by rw [F.app_assoc]; rfl
  have hw := h.weaken ht
  have hnd := (F0.pos hk).1
  refine ⟨K, g, cx, a.app (.node c q kc .nil), r, by rw [ha]; exact hk, ho, rfl, .inr ⟨c, rfl, ?_⟩, ⟨h.holds, h.sits, h.stays, h.dom, by rw [hf]; exact h.fut, hw.gtodo, fun d e => ?_, hw.ptx⟩, rfl⟩
  · rw [cutG_app, tops_app, cutG, if_neg ht3]
    simp [tops]
  · obtain rfl := Option.some.inj e
    refine ⟨cut_mem hk ho (by rw [cutG, if_neg ht3]; simp [F.blocks]), ?_⟩
    rw [F.blocks_app, F.blocks, List.append_assoc, List.cons_append, List.append_assoc] at hnd
    have h5 := (List.nodup_cons.1 (List.nodup_append.1 hnd).2.1).1
    exact fun hx => h5 (List.mem_append.2 (.inr hx))
/-- The step behind an element's event. -/
theorem Cm.next (F0 : Fx b p0 kk H0) (h : Cm V b p0 kk H0 w0 K g rem todo pt keep prev w) {c : Nat} {q : Pay} (hq : q.type = 3) (hag : ∀ rest, runG (.e (V.kd q.data) :: rest) pt keep g = runG rest pt keep g) (hp : PosM V kk c q rem todo g prev) :
    ∃ (pn fn ln vn xn : Option Nat) (nx : Nat), K c = some ⟨pn, fn, ln, vn, xn, q⟩ ∧ goesTo (isUp K prev c || V.pre q.data) fn xn pn = some nx ∧ (∀ d, prev = some d → ∃ rd, K d = some rd ∧ ∀ m, rd.parent = some m → ∃ rm, K m = some rm) ∧
      ∃ m', m' ≤ rem.length ∧ LoopI V b p0 kk H0 w0 m' pt keep (some c) nx w := by
  have ht3 : ¬ q.type = 1 := by rw [hq]; decide
  have hprev : ∀ d, prev = some d → ∃ rd, K d = some rd ∧ ∀ m, rd.parent = some m → ∃ rm, K m = some rm := by
    intro d hd
    have hm := (h.prv d hd).1
    obtain ⟨rd, hrd⟩ := h.sits.has _ _ _ _ d (by simp [F.blocks, hm])
    refine ⟨rd, hrd, fun m e => ?_⟩
    have hnd : (F.node b p0 (cutG V g kk) .nil).blocks.Nodup := by
      have h9 := (cutG_sub V g kk).cons_cons b
      have h8 := F0.nodup
      simp only [F.blocks, List.append_nil] at h8 ⊢
      exact h9.nodup h8
    rcases parent_kids hrd e _ _ _ _ h.sits hnd (by simp [F.blocks, hm]) with h1 | ⟨k, h1, h2⟩
    · cases h1
    · exact h.sits.has _ _ _ _ m (F.kidsOf_mem h1).1
  cases hp with
  | down cx a kc r hk ho hr ht =>
    have h0 := F0.at hk
    have hkc : cutG V g kc = kc := h.rest F0 hk ⟨_, _, _, h0.2.1⟩ (fun i hi => by rw [ht]; exact List.mem_append.2 (.inl hi))
    have hrr : cutG V g r = r := h.rest F0 hk ⟨_, _, _, h0.2.2⟩ (fun i hi => by rw [ht]; exact List.mem_append.2 (.inr (List.mem_append.2 (.inl hi))))
    have hrec := (h.at hk ho).1
    have hcut : cutG V g (.node c q kc r) = .node c q kc r := by rw [cutG, if_neg ht3, hkc, hrr]; simp
    rw [hcut] at hrec
    have hrec := hrec.1
    by_cases hp : V.pre q.data = true
    · simp only [hp, if_true, List.nil_append] at hr
      refine ⟨_, _, _, _, _, hd r (parN b cx), hrec, ?_, hprev, _, Nat.le_of_eq (by rw [hr]), h.past F0 hq hk ho (by rw [hr]) (fun x hx => by rw [ht]; exact List.mem_append.2 (.inr hx))⟩
      rw [hp, Bool.or_true]
      exact hd_or r _
    · have hp' : V.pre q.data = false := by simpa using hp
      simp only [hp', if_false, Bool.false_eq_true] at hr
      have hup : isUp K prev c = false := by
        unfold isUp
        cases prev with
        | none => rfl
        | some d =>
          obtain ⟨rd, hrd, _⟩ := hprev d rfl
          obtain ⟨hm, hnt⟩ := h.prv d rfl
          simp only [hrd]
          rw [decide_eq_false_iff_not]
          intro e
          have hnd : (F.node b p0 (cutG V g kk) .nil).blocks.Nodup := by
            have h9 := (cutG_sub V g kk).cons_cons b
            have h8 := F0.nodup
            simp only [F.blocks, List.append_nil] at h8 ⊢
            exact h9.nodup h8
          rcases parent_kids hrd e _ _ _ _ h.sits hnd (by simp [F.blocks, hm]) with h1 | ⟨k, h1, h2⟩
          · cases h1
          · have hkk : cutG V g kk = plug (.up (cutG V g a) c q r (cutC V g cx)) kc := by rw [hk, cutG_plug V g cx _ ho, cutG_app, hcut]; rfl
            rw [hkk] at h1 hnd
            have h3 := (kids_plug (.up (cutG V g a) c q r (cutC V g cx)) kc b p0 hnd).1
            rw [parN] at h3
            rw [h3] at h1
            obtain rfl := Option.some.inj h1
            exact hnt (by rw [ht]; exact List.mem_append.2 (.inl h2))
      rw [hup, hp', Bool.or_self]
      cases kc with
      | nil =>
        refine ⟨_, _, _, _, _, hd r (parN b cx), hrec, ?_, hprev, _, ?_, h.past F0 hq hk ho ?_ (fun x hx => by rw [ht]; exact List.mem_append.2 (.inr hx))⟩
        · exact hd_or r _
        · rw [hr]
          simp [evF]
        · rw [hr]
          exact (hag _).symm
      | node d dq dk dr =>
        refine ⟨_, _, _, _, _, d, hrec, rfl, hprev, (evF V (F.node d dq dk dr) ++ after V (.up a c q r cx)).length, ?_, K, g, .up a c q r cx, .nil, .node d dq dk dr, hk, ⟨hq, hp', ho⟩, rfl, .inl rfl, ⟨h.holds, h.sits, h.stays, h.dom, ?_, ?_, fun x e => ?_, ?_⟩, rfl⟩
        · rw [hr, after]
          simp
        · rw [← h.fut, hr, after]
          simp
        · intro x hx
          refine h.gtodo x ?_
          rw [ht]
          exact hx
        · obtain rfl := Option.some.inj e
          refine ⟨cut_mem hk ho (by rw [hcut]; simp [F.blocks]), fun hx => ?_⟩
          have hnd := (F0.pos hk).1
          rw [F.blocks_app, F.blocks, List.append_assoc, List.cons_append, List.append_assoc] at hnd
          exact (List.nodup_cons.1 (List.nodup_append.1 hnd).2.1).1 hx
        · intro x e
          obtain ⟨h1, h2⟩ := h.ptx x e
          refine ⟨fun hx => h1 ?_, h2⟩
          rw [ht]
          exact hx
  | up cx a1 a r hk ho hp hr ht hs =>
    have h0 := F0.at hk
    have hrr : cutG V g r = r := h.rest F0 hk ⟨_, _, _, h0.2.2⟩ (fun i hi => by rw [ht]; exact List.mem_append.2 (.inl hi))
    have hrec := (h.at hk ho).1
    rw [cutG_el V g c a r hq hp, hrr] at hrec
    refine ⟨_, _, _, _, _, hd r (parN b cx), hrec.1, ?_, hprev, _, Nat.le_of_eq (by rw [hr]), h.past F0 hq hk ho (by rw [hr]) (fun x hx => by rw [ht]; exact hx)⟩
    rw [hp, Bool.or_false]
    rcases hs with hs | ⟨d, e, hd⟩
    · rw [hs]
      cases isUp K prev c with
      | true => exact hd_or r _
      | false => exact hd_or r _
    · obtain ⟨rd, hrd, hpar⟩ := tops_sits _ _ _ _ hrec.2.1 hd
      have hup : isUp K prev c = true := by simp [isUp, e, hrd, hpar]
      rw [hup]
      exact hd_or r _
theorem Cm.recAt (h : Cm V b p0 kk H0 w0 K g rem todo pt keep prev w) {c : Nat} {q : Pay} {rem' : List EvI} {todo' : List Nat} (hq : q.type = 3) (hp : PosM V kk c q rem' todo' g prev) : ∃ pn fn ln vn xn, K c = some ⟨pn, fn, ln, vn, xn, q⟩ := by
  have ht3 : ¬ q.type = 1 := by rw [hq]; decide
  cases hp with
  | down cx a kc r hk ho hr ht =>
    have h1 := (h.at hk ho).1
    rw [cutG, if_neg ht3] at h1
    exact ⟨_, _, _, _, _, h1.1⟩
  | up cx a1 a r hk ho hp hr ht hs =>
    have h1 := (h.at hk ho).1
    rw [cutG, if_neg ht3] at h1
    exact ⟨_, _, _, _, _, h1.1⟩
/-- Where the loop stands. -/
theorem LoopI.cases (F0 : Fx b p0 kk H0) {m node : Nat} (h : LoopI V b p0 kk H0 w0 m pt keep prev node w) :
    (node = b ∧ ∃ K g, Cm V b p0 kk H0 w0 K g [] [] pt keep prev w) ∨
    (node ≠ b ∧ ∃ (K : NMap) (g : G) (q : Pay) (cx : Cx) (a r : F Pay), kk = plug cx (a.app (.node node q .nil r)) ∧ OkC V cx ∧ q.type = 1 ∧ SibOk V g prev a ∧ Cm V b p0 kk H0 w0 K g (.t node :: (evF V r ++ after V cx)) (node :: (r.blocks ++ todoC cx)) pt keep prev w ∧ (evF V r ++ after V cx).length < m) ∨
    (node ≠ b ∧ ∃ (K : NMap) (g : G) (q : Pay) (rem : List EvI) (todo : List Nat), q.type = 3 ∧ Cm V b p0 kk H0 w0 K g (.e (V.kd q.data) :: rem) todo pt keep prev w ∧ PosM V kk node q rem todo g prev ∧ rem.length < m) := by
  obtain ⟨K, g, cx, a, r, hk, ho, hn, hs, hc, hm⟩ := h
  obtain ⟨hnd, hbn⟩ := F0.nk
  cases r with
  | node c q kc r =>
    have hn : node = c := hn
    subst hn
    have hcm : node ∈ kk.blocks := (F0.pos hk).2.2 node (by simp [F.blocks])
    have hne : node ≠ b := fun e => hbn (e ▸ hcm)
    have hte := (TE_app (TE_plug cx _ (hk ▸ F0.te))).2
    rcases hte.1 with ⟨ht, hkc, _⟩ | ⟨ht, _⟩
    · subst hkc
      refine .inr (.inl ⟨hne, K, g, q, cx, a, r, hk, ho, ht, hs, ?_, ?_⟩)
      · rw [evF, if_pos ht, List.cons_append, F.blocks, F.blocks, List.nil_append, List.cons_append] at hc
        exact hc
      · rw [hm, evF, if_pos ht]
        simp
    · have ht3 : ¬ q.type = 1 := by rw [ht]; decide
      refine .inr (.inr ⟨hne, K, g, q, _, _, ht, ?_, .down cx a kc r hk ho rfl rfl, ?_⟩)
      · rw [evF, if_neg ht3, List.cons_append, List.append_assoc] at hc
        exact hc.weaken (fun x hx => by simp only [F.blocks, List.cons_append, List.append_assoc]; exact List.mem_cons_of_mem _ hx)
      · rw [hm, evF, if_neg ht3]
        simp
  | nil =>
    cases cx with
    | top =>
      refine .inl ⟨hn, K, g, ?_⟩
      exact hc
    | up a1 n p r1 cx =>
      have hn : node = n := hn
      subst hn
      rw [plug, F.app_nil] at hk
      have hcm : node ∈ kk.blocks := (F0.pos hk).2.2 node (by simp [F.blocks])
      exact .inr (.inr ⟨fun e => hbn (e ▸ hcm), K, g, p, evF V r1 ++ after V cx, r1.blocks ++ todoC cx, ho.1, hc, .up cx a1 a r1 hk ho.2.2 ho.2.1 rfl rfl hs, by rw [hm, evF, after]; simp⟩)
theorem LoopI.start (F0 : Fx b p0 kk H0) (hw : Holds w H0) (hb : Stays H0 w0 w) : LoopI V b p0 kk H0 w0 (evF V kk).length none false none (hd kk b) w := by
  refine ⟨H0, gOf H0, .top, .nil, kk, rfl, trivial, rfl, .inl rfl, ⟨hw, ?_, hb, fun x => Iff.rfl, ?_, fun x hx => rfl, (fun d e => by cases e), (fun d e => by cases e)⟩, ?_⟩
  · rw [(gOf_sits V kk _ _ _ F0.sits.2.1).2]
    exact F0.sits
  · rw [after, List.append_nil]
  · rw [after, List.append_nil]
theorem InPos.id {d : Nat} (h : InPos V kk d) : d ∈ idsI (evF V kk) := by
  obtain ⟨cx, a, q, k, r, hk, ho, ht⟩ := h
  rw [hk]
  refine ids_plug V cx _ ho d ?_
  rw [evF_app, idsI_app, evF, if_pos ht, idsI]
  simp
theorem Fx.cut_nodup (F0 : Fx b p0 kk H0) (g : G) : (F.node b p0 (cutG V g kk) .nil).blocks.Nodup := by
  have h9 := (cutG_sub V g kk).cons_cons b
  have h8 := F0.nodup
  simp only [F.blocks, List.append_nil] at h8 ⊢
  exact h9.nodup h8
/-- Another text is put in the place of one that was met. -/
theorem Cm.put0 (F0 : Fx b p0 kk H0) (h : Cm V b p0 kk H0 w0 K g rem todo pt keep prev w) {d : Nat} {l : List Int} (hg : g d = some l) (hid : InPos V kk d) (v : List Int) :
    ∃ rd, K d = some rd ∧ rd.pay.type = 1 ∧ rd.pay.data = strOfNums l ∧ Holds (w.setCell ⟨d, 7, none⟩ (.string (strOfNums v))) (upd K d { rd with pay := { rd.pay with data := strOfNums v } }) ∧
      Sits (upd K d { rd with pay := { rd.pay with data := strOfNums v } }) none none none (.node b p0 (cutG V (setG g d (some v)) kk) .nil) ∧ Stays H0 w0 (w.setCell ⟨d, 7, none⟩ (.string (strOfNums v))) ∧ (∀ x, upd K d { rd with pay := { rd.pay with data := strOfNums v } } x = none ↔ H0 x = none) ∧
      w.cell? ⟨d, 7, none⟩ = some (.string (strOfNums l)) ∧ w.frozen? ⟨d, 7, none⟩ = false := by
  have hbd : d ∈ kk.blocks := (ids_blocks V kk).subset hid.id
  have hne : d ≠ b := fun e => F0.nk.2 (e ▸ hbd)
  have hmem : ∃ rd, K d = some rd := by
    cases e : K d with
    | some rd => exact ⟨rd, rfl⟩
    | none =>
      have h1 := (h.dom d).1 e
      obtain ⟨r, hr⟩ := F0.sits.has _ _ _ _ d (by simp [F.blocks, hbd])
      rw [h1] at hr
      cases hr
  obtain ⟨rd, hrd⟩ := hmem
  obtain ⟨a1, a2, a3⟩ := cutG_set V g v hg hrd kk _ _ _ F0.te F0.nk.1 hid.id h.sits.2.1
  obtain ⟨b1, b2⟩ := h.holds.set (s := { rd with pay := { rd.pay with data := strOfNums v } }) hrd 7 (.string (strOfNums v)) rfl rfl rfl
  have hs := Sits.setPay (q := { rd.pay with data := strOfNums v }) hrd _ _ _ _ h.sits
  rw [F.setPay, if_neg (fun e => hne e.symm), a1] at hs
  refine ⟨rd, hrd, a2, a3, b1, hs, h.stays.trans' b2 (fun i _ hi => (h.dom i).2 hi), fun x => ?_, ?_, h.holds.frozen hrd 7⟩
  · by_cases hx : x = d
    · subst hx
      rw [upd_same]
      have h1 := h.dom x
      rw [hrd] at h1
      constructor
      · intro e; cases e
      · intro e; have := h1.2 e; cases this
    · rw [upd_other _ _ hx]
      exact h.dom x
  · rw [h.holds.cell hrd 7, ← a3]
    rfl
theorem Cm.put (F0 : Fx b p0 kk H0) (h : Cm V b p0 kk H0 w0 K g rem todo pt keep prev w) {d : Nat} {l : List Int} (hg : g d = some l) (hid : InPos V kk d) (hdt : d ∉ todo) (v : List Int) {rem' : List EvI} {pt' : Option Nat} {keep' : Bool} (hf : runG rem' pt' keep' (setG g d (some v)) = runG rem pt keep g)
    (hpt : ∀ x, pt' = some x → x ∉ todo ∧ InPos V kk x ∧ ∃ l, setG g d (some v) x = some l ∧ l.length ≤ 1000000 ∧ ∀ y ∈ l, 0 ≤ y ∧ y < 256) :
    ∃ rd, K d = some rd ∧ rd.pay.type = 1 ∧ rd.pay.data = strOfNums l ∧ Cm V b p0 kk H0 w0 (upd K d { rd with pay := { rd.pay with data := strOfNums v } }) (setG g d (some v)) rem' todo pt' keep' prev (w.setCell ⟨d, 7, none⟩ (.string (strOfNums v))) := by
  obtain ⟨rd, h1, h2, h3, h4, h5, h6, h7, _, _⟩ := h.put0 F0 hg hid v
  refine ⟨rd, h1, h2, h3, h4, h5, h6, h7, by rw [hf]; exact h.fut, fun x hx => ?_, fun x e => ?_, hpt⟩
  · rw [setG_other _ _ (fun e : x = d => hdt (e ▸ hx))]
    exact h.gtodo x hx
  · rw [(cutG_same V g v hg kk).1]
    exact h.prv x e
/-- A text is taken out of the tree. -/
theorem tree_gone (F0 : Fx b p0 kk H0) {cx : Cx} {a r : F Pay} {d : Nat} {q : Pay} (hk : kk = plug cx (a.app (.node d q .nil r))) (ho : OkC V cx) (ht : q.type = 1) {l : List Int} (hg : g d = some l) :
    (F.node b p0 (cutG V g kk) .nil).kidsOf (parN b cx) = some ((cutG V g a).app (.node d { q with data := strOfNums l } .nil (cutG V g r))) ∧
    (F.node b p0 (cutG V g kk) .nil).setKids (parN b cx) ((cutG V g a).app (cutG V g r)) = .node b p0 (cutG V (setG g d none) kk) .nil ∧
    (∀ x ∈ (cutG V g kk).blocks, x ≠ d → x ∈ (cutG V (setG g d none) kk).blocks) ∧ cutG V (setG g d none) (a.app (.node d q .nil .nil)) = cutG V g a := by
  have hnd := F0.cut_nodup (V := V) g
  have e1 : cutG V g kk = plug (cutC V g cx) ((cutG V g a).app (.node d { q with data := strOfNums l } .nil (cutG V g r))) := by rw [hk, cutG_plug V g cx _ ho, cutG_app, cutG_some V g d .nil r ht hg]
  obtain ⟨o, hop⟩ := plug_perm cx
  have hn0 := F0.nk.1
  rw [hk] at hn0
  have hn1 := ((hop _).nodup_iff).1 hn0
  rw [F.blocks_app, F.blocks, F.blocks, List.nil_append] at hn1
  have hout : d ∉ (plug cx (a.app r)).blocks ∧ d ∉ a.blocks := by
    have h2 := List.nodup_append.1 hn1
    have h3 := List.nodup_append.1 h2.2.1
    have h4 := List.nodup_cons.1 h3.2.1
    have ha : d ∉ a.blocks := fun h => h3.2.2 d h d List.mem_cons_self rfl
    refine ⟨fun h => ?_, ha⟩
    have h5 := ((hop _).mem_iff).1 h
    rw [F.blocks_app] at h5
    rcases List.mem_append.1 h5 with h5 | h5
    · exact h2.2.2 d h5 d (List.mem_append.2 (.inr List.mem_cons_self)) rfl
    · rcases List.mem_append.1 h5 with h5 | h5
      · exact ha h5
      · exact h4.1 h5
  have e2 : cutG V (setG g d none) kk = plug (cutC V g cx) ((cutG V g a).app (cutG V g r)) := by
    have e3 : cutG V (setG g d none) (plug cx (a.app r)) = cutG V g (plug cx (a.app r)) := cutG_congr V g _ _ (fun x hx => setG_other _ _ (fun e : x = d => hout.1 (e ▸ hx)))
    have e4 : cutG V (setG g d none) kk = cutG V (setG g d none) (plug cx (a.app r)) := by
      rw [hk, cutG_plug V _ cx _ ho, cutG_plug V _ cx _ ho, cutG_app, cutG_app, cutG_none V _ d .nil r ht (setG_same _ _ _)]
    rw [e4, e3, cutG_plug V g cx _ ho, cutG_app]
  rw [e1] at hnd
  obtain ⟨k1, k2⟩ := kids_plug _ _ b p0 hnd
  rw [parN_cut] at k1 k2
  obtain ⟨o2, hop2⟩ := plug_perm (cutC V g cx)
  refine ⟨by rw [e1]; exact k1, by rw [e1, e2]; exact k2 _, fun x hx hne => ?_, ?_⟩
  · rw [e1] at hx
    rw [e2]
    have h1 := ((hop2 _).mem_iff).1 hx
    refine ((hop2 _).mem_iff).2 ?_
    simp only [F.blocks_app, F.blocks, List.mem_append, List.mem_cons, List.nil_append] at h1 ⊢
    rcases h1 with h1 | h1 | h1 | h1
    · exact .inl h1
    · exact .inr (.inl h1)
    · exact absurd h1 hne
    · exact .inr (.inr h1)
  · rw [cutG_app, cutG_none V _ d .nil .nil ht (setG_same _ _ _)]
    show (cutG V (setG g d none) a).app .nil = _
    rw [F.app_nil]
    exact cutG_congr V g _ a (fun x hx => setG_other _ _ (fun e : x = d => hout.2 (e ▸ hx)))
/-- A text of which nothing is left. -/
theorem Cm.gone (F0 : Fx b p0 kk H0) {cx : Cx} {a r : F Pay} {c : Nat} {q : Pay} (hk : kk = plug cx (a.app (.node c q .nil r))) (ho : OkC V cx) (ht : q.type = 1) (hs : SibOk V g prev a) (h : Cm V b p0 kk H0 w0 K g (.t c :: (evF V r ++ after V cx)) (c :: (r.blocks ++ todoC cx)) pt keep prev w) (hm : met (pt.bind g) keep (tx g c) = [])
    {K' : NMap} {w' : World} (hT : Turned K w (.node b p0 (cutG V g kk) .nil) K' w') (hS : Sits K' none none none ((F.node b p0 (cutG V g kk) .nil).setKids (parN b cx) ((cutG V g a).app (cutG V g r)))) {l : List Int} (hg : g c = some l) :
    LoopI V b p0 kk H0 w0 (evF V r ++ after V cx).length pt keep prev (hd r (parN b cx)) w' := by
  obtain ⟨t1, t2, t3, t4⟩ := tree_gone F0 hk ho ht hg
  rw [t2] at hS
  have ha : (a.app (.node c q .nil .nil)).app r = a.app (.node c q .nil r) := by rw [F.app_assoc]; rfl
  have hfut := h.fut
  rw [runG, if_pos hm] at hfut
  refine ⟨K', setG g c none, cx, a.app (.node c q .nil .nil), r, by rw [ha]; exact hk, ho, rfl, ?_, ⟨hT.holds, hS, h.stays.trans' hT.stays (fun i _ hi => (h.dom i).2 hi), fun x => (hT.dom x).trans (h.dom x), hfut, fun x hx => ?_, fun d e => ?_, fun d e => ?_⟩, rfl⟩
  · unfold SibOk
    rw [t4]
    exact hs
  · have hnd := (F0.pos hk).1
    rw [F.blocks_app, F.blocks, F.blocks, List.nil_append, List.append_assoc, List.cons_append] at hnd
    have hcx := (List.nodup_cons.1 (List.nodup_append.1 hnd).2.1).1
    rw [setG_other _ _ (fun e : x = c => hcx (e ▸ hx))]
    exact h.gtodo x (List.mem_cons_of_mem _ hx)
  · obtain ⟨a1, a2⟩ := h.prv d e
    rw [List.mem_cons, not_or] at a2
    exact ⟨t3 d a1 a2.1, a2.2⟩
  · obtain ⟨a1, a2, l, a3, a4⟩ := h.ptx d e
    rw [List.mem_cons, not_or] at a1
    exact ⟨a1.2, a2, l, by rw [setG_other _ _ a1.1]; exact a3, a4⟩
theorem str_of_bys {l : List Int} (h : ∀ x ∈ l, 0 ≤ x ∧ x < 256) : bys (strOfNums l) = l := str_byte h
/-- What the walk reads of a text that it meets. -/
theorem Cm.text (F0 : Fx b p0 kk H0) {cx : Cx} {a r : F Pay} {c : Nat} {q : Pay} (hk : kk = plug cx (a.app (.node c q .nil r))) (ho : OkC V cx) (ht : q.type = 1) (h : Cm V b p0 kk H0 w0 K g (.t c :: (evF V r ++ after V cx)) (c :: (r.blocks ++ todoC cx)) pt keep prev w) :
    g c = some (bys q.data) ∧ q.data.size ≤ 1000000 ∧ cutG V g r = r ∧ (∃ lv pv, K c = some ⟨some (parN b cx), none, lv, pv, r.headOr none, q⟩) ∧ (∀ d, prev = some d → ∃ rd, K d = some rd ∧ ∀ m, rd.parent = some m → ∃ rm, K m = some rm) := by
  have h0 := F0.at hk
  have hg : g c = some (bys q.data) := by rw [h.gtodo c List.mem_cons_self]; simp [gOf, h0.1]
  have hrr : cutG V g r = r := h.rest F0 hk ⟨_, _, _, h0.2.2⟩ (fun i hi => List.mem_cons_of_mem _ (List.mem_append.2 (.inl hi)))
  have hrec := (h.at hk ho).1
  rw [cutG_some V g c .nil r ht hg, str_bys, hrr] at hrec
  refine ⟨hg, ?_, hrr, ⟨_, _, hrec.1⟩, fun d hd => ?_⟩
  · have h1 := heft_plug cx (a.app (.node c q .nil r))
    rw [← hk, heft_app, heft] at h1
    have h2 := F0.heft
    simp only [ht, beq_self_eq_true, if_true] at h1
    omega
  · have hm := (h.prv d hd).1
    obtain ⟨rd, hrd⟩ := h.sits.has _ _ _ _ d (by simp [F.blocks, hm])
    refine ⟨rd, hrd, fun m e => ?_⟩
    rcases parent_kids hrd e _ _ _ _ h.sits (F0.cut_nodup (V := V) g) (by simp [F.blocks, hm]) with h1 | ⟨k, h1, h2⟩
    · cases h1
    · exact h.sits.has _ _ _ _ m (F.kidsOf_mem h1).1
/-- A text that stays. -/
theorem Cm.kept (F0 : Fx b p0 kk H0) {cx : Cx} {a r : F Pay} {c : Nat} {q : Pay} (hk : kk = plug cx (a.app (.node c q .nil r))) (ho : OkC V cx) (ht : q.type = 1) (h : Cm V b p0 kk H0 w0 K g (.t c :: (evF V r ++ after V cx)) (c :: (r.blocks ++ todoC cx)) pt keep prev w) (hm : ¬ met (pt.bind g) keep (tx g c) = []) :
    ∃ K' rd, K' c = some rd ∧ (∃ lv pv, rd = ⟨some (parN b cx), none, lv, pv, r.headOr none, { q with data := strOfNums (met (pt.bind g) keep (tx g c)) }⟩) ∧ Holds (w.setCell ⟨c, 7, none⟩ (.string (strOfNums (met (pt.bind g) keep (tx g c))))) K' ∧ (∀ d, prev = some d → ∃ rd, K' d = some rd ∧ ∀ m, rd.parent = some m → ∃ rm, K' m = some rm) ∧
      ∀ w', Below (w.setCell ⟨c, 7, none⟩ (.string (strOfNums (met (pt.bind g) keep (tx g c))))).heap.size (w.setCell ⟨c, 7, none⟩ (.string (strOfNums (met (pt.bind g) keep (tx g c))))) w' → LoopI V b p0 kk H0 w0 (evF V r ++ after V cx).length (some c) keep (some c) (hd r (parN b cx)) w' := by
  obtain ⟨hg, hsz, hrr, ⟨lv, pv, hrec⟩, hprev⟩ := h.text F0 hk ho ht
  have htx : tx g c = bys q.data := by simp [tx, hg]
  have hnd := (F0.pos hk).1
  rw [F.blocks_app, F.blocks, F.blocks, List.nil_append, List.append_assoc, List.cons_append] at hnd
  have hcx := (List.nodup_cons.1 (List.nodup_append.1 hnd).2.1).1
  have hb := byt_met (t := tx g c) (by rw [htx]; exact bys_range q.data) (pt.bind g) keep
  have hlen : (met (pt.bind g) keep (tx g c)).length ≤ 1000000 := by
    have h1 := (Byt.met (n := (tx g c).length) (t := tx g c) ⟨Nat.le_refl _, by rw [htx]; exact bys_range q.data⟩ (pt.bind g) keep).1
    rw [htx, bys_length] at h1
    rw [htx]
    omega
  generalize hu : met (pt.bind g) keep (tx g c) = u at *
  have hpos : InPos V kk c := ⟨cx, a, q, .nil, r, hk, ho, ht⟩
  have hfe : runG (evF V r ++ after V cx) (some c) keep (setG g c (some u)) = runG (.t c :: (evF V r ++ after V cx)) pt keep g := by rw [runG, if_neg (by rw [hu]; exact hm), hu]
  have hw := h.weaken (todo' := r.blocks ++ todoC cx) (fun x hx => List.mem_cons_of_mem _ hx)
  obtain ⟨rd, h1, h2, h3, h4⟩ := hw.put F0 hg hpos hcx u hfe (fun x e => by
    obtain rfl := Option.some.inj e
    exact ⟨hcx, hpos, u, setG_same _ _ _, hlen, hb⟩)
  rw [hrec] at h1
  obtain rfl := Option.some.inj h1
  have ha : (a.app (.node c q .nil .nil)).app r = a.app (.node c q .nil r) := by rw [F.app_assoc]; rfl
  refine ⟨_, _, upd_same _ _ _, ⟨lv, pv, rfl⟩, h4.holds, fun d e => ?_, fun w' hw' => ⟨upd K c { (⟨some (parN b cx), none, lv, pv, r.headOr none, q⟩ : NRec) with pay := { q with data := strOfNums u } }, setG g c (some u), cx, a.app (.node c q .nil .nil), r, by rw [ha]; exact hk, ho, rfl, .inr ⟨c, rfl, ?_⟩, ?_, rfl⟩⟩
  · obtain ⟨rd2, e1, e2⟩ := hprev d e
    have hdc : d ≠ c := fun e3 => (h.prv d e).2 (by rw [e3]; exact List.mem_cons_self)
    refine ⟨rd2, by rw [upd_other _ _ hdc]; exact e1, fun m em => ?_⟩
    obtain ⟨rm, e4⟩ := e2 m em
    by_cases hmc : m = c
    · subst hmc; exact ⟨_, upd_same _ _ _⟩
    · exact ⟨rm, by rw [upd_other _ _ hmc]; exact e4⟩
  · rw [cutG_app, tops_app, cutG_some V _ c .nil .nil ht (setG_same _ _ _)]
    simp [tops]
  · have h5 := h4.moved hw'
    refine ⟨h5.holds, h5.sits, h5.stays, h5.dom, h5.fut, h5.gtodo, fun d e => ?_, h5.ptx⟩
    obtain rfl := Option.some.inj e
    refine ⟨cut_mem hk ho ?_, hcx⟩
    rw [cutG_some V _ c .nil r ht (setG_same _ _ _)]
    simp [F.blocks]
/-- What is known of the text at hand. -/
theorem Cm.hand {d : Nat} (h : Cm V b p0 kk H0 w0 K g rem todo (some d) keep prev w) : d ∉ todo ∧ InPos V kk d ∧ ∃ l, g d = some l ∧ tx g d = l ∧ l.length ≤ 1000000 ∧ bys (strOfNums l) = l ∧ (strOfNums l).size ≤ 2147483647 ∧ ∀ x ∈ l, 0 ≤ x ∧ x < 256 := by
  obtain ⟨h1, h2, l, h3, h4, h5⟩ := h.ptx d rfl
  exact ⟨h1, h2, l, h3, by simp [tx, h3], h4, str_byte h5, by rw [str_size]; omega, h5⟩
/-- A block, or a break, behind a text: its last blank goes. -/
theorem Cm.blk (F0 : Fx b p0 kk H0) {d : Nat} (h : Cm V b p0 kk H0 w0 K g (.e .blk :: rem) todo (some d) keep prev w) {l : List Int} (hg : g d = some l) {c : Nat} {q : Pay} (hp : PosM V kk c q rem todo g prev) (W : World) (hb : Below w.heap.size w W) :
    W.cell? ⟨d, 7, none⟩ = some (.string (strOfNums l)) ∧ W.frozen? ⟨d, 7, none⟩ = false ∧ ∃ K' g', Cm V b p0 kk H0 w0 K' g' rem todo none false prev (W.setCell ⟨d, 7, none⟩ (.string (strOfNums (trim l)))) ∧ PosM V kk c q rem todo g' prev := by
  have htx : tx g d = l := by simp [tx, hg]
  obtain ⟨h1, h2, _⟩ := h.hand
  have hm := h.moved hb
  obtain ⟨rd, a1, a2, a3, a4, a5, a6, a7, a8, a9⟩ := hm.put0 F0 hg h2 (trim l)
  obtain ⟨rd', b1, b2, b3, b4⟩ := hm.put (rem' := rem) (pt' := none) (keep' := false) F0 hg h2 h1 (trim l) (by rw [runG, htx]) (fun x e => by cases e)
  exact ⟨a8, a9, _, _, b4, hp.set (trim l) hg⟩
/-- Another state. -/
theorem Cm.turn (h : Cm V b p0 kk H0 w0 K g rem todo pt keep prev w) {rem' : List EvI} {pt' : Option Nat} {keep' : Bool} (hf : runG rem' pt' keep' g = runG rem pt keep g) (hp : pt' = none ∨ pt' = pt) : Cm V b p0 kk H0 w0 K g rem' todo pt' keep' prev w :=
  ⟨h.holds, h.sits, h.stays, h.dom, by rw [hf]; exact h.fut, h.gtodo, h.prv, fun d e => by
    rcases hp with hp | hp
    · rw [hp] at e; cases e
    · exact h.ptx d (by rw [← hp]; exact e)⟩
/-- At the end: the last text's last blank goes; where nothing is left, the text. -/
theorem Cm.last (F0 : Fx b p0 kk H0) {d : Nat} (h : Cm V b p0 kk H0 w0 K g [] todo (some d) keep prev w) {l : List Int} (hg : g d = some l) (W : World) (hb : Below w.heap.size w W) :
    W.cell? ⟨d, 7, none⟩ = some (.string (strOfNums l)) ∧ W.frozen? ⟨d, 7, none⟩ = false ∧
    (¬ trim l = [] → ∃ K', Holds (W.setCell ⟨d, 7, none⟩ (.string (strOfNums (trim l)))) K' ∧ Sits K' none none none (.node b p0 (clF V kk) .nil) ∧ Stays H0 w0 (W.setCell ⟨d, 7, none⟩ (.string (strOfNums (trim l))))) ∧
    (trim l = [] → Calls Try.prog 143 #[.pointer (some ⟨d, 0, none⟩)] (W.setCell ⟨d, 7, none⟩ (.string (strOfNums (trim l)))) fun e w' => (∃ v, e = .returned v) ∧ ∃ K', Holds w' K' ∧ Sits K' none none none (.node b p0 (clF V kk) .nil) ∧ Stays H0 w0 w') := by
  have htx : tx g d = l := by simp [tx, hg]
  obtain ⟨h1, h2, _⟩ := h.hand
  have hm := h.moved hb
  obtain ⟨rd, a1, a2, a3, a4, a5, a6, a7, a8, a9⟩ := hm.put0 F0 hg h2 (trim l)
  have hcl := runG_clF V kk _ _ _ F0.sits.2.1 F0.nk.1
  have hfut := h.fut
  rw [← hfut, runG, htx] at hcl
  refine ⟨a8, a9, fun ht => ?_, fun ht => ?_⟩
  · rw [if_neg ht] at hcl
    rw [hcl] at a5
    exact ⟨_, a4, a5, a6⟩
  · rw [if_pos ht] at hcl
    obtain ⟨cx, a, q, k, r, hk, ho, hq⟩ := h2
    have hkn : k = .nil := by
      have hte : TE (F.node d q k r) := (TE_app (a := a) (TE_plug cx _ (hk ▸ F0.te))).2
      rcases hte.1 with ⟨_, e, _⟩ | ⟨e, _⟩
      · exact e
      · rw [hq] at e; cases e
    subst hkn
    obtain ⟨t1, t2, t3, t4⟩ := tree_gone F0 hk ho hq (setG_same g d (some (trim l)))
    refine (removeNode_any a4 a5 (F0.cut_nodup (V := V) _) t1).mono ?_
    rintro e w' ⟨rfl, K', hT, hS⟩
    rw [t2] at hS
    have hss : setG (setG g d (some (trim l))) d none = setG g d none := by
      funext x
      by_cases hx : x = d
      · rw [hx, setG_same, setG_same]
      · rw [setG_other _ _ hx, setG_other _ _ hx, setG_other _ _ hx]
    rw [hss, hcl] at hS
    exact ⟨⟨_, rfl⟩, K', hT.holds, hS, a6.trans' hT.stays (fun i _ hi => (a7 i).2 hi)⟩
end
end
end Go.Proofs.Ytlallihdiffheaa.Hand
end
section
/- collapse.Collapse by hand: the walk. -/
namespace Go.Proofs.Ytlallihdiffheaa.Hand
open Go.RowKit Go.Proofs.YtlallihdiffheaaW.PrintWords Go.Proofs.YtlallihdiffheaaW.PrintLast Go.Proofs.YtlallihdiffheaaW.PrintMore Go.Proofs.Ytlallihdiffheaa.GT
set_option linter.unusedVariables false
set_option linter.unusedSimpArgs false

def nmB (ns : List ByteArray) (d : ByteArray) : Bool := ns.any (fun x => d.toList == x.toList)
theorem isNm_elem {ns : List ByteArray} {q : Pay} (h : q.type = 3) : isNm ns q = nmB ns q.data := by simp [isNm, nmB, h]
def kdOf (B Vd P : List ByteArray) (d : ByteArray) : Ev := if nmB B d || (d.toList == [98, 114]) then .blk else if nmB Vd d || nmB P d || (d.toList == [99, 111, 100, 101]) then .void else .oth
theorem kdOf_no (B Vd P : List ByteArray) (d : ByteArray) (t : List Int) : kdOf B Vd P d ≠ .txt t := by
  unfold kdOf
  split
  · intro h; cases h
  · split
    · intro h; cases h
    · intro h; cases h
/-- The kinds of elements, by their names. -/
def waysOf (B Vd P : List ByteArray) : Ways := ⟨kdOf B Vd P, nmB P, kdOf_no B Vd P⟩
/-- A closure's names: the variable's block, and the row's. -/
def BoxN (w : World) (bx : Nat) (ns : List ByteArray) : Prop := ∃ g c, w.heap[bx]? = some (boxNs (some ⟨g, 0, none⟩) ns.length c) ∧ w.heap[g]? = some (.cells (ns.map Value.string).toArray 9 (0, 0)) ∧ ns.length ≤ c ∧ ns.length ≤ 1000
theorem BoxN.keep {w w' : World} {bx : Nat} {ns : List ByteArray} (h : BoxN w bx ns) (hb : ∀ (k : Nat) (c : Array Value) (t : TypeId) (f : Nat × Nat), w.heap[k]? = some (.cells c t f) → t ≠ 115 → w'.heap[k]? = w.heap[k]?) : BoxN w' bx ns := by
  obtain ⟨g, c, h1, h2, h3, h4⟩ := h
  exact ⟨g, c, (hb _ _ _ _ h1 (by decide)).trans h1, (hb _ _ _ _ h2 (by decide)).trans h2, h3, h4⟩
def nmV (bx : Nat) : Value := .func (.func 137) #[] #[.pointer (some ⟨bx, 0, none⟩)]
/-- The functions that say of a node what it is. -/
structure DF (w : World) (df b1 b2 b3 : Nat) (B Vd P : List ByteArray) : Prop where
  cells : w.heap[df]? = some (.cells #[nmV b1, nmV b2, nmV b3] 102 (0, 0))
  blk : BoxN w b1 B
  void : BoxN w b2 Vd
  pre : BoxN w b3 P
section
variable {w : World} {df b1 b2 b3 : Nat} {B Vd P : List ByteArray}
theorem DF.keep {w' : World} (h : DF w df b1 b2 b3 B Vd P) (hb : ∀ (k : Nat) (c : Array Value) (t : TypeId) (f : Nat × Nat), w.heap[k]? = some (.cells c t f) → t ≠ 115 → w'.heap[k]? = w.heap[k]?) : DF w' df b1 b2 b3 B Vd P :=
  ⟨(hb _ _ _ _ h.cells (by decide)).trans h.cells, h.blk.keep hb, h.void.keep hb, h.pre.keep hb⟩
theorem DF.below {w' : World} (h : DF w df b1 b2 b3 B Vd P) (hb : Below w.heap.size w w') : DF w' df b1 b2 b3 B Vd P := h.keep fun k c t f hk _ => hb.block k (lt_of_block hk)
theorem DF.stays {w' : World} {H : NMap} (h : DF w df b1 b2 b3 B Vd P) (hw : Holds w H) (hs : Stays H w w') : DF w' df b1 b2 b3 B Vd P := h.keep fun k c t f hk ht => hs.block k (lt_of_block hk) (hw.none_of_type hk ht)
theorem BoxN.says {bx : Nat} {ns : List ByteArray} (h : BoxN w bx ns) {H : NMap} (hw : Holds w H) {b : Nat} {r : NRec} (hb : H b = some r) (ht : r.pay.type = 1 ∨ r.pay.type = 4 ∨ r.pay.type = 3 ∨ r.pay.type = 2) :
    Calls Try.prog 137 #[.pointer (some ⟨b, 0, none⟩), .pointer (some ⟨bx, 0, none⟩)] w fun e w' => e = .returned (.bool (isNm ns r.pay)) ∧ Below w.heap.size w w' := by
  obtain ⟨g, c, h1, h2, h3, h4⟩ := h
  have hC : Kd.C Kd.string w (some ⟨g, 0, none⟩) ns.length ns := by
    refine ⟨rfl, by omega, fun _ => ⟨_, rfl, fun j s hj => ⟨[.string s], rfl, rfl, fun i u hu => ?_⟩⟩⟩
    cases i with
    | zero =>
      obtain rfl : Value.string s = u := by simpa using hu
      have hz : (Kd.string).sz = 1 := rfl
      rw [hz, Nat.mul_one, Nat.add_zero]
      have hjl := (List.getElem?_eq_some_iff.1 hj).1
      have ha : (⟨g, 0, none⟩ : Addr).add j = ⟨g, j, none⟩ := by by_cases h0 : j = 0 <;> simp [Addr.add, h0]
      rw [ha, (out_cell h2 j).1]
      simp [hj]
    | succ i => simp at hu
  exact named_any ns h4 hw (b := b) (par := r.parent) (f := r.first) (l := r.last) (v := r.prev) (x := r.next) (q := r.pay) hb ht (out_cell h1 0).1 hC h3
theorem DF.cell (h : DF w df b1 b2 b3 B Vd P) : w.cell? ⟨df, 0, none⟩ = some (nmV b1) ∧ w.cell? ⟨df, 1, none⟩ = some (nmV b2) ∧ w.cell? ⟨df, 2, none⟩ = some (nmV b3) :=
  ⟨(out_cell h.cells 0).1, (out_cell h.cells 1).1, (out_cell h.cells 2).1⟩
/-- The next node, in a world that holds the nodes. -/
theorem DF.next (h : DF w df b1 b2 b3 B Vd P) {K : NMap} (hw : Holds w K) {n : Nat} {pn fn ln vn xn : Option Nat} {qn : Pay} (hn : K n = some ⟨pn, fn, ln, vn, xn, qn⟩) (ht : qn.type = 1 ∨ qn.type = 4 ∨ qn.type = 3 ∨ qn.type = 2) (prev : Option Nat) (hp : ∀ d, prev = some d → ∃ rd, K d = some rd ∧ ∀ m, rd.parent = some m → ∃ rm, K m = some rm) :
    Calls Try.prog 140 #[ptrV prev, .pointer (some ⟨n, 0, none⟩), .pointer (some ⟨df, 0, none⟩)] w fun e w' => e = .returned (ptrV (goesTo (isUp K prev n || isNm P qn) fn xn pn)) ∧ Below w.heap.size w w' :=
  nextNode_any hw hn prev hp df b3 (isNm P qn) (fun W hb => (h.below hb).cell.2.2) (fun W hb => (h.below hb).pre.says (hw.below hb) hn ht)
end
theorem func_nil (bx : Nat) (W : World) : (binOp .eql 95 (.func (.func 137) #[] #[.pointer (some ⟨bx, 0, none⟩)]) .nilFunc).run Try.prog W = .ok (.bool false) W := by
  have h : ∀ d : Nat, (Op.equalIn (d + 1) 95 (.func (.func 137) #[] #[.pointer (some ⟨bx, 0, none⟩)]) .nilFunc).run Try.prog W = .ok false W := fun d => by
    simp [Op.equalIn, run_underlying Try.underlying95]
  simp only [binOp]
  simp [Op.equal, Op.maxDepth, h 9999]
set_option maxRecDepth 100000 in
set_option maxHeartbeats 1600000 in
theorem fill_any {w : World} {df b1 b2 b3 : Nat} {B Vd P : List ByteArray} (h : DF w df b1 b2 b3 B Vd P) :
    Calls Try.prog 139 #[.pointer (some ⟨df, 0, none⟩)] w fun e w' => e = .returned (.pointer (some ⟨df, 0, none⟩)) ∧ w = w' := by
  obtain ⟨c0, c1, c2⟩ := h.cell
  unfold nmV at c0 c1 c2
  have hq1 := func_nil b1
  have hq2 := func_nil b2
  have hq3 := func_nil b3
  clear h
  go_enter Try.func139, Try.ntmps139
  go_wp2
  go_ret
  exact ⟨rfl, rfl⟩
theorem LoopI.stays {V : Ways} {b : Nat} {p0 : Pay} {kk : F Pay} {H0 : NMap} {w0 w : World} {m node : Nat} {pt prev : Option Nat} {keep : Bool} (h : LoopI V b p0 kk H0 w0 m pt keep prev node w) : Stays H0 w0 w := by
  obtain ⟨K, g, cx, a, r, _, _, _, _, hc, _⟩ := h
  exact hc.stays
section
variable {B Vd P : List ByteArray} {b : Nat} {p0 : Pay} {kk : F Pay} {H0 : NMap} {w0 : World} {df b1 b2 b3 : Nat} {K : NMap} {g : G} {pt prev : Option Nat} {keep : Bool} {wr : World}
/-- Behind a text. -/
theorem text_done (F0 : Fx b p0 kk H0) (hD : DF w0 df b1 b2 b3 B Vd P) (hw0 : Holds w0 H0) {cx : Cx} {a r : F Pay} {c : Nat} {q : Pay} (hk : kk = plug cx (a.app (.node c q .nil r))) (ho : OkC (waysOf B Vd P) cx) (ht : q.type = 1) (hs : SibOk (waysOf B Vd P) g prev a)
    (h : Cm (waysOf B Vd P) b p0 kk H0 w0 K g (.t c :: (evF (waysOf B Vd P) r ++ after (waysOf B Vd P) cx)) (c :: (r.blocks ++ todoC cx)) pt keep prev wr) (W : World) (hb : Below wr.heap.size wr W) {u : List Int} (hu : met (pt.bind g) keep (bys q.data) = u) :
    (u = [] → Calls Try.prog 143 #[.pointer (some ⟨c, 0, none⟩)] W fun e w' => e = .returned (.pointer (some ⟨hd r (parN b cx), 0, none⟩)) ∧ LoopI (waysOf B Vd P) b p0 kk H0 w0 (evF (waysOf B Vd P) r ++ after (waysOf B Vd P) cx).length pt keep prev (hd r (parN b cx)) w') ∧
    (¬ u = [] → Calls Try.prog 140 #[ptrV prev, .pointer (some ⟨c, 0, none⟩), .pointer (some ⟨df, 0, none⟩)] (W.setCell ⟨c, 7, none⟩ (.string (strOfNums u))) fun e w' => e = .returned (.pointer (some ⟨hd r (parN b cx), 0, none⟩)) ∧ LoopI (waysOf B Vd P) b p0 kk H0 w0 (evF (waysOf B Vd P) r ++ after (waysOf B Vd P) cx).length (some c) keep (some c) (hd r (parN b cx)) w') ∧
    W.frozen? ⟨c, 7, none⟩ = false ∧ W.cell? ⟨c, 7, none⟩ = some (.string q.data) := by
  have hm := h.moved hb
  obtain ⟨hg, hsz, hrr, ⟨lv, pv, hrec⟩, hprev⟩ := hm.text F0 hk ho ht
  have htx : tx g c = bys q.data := by simp [tx, hg]
  rw [← htx] at hu
  refine ⟨fun hz => ?_, fun hz => ?_, hm.holds.frozen hrec 7, (hm.holds.opened hrec).2.2.2.2.2.2.2.1⟩
  · obtain ⟨t1, t2, t3, t4⟩ := tree_gone F0 hk ho ht hg
    refine (removeNode_any hm.holds hm.sits (F0.cut_nodup g) t1).mono ?_
    rintro e w' ⟨rfl, K', hT, hS⟩
    refine ⟨?_, hm.gone F0 hk ho ht hs (by rw [hu]; exact hz) hT hS hg⟩
    rw [hrr]
    cases r <;> rfl
  · subst hu
    obtain ⟨K', rd, h1, ⟨lv2, pv2, rfl⟩, h3, h4, h5⟩ := hm.kept F0 hk ho ht hz
    have hst := (h5 _ (Below.refl _ _)).stays
    refine ((hD.stays hw0 hst).next h3 h1 (.inl ht) prev h4).mono ?_
    rintro e w' ⟨rfl, hb'⟩
    refine ⟨?_, h5 w' hb'⟩
    have e1 : ∀ up, goesTo up none (r.headOr none) (some (parN b cx)) = some (hd r (parN b cx)) := fun up => by
      cases up
      · exact hd_or r _
      · exact hd_or r _
    rw [e1]
    rfl
/-- Behind an element. -/
theorem elem_done (F0 : Fx b p0 kk H0) (hD : DF w0 df b1 b2 b3 B Vd P) (hw0 : Holds w0 H0) {rem : List EvI} {todo : List Nat} {W : World} (h : Cm (waysOf B Vd P) b p0 kk H0 w0 K g rem todo pt keep prev W) {c : Nat} {q : Pay} (hq : q.type = 3)
    (hag : ∀ rest, runG (.e (kdOf B Vd P q.data) :: rest) pt keep g = runG rest pt keep g) (hp : PosM (waysOf B Vd P) kk c q rem todo g prev) :
    ∃ nx, Calls Try.prog 140 #[ptrV prev, .pointer (some ⟨c, 0, none⟩), .pointer (some ⟨df, 0, none⟩)] W fun e w' => e = .returned (.pointer (some ⟨nx, 0, none⟩)) ∧ ∃ m', m' ≤ rem.length ∧ LoopI (waysOf B Vd P) b p0 kk H0 w0 m' pt keep (some c) nx w' := by
  obtain ⟨pn, fn, ln, vn, xn, nx, hrec, hgo, hprev, m', hm', hL⟩ := h.next F0 hq hag hp
  refine ⟨nx, ((hD.stays hw0 h.stays).next h.holds hrec (.inr (.inr (.inl hq))) prev hprev).mono ?_⟩
  rintro e w' ⟨rfl, hb⟩
  have e1 : isNm P q = nmB P q.data := isNm_elem hq
  rw [e1]
  have hgo' : goesTo (isUp K prev c || nmB P q.data) fn xn pn = some nx := hgo
  rw [hgo']
  refine ⟨rfl, m', hm', ?_⟩
  obtain ⟨K2, g2, cx, a, r, i1, i2, i3, i4, i5, i6⟩ := hL
  exact ⟨K2, g2, cx, a, r, i1, i2, i3, i4, i5.moved hb, i6⟩
end
end Go.Proofs.Ytlallihdiffheaa.Hand
end
section
/- collapse.Collapse by hand: the whole walk. -/
namespace Go.Proofs.Ytlallihdiffheaa.Hand
open Go.RowKit Go.Proofs.YtlallihdiffheaaW.PrintWords Go.Proofs.YtlallihdiffheaaW.PrintLast Go.Proofs.YtlallihdiffheaaW.PrintMore Go.Proofs.Ytlallihdiffheaa.GT
set_option linter.unusedVariables false
set_option linter.unusedSimpArgs false

/-- What the loop keeps, with the functions that it asks. -/
def LpR (B Vd P : List ByteArray) (b : Nat) (p0 : Pay) (kk : F Pay) (H0 : NMap) (w0 : World) (m : Nat) (v4 v5 v6 v7 : Value) (wr : World) : Prop :=
  ∃ (pt : Option Nat) (keep : Bool) (prev : Option Nat) (node : Nat), v4 = ptrV pt ∧ v5 = .bool keep ∧ v6 = ptrV prev ∧ v7 = .pointer (some ⟨node, 0, none⟩) ∧ LoopI (waysOf B Vd P) b p0 kk H0 w0 m pt keep prev node wr
theorem str_ne {l : List Int} (h : ¬ l = []) : ((strOfNums l).toList == []) = false := by
  rw [beq_eq_false_iff_ne]
  intro e
  rw [ByteArray.toList_eq] at e
  have e2 : (strOfNums l).size = 0 := by
    have := congrArg List.length e
    rw [Array.length_toList] at this
    exact this
  rw [str_size] at e2
  exact h (List.eq_nil_of_length_eq_zero e2)
theorem first_blank {l : List Int} (hb : ∀ x ∈ l, 0 ≤ x ∧ x < 256) (h : 0 < (strOfNums l).size) : ((((strOfNums l)[0]'h).toNat : Int) == 32) = starts l := by
  cases l with
  | nil => exact absurd h (by rw [str_size]; simp)
  | cons x t =>
    have h1 : (strOfNums (x :: t))[0]'h = UInt8.ofNat x.toNat := rfl
    obtain ⟨h2, h3⟩ := hb x List.mem_cons_self
    rw [h1, starts, List.head?_cons]
    have h4 : ((UInt8.ofNat x.toNat).toNat : Int) = x := by
      simp only [UInt8.toNat_ofNat']
      omega
    rw [h4]
    by_cases hx : x = 32
    · subst hx; rfl
    · simp [hx]
set_option maxRecDepth 100000 in
set_option maxHeartbeats 6400000 in
theorem collapse_any {B Vd P : List ByteArray} {b : Nat} {p0 : Pay} {kk : F Pay} {H0 : NMap} {w : World} {df b1 b2 b3 : Nat} (F0 : Fx b p0 kk H0) (ht : p0.type = 3) (hpre : nmB P p0.data = false) (hw : Holds w H0) (hD : DF w df b1 b2 b3 B Vd P) :
    Calls Try.prog 93 #[.pointer (some ⟨b, 0, none⟩), .pointer (some ⟨df, 0, none⟩)] w fun e w' => e = .returned (.tuple #[]) ∧ ∃ K, Holds w' K ∧ Sits K none none none (.node b p0 (clF (waysOf B Vd P) kk) .nil) ∧ Stays H0 w w' := by
  have hent : ∀ (bx a : Nat) (W : World), (callFunc 137 #[.pointer (some ⟨a, 0, none⟩), .pointer (some ⟨bx, 0, none⟩)]).run Try.prog W = .ok (.enter 137 #[.pointer (some ⟨a, 0, none⟩), .pointer (some ⟨bx, 0, none⟩)]) W :=
    fun bx a W => enters Try.func137 (by rfl) (by rfl) _ _
  have hF := fill_any hD
  have hrec := F0.sits.1
  obtain ⟨-, n1, -, -, -, n5, -, -, -⟩ := hw.opened hrec
  obtain ⟨d0, d1, d2⟩ := hD.cell
  unfold nmV at d0 d1 d2
  have hnm : isNm P p0 = false := by rw [isNm_elem ht]; exact hpre
  have hP := hD.pre.says hw hrec (by simp [ht])
  rw [show isNm P (⟨none, kk.headOr none, kk.lastOr none, none, (F.nil : F Pay).headOr none, p0⟩ : NRec).pay = false from hnm] at hP
  have hN := hD.next hw hrec (by simp [ht]) none (fun d e => by cases e)
  rw [hnm, show isUp H0 none b = false from rfl, Bool.or_self] at hN
  have HF := Lib.hid hF
  have HP := Lib.hid hP
  have HD := Lib.hid hD
  have HW := Lib.hid hw
  have HFX := Lib.hid F0
  have HREC := Lib.hid hrec
  cases hkk : kk with
  | nil =>
    subst hkk
    have n1' : w.cell? ⟨b, 1, none⟩ = some (.pointer none) := n1
    have HS := Lib.hid F0.sits
    clear hF hP hN hD hw F0 hrec n1 n5 hnm ht hpre
    go_enter Try.func93, Try.ntmps93
    go_wp2_with (go_at_call 139; refine HF.out.mono ?_; rintro e w1 ⟨rfl, rfl⟩)
    exact bodyPost_ret (results_none rfl _ _ _) rfl ⟨rfl, H0, HW.out, HS.out, Stays.refl _ _⟩
  | node c q kc r =>
    have n1' : w.cell? ⟨b, 1, none⟩ = some (.pointer (some ⟨c, 0, none⟩)) := by rw [hkk] at n1; exact n1
    have hN' : ∀ W, Below w.heap.size w W → Calls Try.prog 140 #[.pointer none, .pointer (some ⟨b, 0, none⟩), .pointer (some ⟨df, 0, none⟩)] W fun e w' => e = .returned (.pointer (some ⟨c, 0, none⟩)) ∧ Below W.heap.size W w' := fun W hb => by
      have h := (hD.below hb).next (hw.below hb) hrec (by simp [ht]) none (fun d e => by cases e)
      rw [hnm, show isUp H0 none b = false from rfl, Bool.or_self] at h
      rw [hkk] at h
      exact h
    have hst : ∀ W, Below w.heap.size w W → LpR B Vd P b p0 kk H0 w (evF (waysOf B Vd P) kk).length (.pointer none) (.bool false) (.pointer none) (.pointer (some ⟨c, 0, none⟩)) W := fun W hb =>
      ⟨none, false, none, hd kk b, rfl, rfl, rfl, by rw [hkk]; rfl, LoopI.start F0 (hw.below hb) (Stays.of_below hb)⟩
    have HN := Lib.hid hN'
    have HST := Lib.hid hst
    rw [← hkk]
    clear hF hP hN hN' hD hw F0 hrec n1 n5 hnm ht hpre hst hkk
    go_enter Try.func93, Try.ntmps93
    go_wp2_with (first
      | (go_at_call 139; refine HF.out.mono ?_; rintro e w1 ⟨rfl, rfl⟩)
      | (go_at_call 137; refine HP.out.mono ?_; rintro e w1 ⟨rfl, hb1⟩; have HB1 := Lib.hid hb1; clear hb1)
      | (go_at_call 140; refine (HN.out _ HB1.out).mono ?_; rintro e w2 ⟨rfl, hb2⟩; have HB2 := Lib.hid (below_then HB1.out HB1.out.size hb2); clear hb2))
    go_loopg [4, 5, 6, 7] (evF (waysOf B Vd P) kk).length (fun gk v4 v5 v6 v7 wr => LpR B Vd P b p0 kk H0 w gk v4 v5 v6 v7 wr)
    case atStart => exact HST.out _ HB2.out
    case round =>
      obtain ⟨pt, keep, prev, node, rfl, rfl, rfl, rfl, hL⟩ := hrel
      rcases hL.cases HFX.out with ⟨hnb, K, g, hc⟩ | ⟨hne, K, g, q1, cx, a1, r1, hk1, ho1, ht1, hs1, hc, hlt⟩ | ⟨hne, K, g, q1, rem, todo, ht1, hc, hp1, hlt⟩
      · obtain rfl : b = node := hnb.symm
        have hq := ptr_neq_same ⟨b, 0, none⟩
        cases pt with
        | none =>
          have hfin := runG_clF (waysOf B Vd P) kk _ _ _ HFX.out.sits.2.1 HFX.out.nk.1
          have hfut := hc.fut
          rw [runG] at hfut
          rw [← hfut] at hfin
          have hS := hc.sits
          rw [hfin] at hS
          have HFIN := Lib.hid (And.intro hc.holds (And.intro hS hc.stays))
          simp only [ptrV_none]
          clear hL hc hfin hfut hS
          go_wp2
          go_end0
          exact ⟨rfl, K, HFIN.out.1, HFIN.out.2.1, HFIN.out.2.2⟩
        | some d =>
          obtain ⟨-, -, l, hg, -, -, hbl, hsz, -⟩ := hc.hand
          have hlast := fun W hb => hc.last HFX.out hg W hb
          obtain ⟨l0, -⟩ := hlast wr (Below.refl _ _)
          have htr := fun W => trimSuffix_any (strOfNums l) hsz W
          rw [hbl] at htr
          have HL := Lib.hid hlast
          have HTR := Lib.hid htr
          simp only [ptrV_some]
          clear hL hc hg hbl hsz hlast htr
          by_cases htz : trim l = []
          · have hlast2 := HL.out
            rw [htz, show strOfNums [] = (⟨#[]⟩ : ByteArray) from rfl] at hlast2
            have htr := HTR.out
            rw [htz, show strOfNums [] = (⟨#[]⟩ : ByteArray) from rfl] at htr
            have HL2 := Lib.hid hlast2
            have HTR2 := Lib.hid htr
            clear hlast2 htr htz
            go_wp2_with (first
              | (go_at_call 144; refine (HTR2.out _).mono ?_; rintro e w3 ⟨rfl, hb3⟩; obtain ⟨l3, f3, -, hrm⟩ := HL2.out w3 hb3; have HRM := Lib.hid (hrm rfl); clear hb3 hrm)
              | (go_at_call 143; refine HRM.out.mono ?_; rintro e w4 ⟨⟨v, rfl⟩, hk⟩; have HK := Lib.hid hk; clear hk))
            go_end0
            exact ⟨rfl, HK.out⟩
          · have hne2 : ((strOfNums (trim l)).toList == []) = false := by
              rw [beq_eq_false_iff_ne]
              intro e
              rw [ByteArray.toList_eq] at e
              have e2 : (strOfNums (trim l)).size = 0 := by
                have := congrArg List.length e
                rw [Array.length_toList] at this
                exact this
              rw [str_size] at e2
              exact htz (List.eq_nil_of_length_eq_zero e2)
            have HTZ := Lib.hid htz
            clear htz
            generalize hsv : strOfNums (trim l) = sv at *
            clear hsv
            go_wp2_with (first
              | (go_at_call 144; refine (HTR.out _).mono ?_; rintro e w3 ⟨rfl, hb3⟩; obtain ⟨l3, f3, hrm, -⟩ := HL.out w3 hb3; have HRM := Lib.hid (hrm HTZ.out); clear hb3 hrm))
            go_end0
            exact ⟨rfl, HRM.out⟩
      · obtain ⟨hg, hsz, hrr, ⟨lv, pv, hrec1⟩, hprev⟩ := hc.text HFX.out hk1 ho1 ht1
        have hq := ptr_neq_other hc.holds hrec1 hc.sits.1 hne
        obtain ⟨-, -, -, -, -, m5, -, m7, -⟩ := hc.holds.opened hrec1
        rw [ht1] at m5
        have hbl := fun W => blanksE_any q1.data W (by omega)
        have hc7 : ∀ d, pt = some d → ∃ l, g d = some l ∧ bys (strOfNums l) = l ∧ (strOfNums l).size ≤ 2147483647 ∧ ∀ W, Below wr.heap.size wr W → W.cell? ⟨d, 7, none⟩ = some (.string (strOfNums l)) := fun d e => by
          subst e
          obtain ⟨-, h2, l, h3, -, -, h5, h6, -⟩ := hc.hand
          refine ⟨l, h3, h5, h6, fun W hb => ?_⟩
          obtain ⟨_, _, _, _, _, _, _, _, h7, _⟩ := (hc.moved hb).put0 HFX.out h3 h2 l
          exact h7
        have HBL := Lib.hid hbl
        have HC7 := Lib.hid hc7
        have HCM := Lib.hid hc
        have HTX := Lib.hid (And.intro hg (And.intro hsz (And.intro hrr (And.intro hk1 (And.intro ho1 (And.intro ht1 (And.intro hs1 (And.intro hlt hrec1))))))))
        have HPV := Lib.hid hprev
        clear hL hc hg hsz hrr hrec1 hprev hbl hc7 hk1 ho1 ht1 hs1 hlt
        go_upto_region 9 with (go_at_call 141; refine (HBL.out _).mono ?_; rintro e w3 ⟨rfl, hb3⟩; have HB3 := Lib.hid hb3; clear hb3)
        obtain ⟨cT, hcT⟩ : ∃ cT, cT = col (bys q1.data) := ⟨_, rfl⟩
        rw [← hcT]
        have hby : ∀ x ∈ cT, 0 ≤ x ∧ x < 256 := by rw [hcT]; exact byt_os (n := 0) false (bys_range q1.data)
        have HBY := Lib.hid hby
        have HCT := Lib.hid hcT
        clear hcT hby
        go_cut [63] from 29 to 134 (fun v wx => v = .bool (((pt.bind g).all ends) && !keep && starts cT) ∧ Below wr.heap.size wr wx)
        case first =>
          have hne2 : ¬ cT = [] → ((strOfNums cT).toList == []) = false := fun h => by
            rw [beq_eq_false_iff_ne]
            intro e
            rw [ByteArray.toList_eq] at e
            have e2 : (strOfNums cT).size = 0 := by
              have := congrArg List.length e
              rw [Array.length_toList] at this
              exact this
            rw [str_size] at e2
            exact h (List.eq_nil_of_length_eq_zero e2)
          have HNE := Lib.hid hne2
          clear hne2
          cases keep with
          | true =>
            cases pt with
            | none =>
              simp only [ptrV_none]
              go_wp2
              go_meet
              exact ⟨by simp, HB3.out⟩
            | some d =>
              obtain ⟨l, hg, hbl, hsz, hcell⟩ := HC7.out d rfl
              have l7 := hcell w3 HB3.out
              have hsf := fun W => hasSuffix_any (strOfNums l) hsz W
              rw [hbl] at hsf
              have HSF := Lib.hid hsf
              have HG := Lib.hid hg
              simp only [ptrV_some]
              clear hg hbl hsz hcell hsf
              cases hel : ends l with
              | true =>
                have HEL := Lib.hid hel
                rw [hel] at HSF
                clear hel
                go_wp2_with (go_at_call 142; refine (HSF.out _).mono ?_; rintro e w4 ⟨rfl, hb4⟩; have HB4 := Lib.hid (below_then HB3.out HB3.out.size hb4); clear hb4)
                go_meet
                exact ⟨by simp, HB4.out⟩
              | false =>
                have HEL := Lib.hid hel
                rw [hel] at HSF
                clear hel
                go_wp2_with (go_at_call 142; refine (HSF.out _).mono ?_; rintro e w4 ⟨rfl, hb4⟩; have HB4 := Lib.hid (below_then HB3.out HB3.out.size hb4); clear hb4)
                go_meet
                exact ⟨by simp, HB4.out⟩
          | false =>
            by_cases hcz : cT = []
            · subst hcz
              rw [show strOfNums [] = (⟨#[]⟩ : ByteArray) from rfl]
              cases pt with
              | none =>
                simp only [ptrV_none]
                go_wp2
                go_meet
                exact ⟨by simp [starts], HB3.out⟩
              | some d =>
                obtain ⟨l, hg, hbl, hsz, hcell⟩ := HC7.out d rfl
                have l7 := hcell w3 HB3.out
                have hsf := fun W => hasSuffix_any (strOfNums l) hsz W
                rw [hbl] at hsf
                have HSF := Lib.hid hsf
                have HG := Lib.hid hg
                simp only [ptrV_some]
                clear hg hbl hsz hcell hsf
                cases hel : ends l with
                | true =>
                  rw [hel] at HSF
                  clear hel
                  go_wp2_with (go_at_call 142; refine (HSF.out _).mono ?_; rintro e w4 ⟨rfl, hb4⟩; have HB4 := Lib.hid (below_then HB3.out HB3.out.size hb4); clear hb4)
                  go_meet
                  exact ⟨by simp [starts], HB4.out⟩
                | false =>
                  rw [hel] at HSF
                  clear hel
                  go_wp2_with (go_at_call 142; refine (HSF.out _).mono ?_; rintro e w4 ⟨rfl, hb4⟩; have HB4 := Lib.hid (below_then HB3.out HB3.out.size hb4); clear hb4)
                  go_meet
                  exact ⟨by simp [starts], HB4.out⟩
            · have hd1 := HNE.out hcz
              have hs0 : 0 < (strOfNums cT).size := by
                rw [str_size]
                exact List.length_pos_iff.2 hcz
              have HCZ := Lib.hid hcz
              clear hcz
              have hfb := first_blank HBY.out hs0
              have HFB := Lib.hid hfb
              clear hfb
              cases pt with
              | none =>
                simp only [ptrV_none]
                go_wp2
                go_meet
                exact ⟨by rw [HFB.out]; simp, HB3.out⟩
              | some d =>
                obtain ⟨l, hg, hbl, hsz, hcell⟩ := HC7.out d rfl
                have l7 := hcell w3 HB3.out
                have hsf := fun W => hasSuffix_any (strOfNums l) hsz W
                rw [hbl] at hsf
                have HSF := Lib.hid hsf
                have HG := Lib.hid hg
                simp only [ptrV_some]
                clear hg hbl hsz hcell hsf
                cases hel : ends l with
                | true =>
                  have HEL := Lib.hid hel
                  rw [hel] at HSF
                  clear hel
                  go_wp2_with (go_at_call 142; refine (HSF.out _).mono ?_; rintro e w4 ⟨rfl, hb4⟩; have HB4 := Lib.hid (below_then HB3.out HB3.out.size hb4); clear hb4)
                  go_meet
                  exact ⟨by rw [HFB.out]; simp [HG.out, HEL.out], HB4.out⟩
                | false =>
                  have HEL := Lib.hid hel
                  rw [hel] at HSF
                  clear hel
                  go_wp2_with (go_at_call 142; refine (HSF.out _).mono ?_; rintro e w4 ⟨rfl, hb4⟩; have HB4 := Lib.hid (below_then HB3.out HB3.out.size hb4); clear hb4)
                  go_meet
                  exact ⟨by simp [HG.out, HEL.out], HB4.out⟩
        case rest =>
          obtain ⟨rfl, hbc⟩ := hcut
          have HBC := Lib.hid hbc
          clear hbc
          cases hcond : (((pt.bind g).all ends) && !keep && starts cT) with
          | true =>
            have hst : starts cT = true := by
              simp only [Bool.and_eq_true] at hcond
              exact hcond.2
            have hnz : cT ≠ [] := fun e => by rw [e] at hst; cases hst
            have hu : met (pt.bind g) keep (bys q1.data) = cT.tail := by
              unfold met
              rw [← HCT.out, hcond]
              rfl
            obtain ⟨td1, td2, td3, td4⟩ := text_done HFX.out HD.out HW.out HTX.out.2.2.2.1 HTX.out.2.2.2.2.1 HTX.out.2.2.2.2.2.1 HTX.out.2.2.2.2.2.2.1 HCM.out wc HBC.out hu
            have hext : (strOfNums cT).extract 1 (strOfNums cT).size = strOfNums cT.tail := by
              rw [← str_bys ((strOfNums cT).extract 1 (strOfNums cT).size), bys_extract, str_of_bys HBY.out, str_size]
              congr 1
              rw [List.take_of_length_le (by rw [List.length_drop]; omega)]
              cases cT with
              | nil => exact absurd rfl hnz
              | cons x t => rfl
            have h1n : 1 ≤ (strOfNums cT).size := by
              rw [str_size]
              exact List.length_pos_iff.2 hnz
            have h1i : (1 : Int) ≤ ((strOfNums cT).size : Int) := by omega
            by_cases hz : cT.tail = []
            · have HRM := Lib.hid (td1 hz)
              rw [hz, show strOfNums [] = (⟨#[]⟩ : ByteArray) from rfl] at hext
              clear hcond hst hnz hu td1 td2 td3 hz
              go_wp2_with (go_at_call 143; refine HRM.out.mono ?_; rintro e w5 ⟨rfl, hL5⟩; have HL5 := Lib.hid hL5; clear hL5)
              go_roundg (evF (waysOf B Vd P) r1 ++ after (waysOf B Vd P) cx).length
              case measure => exact HTX.out.2.2.2.2.2.2.2.1
              case rel => exact ⟨pt, keep, prev, _, rfl, rfl, rfl, rfl, HL5.out⟩
            · have HRM := Lib.hid (td2 hz)
              have hne3 : ((strOfNums cT.tail).toList == []) = false := str_ne hz
              generalize strOfNums cT.tail = sU at *
              clear hcond hst hnz hu td1 td2 hz
              go_wp2_with (go_at_call 140; refine HRM.out.mono ?_; rintro e w5 ⟨rfl, hL5⟩; have HL5 := Lib.hid hL5; clear hL5)
              go_roundg (evF (waysOf B Vd P) r1 ++ after (waysOf B Vd P) cx).length
              case measure => exact HTX.out.2.2.2.2.2.2.2.1
              case rel => exact ⟨some node, keep, some node, _, rfl, rfl, rfl, rfl, HL5.out⟩
          | false =>
            have hu : met (pt.bind g) keep (bys q1.data) = cT := by
              unfold met
              rw [← HCT.out, hcond]
              rfl
            obtain ⟨td1, td2, td3, td4⟩ := text_done HFX.out HD.out HW.out HTX.out.2.2.2.1 HTX.out.2.2.2.2.1 HTX.out.2.2.2.2.2.1 HTX.out.2.2.2.2.2.2.1 HCM.out wc HBC.out hu
            by_cases hz : cT = []
            · have HRM := Lib.hid (td1 hz)
              rw [hz, show strOfNums [] = (⟨#[]⟩ : ByteArray) from rfl]
              clear hcond hu td1 td2 td3 hz
              go_wp2_with (go_at_call 143; refine HRM.out.mono ?_; rintro e w5 ⟨rfl, hL5⟩; have HL5 := Lib.hid hL5; clear hL5)
              go_roundg (evF (waysOf B Vd P) r1 ++ after (waysOf B Vd P) cx).length
              case measure => exact HTX.out.2.2.2.2.2.2.2.1
              case rel => exact ⟨pt, keep, prev, _, rfl, rfl, rfl, rfl, HL5.out⟩
            · have HRM := Lib.hid (td2 hz)
              have hne3 : ((strOfNums cT).toList == []) = false := str_ne hz
              generalize strOfNums cT = sU at *
              clear hcond hu td1 td2 hz
              go_wp2_with (go_at_call 140; refine HRM.out.mono ?_; rintro e w5 ⟨rfl, hL5⟩; have HL5 := Lib.hid hL5; clear hL5)
              go_roundg (evF (waysOf B Vd P) r1 ++ after (waysOf B Vd P) cx).length
              case measure => exact HTX.out.2.2.2.2.2.2.2.1
              case rel => exact ⟨some node, keep, some node, _, rfl, rfl, rfl, rfl, HL5.out⟩
      · have hrecx : ∃ pn fn ln vn xn, K node = some ⟨pn, fn, ln, vn, xn, q1⟩ := hc.recAt ht1 hp1
        obtain ⟨pn, fn, ln, vn, xn, hrec1⟩ := hrecx
        have hq := ptr_neq_other hc.holds hrec1 hc.sits.1 hne
        obtain ⟨-, -, -, -, -, m5, -, -, -⟩ := hc.holds.opened hrec1
        rw [ht1] at m5
        have hDr := HD.out.stays HW.out hc.stays
        obtain ⟨e0, e1, e2⟩ := hDr.cell
        unfold nmV at e0 e1 e2
        have hsayB : ∀ W, Below wr.heap.size wr W → Calls Try.prog 137 #[.pointer (some ⟨node, 0, none⟩), .pointer (some ⟨b1, 0, none⟩)] W fun e w' => e = .returned (.bool (nmB B q1.data)) ∧ Below W.heap.size W w' := fun W hb => by
          have h := (hDr.below hb).blk.says (hc.holds.below hb) hrec1 (.inr (.inr (.inl ht1)))
          rw [show isNm B (⟨pn, fn, ln, vn, xn, q1⟩ : NRec).pay = nmB B q1.data from isNm_elem ht1] at h
          exact h
        have hsayV : ∀ W, Below wr.heap.size wr W → Calls Try.prog 137 #[.pointer (some ⟨node, 0, none⟩), .pointer (some ⟨b2, 0, none⟩)] W fun e w' => e = .returned (.bool (nmB Vd q1.data)) ∧ Below W.heap.size W w' := fun W hb => by
          have h := (hDr.below hb).void.says (hc.holds.below hb) hrec1 (.inr (.inr (.inl ht1)))
          rw [show isNm Vd (⟨pn, fn, ln, vn, xn, q1⟩ : NRec).pay = nmB Vd q1.data from isNm_elem ht1] at h
          exact h
        have hsayP : ∀ W, Below wr.heap.size wr W → Calls Try.prog 137 #[.pointer (some ⟨node, 0, none⟩), .pointer (some ⟨b3, 0, none⟩)] W fun e w' => e = .returned (.bool (nmB P q1.data)) ∧ Below W.heap.size W w' := fun W hb => by
          have h := (hDr.below hb).pre.says (hc.holds.below hb) hrec1 (.inr (.inr (.inl ht1)))
          rw [show isNm P (⟨pn, fn, ln, vn, xn, q1⟩ : NRec).pay = nmB P q1.data from isNm_elem ht1] at h
          exact h
        have hname : ∀ W, Below wr.heap.size wr W → Calls Try.prog 105 #[.pointer (some ⟨node, 0, none⟩)] W fun e w' => e = .returned (.string q1.data) ∧ Below W.heap.size W w' := fun W hb => by
          have h := nodeName_any (hc.holds.below hb) hrec1 (.inr (.inr (.inl ht1)))
          rw [show nameOf q1 = q1.data from by simp [nameOf, ht1]] at h
          exact h
        have hcells : ∀ W, Below wr.heap.size wr W → W.cell? ⟨df, 1, none⟩ = some (.func (.func 137) #[] #[.pointer (some ⟨b2, 0, none⟩)]) ∧ W.cell? ⟨df, 2, none⟩ = some (.func (.func 137) #[] #[.pointer (some ⟨b3, 0, none⟩)]) := fun W hb => (hDr.below hb).cell.2
        have HSB := Lib.hid hsayB
        have HSV := Lib.hid hsayV
        have HSP := Lib.hid hsayP
        have HNM := Lib.hid hname
        have HCE := Lib.hid hcells
        have HCM := Lib.hid hc
        have HLT := Lib.hid hlt
        have HPM := Lib.hid (And.intro ht1 hp1)
        clear hL hc hrec1 hDr hsayB hsayV hsayP hname hcells ht1 hp1 hlt
        go_upto_region 16 with (fail)
        go_cut [90] from 29 to 134 (fun v wx => v = .bool (nmB B q1.data || (q1.data.toList == [98, 114])) ∧ Below wr.heap.size wr wx)
        case first =>
          cases hB : nmB B q1.data with
          | true =>
            rw [hB] at HSB
            have HQB := Lib.hid hB
            clear hB
            go_wp2_with (go_at_call 137; refine (HSB.out _ (Below.refl _ _)).mono ?_; rintro e w3 ⟨rfl, hb3⟩; have HB3 := Lib.hid hb3; clear hb3)
            go_meet
            exact ⟨by simp [HQB.out], HB3.out⟩
          | false =>
            rw [hB] at HSB
            have HQB := Lib.hid hB
            clear hB
            go_wp2_with (first
              | (go_at_call 137; refine (HSB.out _ (Below.refl _ _)).mono ?_; rintro e w3 ⟨rfl, hb3⟩; have HB3 := Lib.hid hb3; clear hb3)
              | (go_at_call 105; refine (HNM.out _ HB3.out).mono ?_; rintro e w4 ⟨rfl, hb4⟩; have HB4 := Lib.hid (below_then HB3.out HB3.out.size hb4); clear hb4))
            go_meet
            exact ⟨by simp [HQB.out], HB4.out⟩
        case rest =>
          obtain ⟨rfl, hbc⟩ := hcut
          have HBC := Lib.hid hbc
          obtain ⟨f1, f2⟩ := HCE.out wc hbc
          clear hbc
          cases hblk : (nmB B q1.data || (q1.data.toList == [98, 114])) with
          | true =>
            have hkd : kdOf B Vd P q1.data = .blk := by unfold kdOf; rw [hblk]; rfl
            have hcb : Cm (waysOf B Vd P) b p0 kk H0 w K g (.e .blk :: rem) todo pt keep prev wr := by rw [← hkd]; exact HCM.out
            have hag : ∀ rest g', runG (.e (kdOf B Vd P q1.data) :: rest) none false g' = runG rest none false g' := fun rest g' => by rw [hkd]; rfl
            cases pt with
            | none =>
              obtain ⟨nx, hcall⟩ := elem_done HFX.out HD.out HW.out ((hcb.moved HBC.out).turn (rem' := rem) (pt' := none) (keep' := false) rfl (.inl rfl)) HPM.out.1 (fun rest => hag rest g) HPM.out.2
              have HNX := Lib.hid hcall
              simp only [ptrV_none]
              clear hblk hkd hcb hag hcall
              go_wp2_with (go_at_call 140; refine HNX.out.mono ?_; rintro e w6 ⟨rfl, m6, hm6, hL6⟩; have HL6 := Lib.hid (And.intro hm6 hL6); clear hm6 hL6)
              go_roundg m6
              case measure => exact Nat.lt_of_le_of_lt HL6.out.1 HLT.out
              case rel => exact ⟨none, false, some node, _, rfl, rfl, rfl, rfl, HL6.out.2⟩
            | some d =>
              obtain ⟨-, -, l, hg, -, -, hbl, hsz, -⟩ := hcb.hand
              have hbk := fun W hb => (hcb.moved HBC.out).blk HFX.out hg HPM.out.2 W hb
              obtain ⟨l0, l0f, -⟩ := hbk wc (Below.refl _ _)
              have htr := fun W => trimSuffix_any (strOfNums l) hsz W
              rw [hbl] at htr
              have HBK := Lib.hid hbk
              have HTR := Lib.hid htr
              have HAG := Lib.hid hag
              simp only [ptrV_some]
              clear hblk hkd hcb hag hg hbl hsz hbk htr
              generalize strOfNums (trim l) = sT at *
              go_wp2_with (first
                | (go_at_call 144; refine (HTR.out _).mono ?_; rintro e w4 ⟨rfl, hb4⟩; obtain ⟨l4, f4, K4, g4, hc4, hp4⟩ := HBK.out w4 hb4; obtain ⟨nx, hcall⟩ := elem_done HFX.out HD.out HW.out hc4 HPM.out.1 (fun rest => HAG.out rest g4) hp4; have HNX := Lib.hid hcall; clear hb4 hc4 hp4 hcall)
                | (go_at_call 140; refine HNX.out.mono ?_; rintro e w6 ⟨rfl, m6, hm6, hL6⟩; have HL6 := Lib.hid (And.intro hm6 hL6); clear hm6 hL6))
              go_roundg m6
              case measure => exact Nat.lt_of_le_of_lt HL6.out.1 HLT.out
              case rel => exact ⟨none, false, some node, _, rfl, rfl, rfl, rfl, HL6.out.2⟩
          | false =>
            have HBLK := Lib.hid hblk
            clear hblk
            go_upto_region 21 with (fail)
            go_cut [119] from 29 to 134 (fun v wx => v = .bool (nmB Vd q1.data || nmB P q1.data || (q1.data.toList == [99, 111, 100, 101])) ∧ Below wr.heap.size wr wx)
            case first =>
              cases hV : nmB Vd q1.data with
              | true =>
                rw [hV] at HSV
                have HQV := Lib.hid hV
                clear hV
                go_wp2_with (go_at_call_of 137 (Value.pointer (some ⟨b2, 0, none⟩)); refine (HSV.out _ HBC.out).mono ?_; rintro e w3 ⟨rfl, hb3⟩; have HB3 := Lib.hid (below_then HBC.out HBC.out.size hb3); clear hb3)
                go_meet
                exact ⟨by simp [HQV.out], HB3.out⟩
              | false =>
                rw [hV] at HSV
                have HQV := Lib.hid hV
                clear hV
                cases hP : nmB P q1.data with
                | true =>
                  rw [hP] at HSP
                  have HQP := Lib.hid hP
                  clear hP
                  go_wp2_with (first
                    | (go_at_call_of 137 (Value.pointer (some ⟨b2, 0, none⟩)); refine (HSV.out _ HBC.out).mono ?_; rintro e w3 ⟨rfl, hb3⟩; have HB3 := Lib.hid (below_then HBC.out HBC.out.size hb3); obtain ⟨-, g2⟩ := HCE.out w3 HB3.out; clear hb3)
                    | (go_at_call_of 137 (Value.pointer (some ⟨b3, 0, none⟩)); refine (HSP.out _ HB3.out).mono ?_; rintro e w4 ⟨rfl, hb4⟩; have HB4 := Lib.hid (below_then HB3.out HB3.out.size hb4); clear hb4))
                  go_meet
                  exact ⟨by simp [HQV.out, HQP.out], HB4.out⟩
                | false =>
                  rw [hP] at HSP
                  have HQP := Lib.hid hP
                  clear hP
                  go_wp2_with (first
                    | (go_at_call 105; refine (HNM.out _ HB4.out).mono ?_; rintro e w5 ⟨rfl, hb5⟩; have HB5 := Lib.hid (below_then HB4.out HB4.out.size hb5); clear hb5)
                    | (go_at_call_of 137 (Value.pointer (some ⟨b2, 0, none⟩)); refine (HSV.out _ HBC.out).mono ?_; rintro e w3 ⟨rfl, hb3⟩; have HB3 := Lib.hid (below_then HBC.out HBC.out.size hb3); obtain ⟨-, g2⟩ := HCE.out w3 HB3.out; clear hb3)
                    | (go_at_call_of 137 (Value.pointer (some ⟨b3, 0, none⟩)); refine (HSP.out _ HB3.out).mono ?_; rintro e w4 ⟨rfl, hb4⟩; have HB4 := Lib.hid (below_then HB3.out HB3.out.size hb4); clear hb4))
                  go_meet
                  exact ⟨by simp [HQV.out, HQP.out], HB5.out⟩
            case rest =>
              obtain ⟨rfl, hbd⟩ := hcut
              have HBD := Lib.hid hbd
              clear hbd
              cases hvd : (nmB Vd q1.data || nmB P q1.data || (q1.data.toList == [99, 111, 100, 101])) with
              | true =>
                have hkd : kdOf B Vd P q1.data = .void := by unfold kdOf; rw [HBLK.out, hvd]; rfl
                have hcv : Cm (waysOf B Vd P) b p0 kk H0 w K g (.e .void :: rem) todo pt keep prev wr := by rw [← hkd]; exact HCM.out
                obtain ⟨nx, hcall⟩ := elem_done HFX.out HD.out HW.out ((hcv.moved HBD.out).turn (rem' := rem) (pt' := none) (keep' := true) (by cases pt <;> rfl) (.inl rfl)) HPM.out.1 (fun rest => by rw [hkd]; rfl) HPM.out.2
                have HNX := Lib.hid hcall
                clear hvd hkd hcv hcall
                go_wp2_with (go_at_call 140; refine HNX.out.mono ?_; rintro e w6 ⟨rfl, m6, hm6, hL6⟩; have HL6 := Lib.hid (And.intro hm6 hL6); clear hm6 hL6)
                go_roundg m6
                case measure => exact Nat.lt_of_le_of_lt HL6.out.1 HLT.out
                case rel => exact ⟨none, true, some node, _, rfl, rfl, rfl, rfl, HL6.out.2⟩
              | false =>
                have hkd : kdOf B Vd P q1.data = .oth := by unfold kdOf; rw [HBLK.out, hvd]; rfl
                have hco : Cm (waysOf B Vd P) b p0 kk H0 w K g (.e .oth :: rem) todo pt keep prev wr := by rw [← hkd]; exact HCM.out
                cases pt with
                | none =>
                  obtain ⟨nx, hcall⟩ := elem_done HFX.out HD.out HW.out ((hco.moved HBD.out).turn (rem' := rem) (pt' := none) (keep' := keep) (by rw [runG]; simp) (.inl rfl)) HPM.out.1 (fun rest => by rw [hkd, runG]; simp) HPM.out.2
                  have HNX := Lib.hid hcall
                  simp only [ptrV_none]
                  clear hvd hkd hco hcall
                  go_wp2_with (go_at_call 140; refine HNX.out.mono ?_; rintro e w6 ⟨rfl, m6, hm6, hL6⟩; have HL6 := Lib.hid (And.intro hm6 hL6); clear hm6 hL6)
                  go_roundg m6
                  case measure => exact Nat.lt_of_le_of_lt HL6.out.1 HLT.out
                  case rel => exact ⟨none, keep, some node, _, rfl, rfl, rfl, rfl, HL6.out.2⟩
                | some d =>
                  obtain ⟨nx, hcall⟩ := elem_done HFX.out HD.out HW.out ((hco.moved HBD.out).turn (rem' := rem) (pt' := some d) (keep' := false) (by rw [runG]; simp) (.inr rfl)) HPM.out.1 (fun rest => by rw [hkd, runG]; simp) HPM.out.2
                  have HNX := Lib.hid hcall
                  simp only [ptrV_some] at HNX ⊢
                  clear hvd hkd hco hcall
                  go_wp2_with (go_at_call 140; refine HNX.out.mono ?_; rintro e w6 ⟨rfl, m6, hm6, hL6⟩; have HL6 := Lib.hid (And.intro hm6 hL6); clear hm6 hL6)
                  go_roundg m6
                  case measure => exact Nat.lt_of_le_of_lt HL6.out.1 HLT.out
                  case rel => exact ⟨some d, false, some node, _, rfl, rfl, rfl, rfl, HL6.out.2⟩
end Go.Proofs.Ytlallihdiffheaa.Hand
end
section
/- impl.Collapse by hand: a tree whose white space is collapsed. -/
namespace Go.Proofs.Ytlallihdiffheaa.Hand
open Go.RowKit Go.Proofs.YtlallihdiffheaaW.PrintWords Go.Proofs.YtlallihdiffheaaW.PrintLast Go.Proofs.YtlallihdiffheaaW.PrintMore Go.Proofs.Ytlallihdiffheaa.GT
set_option linter.unusedVariables false
set_option linter.unusedSimpArgs false

/-- A forest of the same trees is of the same kind, and of the same weight. -/
theorem te_neat : ∀ (f f' : F Pay), TE f → Neat f' → erase f' = erase f → TE f' ∧ heft f' = heft f ∧ f'.blocks.length = f.blocks.length
  | .nil, .nil, _, _, _ => ⟨trivial, rfl, rfl⟩
  | .nil, .node b p k r, _, _, h => by rw [erase, erase] at h; cases h
  | .node b p k r, .nil, _, _, h => by rw [erase, erase] at h; cases h
  | .node b p k r, .node b' p' k' r', h, h', e => by
    obtain ⟨h1, h2, h3⟩ := h
    obtain ⟨h1', h2', h3'⟩ := h'
    rw [erase, erase, List.cons.injEq] at e
    obtain ⟨e1, e2⟩ := e
    obtain ⟨r1, r2, r3⟩ := te_neat r r' h3 h3' e2
    have hty : (nodeOf p' (erase k')).f0 = (nodeOf p (erase k)).f0 := by rw [e1]
    rcases h1 with ⟨a, c, _⟩ | ⟨a, c⟩
    · have ha' : p'.type = 1 := by
        rcases h1' with ⟨x, _⟩ | ⟨x, _⟩ | x | x
        · exact x
        · simp [nodeOf, a, x] at hty
        · simp [nodeOf, a, x] at hty
        · simp [nodeOf, a, x] at hty
      have hk' : k' = .nil := by
        rcases h1' with ⟨_, x⟩ | ⟨x, _⟩ | x | x
        · exact x
        · rw [ha'] at x; cases x
        · rw [ha'] at x; cases x
        · rw [ha'] at x; cases x
      subst hk' c
      have hd : p'.data = p.data := by
        simp only [nodeOf, a, ha'] at e1
        simpa using e1
      exact ⟨⟨.inl ⟨ha', rfl, trivial⟩, trivial, r1⟩, by simp only [heft, a, ha', hd, r2], by simp only [F.blocks, List.length_cons, List.length_append, r3]⟩
    · have ha' : p'.type = 3 := by
        rcases h1' with ⟨x, _⟩ | ⟨x, _⟩ | x | x
        · simp [nodeOf, a, x] at hty
        · simp [nodeOf, a, x] at hty
        · exact x
        · simp [nodeOf, a, x] at hty
      simp only [nodeOf, a, ha', c] at e1
      simp at e1
      obtain ⟨f1, f2, f3⟩ := te_neat k k' h2 h2' e1.2.2
      refine ⟨⟨.inr ⟨ha', e1.2.1⟩, f1, r1⟩, ?_, by simp only [F.blocks, List.length_cons, List.length_append, r3, f3]⟩
      rw [heft, heft, f2, r2, a, ha']
      rfl
set_option maxRecDepth 100000 in
theorem namedMk_any (g n c : Nat) (w : World) : Calls Try.prog 88 #[.slice (some ⟨g, 0, none⟩) n c] w fun e w' => e = .returned (.func (.func 137) #[] #[.pointer (some ⟨w.heap.size, 0, none⟩)]) ∧ w'.heap[w.heap.size]? = some (boxNs (some ⟨g, 0, none⟩) n c) ∧ Below w.heap.size w w' := by
  have hmf : ∀ (fn : Fn) (first cap : Array Value) (w : World), (Instr.makeFunc fn first cap).run Try.prog w = .ok (.func fn first cap) w := fun _ _ _ _ => rfl
  have hx := heap_alloc_new w (boxNs (some ⟨g, 0, none⟩) n c)
  have hb := below_alloc (Below.refl w.heap.size w) (boxNs (some ⟨g, 0, none⟩) n c)
  have HX := Lib.hid hx
  have HB := Lib.hid hb
  clear hx hb
  go_enter Try.func88, Try.ntmps88
  go_wp2
  go_ret
  exact ⟨rfl, HX.out, HB.out⟩
/-- A row of names in a block of its own. -/
def RowN (w : World) (g : Nat) (ns : List ByteArray) : Prop := w.heap[g]? = some (.cells (ns.map Value.string).toArray 9 (0, 0))
theorem RowN.below {w w' : World} {g : Nat} {ns : List ByteArray} (h : RowN w g ns) (hb : Below w.heap.size w w') : RowN w' g ns := (hb.block g (lt_of_block h)).trans h
/-- A tree, and what it is with its white space collapsed. -/
def QC (V : Ways) (x y : S25) : Prop := ∃ (p : Pay) (k : F Pay), p.type = 3 ∧ p.attrs = [] ∧ TE k ∧ nodeOf p (erase k) = x ∧ y = nodeOf p (erase (clF V k))
set_option maxRecDepth 100000 in
set_option maxHeartbeats 3200000 in
theorem cl_do {p0 : Pay} {k0 : F Pay} (ht0 : p0.type = 3) (ha0 : p0.attrs = []) (hte : TE k0) (hhf : heft k0 ≤ 1000000) (hbl : k0.blocks.length ≤ 1000) (n1 n2 n3 : List ByteArray) (hpre : nmB n3 p0.data = false) (W0 : World) (sb g1 g2 g3 : Nat)
    (hsb : W0.heap[sb]? = some (.cells #[.slice (some ⟨g1, 0, none⟩) n1.length n1.length, .slice (some ⟨g2, 0, none⟩) n2.length n2.length, .slice (some ⟨g3, 0, none⟩) n3.length n3.length] 58 (0, 0))) (hr1 : RowN W0 g1 n1) (hr2 : RowN W0 g2 n2) (hr3 : RowN W0 g3 n3) (hl1 : n1.length ≤ 1000) (hl2 : n2.length ≤ 1000) (hl3 : n3.length ≤ 1000) :
    DoSpec 92 #[.pointer (some ⟨sb, 0, none⟩)] W0 (nodeOf p0 (erase k0)) (QC (waysOf n1 n2 n3) (nodeOf p0 (erase k0))) := by
  intro w L b p k hB hL hs ht hn hd hf
  have hty : p.type = 3 ∧ p.data = p0.data ∧ p.attrs = [] ∧ erase k = erase k0 := by
    have h1 : (nodeOf p (erase k)).f0 = 0 := by rw [ht]; simp [nodeOf, ht0]
    have h2 : p.type = 3 := by
      rcases hn.1 with ⟨x, _⟩ | ⟨x, _⟩ | x | x
      · simp [nodeOf, x] at h1
      · simp [nodeOf, x] at h1
      · exact x
      · simp [nodeOf, x] at h1
    simp only [nodeOf, h2, ht0, ha0] at ht
    simp at ht
    exact ⟨h2, ht.1, ht.2.1, ht.2.2⟩
  obtain ⟨t1, t2, t3⟩ := te_neat k0 k hte hn.2.1 hty.2.2.2
  have F0 : Fx b p k L := ⟨hs, by simpa [F.blocks] using hd, t1, by rw [t2]; exact hhf⟩
  have hsk : ∀ W', Below w.heap.size w W' → W'.cell? ⟨sb, 0, none⟩ = some (.slice (some ⟨g1, 0, none⟩) n1.length n1.length) ∧ W'.cell? ⟨sb, 1, none⟩ = some (.slice (some ⟨g2, 0, none⟩) n2.length n2.length) ∧ W'.cell? ⟨sb, 2, none⟩ = some (.slice (some ⟨g3, 0, none⟩) n3.length n3.length) := fun W' hb => by
    have h1 := (hB.block sb (lt_of_block hsb)).trans hsb
    have h2 := (hb.block sb (lt_of_block h1)).trans h1
    obtain ⟨c1, -⟩ := out_cell h2 0
    obtain ⟨c2, -⟩ := out_cell h2 1
    obtain ⟨c3, -⟩ := out_cell h2 2
    simp only [List.getElem?_toArray, List.getElem?_cons_succ, List.getElem?_cons_zero] at c1 c2 c3
    exact ⟨c1, c2, c3⟩
  have hq1 := hr1.below hB
  have hq2 := hr2.below hB
  have hq3 := hr3.below hB
  have hcall := fun (W : World) (x1 x2 x3 : Nat) (hb : Below w.heap.size w W) (hx1 : W.heap[x1]? = some (boxNs (some ⟨g1, 0, none⟩) n1.length n1.length)) (hx2 : W.heap[x2]? = some (boxNs (some ⟨g2, 0, none⟩) n2.length n2.length)) (hx3 : W.heap[x3]? = some (boxNs (some ⟨g3, 0, none⟩) n3.length n3.length)) =>
    show Calls Try.prog 93 #[.pointer (some ⟨b, 0, none⟩), .pointer (some ⟨W.heap.size, 0, none⟩)] (W.alloc (.cells #[nmV x1, nmV x2, nmV x3] 102 (0, 0))) fun e w' => e = .returned (.tuple #[]) ∧ ∃ K, Holds w' K ∧ Sits K none none none (.node b p (clF (waysOf n1 n2 n3) k) .nil) ∧ Stays L w w' from by
      have hA : Below W.heap.size W (W.alloc (.cells #[nmV x1, nmV x2, nmV x3] 102 (0, 0))) := below_alloc (Below.refl _ _) _
      have hbA := below_then hb hb.size hA
      refine (collapse_any F0 hty.1 (by rw [hty.2.1]; exact hpre) (hL.below hbA) (⟨heap_alloc_new _ _, ⟨g1, n1.length, (hA.block x1 (lt_of_block hx1)).trans hx1, (hq1.below hb).below hA, Nat.le_refl _, hl1⟩, ⟨g2, n2.length, (hA.block x2 (lt_of_block hx2)).trans hx2, (hq2.below hb).below hA, Nat.le_refl _, hl2⟩, ⟨g3, n3.length, (hA.block x3 (lt_of_block hx3)).trans hx3, (hq3.below hb).below hA, Nat.le_refl _, hl3⟩⟩ : DF _ W.heap.size x1 x2 x3 n1 n2 n3)).mono ?_
      rintro e w' ⟨rfl, K, h1, h2, h3⟩
      exact ⟨rfl, K, h1, h2, (Stays.of_below hbA).trans h3⟩
  have hpost : ∀ w', (∃ K, Holds w' K ∧ Sits K none none none (.node b p (clF (waysOf n1 n2 n3) k) .nil) ∧ Stays L w w') → ∃ (y : S25) (p' : Pay) (k' : F Pay) (L' : NMap), QC (waysOf n1 n2 n3) (nodeOf p0 (erase k0)) y ∧ Holds w' L' ∧ Sits L' none none none (.node b p' k' .nil) ∧ nodeOf p' (erase k') = y ∧ Plain (.node b p' k' .nil) ∧ (F.node b p' k' .nil).blocks.length ≤ 1000000 ∧ Stays L w w' := by
    rintro w' ⟨K, h1, h2, h3⟩
    have hc := cut_TE (waysOf n1 n2 n3) k (run (evT (waysOf n1 n2 n3) k) none false).2 t1
    have hbk := (cl_heft (waysOf n1 n2 n3) k).2.length_le
    refine ⟨_, p, _, K, ⟨p, k, hty.1, hty.2.2.1, t1, ht, rfl⟩, h1, h2, rfl, ⟨.inr (.inl ⟨hty.1, hty.2.2.1⟩), hc.neat.2, trivial⟩, ?_, h3⟩
    simp only [F.blocks, List.length_cons, List.length_append, List.length_nil]
    omega
  have HSK := Lib.hid hsk
  have HCALL := Lib.hid hcall
  have HPOST := Lib.hid hpost
  clear hcall hpost hsk F0 t1 t2 t3 hty hq1 hq2 hq3 hB hL hs ht hn hd hf hsb hr1 hr2 hr3 hte hhf hbl ht0 ha0 hpre
  show Calls Try.prog 92 #[.pointer (some ⟨b, 0, none⟩), .pointer (some ⟨sb, 0, none⟩)] w _
  go_enter Try.func92, Try.ntmps92
  go_wp2_with fail
  refine start_ (n := 13) (S := fun W' => W'.cell? ⟨sb, 0, none⟩ = some (.slice (some ⟨g1, 0, none⟩) n1.length n1.length) ∧ W'.cell? ⟨sb, 1, none⟩ = some (.slice (some ⟨g2, 0, none⟩) n2.length n2.length) ∧ W'.cell? ⟨sb, 2, none⟩ = some (.slice (some ⟨g3, 0, none⟩) n3.length n3.length)) (ds := [12]) #[false, false, false, false, false, false, false, false, false, false, false, false, false] rfl rfl rfl (HSK.out _ (below_drew (Below.refl _ _))) (fun hHeld => ?_)
  refine pure_ (i := 0) (N := some 3) (v := ?_) (a' := ?_) #[true, false, false, false, false, false, false, false, false, false, false, false, false] rfl rfl (by kernel_rfl) (fun _ _ _ h => h) (Or.inl ⟨by rfl, ?_⟩) ?_ ?_
  rotate_left
  · intro w'
    go_simp
    with_reducible rfl
  rotate_left
  · simp only [Act.put, List.setIfInBounds_toArray, List.set_cons_zero, List.set_cons_succ]
    rfl
  refine pure_ (i := 1) (N := some 4) (v := ?_) (a' := ?_) #[true, true, false, false, false, false, false, false, false, false, false, false, false] rfl rfl (by kernel_rfl) (fun _ _ _ h => h) (Or.inl ⟨by rfl, ?_⟩) ?_ ?_
  rotate_left
  · intro w'
    go_simp
    with_reducible rfl
  rotate_left
  · simp only [Act.put, List.setIfInBounds_toArray, List.set_cons_zero, List.set_cons_succ]
    rfl
  refine take_ (i := 2) (N := some 5) (v := ?_) (a' := ?_) #[true, true, true, false, false, false, false, false, false, false, false, false, false] rfl rfl (by kernel_rfl) (fun _ _ _ h => h) (Or.inl ⟨by rfl, ?_⟩) hHeld ?_ ?_
  rotate_left
  · rintro w' ⟨s0_, s1_, s2_⟩
    go_simp
    with_reducible rfl
  rotate_left
  · simp only [Act.put, List.setIfInBounds_toArray, List.set_cons_zero, List.set_cons_succ]
    rfl
  refine pure_ (i := 4) (N := some 7) (v := ?_) (a' := ?_) #[true, true, true, false, true, false, false, false, false, false, false, false, false] rfl rfl (by kernel_rfl) (fun _ _ _ h => h) (Or.inl ⟨by rfl, ?_⟩) ?_ ?_
  rotate_left
  · intro w'
    go_simp
    with_reducible rfl
  rotate_left
  · simp only [Act.put, List.setIfInBounds_toArray, List.set_cons_zero, List.set_cons_succ]
    rfl
  refine take_ (i := 5) (N := some 8) (v := ?_) (a' := ?_) #[true, true, true, false, true, true, false, false, false, false, false, false, false] rfl rfl (by kernel_rfl) (fun _ _ _ h => h) (Or.inl ⟨by rfl, ?_⟩) hHeld ?_ ?_
  rotate_left
  · rintro w' ⟨s0_, s1_, s2_⟩
    go_simp
    with_reducible rfl
  rotate_left
  · simp only [Act.put, List.setIfInBounds_toArray, List.set_cons_zero, List.set_cons_succ]
    rfl
  refine pure_ (i := 7) (N := some 10) (v := ?_) (a' := ?_) #[true, true, true, false, true, true, false, true, false, false, false, false, false] rfl rfl (by kernel_rfl) (fun _ _ _ h => h) (Or.inl ⟨by rfl, ?_⟩) ?_ ?_
  rotate_left
  · intro w'
    go_simp
    with_reducible rfl
  rotate_left
  · simp only [Act.put, List.setIfInBounds_toArray, List.set_cons_zero, List.set_cons_succ]
    rfl
  refine take_ (i := 8) (N := some 11) (v := ?_) (a' := ?_) #[true, true, true, false, true, true, false, true, true, false, false, false, false] rfl rfl (by kernel_rfl) (fun _ _ _ h => h) (Or.inl ⟨by rfl, ?_⟩) hHeld ?_ ?_
  rotate_left
  · rintro w' ⟨s0_, s1_, s2_⟩
    go_simp
    with_reducible rfl
  rotate_left
  · simp only [Act.put, List.setIfInBounds_toArray, List.set_cons_zero, List.set_cons_succ]
    rfl
  refine one_ (i := 3) (N := some 6) #[true, true, true, true, true, true, false, true, true, false, false, false, false] rfl rfl (by kernel_rfl) (by decide) (fun K hK => ?_)
  go_simp
  refine (namedMk_any g1 n1.length n1.length w.drew).mono ?_
  rintro e w1 ⟨rfl, hx1, hb1⟩
  have HB1 := Lib.hid (below_then (below_drew (Below.refl w.heap.size w)) (below_drew (Below.refl w.heap.size w)).size hb1)
  have HX1 := Lib.hid hx1
  clear hx1 hb1
  refine hK.out _ _ ?_ (fun hHeld => ?_)
  · exact HSK.out _ HB1.out
  clear hK K
  try simp only [Act.put, List.setIfInBounds_toArray, List.set_cons_zero, List.set_cons_succ]
  refine one_ (i := 6) (N := some 9) #[true, true, true, true, true, true, true, true, true, false, false, false, false] rfl rfl (by kernel_rfl) (by decide) (fun K hK => ?_)
  go_simp
  refine (namedMk_any g2 n2.length n2.length w1).mono ?_
  rintro e w2 ⟨rfl, hx2, hb2⟩
  have HB2 := Lib.hid (below_then HB1.out HB1.out.size hb2)
  have HX2 := Lib.hid hx2
  have HX12 := Lib.hid ((hb2.block w.heap.size (lt_of_block HX1.out)).trans HX1.out)
  clear hx2 hb2
  refine hK.out _ _ ?_ (fun hHeld => ?_)
  · exact HSK.out _ HB2.out
  clear hK K
  try simp only [Act.put, List.setIfInBounds_toArray, List.set_cons_zero, List.set_cons_succ]
  refine one_ (i := 9) (N := some 12) #[true, true, true, true, true, true, true, true, true, true, false, false, false] rfl rfl (by kernel_rfl) (by decide) (fun K hK => ?_)
  go_simp
  refine (namedMk_any g3 n3.length n3.length w2).mono ?_
  rintro e w3 ⟨rfl, hx3, hb3⟩
  have HB3 := Lib.hid (below_then HB2.out HB2.out.size hb3)
  have HX3 := Lib.hid hx3
  have HX13 := Lib.hid ((hb3.block w.heap.size (lt_of_block HX12.out)).trans HX12.out)
  have HX23 := Lib.hid ((hb3.block w1.heap.size (lt_of_block HX2.out)).trans HX2.out)
  clear hx3 hb3
  refine hK.out _ _ ?_ (fun hHeld => ?_)
  · exact HSK.out _ HB3.out
  clear hK K
  try simp only [Act.put, List.setIfInBounds_toArray, List.set_cons_zero, List.set_cons_succ]
  refine pure_ (i := 10) (N := some 13) (v := ?_) (a' := ?_) #[true, true, true, true, true, true, true, true, true, true, true, false, false] rfl rfl (by kernel_rfl) (fun _ _ _ h => h) (Or.inl ⟨by rfl, ?_⟩) ?_ ?_
  rotate_left
  · intro w'
    go_simp
    with_reducible rfl
  rotate_left
  · simp only [Act.put, List.setIfInBounds_toArray, List.set_cons_zero, List.set_cons_succ]
    rfl
  refine one_ (i := 11) (N := some 14) #[true, true, true, true, true, true, true, true, true, true, true, true, false] rfl rfl (by kernel_rfl) (by decide) (fun K hK => ?_)
  go_simp
  refine hK.out _ _ ?_ (fun hHeld => ?_)
  · exact HSK.out _ (below_then HB3.out HB3.out.size (below_alloc (Below.refl _ _) _))
  clear hK K
  try simp only [Act.put, List.setIfInBounds_toArray, List.set_cons_zero, List.set_cons_succ]
  refine last_ (i := 12) (N := some 15) #[true, true, true, true, true, true, true, true, true, true, true, true, true] rfl rfl (by kernel_rfl) (by decide) (fun K hK => ?_)
  go_simp
  refine (HCALL.out w3 w.heap.size w1.heap.size w2.heap.size HB3.out HX13.out HX23.out HX3.out).mono ?_
  rintro e w4 ⟨rfl, hk⟩
  have HK := Lib.hid hk
  clear hk
  refine hK.out _ _ ?_
  clear hK K
  try simp only [Act.put, List.setIfInBounds_toArray, List.set_cons_zero, List.set_cons_succ]
  refine done_ (by kernel_rfl) ?_
  go_end0
  exact ⟨rfl, HPOST.out _ HK.out⟩
end Go.Proofs.Ytlallihdiffheaa.Hand
end
