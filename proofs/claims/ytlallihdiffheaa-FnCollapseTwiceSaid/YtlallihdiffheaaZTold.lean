/- Trees as the laws see them, and forests of nodes: what a forest tells, and which trees are right. impl.made by hand: the package's nodes of a tree. impl.made by hand: elements without attributes; whole trees without attributes. A row of trees that grows: each tree lies in blocks of its own. impl.told by hand: texts and comments. impl.told by hand: the tree of the package's nodes (without attributes). -/
import Derived.Test.YtlallihdiffheaaZGTx0
import Derived.Test.YtlallihdiffheaaZForest
import Derived.Deep.RegionLaw
namespace Go.Proofs.Ytlallihdiffheaa.Hand
open Go.RowKit Go.Proofs.YtlallihdiffheaaW.PrintWords Go.Proofs.YtlallihdiffheaaW.PrintLast Go.Proofs.Ytlallihdiffheaa.GT
set_option linter.unusedVariables false

def attrTo (a : ByteArray × ByteArray) : S34 := ⟨a.1, a.2⟩
/-- The tree of a node, by its children's. -/
def nodeOf (p : Pay) (ks : List S25) : S25 :=
  if p.type = 3 then ⟨0, p.data, ⟨#[]⟩, p.attrs.map attrTo, ks⟩
  else if p.type = 1 then ⟨1, ⟨#[]⟩, p.data, [], []⟩
  else if p.type = 4 then ⟨2, ⟨#[]⟩, p.data, [], []⟩
  else ⟨3, ⟨#[]⟩, ⟨#[]⟩, [], ks⟩
def erase : F Pay → List S25
  | .nil => []
  | .node b p k r => nodeOf p (erase k) :: erase r
theorem erase_app : ∀ f g : F Pay, erase (f.app g) = erase f ++ erase g
  | .nil, g => rfl
  | .node b p k r, g => by simp only [F.app, erase, erase_app r g, List.cons_append]
theorem erase_len : ∀ f : F Pay, (erase f).length = f.len
  | .nil => rfl
  | .node b p k r => by simp only [erase, F.len, List.length_cons, erase_len r]
/-- A tree that a forest can tell: what it has no place for is empty. -/
inductive WF : S25 → Prop
  | elem (name : ByteArray) (attrs : List S34) (kids : List S25) (h : ∀ y ∈ kids, WF y) : WF ⟨0, name, ⟨#[]⟩, attrs, kids⟩
  | text (t : ByteArray) : WF ⟨1, ⟨#[]⟩, t, [], []⟩
  | comment (t : ByteArray) : WF ⟨2, ⟨#[]⟩, t, [], []⟩
  | doc (kids : List S25) (h : ∀ y ∈ kids, WF y) : WF ⟨3, ⟨#[]⟩, ⟨#[]⟩, [], kids⟩
/-- Nodes of the four kinds; texts and comments are leaves. -/
def Neat : F Pay → Prop
  | .nil => True
  | .node b p k r => ((p.type = 1 ∧ k = .nil) ∨ (p.type = 4 ∧ k = .nil) ∨ p.type = 3 ∨ p.type = 2) ∧ Neat k ∧ Neat r
theorem neat_app : ∀ (a g : F Pay), Neat (a.app g) ↔ Neat a ∧ Neat g
  | .nil, g => by simp [F.app, Neat]
  | .node b p k r, g => by
    simp only [F.app, Neat, neat_app r g]
    constructor
    · rintro ⟨h1, h2, h3, h4⟩
      exact ⟨⟨h1, h2, h3⟩, h4⟩
    · rintro ⟨⟨h1, h2, h3⟩, h4⟩
      exact ⟨h1, h2, h3, h4⟩
/-- Behind 'made': a tree of new nodes that tells what was asked. -/
structure Made (x : S25) (H : NMap) (w : World) (b : Nat) (p : Pay) (k : F Pay) (K : NMap) (w' : World) : Prop where
  holds : Holds w' K
  sits : Sits K none none none (.node b p k .nil)
  tells : nodeOf p (erase k) = x
  neat : Neat (.node b p k .nil)
  apart : (b :: k.blocks).Nodup
  fresh : ∀ c ∈ b :: k.blocks, w.heap.size ≤ c
  others : ∀ c, c ∉ b :: k.blocks → K c = H c
  below : Below w.heap.size w w'
/-- On the way: a node with some children. -/
structure Grow (H : NMap) (w : World) (b : Nat) (p : Pay) (k : F Pay) (K : NMap) (w' : World) : Prop where
  holds : Holds w' K
  sits : Sits K none none none (.node b p k .nil)
  apart : (b :: k.blocks).Nodup
  fresh : ∀ c ∈ b :: k.blocks, w.heap.size ≤ c
  others : ∀ c, c ∉ b :: k.blocks → K c = H c
  below : Below w.heap.size w w'
theorem Grow.made {x : S25} {H K : NMap} {w w' : World} {b : Nat} {p : Pay} {k : F Pay} (h : Grow H w b p k K w') (ht : nodeOf p (erase k) = x) (hn : Neat (.node b p k .nil)) : Made x H w b p k K w' :=
  ⟨h.holds, h.sits, ht, hn, h.apart, h.fresh, h.others, h.below⟩
theorem Grow.new {H : NMap} {w w1 : World} (hw : Holds w H) (hb : Below w.heap.size w w1) (p : Pay) (hp : AttrsAt w1 p.attr p.attrs) :
    Grow H w w1.heap.size p .nil (upd H w1.heap.size ⟨none, none, none, none, none, p⟩) (w1.alloc (.cells (NR.cells ⟨none, none, none, none, none, p⟩) 115 (0, 0))) := by
  refine ⟨(hw.below hb).new hp, ⟨upd_same _ _ _, trivial, trivial⟩, by simp [F.blocks], fun c hc => ?_, fun c hc => ?_, hb.alloc hb.size _⟩
  · simp only [F.blocks, List.mem_singleton] at hc
    rw [hc]
    exact hb.size
  · simp only [F.blocks, List.mem_singleton] at hc
    exact upd_other _ _ hc
theorem Grow.new' {H : NMap} {w w1 : World} (hw : Holds w H) (hb : Below w.heap.size w w1) (p : Pay) (hp : AttrsAt w1 p.attr p.attrs) (b : Nat) (hs : b = w1.heap.size) :
    Grow H w b p .nil (upd H b ⟨none, none, none, none, none, p⟩) (w1.alloc (.cells (NR.cells ⟨none, none, none, none, none, p⟩) 115 (0, 0))) := by
  subst hs
  exact Grow.new hw hb p hp
theorem Grow.moved {H K : NMap} {w w1 w2 : World} {b : Nat} {p : Pay} {k : F Pay} (h : Grow H w b p k K w1) (hb : Below w1.heap.size w1 w2) : Grow H w b p k K w2 :=
  ⟨h.holds.below hb, h.sits, h.apart, h.fresh, h.others, below_then h.below h.below.size hb⟩
/-- One more child, made and appended. -/
theorem Grow.append {H K L : NMap} {w w1 w2 w3 : World} {b c : Nat} {p q : Pay} {k ck : F Pay} {y : S25} (h : Grow H w b p k K w1) (hm : Made y K w1 c q ck L w2) (ht : Turn L (insertH L b c (k.lastOr none) none) w2 w3) :
    Grow H w b p (k.app (.node c q ck .nil)) (insertH L b c (k.lastOr none) none) w3 := by
  have hfr : ∀ x ∈ c :: ck.blocks, x ∉ b :: k.blocks := fun x hx hx' => by
    have h1 := hm.fresh x hx
    obtain ⟨r, hr⟩ := h.sits.has (.node b p k .nil) _ _ _ x (by simpa [F.blocks] using hx')
    have := h.holds.lt hr
    omega
  have hsL : Sits L none none none (.node b p k .nil) := h.sits.congr _ _ _ _ fun x hx => hm.others x (fun hx' => hfr x hx' (by simpa [F.blocks] using hx))
  have hd : (F.node b p k .nil).blocks.Nodup := by simpa [F.blocks] using h.apart
  have hk : (F.node b p k .nil).kidsOf b = some (k.app .nil) := by rw [F.kidsOf, if_pos rfl, F.app_nil]
  obtain ⟨h1, h2⟩ := insert_sits hsL hd hk (by rw [F.app_nil]; exact (List.nodup_cons.1 h.apart).1) (by rw [F.app_nil]; exact (List.nodup_cons.1 h.apart).2) hm.sits (by simpa using hm.apart) (fun x hx hx' => hfr x hx (by simpa [F.blocks] using hx'))
  rw [F.setKids, if_pos rfl] at h1
  have h2 : ∀ x, x ∉ (F.node b p k .nil).blocks → x ≠ c → insertH L b c (k.lastOr none) none x = L x := h2
  have hsz : w.heap.size ≤ w1.heap.size := h.below.size
  refine ⟨ht.holds, h1, ?_, fun x hx => ?_, fun x hx => ?_, ?_⟩
  · rw [F.blocks_app]
    simp only [F.blocks, List.append_nil]
    have h3 : ((b :: k.blocks) ++ (c :: ck.blocks)).Nodup := List.nodup_append.2 ⟨h.apart, hm.apart, fun x hx y hy e => hfr y hy (e ▸ hx)⟩
    exact h3
  · rw [F.blocks_app] at hx
    simp only [F.blocks, List.append_nil, List.mem_cons, List.mem_append] at hx
    have h4 : x ∈ b :: k.blocks ∨ x ∈ c :: ck.blocks := by
      simp only [List.mem_cons]
      rcases hx with hx | hx | hx | hx
      · exact .inl (.inl hx)
      · exact .inl (.inr hx)
      · exact .inr (.inl hx)
      · exact .inr (.inr hx)
    rcases h4 with h4 | h4
    · exact h.fresh x h4
    · exact Nat.le_trans hsz (hm.fresh x h4)
  · rw [F.blocks_app] at hx
    simp only [F.blocks, List.append_nil, List.mem_cons, List.mem_append, not_or] at hx
    rw [h2 x (by simp [F.blocks, hx.1, hx.2.1]) hx.2.2.1, hm.others x (by simp [hx.2.2.1, hx.2.2.2]), h.others x (by simp [hx.1, hx.2.1])]
  · have hb1 : Below w.heap.size w w2 := h.below.trans (hm.below.mono hsz)
    refine hb1.trans ⟨ht.stays.os, ht.stays.tape, ht.stays.output, ht.stays.size, fun i hi => ?_⟩
    have hi2 : i < w2.heap.size := Nat.lt_of_lt_of_le hi hb1.size
    have hib : i ∉ b :: k.blocks := fun hh => by
      have := h.fresh i hh
      omega
    have hic : i ≠ c := fun e => by
      have := hm.fresh i (by simp [e])
      omega
    cases e : L i with
    | none => exact ht.stays.block i hi2 e
    | some r =>
      have h5 := (h2 i (by simpa [F.blocks] using hib) hic).trans e
      exact (ht.holds.node i r h5).trans (hm.holds.node i r e).symm
/-- What AppendChild asks, between 'made' and the append. -/
theorem Grow.asks {H K L : NMap} {w w1 w2 : World} {b c : Nat} {p q : Pay} {k ck : F Pay} {y : S25} (h : Grow H w b p k K w1) (hm : Made y K w1 c q ck L w2) :
    L b = some ⟨none, k.headOr none, k.lastOr none, none, none, p⟩ ∧ L c = some ⟨none, ck.headOr none, ck.lastOr none, none, none, q⟩ ∧ b ≠ c ∧ (∀ l, k.lastOr none = some l → l ≠ c ∧ ∃ r, L l = some r) := by
  have hfr : ∀ x ∈ c :: ck.blocks, x ∉ b :: k.blocks := fun x hx hx' => by
    have h1 := hm.fresh x hx
    obtain ⟨r, hr⟩ := h.sits.has (.node b p k .nil) _ _ _ x (by simpa [F.blocks] using hx')
    have := h.holds.lt hr
    omega
  have hsL : Sits L none none none (.node b p k .nil) := h.sits.congr _ _ _ _ fun x hx => hm.others x (fun hx' => hfr x hx' (by simpa [F.blocks] using hx))
  refine ⟨hsL.1, hm.sits.1, fun e => hfr c (by simp) (by simp [e]), fun l hl => ?_⟩
  have hlk : l ∈ k.blocks := (F.lastOr_mem k none l hl).resolve_right (by simp)
  exact ⟨fun e => hfr c (by simp) (by simp [← e, hlk]), hsL.has _ _ _ _ l (by simp [F.blocks, hlk])⟩
end Go.Proofs.Ytlallihdiffheaa.Hand
namespace Go.Proofs.Ytlallihdiffheaa.Hand
open Go.RowKit Go.Proofs.YtlallihdiffheaaW.PrintWords Go.Proofs.YtlallihdiffheaaW.PrintLast Go.Proofs.Ytlallihdiffheaa.GT
set_option linter.unusedVariables false

def MadePost (x : S25) (H : NMap) (w : World) : Ending → World → Prop := fun e w' => ∃ b p k K, e = .returned (.pointer (some ⟨b, 0, none⟩)) ∧ Made x H w b p k K w'
/-- The same, and what is no element has no attributes. -/
def MadePostA (x : S25) (H : NMap) (w : World) : Ending → World → Prop := fun e w' => ∃ b p k K, e = .returned (.pointer (some ⟨b, 0, none⟩)) ∧ Made x H w b p k K w' ∧ (p.type = 3 ∨ p.attrs = [])
theorem MadePostA.post {x : S25} {H : NMap} {w w' : World} {e : Ending} (h : MadePostA x H w e w') : MadePost x H w e w' := by
  obtain ⟨b, p, k, K, h1, h2, _⟩ := h
  exact ⟨b, p, k, K, h1, h2⟩
set_option maxRecDepth 100000 in
set_option maxHeartbeats 1600000 in
theorem made_text (t : ByteArray) (w : World) (H : NMap) (A3 A4 : Option Addr) (c3 c4 : Nat) (hw : Holds w H) :
    Calls Try.prog 58 #[.agg #[.int .i64 1, .string ⟨#[]⟩, .string t, .slice A3 0 c3, .slice A4 0 c4]] w (MadePost ⟨1, ⟨#[]⟩, t, [], []⟩ H w) := by
  have HW := Lib.hid hw
  clear hw
  go_enter Try.func58, Try.ntmps58
  go_wp2
  go_ret
  exact ⟨_, _, _, _, rfl, (Grow.new' HW.out (below_alloc (Below.refl _ _) _) ⟨1, 0, t, .slice none 0 0, []⟩ (AttrsAt.nil _) _ (by simp)).made rfl (by simp [Neat])⟩
set_option maxRecDepth 100000 in
set_option maxHeartbeats 1600000 in
theorem made_comment (t : ByteArray) (w : World) (H : NMap) (A3 A4 : Option Addr) (c3 c4 : Nat) (hw : Holds w H) :
    Calls Try.prog 58 #[.agg #[.int .i64 2, .string ⟨#[]⟩, .string t, .slice A3 0 c3, .slice A4 0 c4]] w (MadePost ⟨2, ⟨#[]⟩, t, [], []⟩ H w) := by
  have HW := Lib.hid hw
  clear hw
  go_enter Try.func58, Try.ntmps58
  go_wp2
  go_ret
  exact ⟨_, _, _, _, rfl, (Grow.new' HW.out (below_alloc (Below.refl _ _) _) ⟨4, 0, t, .slice none 0 0, []⟩ (AttrsAt.nil _) _ (by simp)).made rfl (by simp [Neat])⟩
theorem kids_take (l : List S25) (j : Nat) (h : j < l.length) : l.take (j + 1) = l.take j ++ [rd_T25 l (j : Int)] := by
  rw [List.take_add_one, List.getElem?_eq_getElem h]
  simp [rd_T25, h]
theorem kids_mem (l : List S25) (j : Nat) (h : j < l.length) : rd_T25 l (j : Int) ∈ l := by
  simp [rd_T25, h]
end Go.Proofs.Ytlallihdiffheaa.Hand
namespace Go.Proofs.Ytlallihdiffheaa.Hand
open Go.RowKit Go.Proofs.YtlallihdiffheaaW.PrintWords Go.Proofs.YtlallihdiffheaaW.PrintLast Go.Proofs.Ytlallihdiffheaa.GT
set_option linter.unusedVariables false

def zzA (s : ByteArray) : Int := if (s.toList == [99, 97, 112, 116, 105, 111, 110]) = true then 140295 else if (s.toList == [108, 105]) = true then 45570 else 0
set_option maxRecDepth 100000 in
theorem zzAtom_any (s : ByteArray) (w : World) : Calls Try.prog 103 #[.string s] w fun e w' => e = .returned (.int .u32 (zzA s)) ∧ w' = w := by
  go_enter Try.func103, Try.ntmps103
  go_wp2
  all_goals go_ret
  all_goals refine ⟨?_, rfl⟩
  all_goals simp [zzA, *]
/-- The kids' loop of 'made', at its head: what both its arms come to. -/
def MadeIH (kids : List S25) : Prop := ∀ y ∈ kids, ∀ (w : World) (H : NMap) (A3 A4 : Option Addr) (c3 c4 : Nat), Holds w H → k34.C w A3 y.f3.length y.f3 → y.f3.length ≤ c3 → k25.C w A4 y.f4.length y.f4 → y.f4.length ≤ c4 →
      Calls Try.prog 58 #[.agg #[.int .i64 y.f0, .string y.f1, .string y.f2, .slice A3 y.f3.length c3, .slice A4 y.f4.length c4]] w (MadePost y H w)
set_option maxRecDepth 100000 in
set_option maxHeartbeats 3200000 in
theorem made_elem0 (name : ByteArray) (kids : List S25) (w : World) (H : NMap) (A3 A4 : Option Addr) (c3 c4 : Nat) (hw : Holds w H)
    (hk : k25.C w A4 kids.length kids) (hc : kids.length ≤ c4) (ih : MadeIH kids) :
    Calls Try.prog 58 #[.agg #[.int .i64 0, .string name, .string ⟨#[]⟩, .slice A3 0 c3, .slice A4 kids.length c4]] w (MadePost ⟨0, name, ⟨#[]⟩, [], kids⟩ H w) := by
  have HG := Lib.hid ((Grow.new hw (below_alloc (Below.refl _ _) (.cells #[.int .i64 0, .string name, .string ⟨#[]⟩, .slice A3 0 c3, .slice A4 kids.length c4] 25 (0, 0))) ⟨3, zzA name, name, .slice none 0 0, []⟩ (AttrsAt.nil _)).moved (below_drew (Below.refl _ _)))
  have HK := Lib.hid hk
  have hmax : kids.length ≤ 9223372036854775807 := hk.2.1
  have HI := Lib.hid ih
  clear hw hk ih
  go_enter Try.func58, Try.ntmps58
  go_wp2_with fail
  go_region_with (go_at_call 103; refine (zzAtom_any _ _).mono ?_; rintro e w1 ⟨rfl, rfl⟩)
  all_goals (
    go_wp2
    have HG2 := HG.out
    simp only [World.size_alloc] at HG2
    have HG := Lib.hid HG2
    clear HG2
    obtain ⟨p, hp⟩ : ∃ p : Pay, p = ⟨3, zzA name, name, .slice none 0 0, []⟩ := ⟨_, rfl⟩
    rw [← hp] at HG
    have HP := Lib.hid hp
    clear hp
    obtain ⟨b, hb⟩ : ∃ b, b = w.heap.size + 1 := ⟨_, rfl⟩
    rw [← hb] at HG ⊢
    clear hb
    go_loopw [24] (fun k0 wr => k0 = .int .i64 0 ∧ wr.cell? ⟨w.heap.size, 4, none⟩ = some (.slice A4 kids.length c4) ∧ Grow H w b p .nil (upd H b ⟨none, none, none, none, none, p⟩) wr) (fun k0 _ => 0)
    case atStart =>
      refine ⟨rfl, ?_, ?_⟩
      · rw [World.cell?_drew, World.cell?_alloc_lt _ _ _ (by simp), World.cell?_alloc_new]
        rfl
      have h := HG.out
      rw [HP.out] at h ⊢
      exact h
    case round =>
      obtain ⟨rfl, hcell, hg⟩ := hrel
      have HGa := Lib.hid hg
      clear hg
      go_wp2
      go_loopw [58] (fun k0 wr => ∃ (j : Nat) (f : F Pay) (K : NMap), k0 = .int .i64 j ∧ j ≤ kids.length ∧ (erase f = kids.take j ∧ Neat f) ∧ Grow H w b p f K wr) (fun k0 _ => kids.length - (intOf k0).toNat)
      case atStart => exact ⟨0, .nil, _, rfl, Nat.zero_le _, ⟨rfl, trivial⟩, HGa.out⟩
      case round =>
        obtain ⟨j, f, K, rfl, hj, he, hg⟩ := hrel
        have HE := Lib.hid he
        have HGr := Lib.hid hg
        clear he hg hcell
        by_cases hlt : j < kids.length
        · obtain ⟨ad, A3', c3', A4', c4', rfl, q0, q1, q2, q3, q4, l3, g3, l4, g4⟩ := at_T25 (Kd.C_below HK.out HGr.out.below) (j : Int) (by omega) (by omega)
          have hy := kids_mem kids j hlt
          have hks := kids_take kids j hlt
          generalize rd_T25 kids (j : Int) = y at *
          simp only [Int.toNat_natCast] at q0 q1 q2 q3 q4
          have HY := Lib.hid hy
          have HKS := Lib.hid hks
          have HL3 := Lib.hid (And.intro l3 g3)
          have HL4 := Lib.hid (And.intro l4 g4)
          have HG1 := Lib.hid (HGr.out.moved (below_alloc (Below.refl _ _) (.cells #[.int .i64 y.f0, .string y.f1, .string y.f2, .slice A3' y.f3.length c3', .slice A4' y.f4.length c4'] 25 (0, 0))))
          have HC3 := Lib.hid (Kd.C_alloc g3 (.cells #[.int .i64 y.f0, .string y.f1, .string y.f2, .slice A3' y.f3.length c3', .slice A4' y.f4.length c4'] 25 (0, 0)))
          have HC4 := Lib.hid (Kd.C_alloc g4 (.cells #[.int .i64 y.f0, .string y.f1, .string y.f2, .slice A3' y.f3.length c3', .slice A4' y.f4.length c4'] 25 (0, 0)))
          clear hy hks l3 l4 g3 g4
          go_wp2_with (first
            | (go_at_call 58; refine (HI.out y HY.out _ K A3' A4' c3' c4' HG1.out.holds HC3.out HL3.out.1 HC4.out HL4.out.1).mono ?_; rintro e w2 ⟨c, q, ck, L, rfl, hm⟩; have HM := Lib.hid hm; clear hm)
            | (go_at_call 104; have hasks := HG1.out.asks HM.out; refine (appendChild_any HM.out.holds hasks.1 hasks.2.1 hasks.2.2.1 hasks.2.2.2).mono ?_; rintro e w3 ⟨rfl, ht⟩; have HT := Lib.hid ht; clear ht hasks))
          go_roundw
          case rel =>
            refine ⟨j + 1, f.app (.node c q ck .nil), _, by go_num, hlt, ?_, HG1.out.append HM.out HT.out⟩
            refine ⟨?_, (neat_app _ _).2 ⟨HE.out.2, HM.out.neat⟩⟩
            rw [erase_app, HE.out.1, HKS.out]
            simp only [erase, HM.out.tells]
          case measure => simp [intOf]; omega
        · obtain rfl : j = kids.length := by omega
          go_wp2
          go_ret
          have hE := HE.out.1
          rw [List.take_length] at hE
          exact ⟨b, p, f, K, rfl, HGr.out.made (by rw [hE, HP.out]; rfl) ⟨by rw [HP.out]; simp, HE.out.2, trivial⟩⟩)
/-- A tree without attributes that a forest can tell. -/
inductive WF0 : S25 → Prop
  | elem (name : ByteArray) (kids : List S25) (h : ∀ y ∈ kids, WF0 y) : WF0 ⟨0, name, ⟨#[]⟩, [], kids⟩
  | text (t : ByteArray) : WF0 ⟨1, ⟨#[]⟩, t, [], []⟩
  | comment (t : ByteArray) : WF0 ⟨2, ⟨#[]⟩, t, [], []⟩
theorem made_any0 (x : S25) (hx : WF0 x) : ∀ (w : World) (H : NMap) (A3 A4 : Option Addr) (c3 c4 : Nat), Holds w H → k34.C w A3 x.f3.length x.f3 → x.f3.length ≤ c3 → k25.C w A4 x.f4.length x.f4 → x.f4.length ≤ c4 →
      Calls Try.prog 58 #[.agg #[.int .i64 x.f0, .string x.f1, .string x.f2, .slice A3 x.f3.length c3, .slice A4 x.f4.length c4]] w (MadePost x H w) := by
  induction hx with
  | elem name kids h ih => exact fun w H A3 A4 c3 c4 hw h3 l3 h4 l4 => made_elem0 name kids w H A3 A4 c3 c4 hw h4 l4 ih
  | text t => exact fun w H A3 A4 c3 c4 hw h3 l3 h4 l4 => made_text t w H A3 A4 c3 c4 hw
  | comment t => exact fun w H A3 A4 c3 c4 hw h3 l3 h4 l4 => made_comment t w H A3 A4 c3 c4 hw
end Go.Proofs.Ytlallihdiffheaa.Hand
namespace Go.Proofs.Ytlallihdiffheaa.Hand
open Go.RowKit Go.Proofs.YtlallihdiffheaaW.PrintWords Go.Proofs.YtlallihdiffheaaW.PrintLast Go.Proofs.Ytlallihdiffheaa.GT
set_option linter.unusedVariables false

/-- Cells that tell a tree, whatever stands outside of the blocks from lo to hi. -/
def TellsIn (lo hi : Nat) (w : World) (y : S25) (cs : List Value) : Prop := ∀ W : World, (∀ k, lo ≤ k → k < hi → W.heap[k]? = w.heap[k]?) → k25.K W y cs
theorem TellsIn.move {lo hi : Nat} {w w1 : World} {y : S25} {cs : List Value} (h : TellsIn lo hi w y cs) (hb : ∀ k, lo ≤ k → k < hi → w1.heap[k]? = w.heap[k]?) : TellsIn lo hi w1 y cs :=
  fun W hW => h W fun k h1 h2 => (hW k h1 h2).trans (hb k h1 h2)
theorem TellsIn.wide {lo hi lo' hi' : Nat} {w : World} {y : S25} {cs : List Value} (h : TellsIn lo hi w y cs) (h1 : lo' ≤ lo) (h2 : hi ≤ hi') : TellsIn lo' hi' w y cs :=
  fun W hW => h W fun k a b => hW k (by omega) (by omega)
def KidAt (base : Nat) (w : World) (v : Value) (y : S25) (cs : List Value) : Prop := cs.length = 5 ∧ ∃ lo hi, base ≤ lo ∧ hi ≤ w.heap.size ∧ (∀ g, v.ownBlock = some g → ¬ (lo ≤ g ∧ g < hi)) ∧ TellsIn lo hi w y cs
def KidsAt (base : Nat) (w : World) (v : Value) (xs : List S25) : Prop :=
  ∃ css : List (List Value), w.ownsRow base 25 5 v xs.length css.flatten ∧ css.length = xs.length ∧ ∀ (i : Nat) (y : S25) (cs : List Value), xs[i]? = some y → css[i]? = some cs → KidAt base w v y cs
theorem KidsAt.nil (base : Nat) (w : World) : KidsAt base w (.slice none 0 0) [] := ⟨[], own_nil _ _ _ _, rfl, fun i y cs h => by simp at h⟩
theorem KidsAt.below {base : Nat} {w w1 : World} {v : Value} {xs : List S25} (h : KidsAt base w v xs) (hb : Below w.heap.size w w1) : KidsAt base w1 v xs := by
  obtain ⟨css, h1, h2, h3⟩ := h
  refine ⟨css, pw_own_below h1 hb, h2, fun i y cs hy hc => ?_⟩
  obtain ⟨h4, lo, hi, h5, h6, h7, h8⟩ := h3 i y cs hy hc
  exact ⟨h4, lo, hi, h5, Nat.le_trans h6 hb.size, h7, h8.move fun k a b => hb.block k (by omega)⟩
theorem KidsAt.store {base : Nat} {w : World} {v : Value} {xs : List S25} (h : KidsAt base w v xs) (a : Addr) (ha : a.block < base) (u : Value) : KidsAt base (w.setCell a u) v xs := by
  obtain ⟨css, h1, h2, h3⟩ := h
  refine ⟨css, ownsRow_setCell_below h1 ha u, h2, fun i y cs hy hc => ?_⟩
  obtain ⟨h4, lo, hi, h5, h6, h7, h8⟩ := h3 i y cs hy hc
  exact ⟨h4, lo, hi, h5, by simpa using h6, h7, h8.move fun k a' b => Below.heap_setCell _ _ _ _ (by omega)⟩
theorem KidsAt.push {base : Nat} {w1 w2 : World} {v v2 : Value} {xs : List S25} {css : List (List Value)} {y : S25} {cs : List Value} {lo hi : Nat}
    (h2 : css.length = xs.length) (h3 : ∀ (i : Nat) (y : S25) (cs : List Value), xs[i]? = some y → css[i]? = some cs → KidAt base w1 v y cs)
    (hl : cs.length = 5) (hlo : base ≤ lo) (hhi : hi ≤ w1.heap.size) (hv : ∀ g, v.ownBlock = some g → g < lo) (ht : TellsIn lo hi w1 y cs)
    (ho : w2.ownsRow base 25 5 v2 (xs.length + 1) (css.flatten ++ cs)) (hg : w1.grownBy w2 v.ownBlock) (hb : v2.ownBlock = v.ownBlock ∨ ∃ b, v2.ownBlock = some b ∧ w1.heap.size ≤ b) : KidsAt base w2 v2 (xs ++ [y]) := by
  have key : ∀ (z : S25) (ds : List Value) (l h : Nat), ds.length = 5 → base ≤ l → h ≤ w1.heap.size → (∀ g, v.ownBlock = some g → ¬ (l ≤ g ∧ g < h)) → TellsIn l h w1 z ds → KidAt base w2 v2 z ds := by
    intro z ds l h a1 a2 a3 a4 a5
    refine ⟨a1, l, h, a2, Nat.le_trans a3 hg.size, fun g hg2 => ?_, a5.move fun k b1 b2 => hg.block k (by omega) (fun e => a4 k e.symm ⟨b1, b2⟩)⟩
    rcases hb with hb | ⟨b, hb, hge⟩
    · exact a4 g (hb ▸ hg2)
    · rw [hb] at hg2
      obtain rfl := Option.some.inj hg2
      omega
  refine ⟨css ++ [cs], by rw [List.flatten_append, List.length_append]; simpa using ho, by simp [h2], fun i z ds hz hd => ?_⟩
  by_cases hi2 : i < xs.length
  · rw [List.getElem?_append_left hi2] at hz
    rw [List.getElem?_append_left (by omega)] at hd
    obtain ⟨b1, l, h, b2, b3, b4, b5⟩ := h3 i z ds hz hd
    exact key z ds l h b1 b2 b3 b4 b5
  · have hi3 := (List.getElem?_eq_some_iff.1 hz).1
    rw [List.length_append, List.length_singleton] at hi3
    obtain rfl : i = xs.length := by omega
    rw [List.getElem?_append_right (Nat.le_refl _)] at hz
    rw [List.getElem?_append_right (by omega)] at hd
    simp [h2] at hz hd
    subst hz hd
    exact key _ _ lo hi hl hlo hhi (fun g hg2 => by have := hv g hg2; omega) ht
theorem flatten_get5 : ∀ (css : List (List Value)) (i : Nat) (cs : List Value), (∀ c ∈ css, c.length = 5) → css[i]? = some cs → ∀ j u, cs[j]? = some u → css.flatten[i * 5 + j]? = some u := by
  intro css
  induction css with
  | nil => intro i cs h hc; simp at hc
  | cons c t ih =>
    intro i cs h hc j u hj
    have h5 := h c List.mem_cons_self
    rw [List.flatten_cons]
    cases i with
    | zero =>
      simp only [List.getElem?_cons_zero, Option.some.injEq] at hc
      subst hc
      have := (List.getElem?_eq_some_iff.1 hj).1
      rw [List.getElem?_append_left (by omega), Nat.zero_mul, Nat.zero_add]
      exact hj
    | succ i =>
      rw [List.getElem?_cons_succ] at hc
      rw [List.getElem?_append_right (by omega), h5, show (i + 1) * 5 + j - 5 = i * 5 + j by omega]
      exact ih i cs (fun d hd => h d (List.mem_cons_of_mem _ hd)) hc j u hj
theorem KidsAt.tells {base : Nat} {w : World} {v : Value} {xs : List S25} (h : KidsAt base w v xs) (hn : xs.length ≤ 9223372036854775807) :
    ∃ A c, v = .slice A xs.length c ∧ xs.length ≤ c ∧ ∀ W : World, (∀ k, base ≤ k → k < w.heap.size → W.heap[k]? = w.heap[k]?) → k25.C W A xs.length xs := by
  obtain ⟨css, h1, h2, h3⟩ := h
  rcases Nat.eq_zero_or_pos xs.length with h0 | h0
  · obtain ⟨A, c, rfl⟩ := own_slice h1
    refine ⟨A, c, rfl, by omega, fun W hW => ⟨rfl, hn, fun hp => absurd hp (by omega)⟩⟩
  · rcases h1.2 with ⟨_, e⟩ | ⟨g, cap, cur, rfl, hg, hgg, hnc, _, _, _⟩
    · omega
    · refine ⟨some ⟨g, 0, none⟩, cap, rfl, hnc, fun W hW => ⟨rfl, hn, fun _ => ⟨_, rfl, fun j p hj => ?_⟩⟩⟩
      have hjl := (List.getElem?_eq_some_iff.1 hj).1
      obtain ⟨cs, hcs⟩ : ∃ cs, css[j]? = some cs := ⟨_, List.getElem?_eq_getElem (by omega)⟩
      obtain ⟨h4, lo, hi, h5, h6, h7, h8⟩ := h3 j p cs hj hcs
      refine ⟨cs, h4, h8 W fun k a b => hW k (by omega) (by omega), fun i u hu => ?_⟩
      have hall : ∀ c ∈ css, c.length = 5 := fun c hc => by
        obtain ⟨m, hm⟩ := List.mem_iff_getElem?.1 hc
        have hml := (List.getElem?_eq_some_iff.1 hm).1
        exact (h3 m _ c (List.getElem?_eq_getElem (by omega)) hm).1
      have h9 := h1.cells (g := g) rfl (j * 5 + i) u (flatten_get5 css j cs hall hcs i u hu)
      have hgl : g < w.heap.size := (Array.getElem?_eq_some_iff.1 hgg).1
      have hk5 : k25.sz = 5 := rfl
      rw [hk5, ← h9]
      exact World.cell?_of_block (by rw [show ((⟨g, 0, none⟩ : Addr).add (j * 5 + i)).block = g by unfold Addr.add; split <;> rfl]; exact hW g hg hgl)
end Go.Proofs.Ytlallihdiffheaa.Hand
namespace Go.Proofs.Ytlallihdiffheaa.Hand
open Go.RowKit Go.Proofs.YtlallihdiffheaaW.PrintWords Go.Proofs.YtlallihdiffheaaW.PrintLast Go.Proofs.Ytlallihdiffheaa.GT
set_option linter.unusedVariables false

def treeCells (x : S25) (A3 : Option Addr) (c3 : Nat) (A4 : Option Addr) (c4 : Nat) : List Value := [.int .i64 x.f0, .string x.f1, .string x.f2, .slice A3 x.f3.length c3, .slice A4 x.f4.length c4]
def ToldPost (x : S25) (w : World) : Ending → World → Prop := fun e w' => ∃ A3 c3 A4 c4, e = .returned (.agg #[.int .i64 x.f0, .string x.f1, .string x.f2, .slice A3 x.f3.length c3, .slice A4 x.f4.length c4]) ∧ TellsIn w.heap.size w'.heap.size w' x (treeCells x A3 c3 A4 c4) ∧ Below w.heap.size w w'
theorem infoTree : (Try.prog.info? 25).map (fun i => (i.zero, i.size, i.bytes)) = some (some (.agg #[.int .i64 0, .string ⟨#[]⟩, .string ⟨#[]⟩, .slice none 0 0, .slice none 0 0]), 5, 88) := by kernel_rfl
theorem headOr_cases (g : F Pay) : (g = .nil) ∨ ∃ b p k r, g = .node b p k r := by
  cases g with
  | nil => exact .inl rfl
  | node b p k r => exact .inr ⟨b, p, k, r, rfl⟩
theorem out_cell {w : World} {o : Nat} {cs : Array Value} {t : TypeId} (h : w.heap[o]? = some (.cells cs t (0, 0))) (i : Nat) : w.cell? ⟨o, i, none⟩ = cs[i]? ∧ w.frozen? ⟨o, i, none⟩ = false := by
  refine ⟨by simp [World.cell?, h], by simp [World.frozen?, h]⟩
set_option maxRecDepth 100000 in
set_option maxHeartbeats 1600000 in
theorem told_text (b : Nat) (par prev next : Option Nat) (p : Pay) (k r : F Pay) (H : NMap) (w : World) (hw : Holds w H) (hs : Sits H par prev next (.node b p k r)) (ht : p.type = 1) :
    Calls Try.prog 101 #[.pointer (some ⟨b, 0, none⟩)] w (ToldPost ⟨1, ⟨#[]⟩, p.data, [], []⟩ w) := by
  obtain ⟨b0, b1, b2, b3, b4, b5, b6, b7, b9⟩ := hw.opened hs.1
  have hbl := hw.lt hs.1
  rw [ht] at b5
  clear hw hs ht
  obtain ⟨W0, hW0⟩ : ∃ W0, W0 = (w.alloc (.cells #[.int .i64 1, .string ⟨#[]⟩, .string p.data, .slice none 0 0, .slice none 0 0] 25 (0, 0))).alloc (.cells #[.int .i64 0, .string ⟨#[]⟩, .string ⟨#[]⟩, .slice none 0 0, .slice none 0 0] 25 (0, 0)) := ⟨_, rfl⟩
  have hr : W0.heap[w.heap.size]? = some (.cells #[.int .i64 1, .string ⟨#[]⟩, .string p.data, .slice none 0 0, .slice none 0 0] 25 (0, 0)) := by
    rw [hW0, Below.heap_alloc _ _ _ (by rw [World.size_alloc]; omega)]
    exact heap_alloc_new _ _
  have hB : Below w.heap.size w W0 := by
    rw [hW0]
    exact below_alloc (below_alloc (Below.refl _ _) _) _
  have HR := Lib.hid hr
  have HB := Lib.hid hB
  have HW0 := Lib.hid hW0
  clear hr hB hW0
  go_enter Try.func101, Try.ntmps101
  go_wp2
  rw [← HW0.out]
  clear HW0 b0 b1 b2 b3 b4 b5 b6 b7 b9
  refine bodyPost_ret (results_cell_row rfl _ _ w.heap.size 25 #[.int .i64 1, .string ⟨#[]⟩, .string p.data, .slice none 0 0, .slice none 0 0] (0, 0) _ rfl HR.out Try.underlying25 rfl (by kernel_rfl)) rfl ?_
  refine ⟨none, 0, none, 0, rfl, fun W hW => ?_, HB.out⟩
  exact k25_mk W ⟨1, ⟨#[]⟩, p.data, [], []⟩ (A3 := none) (c3 := 0) (Nat.le_refl _) ⟨rfl, Nat.zero_le _, fun h => absurd h (Nat.lt_irrefl _)⟩ (A4 := none) (c4 := 0) (Nat.le_refl _) ⟨rfl, Nat.zero_le _, fun h => absurd h (Nat.lt_irrefl _)⟩
set_option maxRecDepth 100000 in
set_option maxHeartbeats 1600000 in
theorem told_comment (b : Nat) (par prev next : Option Nat) (p : Pay) (k r : F Pay) (H : NMap) (w : World) (hw : Holds w H) (hs : Sits H par prev next (.node b p k r)) (ht : p.type = 4) :
    Calls Try.prog 101 #[.pointer (some ⟨b, 0, none⟩)] w (ToldPost ⟨2, ⟨#[]⟩, p.data, [], []⟩ w) := by
  obtain ⟨b0, b1, b2, b3, b4, b5, b6, b7, b9⟩ := hw.opened hs.1
  have hbl := hw.lt hs.1
  rw [ht] at b5
  clear hw hs ht
  obtain ⟨W0, hW0⟩ : ∃ W0, W0 = (w.alloc (.cells #[.int .i64 2, .string ⟨#[]⟩, .string p.data, .slice none 0 0, .slice none 0 0] 25 (0, 0))).alloc (.cells #[.int .i64 0, .string ⟨#[]⟩, .string ⟨#[]⟩, .slice none 0 0, .slice none 0 0] 25 (0, 0)) := ⟨_, rfl⟩
  have hr : W0.heap[w.heap.size]? = some (.cells #[.int .i64 2, .string ⟨#[]⟩, .string p.data, .slice none 0 0, .slice none 0 0] 25 (0, 0)) := by
    rw [hW0, Below.heap_alloc _ _ _ (by rw [World.size_alloc]; omega)]
    exact heap_alloc_new _ _
  have hB : Below w.heap.size w W0 := by
    rw [hW0]
    exact below_alloc (below_alloc (Below.refl _ _) _) _
  have HR := Lib.hid hr
  have HB := Lib.hid hB
  have HW0 := Lib.hid hW0
  clear hr hB hW0
  go_enter Try.func101, Try.ntmps101
  go_wp2
  rw [← HW0.out]
  clear HW0 b0 b1 b2 b3 b4 b5 b6 b7 b9
  refine bodyPost_ret (results_cell_row rfl _ _ w.heap.size 25 #[.int .i64 2, .string ⟨#[]⟩, .string p.data, .slice none 0 0, .slice none 0 0] (0, 0) _ rfl HR.out Try.underlying25 rfl (by kernel_rfl)) rfl ?_
  refine ⟨none, 0, none, 0, rfl, fun W hW => ?_, HB.out⟩
  exact k25_mk W ⟨2, ⟨#[]⟩, p.data, [], []⟩ (A3 := none) (c3 := 0) (Nat.le_refl _) ⟨rfl, Nat.zero_le _, fun h => absurd h (Nat.lt_irrefl _)⟩ (A4 := none) (c4 := 0) (Nat.le_refl _) ⟨rfl, Nat.zero_le _, fun h => absurd h (Nat.lt_irrefl _)⟩
end Go.Proofs.Ytlallihdiffheaa.Hand
namespace Go.Proofs.Ytlallihdiffheaa.Hand
open Go.RowKit Go.Proofs.YtlallihdiffheaaW.PrintWords Go.Proofs.YtlallihdiffheaaW.PrintLast Go.Proofs.Ytlallihdiffheaa.GT
set_option linter.unusedVariables false
set_option linter.unusedSimpArgs false

def Plain : F Pay → Prop
  | .nil => True
  | .node b p k r => (p.type = 1 ∨ (p.type = 3 ∧ p.attrs = []) ∨ p.type = 4) ∧ Plain k ∧ Plain r
set_option maxRecDepth 100000 in
set_option maxHeartbeats 3200000 in
theorem told_elem0 (b : Nat) (par prev next : Option Nat) (p : Pay) (k r : F Pay) (H : NMap) (w : World) (hw : Holds w H) (hs : Sits H par prev next (.node b p k r)) (ht : p.type = 3) (ha : p.attrs = []) (hlen : k.len ≤ 1000000)
    (ih : ∀ (a : F Pay) (b : Nat) (p : Pay) (k' r' : F Pay), k = a.app (.node b p k' r') → ∀ (H : NMap) (w : World) (par prev next : Option Nat), Holds w H → Sits H par prev next k → Calls Try.prog 101 #[.pointer (some ⟨b, 0, none⟩)] w (ToldPost (nodeOf p (erase k')) w)) :
    Calls Try.prog 101 #[.pointer (some ⟨b, 0, none⟩)] w (ToldPost ⟨0, p.data, ⟨#[]⟩, [], erase k⟩ w) := by
  obtain ⟨b0, b1, b2, b3, b4, b5, b6, b7, b9⟩ := hw.opened hs.1
  have hbl := hw.lt hs.1
  have hA : AttrsAt w p.attr p.attrs := hw.attrs b _ hs.1
  rw [ha] at hA
  obtain ⟨A9, c9, h9⟩ : ∃ A c, p.attr = .slice A 0 c := own_slice hA
  rw [h9] at b9
  rw [ht] at b5
  obtain ⟨hv, hhv⟩ : ∃ v, v = ptrV (k.headOr none) := ⟨_, rfl⟩
  rw [← hhv] at b1
  have hvp : ∃ u, hv = .pointer u := by rw [hhv]; cases k.headOr none <;> exact ⟨_, rfl⟩
  obtain ⟨u, rfl⟩ := hvp
  have HV := Lib.hid hhv
  have HW := Lib.hid hw
  have HS := Lib.hid hs
  have HI := Lib.hid ih
  clear hw hs ht ha hA h9 ih hhv
  go_enter Try.func101, Try.ntmps101
  go_wp2
  obtain ⟨o, ho⟩ : ∃ o, o = w.heap.size + 1 := ⟨_, rfl⟩
  obtain ⟨rv, hrv⟩ : ∃ o, o = w.heap.size := ⟨_, rfl⟩
  rw [← ho, ← hrv]
  have HO := Lib.hid (And.intro ho hrv)
  clear ho hrv
  go_loopw [24] (fun k0 wr => k0 = .int .i64 0 ∧ wr.heap[o]? = some (.cells #[.int .i64 0, .string p.data, .string ⟨#[]⟩, .slice none 0 0, .slice none 0 0] 25 (0, 0)) ∧ wr.heap[rv]? = some (.cells #[.int .i64 0, .string ⟨#[]⟩, .string ⟨#[]⟩, .slice none 0 0, .slice none 0 0] 25 (0, 0)) ∧ w.heap.size + 2 ≤ wr.heap.size ∧ Below w.heap.size w wr) (fun k0 _ => 0)
  case atStart =>
    refine ⟨rfl, ?_, ?_, by simp, below_alloc (below_alloc (Below.refl _ _) _) _⟩
    · rw [HO.out.1, ← World.size_alloc w]
      exact heap_alloc_new _ _
    · rw [HO.out.2, Below.heap_alloc _ _ _ (by rw [World.size_alloc]; omega)]
      exact heap_alloc_new _ _
  case round =>
    obtain ⟨rfl, ho1, ho2, hsz, hb⟩ := hrel
    have hb1 : wr.cell? ⟨b, 1, none⟩ = some (.pointer u) := (hb.cell (p := ⟨b, 1, none⟩) hbl).trans b1
    have HB := Lib.hid hb
    have HO1 := Lib.hid ho1
    have HO2 := Lib.hid ho2
    clear hb ho1 ho2
    go_wp2
    go_loopg [6] k.len (fun gk k0 wr => ∃ (done g : F Pay) (v : Value), k0 = ptrV (g.headOr none) ∧ gk = g.len ∧ k = done.app g ∧ wr.heap[o]? = some (.cells #[.int .i64 0, .string p.data, .string ⟨#[]⟩, .slice none 0 0, v] 25 (0, 0)) ∧ wr.heap[rv]? = some (.cells #[.int .i64 0, .string ⟨#[]⟩, .string ⟨#[]⟩, .slice none 0 0, .slice none 0 0] 25 (0, 0)) ∧ KidsAt (w.heap.size + 2) wr v (erase done) ∧ w.heap.size + 2 ≤ wr.heap.size ∧ Below w.heap.size w wr)
    case atStart => exact ⟨.nil, k, _, HV.out, rfl, rfl, HO1.out, HO2.out, KidsAt.nil _ _, hsz, HB.out⟩
    case round =>
      obtain ⟨done, g, v, rfl, rfl, hk, ho1, ho2, hka, hsz2, hb⟩ := hrel
      obtain ⟨Av, cv, rfl⟩ : ∃ A c, v = .slice A (erase done).length c := by
        obtain ⟨css, h, _⟩ := hka
        exact own_slice h
      have HK := Lib.hid hk
      have HKA := Lib.hid hka
      have HB1 := Lib.hid hb
      obtain ⟨o4, fo4⟩ := out_cell ho1 4
      obtain ⟨o0, -⟩ := out_cell ho1 0
      obtain ⟨o1, -⟩ := out_cell ho1 1
      obtain ⟨o2, -⟩ := out_cell ho1 2
      obtain ⟨o3, -⟩ := out_cell ho1 3
      have fr := fun i => (out_cell ho2 i).2
      have cr0 := (out_cell ho2 0).1
      have cr1 := (out_cell ho2 1).1
      have cr2 := (out_cell ho2 2).1
      have cr3 := (out_cell ho2 3).1
      have cr4 := (out_cell ho2 4).1
      have HO3 := Lib.hid ho1
      have HO4 := Lib.hid ho2
      clear hk hka hb ho1 ho2 hb1
      simp only [List.getElem?_toArray, List.getElem?_cons_succ, List.getElem?_cons_zero] at o0 o1 o2 o3 o4 cr0 cr1 cr2 cr3 cr4
      rcases headOr_cases g with hg | ⟨c, q, ck, g', hg⟩
      · subst hg
        simp only [show ptrV ((F.nil : F Pay).headOr none) = .pointer none from rfl]
        go_wp2
        refine bodyPost_ret (results_cell_row rfl _ _ rv 25 #[.int .i64 0, .string p.data, .string ⟨#[]⟩, .slice none 0 0, .slice Av (erase done).length cv] (0, 0) _ rfl ?_ Try.underlying25 rfl (by kernel_rfl)) rfl ?_
        · exact Lib.heap_setCell_same (Lib.heap_setCell_same (Lib.heap_setCell_same (Lib.heap_setCell_same (Lib.heap_setCell_same HO4.out _) _) _) _) _
        · have hk : k = done := by rw [HK.out, F.app_nil]
          have hlen2 : (erase done).length ≤ 9223372036854775807 := by rw [erase_len, ← hk]; omega
          have hrb : rv < w.heap.size + 2 := by have := HO.out.2; omega
          have hKW := (((((HKA.out.store ⟨rv, 0, none⟩ hrb (.int .i64 0)).store ⟨rv, 1, none⟩ hrb (.string p.data)).store ⟨rv, 2, none⟩ hrb (.string ⟨#[]⟩)).store ⟨rv, 3, none⟩ hrb (.slice none 0 0)).store ⟨rv, 4, none⟩ hrb (.slice Av (erase done).length cv))
          obtain ⟨A, c, he, hle, hT⟩ := hKW.tells hlen2
          injection he with he1 _ he3
          subst he1 he3
          rw [hk]
          refine ⟨none, 0, Av, cv, rfl, fun W hW => ?_, ?_⟩
          · exact k25_mk W ⟨0, p.data, ⟨#[]⟩, [], erase done⟩ (A3 := none) (c3 := 0) (Nat.le_refl _) ⟨rfl, Nat.zero_le _, fun h => absurd h (Nat.lt_irrefl _)⟩ hle (hT W fun x hx1 hx2 => hW x (by omega) hx2)
          · have hrv : w.heap.size ≤ rv := by have := HO.out.2; omega
            exact ((((HB1.out.setCell (p := ⟨rv, 0, none⟩) hrv _).setCell (p := ⟨rv, 1, none⟩) hrv _).setCell (p := ⟨rv, 2, none⟩) hrv _).setCell (p := ⟨rv, 3, none⟩) hrv _).setCell (p := ⟨rv, 4, none⟩) hrv _
      · subst hg
        obtain ⟨hsd, hsg⟩ := (sits_app H done _ _ _ _).1 (HK.out ▸ HS.out.2.1)
        have hcl := HW.out.lt hsg.1
        obtain ⟨-, -, -, -, k4, -, -, -, -⟩ := HW.out.opened hsg.1
        have hc4 : wr.cell? ⟨c, 4, none⟩ = some (ptrV (g'.headOr none)) := (HB1.out.cell (p := ⟨c, 4, none⟩) hcl).trans k4
        obtain ⟨u', hu'⟩ : ∃ u', ptrV (g'.headOr none) = .pointer u' := by cases g'.headOr none <;> exact ⟨_, rfl⟩
        rw [hu'] at hc4
        have HU := Lib.hid hu'
        have hco : c ≠ o := by have := HO.out.1; omega
        have hdl : (erase done).length + 1 ≤ 1000000 := by
          have h1 := congrArg F.len HK.out
          rw [F.len_app, F.len] at h1
          rw [erase_len]
          omega
        have HR := Lib.hid (HW.out.below HB1.out)
        have HC4 := Lib.hid hc4
        clear hsd hsg k4 hu' hc4
        simp only [show ptrV ((F.node c q ck g').headOr none) = .pointer (some ⟨c, 0, none⟩) from rfl]
        go_wp2
        obtain ⟨y, hy⟩ : ∃ y, y = nodeOf q (erase ck) := ⟨_, rfl⟩
        have HY := Lib.hid hy
        clear hy
        go_region_law (first
          | (go_simp
             go_at_call 101
             refine (HI.out done c q ck g' HK.out H _ _ _ _ (by exact ⟨HR.out.node, HR.out.attrs⟩) HS.out.2.1).mono ?_
             rw [← HY.out]
             rintro e w1 ⟨A3y, c3y, A4y, c4y, rfl, htl, hbw0⟩
             have hbw := below_then (below_drew (Below.refl wr.heap.size wr)) (Nat.le_refl _) hbw0
             have HTL := Lib.hid htl
             have HBW := Lib.hid hbw
             have ho4' : w1.cell? ⟨o, 4, none⟩ = some (.slice Av (erase done).length cv) := (hbw.cell (p := ⟨o, 4, none⟩) (World.block_lt_of_cell? wr _ o4)).trans o4
             have hol : o < w1.heap.size := by have := HO.out.1; have := hbw.size; omega
             clear htl hbw hbw0)
          | (obtain ⟨css, hcs1, hcs2, hcs3⟩ := HKA.out.below HBW.out
             refine step_append_cells (w0 := w1) (w.heap.size + 2) rfl (.tmp 64) (.tmp 67) 23 25 _ 5 88 rfl Try.underlying23 infoTree rfl (by decide) (by decide) (.slice Av (erase done).length cv) (erase done).length css.flatten [.int .i64 y.f0, .string y.f1, .string y.f2, .slice A3y y.f3.length c3y, .slice A4y y.f4.length c4y] (by simp [Act.eval, Act.put]) (by simp [Act.eval, Act.put]) rfl (by simp [Value.oneCell']) hcs1 (Below.refl _ _) (Nat.le_trans hsz2 HBW.out.size) (by omega) ?_
             intro v1 w2 hown hb2 hg hv2
             obtain ⟨A1, c1, rfl⟩ := own_slice hown
             have hne : ∀ x, x < w.heap.size + 2 → some x ≠ (Value.slice Av (erase done).length cv).ownBlock := fun x hx e => by have := own_base hcs1 x e.symm; omega
             have hoW : w2.heap[o]? = _ := (hg.block o (by have := HO.out.1; have := HBW.out.size; omega) (hne o (by have := HO.out.1; omega))).trans ((HBW.out.block o (by have := HO.out.1; omega)).trans HO3.out)
             have hc4' : w2.cell? ⟨c, 4, none⟩ = some (.pointer u') := (hg.cell (a := ⟨c, 4, none⟩) ((HBW.out.cell (p := ⟨c, 4, none⟩) (by show c < _; omega)).trans HC4.out) (hne c (by omega)))
             obtain ⟨ho4'', fo4''⟩ := out_cell hoW 4
             simp only [List.getElem?_toArray, List.getElem?_cons_succ, List.getElem?_cons_zero] at ho4''
             have HOWN := Lib.hid hown
             have HG2 := Lib.hid hg
             have HV2 := Lib.hid hv2
             have HOW := Lib.hid hoW
             have HCS := Lib.hid (And.intro hcs1 (And.intro hcs2 hcs3))
             have HNE := Lib.hid hne
             clear hown hb2 hg hv2 hoW hcs1 hcs2 hcs3 hne))
        all_goals (
          go_wp2
          go_roundg g'.len
          case measure => simp [F.len]
          case rel =>
            have ho2 := HO.out
            have hs1 := HBW.out.size
            have hs2 := HG2.out.size
            refine ⟨done.app (.node c q ck .nil), g', _, HU.out.symm, rfl, ?_, Lib.heap_setCell_same HOW.out _, ?_, ?_, ?_, ?_⟩
            · rw [F.app_assoc]
              exact HK.out
            · exact (Below.heap_setCell _ _ _ _ (by show rv ≠ o; omega)).trans ((HG2.out.block rv (by omega) (HNE.out rv (by omega))).trans ((HBW.out.block rv (by omega)).trans HO4.out))
            · have hx : erase (done.app (.node c q ck .nil)) = erase done ++ [y] := by rw [erase_app, HY.out]; rfl
              rw [hx]
              obtain ⟨css0, hcs0, -, -⟩ := HKA.out
              exact (KidsAt.push HCS.out.2.1 HCS.out.2.2 rfl hsz2 (Nat.le_refl _) (fun g hg => own_lt hcs0 g hg) HTL.out HOWN.out HG2.out HV2.out).store ⟨o, 4, none⟩ (by show o < _; omega) _
            · rw [World.size_setCell]
              omega
            · exact ((below_then HB1.out HB1.out.size HBW.out).grown HG2.out (by omega) (fun x hx => by have := own_base HCS.out.1 x hx; omega)).setCell (by show _ ≤ o; omega) _)
theorem plain_app : ∀ (a g : F Pay), Plain (a.app g) → Plain a ∧ Plain g
  | .nil, g, h => ⟨trivial, h⟩
  | .node b p k r, g, h => by
    obtain ⟨h2, h3, h4⟩ := h
    obtain ⟨h5, h6⟩ := plain_app r g h4
    exact ⟨⟨h2, h3, h5⟩, h6⟩
theorem len_le_blocks : ∀ f : F Pay, f.len ≤ f.blocks.length
  | .nil => Nat.le_refl _
  | .node b p k r => by
    have := len_le_blocks r
    simp only [F.len, F.blocks, List.length_cons, List.length_append]
    omega
theorem told_all : ∀ (f : F Pay), Plain f → f.blocks.length ≤ 1000000 → ∀ (a : F Pay) (b : Nat) (p : Pay) (k r : F Pay), f = a.app (.node b p k r) → ∀ (H : NMap) (w : World) (par prev next : Option Nat), Holds w H → Sits H par prev next f →
    Calls Try.prog 101 #[.pointer (some ⟨b, 0, none⟩)] w (ToldPost (nodeOf p (erase k)) w) := by
  intro f
  induction f with
  | nil =>
    intro _ _ a b p k r h
    cases a <;> cases h
  | node b0 p0 k0 r0 ihk ihr =>
    intro hp hl a b p k r h H w par prev next hw hs
    simp only [F.blocks, List.length_cons, List.length_append] at hl
    cases a with
    | nil =>
      injection h with h1 h2 h3 h4
      subst h1 h2 h3 h4
      rcases hp.1 with ht | ⟨ht, hat⟩ | ht
      · have e : nodeOf p0 (erase k0) = ⟨1, ⟨#[]⟩, p0.data, [], []⟩ := by simp [nodeOf, ht]
        rw [e]
        exact told_text b0 par prev next p0 k0 r0 H w hw hs ht
      · have e : nodeOf p0 (erase k0) = ⟨0, p0.data, ⟨#[]⟩, [], erase k0⟩ := by simp [nodeOf, ht, hat]
        rw [e]
        exact told_elem0 b0 par prev next p0 k0 r0 H w hw hs ht hat (by have := len_le_blocks k0; omega) (fun a b p k' r' he H w par prev next hw hs => ihk hp.2.1 (by omega) a b p k' r' he H w par prev next hw hs)
      · have e : nodeOf p0 (erase k0) = ⟨2, ⟨#[]⟩, p0.data, [], []⟩ := by simp [nodeOf, ht]
        rw [e]
        exact told_comment b0 par prev next p0 k0 r0 H w hw hs ht
    | node b1 p1 k1 r1 =>
      injection h with h1 h2 h3 h4
      subst h1 h2 h3
      exact ihr hp.2.2 (by omega) r1 b p k r h4 H w par (some b0) next hw hs.2.2
theorem told_any0 (b : Nat) (p : Pay) (k r : F Pay) (H : NMap) (w : World) (par prev next : Option Nat) (hp : Plain (.node b p k r)) (hl : (F.node b p k r).blocks.length ≤ 1000000) (hw : Holds w H) (hs : Sits H par prev next (.node b p k r)) :
    Calls Try.prog 101 #[.pointer (some ⟨b, 0, none⟩)] w (ToldPost (nodeOf p (erase k)) w) :=
  told_all _ hp hl .nil b p k r rfl H w par prev next hw hs
end Go.Proofs.Ytlallihdiffheaa.Hand
