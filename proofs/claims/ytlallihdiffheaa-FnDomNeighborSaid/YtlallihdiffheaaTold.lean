/- Trees as the laws see them, and forests of nodes: what a forest tells, and which trees are right. impl.made by hand: the package's nodes of a tree. impl.made by hand: elements without attributes; whole trees without attributes. A row of trees that grows: each tree lies in blocks of its own. impl.told by hand: texts and comments. impl.told by hand: the tree of the package's nodes (without attributes). -/
import Derived.Test.YtlallihdiffheaaGTx0
import Derived.Test.YtlallihdiffheaaForest
import Derived.Deep.RegionLaw
namespace Go.Proofs.Ytlallihdiffheaa.Hand
open Go.RowKit Go.Proofs.YtlallihdiffheaaW.PrintWords Go.Proofs.YtlallihdiffheaaW.PrintLast Go.Proofs.Ytlallihdiffheaa.GT
set_option linter.unusedVariables false

def attrOf (a : S34) : ByteArray × ByteArray := (a.f0, a.f1)
def attrTo (a : ByteArray × ByteArray) : S34 := ⟨a.1, a.2⟩
theorem attrTo_of (l : List S34) : (l.map attrOf).map attrTo = l := by
  rw [List.map_map]
  exact List.map_id'' (fun _ => rfl) l
/-- The tree of a node, by its children's. -/
def nodeOf (p : Pay) (ks : List S25) : S25 :=
  if p.type = 3 then ⟨0, p.data, ⟨#[]⟩, p.attrs.map attrTo, ks⟩
  else if p.type = 1 then ⟨1, ⟨#[]⟩, p.data, [], []⟩
  else if p.type = 4 then ⟨2, ⟨#[]⟩, p.data, [], []⟩
  else ⟨3, ⟨#[]⟩, ⟨#[]⟩, [], ks⟩
def erase : F Pay → List S25
  | .nil => []
  | .node b p k r => nodeOf p (erase k) :: erase r
theorem erase_app : ∀ f g : F Pay, erase (f.app g) = erase f ++ erase g
  | .nil, g => rfl
  | .node b p k r, g => by simp only [F.app, erase, erase_app r g, List.cons_append]
theorem erase_len : ∀ f : F Pay, (erase f).length = f.len
  | .nil => rfl
  | .node b p k r => by simp only [erase, F.len, List.length_cons, erase_len r]
/-- A tree that a forest can tell: what it has no place for is empty. -/
inductive WF : S25 → Prop
  | elem (name : ByteArray) (attrs : List S34) (kids : List S25) (h : ∀ y ∈ kids, WF y) : WF ⟨0, name, ⟨#[]⟩, attrs, kids⟩
  | text (t : ByteArray) : WF ⟨1, ⟨#[]⟩, t, [], []⟩
  | comment (t : ByteArray) : WF ⟨2, ⟨#[]⟩, t, [], []⟩
  | doc (kids : List S25) (h : ∀ y ∈ kids, WF y) : WF ⟨3, ⟨#[]⟩, ⟨#[]⟩, [], kids⟩
/-- Nodes of the four kinds; texts and comments are leaves. -/
def Neat : F Pay → Prop
  | .nil => True
  | .node b p k r => ((p.type = 1 ∧ k = .nil) ∨ (p.type = 4 ∧ k = .nil) ∨ p.type = 3 ∨ p.type = 2) ∧ Neat k ∧ Neat r
theorem neat_app : ∀ (a g : F Pay), Neat (a.app g) ↔ Neat a ∧ Neat g
  | .nil, g => by simp [F.app, Neat]
  | .node b p k r, g => by
    simp only [F.app, Neat, neat_app r g]
    constructor
    · rintro ⟨h1, h2, h3, h4⟩
      exact ⟨⟨h1, h2, h3⟩, h4⟩
    · rintro ⟨⟨h1, h2, h3⟩, h4⟩
      exact ⟨h1, h2, h3, h4⟩
/-- Behind 'made': a tree of new nodes that tells what was asked. -/
structure Made (x : S25) (H : NMap) (w : World) (b : Nat) (p : Pay) (k : F Pay) (K : NMap) (w' : World) : Prop where
  holds : Holds w' K
  sits : Sits K none none none (.node b p k .nil)
  tells : nodeOf p (erase k) = x
  neat : Neat (.node b p k .nil)
  apart : (b :: k.blocks).Nodup
  fresh : ∀ c ∈ b :: k.blocks, w.heap.size ≤ c
  others : ∀ c, c ∉ b :: k.blocks → K c = H c
  below : Below w.heap.size w w'
/-- On the way: a node with some children. -/
structure Grow (H : NMap) (w : World) (b : Nat) (p : Pay) (k : F Pay) (K : NMap) (w' : World) : Prop where
  holds : Holds w' K
  sits : Sits K none none none (.node b p k .nil)
  apart : (b :: k.blocks).Nodup
  fresh : ∀ c ∈ b :: k.blocks, w.heap.size ≤ c
  others : ∀ c, c ∉ b :: k.blocks → K c = H c
  below : Below w.heap.size w w'
theorem Grow.made {x : S25} {H K : NMap} {w w' : World} {b : Nat} {p : Pay} {k : F Pay} (h : Grow H w b p k K w') (ht : nodeOf p (erase k) = x) (hn : Neat (.node b p k .nil)) : Made x H w b p k K w' :=
  ⟨h.holds, h.sits, ht, hn, h.apart, h.fresh, h.others, h.below⟩
theorem Grow.new {H : NMap} {w w1 : World} (hw : Holds w H) (hb : Below w.heap.size w w1) (p : Pay) (hp : AttrsAt w1 p.attr p.attrs) :
    Grow H w w1.heap.size p .nil (upd H w1.heap.size ⟨none, none, none, none, none, p⟩) (w1.alloc (.cells (NR.cells ⟨none, none, none, none, none, p⟩) 115 (0, 0))) := by
  refine ⟨(hw.below hb).new hp, ⟨upd_same _ _ _, trivial, trivial⟩, by simp [F.blocks], fun c hc => ?_, fun c hc => ?_, hb.alloc hb.size _⟩
  · simp only [F.blocks, List.mem_singleton] at hc
    rw [hc]
    exact hb.size
  · simp only [F.blocks, List.mem_singleton] at hc
    exact upd_other _ _ hc
theorem Grow.new' {H : NMap} {w w1 : World} (hw : Holds w H) (hb : Below w.heap.size w w1) (p : Pay) (hp : AttrsAt w1 p.attr p.attrs) (b : Nat) (hs : b = w1.heap.size) :
    Grow H w b p .nil (upd H b ⟨none, none, none, none, none, p⟩) (w1.alloc (.cells (NR.cells ⟨none, none, none, none, none, p⟩) 115 (0, 0))) := by
  subst hs
  exact Grow.new hw hb p hp
theorem Grow.moved {H K : NMap} {w w1 w2 : World} {b : Nat} {p : Pay} {k : F Pay} (h : Grow H w b p k K w1) (hb : Below w1.heap.size w1 w2) : Grow H w b p k K w2 :=
  ⟨h.holds.below hb, h.sits, h.apart, h.fresh, h.others, below_then h.below h.below.size hb⟩
/-- One more child, made and appended. -/
theorem Grow.append {H K L : NMap} {w w1 w2 w3 : World} {b c : Nat} {p q : Pay} {k ck : F Pay} {y : S25} (h : Grow H w b p k K w1) (hm : Made y K w1 c q ck L w2) (ht : Turn L (insertH L b c (k.lastOr none) none) w2 w3) :
    Grow H w b p (k.app (.node c q ck .nil)) (insertH L b c (k.lastOr none) none) w3 := by
  have hfr : ∀ x ∈ c :: ck.blocks, x ∉ b :: k.blocks := fun x hx hx' => by
    have h1 := hm.fresh x hx
    obtain ⟨r, hr⟩ := h.sits.has (.node b p k .nil) _ _ _ x (by simpa [F.blocks] using hx')
    have := h.holds.lt hr
    omega
  have hsL : Sits L none none none (.node b p k .nil) := h.sits.congr _ _ _ _ fun x hx => hm.others x (fun hx' => hfr x hx' (by simpa [F.blocks] using hx))
  have hd : (F.node b p k .nil).blocks.Nodup := by simpa [F.blocks] using h.apart
  have hk : (F.node b p k .nil).kidsOf b = some (k.app .nil) := by rw [F.kidsOf, if_pos rfl, F.app_nil]
  obtain ⟨h1, h2⟩ := insert_sits hsL hd hk (by rw [F.app_nil]; exact (List.nodup_cons.1 h.apart).1) (by rw [F.app_nil]; exact (List.nodup_cons.1 h.apart).2) hm.sits (by simpa using hm.apart) (fun x hx hx' => hfr x hx (by simpa [F.blocks] using hx'))
  rw [F.setKids, if_pos rfl] at h1
  have h2 : ∀ x, x ∉ (F.node b p k .nil).blocks → x ≠ c → insertH L b c (k.lastOr none) none x = L x := h2
  have hsz : w.heap.size ≤ w1.heap.size := h.below.size
  refine ⟨ht.holds, h1, ?_, fun x hx => ?_, fun x hx => ?_, ?_⟩
  · rw [F.blocks_app]
    simp only [F.blocks, List.append_nil]
    have h3 : ((b :: k.blocks) ++ (c :: ck.blocks)).Nodup := List.nodup_append.2 ⟨h.apart, hm.apart, fun x hx y hy e => hfr y hy (e ▸ hx)⟩
    exact h3
  · rw [F.blocks_app] at hx
    simp only [F.blocks, List.append_nil, List.mem_cons, List.mem_append] at hx
    have h4 : x ∈ b :: k.blocks ∨ x ∈ c :: ck.blocks := by
      simp only [List.mem_cons]
      rcases hx with hx | hx | hx | hx
      · exact .inl (.inl hx)
      · exact .inl (.inr hx)
      · exact .inr (.inl hx)
      · exact .inr (.inr hx)
    rcases h4 with h4 | h4
    · exact h.fresh x h4
    · exact Nat.le_trans hsz (hm.fresh x h4)
  · rw [F.blocks_app] at hx
    simp only [F.blocks, List.append_nil, List.mem_cons, List.mem_append, not_or] at hx
    rw [h2 x (by simp [F.blocks, hx.1, hx.2.1]) hx.2.2.1, hm.others x (by simp [hx.2.2.1, hx.2.2.2]), h.others x (by simp [hx.1, hx.2.1])]
  · have hb1 : Below w.heap.size w w2 := h.below.trans (hm.below.mono hsz)
    refine hb1.trans ⟨ht.stays.os, ht.stays.tape, ht.stays.output, ht.stays.size, fun i hi => ?_⟩
    have hi2 : i < w2.heap.size := Nat.lt_of_lt_of_le hi hb1.size
    have hib : i ∉ b :: k.blocks := fun hh => by
      have := h.fresh i hh
      omega
    have hic : i ≠ c := fun e => by
      have := hm.fresh i (by simp [e])
      omega
    cases e : L i with
    | none => exact ht.stays.block i hi2 e
    | some r =>
      have h5 := (h2 i (by simpa [F.blocks] using hib) hic).trans e
      exact (ht.holds.node i r h5).trans (hm.holds.node i r e).symm
/-- What AppendChild asks, between 'made' and the append. -/
theorem Grow.asks {H K L : NMap} {w w1 w2 : World} {b c : Nat} {p q : Pay} {k ck : F Pay} {y : S25} (h : Grow H w b p k K w1) (hm : Made y K w1 c q ck L w2) :
    L b = some ⟨none, k.headOr none, k.lastOr none, none, none, p⟩ ∧ L c = some ⟨none, ck.headOr none, ck.lastOr none, none, none, q⟩ ∧ b ≠ c ∧ (∀ l, k.lastOr none = some l → l ≠ c ∧ ∃ r, L l = some r) := by
  have hfr : ∀ x ∈ c :: ck.blocks, x ∉ b :: k.blocks := fun x hx hx' => by
    have h1 := hm.fresh x hx
    obtain ⟨r, hr⟩ := h.sits.has (.node b p k .nil) _ _ _ x (by simpa [F.blocks] using hx')
    have := h.holds.lt hr
    omega
  have hsL : Sits L none none none (.node b p k .nil) := h.sits.congr _ _ _ _ fun x hx => hm.others x (fun hx' => hfr x hx' (by simpa [F.blocks] using hx))
  refine ⟨hsL.1, hm.sits.1, fun e => hfr c (by simp) (by simp [e]), fun l hl => ?_⟩
  have hlk : l ∈ k.blocks := (F.lastOr_mem k none l hl).resolve_right (by simp)
  exact ⟨fun e => hfr c (by simp) (by simp [← e, hlk]), hsL.has _ _ _ _ l (by simp [F.blocks, hlk])⟩
end Go.Proofs.Ytlallihdiffheaa.Hand
namespace Go.Proofs.Ytlallihdiffheaa.Hand
open Go.RowKit Go.Proofs.YtlallihdiffheaaW.PrintWords Go.Proofs.YtlallihdiffheaaW.PrintLast Go.Proofs.Ytlallihdiffheaa.GT
set_option linter.unusedVariables false

def MadePost (x : S25) (H : NMap) (w : World) : Ending → World → Prop := fun e w' => ∃ b p k K, e = .returned (.pointer (some ⟨b, 0, none⟩)) ∧ Made x H w b p k K w'
/-- The same, and what is no element has no attributes. -/
def MadePostA (x : S25) (H : NMap) (w : World) : Ending → World → Prop := fun e w' => ∃ b p k K, e = .returned (.pointer (some ⟨b, 0, none⟩)) ∧ Made x H w b p k K w' ∧ (p.type = 3 ∨ p.attrs = [])
theorem MadePostA.post {x : S25} {H : NMap} {w w' : World} {e : Ending} (h : MadePostA x H w e w') : MadePost x H w e w' := by
  obtain ⟨b, p, k, K, h1, h2, _⟩ := h
  exact ⟨b, p, k, K, h1, h2⟩
set_option maxRecDepth 100000 in
set_option maxHeartbeats 1600000 in
theorem made_text (t : ByteArray) (w : World) (H : NMap) (A3 A4 : Option Addr) (c3 c4 : Nat) (hw : Holds w H) :
    Calls Try.prog 58 #[.agg #[.int .i64 1, .string ⟨#[]⟩, .string t, .slice A3 0 c3, .slice A4 0 c4]] w (MadePost ⟨1, ⟨#[]⟩, t, [], []⟩ H w) := by
  have HW := Lib.hid hw
  clear hw
  go_enter Try.func58, Try.ntmps58
  go_wp2
  go_ret
  exact ⟨_, _, _, _, rfl, (Grow.new' HW.out (below_alloc (Below.refl _ _) _) ⟨1, 0, t, .slice none 0 0, []⟩ (AttrsAt.nil _) _ (by simp)).made rfl (by simp [Neat])⟩
set_option maxRecDepth 100000 in
set_option maxHeartbeats 1600000 in
theorem made_comment (t : ByteArray) (w : World) (H : NMap) (A3 A4 : Option Addr) (c3 c4 : Nat) (hw : Holds w H) :
    Calls Try.prog 58 #[.agg #[.int .i64 2, .string ⟨#[]⟩, .string t, .slice A3 0 c3, .slice A4 0 c4]] w (MadePost ⟨2, ⟨#[]⟩, t, [], []⟩ H w) := by
  have HW := Lib.hid hw
  clear hw
  go_enter Try.func58, Try.ntmps58
  go_wp2
  go_ret
  exact ⟨_, _, _, _, rfl, (Grow.new' HW.out (below_alloc (Below.refl _ _) _) ⟨4, 0, t, .slice none 0 0, []⟩ (AttrsAt.nil _) _ (by simp)).made rfl (by simp [Neat])⟩
theorem kids_take (l : List S25) (j : Nat) (h : j < l.length) : l.take (j + 1) = l.take j ++ [rd_T25 l (j : Int)] := by
  rw [List.take_add_one, List.getElem?_eq_getElem h]
  simp [rd_T25, h]
theorem kids_mem (l : List S25) (j : Nat) (h : j < l.length) : rd_T25 l (j : Int) ∈ l := by
  simp [rd_T25, h]
set_option maxRecDepth 100000 in
set_option maxHeartbeats 3200000 in
theorem made_doc (kids : List S25) (w : World) (H : NMap) (A3 A4 : Option Addr) (c3 c4 : Nat) (hw : Holds w H) (hk : k25.C w A4 kids.length kids) (hc : kids.length ≤ c4)
    (ih : ∀ y ∈ kids, ∀ (w : World) (H : NMap) (A3 A4 : Option Addr) (c3 c4 : Nat), Holds w H → k34.C w A3 y.f3.length y.f3 → y.f3.length ≤ c3 → k25.C w A4 y.f4.length y.f4 → y.f4.length ≤ c4 →
      Calls Try.prog 58 #[.agg #[.int .i64 y.f0, .string y.f1, .string y.f2, .slice A3 y.f3.length c3, .slice A4 y.f4.length c4]] w (MadePost y H w)) :
    Calls Try.prog 58 #[.agg #[.int .i64 3, .string ⟨#[]⟩, .string ⟨#[]⟩, .slice A3 0 c3, .slice A4 kids.length c4]] w (MadePostA ⟨3, ⟨#[]⟩, ⟨#[]⟩, [], kids⟩ H w) := by
  have HG := Lib.hid (Grow.new hw (below_alloc (Below.refl _ _) (.cells #[.int .i64 3, .string ⟨#[]⟩, .string ⟨#[]⟩, .slice A3 0 c3, .slice A4 kids.length c4] 25 (0, 0))) ⟨2, 0, ⟨#[]⟩, .slice none 0 0, []⟩ (AttrsAt.nil _))
  have HK := Lib.hid hk
  have hmax : kids.length ≤ 9223372036854775807 := hk.2.1
  have HI := Lib.hid ih
  clear hw hk ih
  go_enter Try.func58, Try.ntmps58
  go_wp2
  have HG2 := HG.out
  simp only [World.size_alloc] at HG2
  have HG := Lib.hid HG2
  clear HG2
  obtain ⟨p, hp⟩ : ∃ p : Pay, p = ⟨2, 0, ⟨#[]⟩, .slice none 0 0, []⟩ := ⟨_, rfl⟩
  rw [← hp] at HG
  have HP := Lib.hid hp
  clear hp
  obtain ⟨b, hb⟩ : ∃ b, b = w.heap.size + 1 := ⟨_, rfl⟩
  rw [← hb] at HG ⊢
  clear hb
  go_loopw [58] (fun k0 wr => ∃ (j : Nat) (f : F Pay) (K : NMap), k0 = .int .i64 j ∧ j ≤ kids.length ∧ (erase f = kids.take j ∧ Neat f) ∧ Grow H w b p f K wr) (fun k0 _ => kids.length - (intOf k0).toNat)
  case atStart =>
    refine ⟨0, .nil, upd H b ⟨none, none, none, none, none, p⟩, rfl, Nat.zero_le _, ⟨rfl, trivial⟩, ?_⟩
    have h := HG.out
    rw [HP.out] at h ⊢
    exact h
  case round =>
    obtain ⟨j, f, K, rfl, hj, he, hg⟩ := hrel
    have HE := Lib.hid he
    have HGr := Lib.hid hg
    clear he hg
    by_cases hlt : j < kids.length
    · obtain ⟨ad, A3', c3', A4', c4', rfl, q0, q1, q2, q3, q4, l3, g3, l4, g4⟩ := at_T25 (Kd.C_below HK.out HGr.out.below) (j : Int) (by omega) (by omega)
      have hy := kids_mem kids j hlt
      have hks := kids_take kids j hlt
      generalize rd_T25 kids (j : Int) = y at *
      simp only [Int.toNat_natCast] at q0 q1 q2 q3 q4
      have HY := Lib.hid hy
      have HKS := Lib.hid hks
      have HL3 := Lib.hid (And.intro l3 g3)
      have HL4 := Lib.hid (And.intro l4 g4)
      have HG1 := Lib.hid (HGr.out.moved (below_alloc (Below.refl _ _) (.cells #[.int .i64 y.f0, .string y.f1, .string y.f2, .slice A3' y.f3.length c3', .slice A4' y.f4.length c4'] 25 (0, 0))))
      have HC3 := Lib.hid (Kd.C_alloc g3 (.cells #[.int .i64 y.f0, .string y.f1, .string y.f2, .slice A3' y.f3.length c3', .slice A4' y.f4.length c4'] 25 (0, 0)))
      have HC4 := Lib.hid (Kd.C_alloc g4 (.cells #[.int .i64 y.f0, .string y.f1, .string y.f2, .slice A3' y.f3.length c3', .slice A4' y.f4.length c4'] 25 (0, 0)))
      clear hy hks l3 l4 g3 g4
      go_wp2_with (first
        | (go_at_call 58; refine (HI.out y HY.out _ K A3' A4' c3' c4' HG1.out.holds HC3.out HL3.out.1 HC4.out HL4.out.1).mono ?_; rintro e w2 ⟨c, q, ck, L, rfl, hm⟩; have HM := Lib.hid hm; clear hm)
        | (go_at_call 104; have hasks := HG1.out.asks HM.out; refine (appendChild_any HM.out.holds hasks.1 hasks.2.1 hasks.2.2.1 hasks.2.2.2).mono ?_; rintro e w3 ⟨rfl, ht⟩; have HT := Lib.hid ht; clear ht hasks))
      go_roundw
      case rel =>
        refine ⟨j + 1, f.app (.node c q ck .nil), _, by go_num, hlt, ?_, HG1.out.append HM.out HT.out⟩
        refine ⟨?_, (neat_app _ _).2 ⟨HE.out.2, HM.out.neat⟩⟩
        rw [erase_app, HE.out.1, HKS.out]
        simp only [erase, HM.out.tells]
      case measure => simp [intOf]; omega
    · obtain rfl : j = kids.length := by omega
      go_wp2
      go_ret
      have hE := HE.out.1
      rw [List.take_length] at hE
      exact ⟨b, p, f, K, rfl, HGr.out.made (by rw [hE, HP.out]; rfl) ⟨by rw [HP.out]; simp, HE.out.2, trivial⟩, .inr (by rw [HP.out])⟩
end Go.Proofs.Ytlallihdiffheaa.Hand
namespace Go.Proofs.Ytlallihdiffheaa.Hand
open Go.RowKit Go.Proofs.YtlallihdiffheaaW.PrintWords Go.Proofs.YtlallihdiffheaaW.PrintLast Go.Proofs.Ytlallihdiffheaa.GT
set_option linter.unusedVariables false

def zzA (s : ByteArray) : Int := if (s.toList == [99, 97, 112, 116, 105, 111, 110]) = true then 140295 else if (s.toList == [108, 105]) = true then 45570 else 0
set_option maxRecDepth 100000 in
theorem zzAtom_any (s : ByteArray) (w : World) : Calls Try.prog 103 #[.string s] w fun e w' => e = .returned (.int .u32 (zzA s)) ∧ w' = w := by
  go_enter Try.func103, Try.ntmps103
  go_wp2
  all_goals go_ret
  all_goals refine ⟨?_, rfl⟩
  all_goals simp [zzA, *]
/-- The kids' loop of 'made', at its head: what both its arms come to. -/
def MadeIH (kids : List S25) : Prop := ∀ y ∈ kids, ∀ (w : World) (H : NMap) (A3 A4 : Option Addr) (c3 c4 : Nat), Holds w H → k34.C w A3 y.f3.length y.f3 → y.f3.length ≤ c3 → k25.C w A4 y.f4.length y.f4 → y.f4.length ≤ c4 →
      Calls Try.prog 58 #[.agg #[.int .i64 y.f0, .string y.f1, .string y.f2, .slice A3 y.f3.length c3, .slice A4 y.f4.length c4]] w (MadePost y H w)
/-- A tree without attributes that a forest can tell. -/
inductive WF0 : S25 → Prop
  | elem (name : ByteArray) (kids : List S25) (h : ∀ y ∈ kids, WF0 y) : WF0 ⟨0, name, ⟨#[]⟩, [], kids⟩
  | text (t : ByteArray) : WF0 ⟨1, ⟨#[]⟩, t, [], []⟩
  | comment (t : ByteArray) : WF0 ⟨2, ⟨#[]⟩, t, [], []⟩
end Go.Proofs.Ytlallihdiffheaa.Hand
namespace Go.Proofs.Ytlallihdiffheaa.Hand
open Go.RowKit Go.Proofs.YtlallihdiffheaaW.PrintWords Go.Proofs.YtlallihdiffheaaW.PrintLast Go.Proofs.Ytlallihdiffheaa.GT
set_option linter.unusedVariables false

/-- Cells that tell a tree, whatever stands outside of the blocks from lo to hi. -/
def TellsIn (lo hi : Nat) (w : World) (y : S25) (cs : List Value) : Prop := ∀ W : World, (∀ k, lo ≤ k → k < hi → W.heap[k]? = w.heap[k]?) → k25.K W y cs
theorem TellsIn.move {lo hi : Nat} {w w1 : World} {y : S25} {cs : List Value} (h : TellsIn lo hi w y cs) (hb : ∀ k, lo ≤ k → k < hi → w1.heap[k]? = w.heap[k]?) : TellsIn lo hi w1 y cs :=
  fun W hW => h W fun k h1 h2 => (hW k h1 h2).trans (hb k h1 h2)
theorem TellsIn.wide {lo hi lo' hi' : Nat} {w : World} {y : S25} {cs : List Value} (h : TellsIn lo hi w y cs) (h1 : lo' ≤ lo) (h2 : hi ≤ hi') : TellsIn lo' hi' w y cs :=
  fun W hW => h W fun k a b => hW k (by omega) (by omega)
def KidAt (base : Nat) (w : World) (v : Value) (y : S25) (cs : List Value) : Prop := cs.length = 5 ∧ ∃ lo hi, base ≤ lo ∧ hi ≤ w.heap.size ∧ (∀ g, v.ownBlock = some g → ¬ (lo ≤ g ∧ g < hi)) ∧ TellsIn lo hi w y cs
def KidsAt (base : Nat) (w : World) (v : Value) (xs : List S25) : Prop :=
  ∃ css : List (List Value), w.ownsRow base 25 5 v xs.length css.flatten ∧ css.length = xs.length ∧ ∀ (i : Nat) (y : S25) (cs : List Value), xs[i]? = some y → css[i]? = some cs → KidAt base w v y cs
theorem KidsAt.nil (base : Nat) (w : World) : KidsAt base w (.slice none 0 0) [] := ⟨[], own_nil _ _ _ _, rfl, fun i y cs h => by simp at h⟩
theorem KidsAt.below {base : Nat} {w w1 : World} {v : Value} {xs : List S25} (h : KidsAt base w v xs) (hb : Below w.heap.size w w1) : KidsAt base w1 v xs := by
  obtain ⟨css, h1, h2, h3⟩ := h
  refine ⟨css, pw_own_below h1 hb, h2, fun i y cs hy hc => ?_⟩
  obtain ⟨h4, lo, hi, h5, h6, h7, h8⟩ := h3 i y cs hy hc
  exact ⟨h4, lo, hi, h5, Nat.le_trans h6 hb.size, h7, h8.move fun k a b => hb.block k (by omega)⟩
theorem KidsAt.store {base : Nat} {w : World} {v : Value} {xs : List S25} (h : KidsAt base w v xs) (a : Addr) (ha : a.block < base) (u : Value) : KidsAt base (w.setCell a u) v xs := by
  obtain ⟨css, h1, h2, h3⟩ := h
  refine ⟨css, ownsRow_setCell_below h1 ha u, h2, fun i y cs hy hc => ?_⟩
  obtain ⟨h4, lo, hi, h5, h6, h7, h8⟩ := h3 i y cs hy hc
  exact ⟨h4, lo, hi, h5, by simpa using h6, h7, h8.move fun k a' b => Below.heap_setCell _ _ _ _ (by omega)⟩
theorem KidsAt.push {base : Nat} {w1 w2 : World} {v v2 : Value} {xs : List S25} {css : List (List Value)} {y : S25} {cs : List Value} {lo hi : Nat}
    (h2 : css.length = xs.length) (h3 : ∀ (i : Nat) (y : S25) (cs : List Value), xs[i]? = some y → css[i]? = some cs → KidAt base w1 v y cs)
    (hl : cs.length = 5) (hlo : base ≤ lo) (hhi : hi ≤ w1.heap.size) (hv : ∀ g, v.ownBlock = some g → g < lo) (ht : TellsIn lo hi w1 y cs)
    (ho : w2.ownsRow base 25 5 v2 (xs.length + 1) (css.flatten ++ cs)) (hg : w1.grownBy w2 v.ownBlock) (hb : v2.ownBlock = v.ownBlock ∨ ∃ b, v2.ownBlock = some b ∧ w1.heap.size ≤ b) : KidsAt base w2 v2 (xs ++ [y]) := by
  have key : ∀ (z : S25) (ds : List Value) (l h : Nat), ds.length = 5 → base ≤ l → h ≤ w1.heap.size → (∀ g, v.ownBlock = some g → ¬ (l ≤ g ∧ g < h)) → TellsIn l h w1 z ds → KidAt base w2 v2 z ds := by
    intro z ds l h a1 a2 a3 a4 a5
    refine ⟨a1, l, h, a2, Nat.le_trans a3 hg.size, fun g hg2 => ?_, a5.move fun k b1 b2 => hg.block k (by omega) (fun e => a4 k e.symm ⟨b1, b2⟩)⟩
    rcases hb with hb | ⟨b, hb, hge⟩
    · exact a4 g (hb ▸ hg2)
    · rw [hb] at hg2
      obtain rfl := Option.some.inj hg2
      omega
  refine ⟨css ++ [cs], by rw [List.flatten_append, List.length_append]; simpa using ho, by simp [h2], fun i z ds hz hd => ?_⟩
  by_cases hi2 : i < xs.length
  · rw [List.getElem?_append_left hi2] at hz
    rw [List.getElem?_append_left (by omega)] at hd
    obtain ⟨b1, l, h, b2, b3, b4, b5⟩ := h3 i z ds hz hd
    exact key z ds l h b1 b2 b3 b4 b5
  · have hi3 := (List.getElem?_eq_some_iff.1 hz).1
    rw [List.length_append, List.length_singleton] at hi3
    obtain rfl : i = xs.length := by omega
    rw [List.getElem?_append_right (Nat.le_refl _)] at hz
    rw [List.getElem?_append_right (by omega)] at hd
    simp [h2] at hz hd
    subst hz hd
    exact key _ _ lo hi hl hlo hhi (fun g hg2 => by have := hv g hg2; omega) ht
theorem flatten_get5 : ∀ (css : List (List Value)) (i : Nat) (cs : List Value), (∀ c ∈ css, c.length = 5) → css[i]? = some cs → ∀ j u, cs[j]? = some u → css.flatten[i * 5 + j]? = some u := by
  intro css
  induction css with
  | nil => intro i cs h hc; simp at hc
  | cons c t ih =>
    intro i cs h hc j u hj
    have h5 := h c List.mem_cons_self
    rw [List.flatten_cons]
    cases i with
    | zero =>
      simp only [List.getElem?_cons_zero, Option.some.injEq] at hc
      subst hc
      have := (List.getElem?_eq_some_iff.1 hj).1
      rw [List.getElem?_append_left (by omega), Nat.zero_mul, Nat.zero_add]
      exact hj
    | succ i =>
      rw [List.getElem?_cons_succ] at hc
      rw [List.getElem?_append_right (by omega), h5, show (i + 1) * 5 + j - 5 = i * 5 + j by omega]
      exact ih i cs (fun d hd => h d (List.mem_cons_of_mem _ hd)) hc j u hj
theorem KidsAt.tells {base : Nat} {w : World} {v : Value} {xs : List S25} (h : KidsAt base w v xs) (hn : xs.length ≤ 9223372036854775807) :
    ∃ A c, v = .slice A xs.length c ∧ xs.length ≤ c ∧ ∀ W : World, (∀ k, base ≤ k → k < w.heap.size → W.heap[k]? = w.heap[k]?) → k25.C W A xs.length xs := by
  obtain ⟨css, h1, h2, h3⟩ := h
  rcases Nat.eq_zero_or_pos xs.length with h0 | h0
  · obtain ⟨A, c, rfl⟩ := own_slice h1
    refine ⟨A, c, rfl, by omega, fun W hW => ⟨rfl, hn, fun hp => absurd hp (by omega)⟩⟩
  · rcases h1.2 with ⟨_, e⟩ | ⟨g, cap, cur, rfl, hg, hgg, hnc, _, _, _⟩
    · omega
    · refine ⟨some ⟨g, 0, none⟩, cap, rfl, hnc, fun W hW => ⟨rfl, hn, fun _ => ⟨_, rfl, fun j p hj => ?_⟩⟩⟩
      have hjl := (List.getElem?_eq_some_iff.1 hj).1
      obtain ⟨cs, hcs⟩ : ∃ cs, css[j]? = some cs := ⟨_, List.getElem?_eq_getElem (by omega)⟩
      obtain ⟨h4, lo, hi, h5, h6, h7, h8⟩ := h3 j p cs hj hcs
      refine ⟨cs, h4, h8 W fun k a b => hW k (by omega) (by omega), fun i u hu => ?_⟩
      have hall : ∀ c ∈ css, c.length = 5 := fun c hc => by
        obtain ⟨m, hm⟩ := List.mem_iff_getElem?.1 hc
        have hml := (List.getElem?_eq_some_iff.1 hm).1
        exact (h3 m _ c (List.getElem?_eq_getElem (by omega)) hm).1
      have h9 := h1.cells (g := g) rfl (j * 5 + i) u (flatten_get5 css j cs hall hcs i u hu)
      have hgl : g < w.heap.size := (Array.getElem?_eq_some_iff.1 hgg).1
      have hk5 : k25.sz = 5 := rfl
      rw [hk5, ← h9]
      exact World.cell?_of_block (by rw [show ((⟨g, 0, none⟩ : Addr).add (j * 5 + i)).block = g by unfold Addr.add; split <;> rfl]; exact hW g hg hgl)
end Go.Proofs.Ytlallihdiffheaa.Hand
namespace Go.Proofs.Ytlallihdiffheaa.Hand
open Go.RowKit Go.Proofs.YtlallihdiffheaaW.PrintWords Go.Proofs.YtlallihdiffheaaW.PrintLast Go.Proofs.Ytlallihdiffheaa.GT
set_option linter.unusedVariables false

theorem headOr_cases (g : F Pay) : (g = .nil) ∨ ∃ b p k r, g = .node b p k r := by
  cases g with
  | nil => exact .inl rfl
  | node b p k r => exact .inr ⟨b, p, k, r, rfl⟩
theorem out_cell {w : World} {o : Nat} {cs : Array Value} {t : TypeId} (h : w.heap[o]? = some (.cells cs t (0, 0))) (i : Nat) : w.cell? ⟨o, i, none⟩ = cs[i]? ∧ w.frozen? ⟨o, i, none⟩ = false := by
  refine ⟨by simp [World.cell?, h], by simp [World.frozen?, h]⟩
end Go.Proofs.Ytlallihdiffheaa.Hand
namespace Go.Proofs.Ytlallihdiffheaa.Hand
open Go.RowKit Go.Proofs.YtlallihdiffheaaW.PrintWords Go.Proofs.YtlallihdiffheaaW.PrintLast Go.Proofs.Ytlallihdiffheaa.GT
set_option linter.unusedVariables false
set_option linter.unusedSimpArgs false

def Plain : F Pay → Prop
  | .nil => True
  | .node b p k r => (p.type = 1 ∨ (p.type = 3 ∧ p.attrs = []) ∨ p.type = 4) ∧ Plain k ∧ Plain r
theorem len_le_blocks : ∀ f : F Pay, f.len ≤ f.blocks.length
  | .nil => Nat.le_refl _
  | .node b p k r => by
    have := len_le_blocks r
    simp only [F.len, F.blocks, List.length_cons, List.length_append]
    omega
end Go.Proofs.Ytlallihdiffheaa.Hand
