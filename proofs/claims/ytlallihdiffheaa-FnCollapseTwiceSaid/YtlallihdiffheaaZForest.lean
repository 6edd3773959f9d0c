/- Forests of nodes that sit in a map from blocks to records: what InsertBefore, AppendChild, RemoveChild and a turned payload do; paths. Plain Lean, no program in sight. The nodes of html as a finite map from blocks to records; what a store into a node's cell does to it. AppendChild, InsertBefore and RemoveChild of html's nodes by hand: what they do to the map of nodes. RemoveChild of html's nodes by hand: what it does to the map of nodes. RemoveChild over forests. -/
import Derived.Test.YtlallihdiffheaaWMore
import Derived.Lib.BufferMore
import Derived.Test.YtlallihdiffheaaProg
import Derived.Below
import Derived.Deep.Draws
import Derived.Deep.AppendLies
import Derived.Maps.AppendAt
import Derived.OwnWalk
import Derived.Laws.BytesArg
import Derived.Laws.MakeOwn
import Derived.Laws.OwnMore
import Derived.Deep.OwnRows
import Derived.Tactics
import Derived.Lib.ConvBytes
import Derived.Laws.Slices
import Derived.WalkKit
import Derived.KernelRfl
import Derived.RowKit3
import Derived.Deep.LoopGhost
import Derived.Deep.QuietTactic
import Derived.BigQuiet
import Derived.WideLaws
import Derived.Deep.DeepCutAuto
import Derived.Deep.CutBlock
import Derived.Deep.RegionHeld3
import Derived.Laws.Rows
import Derived.Lib.AppendStr
import Derived.ArgAppend
import Derived.Laws.IdiomCopy
import Derived.OrdersHeld
import Derived.Laws.BitsLemmas
import Derived.RowKit
import Derived.Test.YtlallihdiffheaaWWords
import Derived.Test.YtlallihdiffheaaWLast
import Derived.Test.YtlallihdiffheaaWTab
import Derived.Test.YtlallihdiffheaaWFour
import Derived.Test.YtlallihdiffheaaWQPut
import Derived.Test.YtlallihdiffheaaWApart
import Derived.Test.YtlallihdiffheaaWArr
import Derived.Test.YtlallihdiffheaaWZeros
import Derived.Test.YtlallihdiffheaaWFoot
import Derived.Test.YtlallihdiffheaaWKept
import Derived.Test.YtlallihdiffheaaWShare
import Derived.Test.YtlallihdiffheaaWN
import Derived.Test.YtlallihdiffheaaWFootNe
import Derived.Test.YtlallihdiffheaaWAt
import Derived.Test.YtlallihdiffheaaWEqStruct
import Derived.Test.YtlallihdiffheaaWRepsOne
import Derived.Test.YtlallihdiffheaaWInv
import Derived.Test.YtlallihdiffheaaWInvWords
import Derived.Test.YtlallihdiffheaaWGuard
import Derived.Test.YtlallihdiffheaaWNEv
import Derived.LoopTactic
import Derived.Laws.RangeAny
import Derived.Lib.OthersKept
import Derived.Defers
import Derived.Recover
import Derived.Lib.Hide
import Derived.Outline
import Derived.LaidEqlPtr
import Derived.RegionTactic
namespace Go.Proofs.Ytlallihdiffheaa.Hand
set_option linter.unusedVariables false

/-- A node: its pointers by the blocks of the nodes, and what it says. -/
structure NR (P : Type) where
  parent : Option Nat
  first : Option Nat
  last : Option Nat
  prev : Option Nat
  next : Option Nat
  pay : P
/-- A forest: a tree ahead of those beside it; each node by its block. -/
inductive F (P : Type) where
  | nil
  | node (b : Nat) (p : P) (kids rest : F P)
abbrev NM (P : Type) := Nat → Option (NR P)
def upd {P : Type} (H : NM P) (b : Nat) (r : NR P) : NM P := fun k => if k = b then some r else H k
section
variable {P : Type}
theorem upd_same (H : NM P) (b : Nat) (r : NR P) : upd H b r b = some r := if_pos rfl
theorem upd_other (H : NM P) {b k : Nat} (r : NR P) (h : k ≠ b) : upd H b r k = H k := if_neg h
theorem upd_self (H : NM P) {b : Nat} {r : NR P} (h : H b = some r) : upd H b r = H := by
  funext k
  unfold upd
  split
  · rename_i e
    rw [e, h]
  · rfl
namespace F
def app : F P → F P → F P
  | nil, g => g
  | node b p k r, g => node b p k (app r g)
def headOr (d : Option Nat) : F P → Option Nat
  | nil => d
  | node b _ _ _ => some b
def lastOr (d : Option Nat) : F P → Option Nat
  | nil => d
  | node b _ _ r => lastOr (some b) r
def blocks : F P → List Nat
  | nil => []
  | node b _ k r => b :: (k.blocks ++ r.blocks)
theorem app_nil : ∀ f : F P, f.app nil = f
  | nil => rfl
  | node b p k r => by rw [app, app_nil r]
theorem app_assoc : ∀ f g h : F P, (f.app g).app h = f.app (g.app h)
  | nil, g, h => rfl
  | node b p k r, g, h => by rw [app, app, app, app_assoc r g h]
theorem blocks_app : ∀ f g : F P, (f.app g).blocks = f.blocks ++ g.blocks
  | nil, g => rfl
  | node b p k r, g => by simp [app, blocks, blocks_app r g]
theorem headOr_app : ∀ (f g : F P) (d : Option Nat), (f.app g).headOr d = f.headOr (g.headOr d)
  | nil, g, d => rfl
  | node b p k r, g, d => rfl
theorem lastOr_app : ∀ (f g : F P) (d : Option Nat), (f.app g).lastOr d = g.lastOr (f.lastOr d)
  | nil, g, d => rfl
  | node b p k r, g, d => by simp only [app, lastOr]; exact lastOr_app r g (some b)
theorem lastOr_mem : ∀ (f : F P) (d : Option Nat) (l : Nat), f.lastOr d = some l → l ∈ f.blocks ∨ d = some l
  | nil, d, l, h => .inr h
  | node b p k r, d, l, h => by
    rcases lastOr_mem r (some b) l h with h1 | h1
    · exact .inl (by simp [blocks, h1])
    · obtain rfl := Option.some.inj h1
      exact .inl (by simp [blocks])
theorem headOr_mem (f : F P) (l : Nat) (h : f.headOr none = some l) : l ∈ f.blocks := by
  cases f with
  | nil => cases h
  | node b p k r => injection h with h; simp [blocks, h]
theorem headOr_none {f : F P} (h : f.headOr none = none) : f = nil := by
  cases f with
  | nil => rfl
  | node b p k r => cases h
theorem lastOr_some : ∀ (f : F P) (b : Nat), f.lastOr (some b) ≠ none
  | nil, b => by simp [lastOr]
  | node b p k r, _ => lastOr_some r b
theorem lastOr_none {f : F P} (h : f.lastOr none = none) : f = nil := by
  cases f with
  | nil => rfl
  | node b p k r => exact absurd h (lastOr_some r b)
end F
open F
/-- The forest sits in the map: below a parent, between two neighbors. -/
def Sits (H : NM P) (par prev next : Option Nat) : F P → Prop
  | .nil => True
  | .node b p k r => H b = some ⟨par, k.headOr none, k.lastOr none, prev, r.headOr next, p⟩ ∧ Sits H (some b) none none k ∧ Sits H par (some b) next r
theorem Sits.congr {H K : NM P} : ∀ (f : F P) (par prev next : Option Nat), (∀ b ∈ f.blocks, K b = H b) → Sits H par prev next f → Sits K par prev next f
  | .nil, par, prev, next, h, hs => trivial
  | .node b p k r, par, prev, next, h, hs => by
    obtain ⟨h1, h2, h3⟩ := hs
    refine ⟨(h b (by simp [blocks])).trans h1, Sits.congr k _ _ _ (fun c hc => h c (by simp [blocks, hc])) h2, Sits.congr r _ _ _ (fun c hc => h c (by simp [blocks, hc])) h3⟩
theorem Sits.upd_out {H : NM P} {f : F P} {par prev next : Option Nat} (hs : Sits H par prev next f) {b : Nat} (hb : b ∉ f.blocks) (r : NR P) : Sits (upd H b r) par prev next f :=
  hs.congr f _ _ _ fun c hc => upd_other _ _ (fun e => hb (e ▸ hc))
theorem sits_app (H : NM P) : ∀ (f g : F P) (par prev next : Option Nat), Sits H par prev next (f.app g) ↔ Sits H par prev (g.headOr next) f ∧ Sits H par (f.lastOr prev) next g
  | .nil, g, par, prev, next => by simp [app, Sits, lastOr]
  | .node b p k r, g, par, prev, next => by
    simp only [app, Sits, lastOr]
    rw [sits_app H r g par (some b) next, headOr_app]
    constructor
    · rintro ⟨h1, h2, h3, h4⟩
      exact ⟨⟨h1, h2, h3⟩, h4⟩
    · rintro ⟨⟨h1, h2, h3⟩, h4⟩
      exact ⟨h1, h2, h3, h4⟩
theorem Sits.has {H : NM P} : ∀ (f : F P) (par prev next : Option Nat), Sits H par prev next f → ∀ b ∈ f.blocks, ∃ r, H b = some r
  | .nil, par, prev, next, h, b, hb => by cases hb
  | .node c p k r, par, prev, next, h, b, hb => by
    obtain ⟨h1, h2, h3⟩ := h
    simp only [blocks, List.mem_cons, List.mem_append] at hb
    rcases hb with rfl | hb | hb
    · exact ⟨_, h1⟩
    · exact Sits.has k _ _ _ h2 b hb
    · exact Sits.has r _ _ _ h3 b hb
/-- The last tree's next one, turned. -/
theorem Sits.setNext {H : NM P} : ∀ (f : F P) (par prev next v : Option Nat) (l : Nat), f.lastOr none = some l → f.blocks.Nodup → Sits H par prev next f →
    ∃ rl, H l = some rl ∧ rl.next = next ∧ Sits (upd H l { rl with next := v }) par prev v f
  | .nil, par, prev, next, v, l, hl, hd, hs => by cases hl
  | .node b p k r, par, prev, next, v, l, hl, hd, hs => by
    obtain ⟨h1, h2, h3⟩ := hs
    simp only [blocks, List.nodup_cons, List.nodup_append, List.mem_append, not_or] at hd
    obtain ⟨⟨hbk, hbr⟩, hk, hr, hkr⟩ := hd
    cases r with
    | nil =>
      simp only [lastOr] at hl
      obtain rfl := Option.some.inj hl
      refine ⟨_, h1, rfl, ?_, h2.upd_out hbk _, trivial⟩
      rw [upd_same]
      rfl
    | node b' p' k' r' =>
      have hl' : (F.node b' p' k' r').lastOr none = some l := hl
      obtain ⟨rl, e1, e2, e3⟩ := Sits.setNext (F.node b' p' k' r') par (some b) next v l hl' hr h3
      have hlm : l ∈ (F.node b' p' k' r').blocks := by
        rcases lastOr_mem _ _ _ hl' with h | h
        · exact h
        · cases h
      have hlb : b ≠ l := fun e => hbr (e ▸ hlm)
      refine ⟨rl, e1, e2, ?_, h2.upd_out (fun h => hkr l h l hlm rfl) _, e3⟩
      rw [upd_other _ _ hlb]
      exact h1
/-- The first tree's previous one, turned. -/
theorem Sits.setPrev {H : NM P} (f : F P) (par prev next v : Option Nat) (l : Nat) (hl : f.headOr none = some l) (hd : f.blocks.Nodup) (hs : Sits H par prev next f) :
    ∃ rl, H l = some rl ∧ rl.prev = prev ∧ Sits (upd H l { rl with prev := v }) par v next f := by
  cases f with
  | nil => cases hl
  | node b p k r =>
    obtain ⟨h1, h2, h3⟩ := hs
    simp only [blocks, List.nodup_cons, List.nodup_append, List.mem_append, not_or] at hd
    obtain ⟨⟨hbk, hbr⟩, hk, hr, hkr⟩ := hd
    obtain rfl := Option.some.inj hl
    refine ⟨_, h1, rfl, ?_, h2.upd_out hbk _, h3.upd_out hbr _⟩
    rw [upd_same]
namespace F
/-- The children of the node of a block. -/
def kidsOf (n : Nat) : F P → Option (F P)
  | nil => none
  | node b p k r => if b = n then some k else match k.kidsOf n with
    | some x => some x
    | none => r.kidsOf n
/-- The children of the node of a block are others. -/
def setKids : F P → Nat → F P → F P
  | nil, n, x => nil
  | node b p k r, n, x => if b = n then node b p x r else node b p (k.setKids n x) (r.setKids n x)
theorem headOr_setKids (n : Nat) (x : F P) (d : Option Nat) (f : F P) : (f.setKids n x).headOr d = f.headOr d := by
  cases f with
  | nil => rfl
  | node b p k r =>
    rw [setKids]
    split <;> rfl
theorem lastOr_setKids (n : Nat) (x : F P) : ∀ (f : F P) (d : Option Nat), (f.setKids n x).lastOr d = f.lastOr d
  | nil, d => rfl
  | node b p k r, d => by
    rw [setKids]
    split
    · rfl
    · simp only [lastOr]
      exact lastOr_setKids n x r (some b)
theorem setKids_out (n : Nat) (x : F P) : ∀ (f : F P), n ∉ f.blocks → f.setKids n x = f
  | nil, h => rfl
  | node b p k r, h => by
    simp only [blocks, List.mem_cons, List.mem_append, not_or] at h
    rw [setKids, if_neg (fun e => h.1 e.symm), setKids_out n x k h.2.1, setKids_out n x r h.2.2]
theorem kidsOf_out (n : Nat) : ∀ (f : F P), n ∉ f.blocks → f.kidsOf n = none
  | nil, h => rfl
  | node b p k r, h => by
    simp only [blocks, List.mem_cons, List.mem_append, not_or] at h
    rw [kidsOf, if_neg (fun e => h.1 e.symm), kidsOf_out n k h.2.1]
    exact kidsOf_out n r h.2.2
theorem kidsOf_mem {n : Nat} : ∀ {f : F P} {k : F P}, f.kidsOf n = some k → n ∈ f.blocks ∧ ∀ b ∈ k.blocks, b ∈ f.blocks
  | nil, k, h => by cases h
  | node b p k r, x, h => by
    rw [kidsOf] at h
    split at h
    · rename_i e
      obtain rfl := Option.some.inj h
      exact ⟨by simp [blocks, e], fun b hb => by simp [blocks, hb]⟩
    · split at h
      · rename_i y hy
        obtain rfl := Option.some.inj h
        have := kidsOf_mem hy
        exact ⟨by simp [blocks, this.1], fun b hb => by simp [blocks, this.2 b hb]⟩
      · have := kidsOf_mem h
        exact ⟨by simp [blocks, this.1], fun b hb => by simp [blocks, this.2 b hb]⟩
end F
/-- What the map says at a node whose children are known. -/
theorem Sits.at_kids {H : NM P} {n : Nat} : ∀ {f : F P} {par prev next : Option Nat} {k : F P}, f.kidsOf n = some k → Sits H par prev next f →
    ∃ rn, H n = some rn ∧ rn.first = k.headOr none ∧ rn.last = k.lastOr none ∧ Sits H (some n) none none k
  | .nil, _, _, _, _, hk, hs => by cases hk
  | .node b p kk r, par, prev, next, k, hk, hs => by
    obtain ⟨h1, h2, h3⟩ := hs
    rw [kidsOf] at hk
    split at hk
    · rename_i e
      subst e
      obtain rfl := Option.some.inj hk
      exact ⟨_, h1, rfl, rfl, h2⟩
    · split at hk
      · rename_i x hx
        obtain rfl := Option.some.inj hk
        exact Sits.at_kids hx h2
      · exact Sits.at_kids hk h3
/-- A node's children are turned: all else is as it was. -/
theorem Sits.setKids {H K : NM P} {n : Nat} {x : F P} {rn : NR P} (hK : K n = some { rn with first := x.headOr none, last := x.lastOr none }) (hx : Sits K (some n) none none x) (hn : H n = some rn) :
    ∀ {f : F P} {par prev next : Option Nat} {k : F P}, f.blocks.Nodup → f.kidsOf n = some k → (∀ b ∈ f.blocks, b ≠ n → b ∉ k.blocks → K b = H b) → Sits H par prev next f → Sits K par prev next (f.setKids n x)
  | .nil, _, _, _, _, hd, hk, ho, hs => trivial
  | .node b p kk r, par, prev, next, k, hd, hk, ho, hs => by
    obtain ⟨h1, h2, h3⟩ := hs
    simp only [blocks, List.nodup_cons, List.nodup_append, List.mem_append, not_or] at hd
    obtain ⟨⟨hbk, hbr⟩, hdk, hdr, hkr⟩ := hd
    rw [kidsOf] at hk
    rw [F.setKids]
    split at hk
    · rename_i e
      subst e
      obtain rfl := Option.some.inj hk
      rw [if_pos rfl]
      obtain rfl := Option.some.inj (hn.symm.trans h1)
      refine ⟨hK, hx, h3.congr r _ _ _ fun c hc => ho c (by simp [blocks, hc]) (fun e => hbr (e ▸ hc)) (fun h => hkr c h c hc rfl)⟩
    · rename_i hbn
      rw [if_neg hbn]
      split at hk
      · rename_i y hy
        obtain rfl := Option.some.inj hk
        have hm := kidsOf_mem hy
        have hnr : n ∉ r.blocks := fun h => hkr n hm.1 n h rfl
        refine ⟨?_, Sits.setKids hK hx hn hdk hy (fun c hc => ho c (by simp [blocks, hc])) h2, ?_⟩
        · rw [headOr_setKids, lastOr_setKids, headOr_setKids]
          rw [ho b (by simp [blocks]) hbn (fun h => hbk (hm.2 b h))]
          exact h1
        · rw [setKids_out n x r hnr]
          exact h3.congr r _ _ _ fun c hc => ho c (by simp [blocks, hc]) (fun e => hnr (e ▸ hc)) (fun h => hkr c (hm.2 c h) c hc rfl)
      · rename_i hy
        have hm := kidsOf_mem hk
        have hnk : n ∉ kk.blocks := fun h => hkr n h n hm.1 rfl
        refine ⟨?_, ?_, Sits.setKids hK hx hn hdr hk (fun c hc => ho c (by simp [blocks, hc])) h3⟩
        · rw [headOr_setKids, lastOr_setKids, headOr_setKids]
          rw [ho b (by simp [blocks]) hbn (fun h => hbr (hm.2 b h))]
          exact h1
        · rw [setKids_out n x kk hnk]
          exact h2.congr kk _ _ _ fun c hc => ho c (by simp [blocks, hc]) (fun e => hnk (e ▸ hc)) (fun h => hkr c hc c (hm.2 c h) rfl)
/-- One node's record is turned. -/
def modN (H : NM P) (b : Nat) (g : NR P → NR P) : NM P := match H b with
  | some r => upd H b (g r)
  | none => H
theorem modN_some {H : NM P} {b : Nat} {r : NR P} (h : H b = some r) (g : NR P → NR P) : modN H b g = upd H b (g r) := by rw [modN, h]
theorem modN_at {H : NM P} {b : Nat} {r : NR P} (h : H b = some r) (g : NR P → NR P) : modN H b g b = some (g r) := by rw [modN_some h, upd_same]
theorem modN_other (H : NM P) {b x : Nat} (g : NR P → NR P) (hx : x ≠ b) : modN H b g x = H x := by
  cases e : H b with
  | none => rw [modN, e]
  | some r => rw [modN_some e, upd_other _ _ hx]
def modO (H : NM P) (b : Option Nat) (g : NR P → NR P) : NM P := match b with
  | some b => modN H b g
  | none => H
theorem modO_at {H : NM P} {b : Nat} {r : NR P} (h : H b = some r) (g : NR P → NR P) : modO H (some b) g b = some (g r) := modN_at h g
theorem modO_other (H : NM P) {b : Option Nat} {x : Nat} (g : NR P → NR P) (hx : b ≠ some x) : modO H b g x = H x := by
  cases b with
  | none => rfl
  | some b => exact modN_other H g (fun e => hx (by rw [e]))
/-- InsertBefore: c stands among n's children, ahead of old, or as the last one. -/
def insertA (H : NM P) (n c : Nat) : Option Nat → NM P
  | some p => modN H p (fun r => { r with next := some c })
  | none => modN H n (fun r => { r with first := some c })
def insertB (H : NM P) (n c : Nat) : Option Nat → NM P
  | some o => modN H o (fun r => { r with prev := some c })
  | none => modN H n (fun r => { r with last := some c })
def insertC (H : NM P) (n c : Nat) (prev old : Option Nat) : NM P :=
  modN (modN (insertB (insertA H n c prev) n c old) c (fun r => { r with parent := some n })) c (fun r => { r with prev := prev })
def insertH (H : NM P) (n c : Nat) (prev old : Option Nat) : NM P :=
  modN (insertC H n c prev old) c (fun r => { r with next := old })
theorem insertC_c {H : NM P} {n c : Nat} {prev old : Option Nat} {rc : NR P} (hc : H c = some rc) (h1 : prev ≠ some c) (h2 : old ≠ some c) (h3 : n ≠ c) :
    insertC H n c prev old c = some { rc with parent := some n, prev := prev } := by
  have e1 : insertA H n c prev c = some rc := by
    cases prev with
    | none => exact (modN_other _ _ (fun e => h3 e.symm)).trans hc
    | some p => exact (modN_other _ _ (fun e => h1 (by rw [e]))).trans hc
  have e2 : insertB (insertA H n c prev) n c old c = some rc := by
    cases old with
    | none => exact (modN_other _ _ (fun e => h3 e.symm)).trans e1
    | some p => exact (modN_other _ _ (fun e => h2 (by rw [e]))).trans e1
  exact modN_at (modN_at e2 _) _
theorem insertH_c {H : NM P} {n c : Nat} {prev old : Option Nat} {rc : NR P} (hc : H c = some rc) (h1 : prev ≠ some c) (h2 : old ≠ some c) (h3 : n ≠ c) :
    insertH H n c prev old c = some { rc with parent := some n, prev := prev, next := old } := modN_at (insertC_c hc h1 h2 h3) _
/-- Where c's next one is right already, the last store is none. -/
theorem insertH_next {H : NM P} {n c : Nat} {prev old : Option Nat} {rc : NR P} (hc : H c = some rc) (hx : rc.next = old) (h1 : prev ≠ some c) (h2 : old ≠ some c) (h3 : n ≠ c) :
    insertH H n c prev old = insertC H n c prev old := by
  have e := insertC_c hc h1 h2 h3
  rw [insertH, modN_some e]
  subst hx
  exact upd_self _ e
theorem insertH_x {H : NM P} {n c : Nat} {prev old : Option Nat} {x : Nat} (hx : x ≠ c) :
    insertH H n c prev old x = insertB (insertA H n c prev) n c old x := by
  unfold insertH insertC
  rw [modN_other _ _ hx, modN_other _ _ hx, modN_other _ _ hx]
/-- RemoveChild: c stands among n's children no more. -/
def removeH (H : NM P) (n c : Nat) (prev next : Option Nat) (isFirst isLast : Bool) : NM P :=
  let H1 := if isFirst then modN H n (fun r => { r with first := next }) else H
  let H2 := modO H1 next (fun r => { r with prev := prev })
  let H3 := if isLast then modN H2 n (fun r => { r with last := prev }) else H2
  let H4 := modO H3 prev (fun r => { r with next := next })
  let H5 := modN H4 c (fun r => { r with parent := none })
  let H6 := modN H5 c (fun r => { r with prev := none })
  modN H6 c (fun r => { r with next := none })
theorem insert_sits {H : NM P} {f a b ck : F P} {n c : Nat} {q : P} {par prev next : Option Nat} (hs : Sits H par prev next f) (hd : f.blocks.Nodup) (hk : f.kidsOf n = some (a.app b))
    (hnk : n ∉ (a.app b).blocks) (hdk : (a.app b).blocks.Nodup)
    (hc : Sits H none none none (.node c q ck .nil)) (hcd : (c :: ck.blocks).Nodup) (hdis : ∀ x ∈ c :: ck.blocks, x ∉ f.blocks) :
    Sits (insertH H n c (a.lastOr none) (b.headOr none)) par prev next (f.setKids n (a.app (.node c q ck b))) ∧ (∀ x, x ∉ f.blocks → x ≠ c → insertH H n c (a.lastOr none) (b.headOr none) x = H x) := by
  obtain ⟨rn, hn, hn1, hn2, hks⟩ := hs.at_kids hk
  obtain ⟨hsa, hsb⟩ := (sits_app H a b _ _ _).1 hks
  obtain ⟨hcc, hck, _⟩ := hc
  have hm := kidsOf_mem hk
  rw [blocks_app] at hnk hdk hm
  simp only [List.mem_append, not_or] at hnk
  obtain ⟨hda, hdb, hab⟩ := List.nodup_append.1 hdk
  have hcf : c ∉ f.blocks := hdis c (List.mem_cons_self)
  have hnc : n ≠ c := fun e => hcf (e ▸ hm.1)
  have hca : c ∉ a.blocks := fun h => hcf (hm.2 c (List.mem_append.2 (.inl h)))
  have hcb : c ∉ b.blocks := fun h => hcf (hm.2 c (List.mem_append.2 (.inr h)))
  have hp : ∀ p, a.lastOr none = some p → p ∈ a.blocks := fun p h => (lastOr_mem a none p h).resolve_right (by simp)
  have ho : ∀ o, b.headOr none = some o → o ∈ b.blocks := fun o h => headOr_mem b o h
  have hpc : a.lastOr none ≠ some c := fun e => hca (hp c e)
  have hoc : b.headOr none ≠ some c := fun e => hcb (ho c e)
  have hKc := insertH_c (n := n) (prev := a.lastOr none) (old := b.headOr none) hcc hpc hoc hnc
  have hKx := fun x (hx : x ≠ c) => insertH_x (H := H) (n := n) (prev := a.lastOr none) (old := b.headOr none) hx
  generalize insertH H n c (a.lastOr none) (b.headOr none) = K at hKc hKx
  -- the children of n
  have hKo : ∀ x, x ≠ c → x ≠ n → a.lastOr none ≠ some x → b.headOr none ≠ some x → K x = H x := by
    intro x h1 h2 h3 h4
    rw [hKx x h1]
    cases e1 : a.lastOr none with
    | none =>
      cases e2 : b.headOr none with
      | none => exact (modN_other _ _ h2).trans (modN_other _ _ h2)
      | some o => exact (modN_other _ _ (fun e => h4 (by rw [e2, e]))).trans (modN_other _ _ h2)
    | some p =>
      have hxp : x ≠ p := fun e => h3 (by rw [e1, e])
      cases e2 : b.headOr none with
      | none => exact (modN_other _ _ h2).trans (modN_other _ _ hxp)
      | some o => exact (modN_other _ _ (fun e => h4 (by rw [e2, e]))).trans (modN_other _ _ hxp)
  have hKn : K n = some { rn with first := (a.app (.node c q ck b)).headOr none, last := (a.app (.node c q ck b)).lastOr none } := by
    rw [hKx n hnc, headOr_app, lastOr_app, show (F.node c q ck b).headOr none = some c from rfl, show (F.node c q ck b).lastOr (a.lastOr none) = b.lastOr (some c) from rfl]
    rw [headOr_app] at hn1
    rw [lastOr_app] at hn2
    cases e1 : a.lastOr none with
    | none =>
      obtain rfl := lastOr_none e1
      cases e2 : b.headOr none with
      | none =>
        obtain rfl := headOr_none e2
        have := modN_at (modN_at hn (fun r => { r with first := some c })) (fun r => { r with last := some c })
        exact this
      | some o =>
        have hno : n ≠ o := fun e => hnk.2 (e ▸ ho o e2)
        cases b with
        | nil => cases e2
        | node b' p' k' r' =>
          injection e2 with e2
          subst e2
          refine (modN_other _ _ hno).trans ((modN_at hn _).trans ?_)
          rw [show (F.node b' p' k' r').lastOr (some c) = rn.last from hn2.symm]
          rfl
    | some p =>
      have hnp : n ≠ p := fun e => hnk.1 (e ▸ hp p e1)
      have hh : a.headOr (some c) = rn.first := by
        cases a with
        | nil => cases e1
        | node b' p' k' r' => exact hn1.symm
      cases e2 : b.headOr none with
      | none =>
        obtain rfl := headOr_none e2
        refine (modN_at ((modN_other _ _ hnp).trans hn) _).trans ?_
        rw [hh]
        rfl
      | some o =>
        have hno : n ≠ o := fun e => hnk.2 (e ▸ ho o e2)
        refine (modN_other _ _ hno).trans ((modN_other _ _ hnp).trans (hn.trans ?_))
        rw [hh]
        cases b with
        | nil => cases e2
        | node b' p' k' r' =>
          rw [show (F.node b' p' k' r').lastOr (some c) = rn.last from hn2.symm]
  have hKa : Sits K (some n) none (some c) a := by
    cases e1 : a.lastOr none with
    | none =>
      obtain rfl := lastOr_none e1
      trivial
    | some p =>
      obtain ⟨rp, h1, h2, h3⟩ := hsa.setNext a _ _ _ (some c) p e1 hda
      refine h3.congr a _ _ _ fun x hx => ?_
      have hxc : x ≠ c := fun e => hca (e ▸ hx)
      have hxn : x ≠ n := fun e => hnk.1 (e ▸ hx)
      have hxo : b.headOr none ≠ some x := fun e => hab x hx x (ho x e) rfl
      by_cases hxp : x = p
      · subst hxp
        rw [upd_same, hKx x hxc, e1]
        cases e2 : b.headOr none with
        | none => exact (modN_other _ _ hxn).trans (modN_at h1 _)
        | some o => exact (modN_other _ _ (fun e => hxo (by rw [e2, e]))).trans (modN_at h1 _)
      · rw [upd_other _ _ hxp]
        exact hKo x hxc hxn (fun e => hxp (by rw [e1] at e; exact (Option.some.inj e).symm)) hxo
  have hKb : Sits K (some n) (some c) none b := by
    cases e2 : b.headOr none with
    | none =>
      obtain rfl := headOr_none e2
      trivial
    | some o =>
      obtain ⟨ro, h1, h2, h3⟩ := hsb.setPrev b _ _ _ (some c) o e2 hdb
      refine h3.congr b _ _ _ fun x hx => ?_
      have hxc : x ≠ c := fun e => hcb (e ▸ hx)
      have hxn : x ≠ n := fun e => hnk.2 (e ▸ hx)
      have hxp : a.lastOr none ≠ some x := fun e => hab x (hp x e) x hx rfl
      by_cases hxo : x = o
      · subst hxo
        rw [upd_same, hKx x hxc, e2]
        refine modN_at ?_ _
        cases e1 : a.lastOr none with
        | none => exact (modN_other _ _ hxn).trans h1
        | some p => exact (modN_other _ _ (fun e => hxp (by rw [e1, e]))).trans h1
      · rw [upd_other _ _ hxo]
        exact hKo x hxc hxn hxp (fun e => hxo (by rw [e2] at e; exact (Option.some.inj e).symm))
  have hKk : Sits K (some n) none none (a.app (.node c q ck b)) := by
    rw [sits_app]
    refine ⟨hKa, hKc, hck.congr ck _ _ _ fun x hx => ?_, hKb⟩
    have hxf := hdis x (List.mem_cons_of_mem _ hx)
    exact hKo x (fun e => (List.nodup_cons.1 hcd).1 (e ▸ hx)) (fun e => hxf (e ▸ hm.1)) (fun e => hxf (hm.2 x (List.mem_append.2 (.inl (hp x e))))) (fun e => hxf (hm.2 x (List.mem_append.2 (.inr (ho x e)))))
  refine ⟨Sits.setKids hKn hKk hn hd hk (fun x hx hxn hxk => ?_) hs, fun x hx hxc => ?_⟩
  · rw [blocks_app] at hxk
    simp only [List.mem_append, not_or] at hxk
    exact hKo x (fun e => hcf (e ▸ hx)) hxn (fun e => hxk.1 (hp x e)) (fun e => hxk.2 (ho x e))
  · exact hKo x hxc (fun e => hx (e ▸ hm.1)) (fun e => hx (hm.2 x (List.mem_append.2 (.inl (hp x e))))) (fun e => hx (hm.2 x (List.mem_append.2 (.inr (ho x e)))))
theorem removeH_c {H : NM P} {n c : Nat} {prev next : Option Nat} {i l : Bool} {rc : NR P} (hc : H c = some rc) (h1 : prev ≠ some c) (h2 : next ≠ some c) (h3 : n ≠ c) :
    removeH H n c prev next i l c = some { rc with parent := none, prev := none, next := none } := by
  unfold removeH
  refine modN_at (r := { rc with parent := none, prev := none }) (modN_at (r := { rc with parent := none }) (modN_at (r := rc) ?_ _) _) _
  refine (modO_other _ _ h1).trans ?_
  have : ∀ (K : NM P), K c = some rc → (if l = true then modN K n (fun r => { r with last := prev }) else K) c = some rc := by
    intro K hK
    split
    · exact (modN_other _ _ (fun e => h3 e.symm)).trans hK
    · exact hK
  refine this _ ((modO_other _ _ h2).trans ?_)
  split
  · exact (modN_other _ _ (fun e => h3 e.symm)).trans hc
  · exact hc
theorem removeH_n {H : NM P} {n c : Nat} {prev next : Option Nat} {i l : Bool} {rn : NR P} (hn : H n = some rn) (h1 : prev ≠ some n) (h2 : next ≠ some n) (h3 : n ≠ c) :
    removeH H n c prev next i l n = some { rn with first := if i then next else rn.first, last := if l then prev else rn.last } := by
  unfold removeH
  refine (modN_other _ _ h3).trans ((modN_other _ _ h3).trans ((modN_other _ _ h3).trans ((modO_other _ _ h1).trans ?_)))
  have e1 : (if i = true then modN H n (fun r => { r with first := next }) else H) n = some { rn with first := if i then next else rn.first } := by
    cases i with
    | true => exact modN_at hn _
    | false => exact hn
  have e2 := (modO_other (x := n) (if i = true then modN H n (fun r => { r with first := next }) else H) (fun r => { r with prev := prev }) h2).trans e1
  cases l with
  | true => exact modN_at e2 _
  | false => exact e2
theorem removeH_x {H : NM P} {n c : Nat} {prev next : Option Nat} {i l : Bool} {x : Nat} (h1 : x ≠ c) (h2 : x ≠ n) :
    removeH H n c prev next i l x = modO (modO H next (fun r => { r with prev := prev })) prev (fun r => { r with next := next }) x := by
  unfold removeH
  refine (modN_other _ _ h1).trans ((modN_other _ _ h1).trans ((modN_other _ _ h1).trans ?_))
  have key : ∀ (A B : NM P), A x = B x → ∀ (o : Option Nat) g, modO A o g x = modO B o g x := by
    intro A B h o g
    cases o with
    | none => exact h
    | some o =>
      by_cases e : x = o
      · subst e
        show modN A x g x = modN B x g x
        cases eB : B x with
        | none =>
          have eA := h.trans eB
          rw [modN, modN, eA, eB]
          exact eA.trans eB.symm
        | some r => exact (modN_at (h.trans eB) g).trans (modN_at eB g).symm
      · exact (modN_other _ _ e).trans (h.trans (modN_other _ _ e).symm)
  refine key _ _ ?_ _ _
  have e3 : ∀ (K : NM P), (if l = true then modN K n (fun r => { r with last := prev }) else K) x = K x := by
    intro K
    split
    · exact modN_other _ _ h2
    · rfl
  refine (e3 _).trans (key _ _ ?_ _ _)
  split
  · exact modN_other _ _ h2
  · rfl
theorem remove_sits {H : NM P} {f a b ck : F P} {n c : Nat} {q : P} {par prev next : Option Nat} (hs : Sits H par prev next f) (hd : f.blocks.Nodup) (hk : f.kidsOf n = some (a.app (.node c q ck b)))
    (hnk : n ∉ (a.app (.node c q ck b)).blocks) (hdk : (a.app (.node c q ck b)).blocks.Nodup) :
    ∃ rn rc, H n = some rn ∧ H c = some rc ∧ rn.first = (a.app (.node c q ck b)).headOr none ∧ rn.last = (a.app (.node c q ck b)).lastOr none ∧ rc = ⟨some n, ck.headOr none, ck.lastOr none, a.lastOr none, b.headOr none, q⟩ ∧
      ∀ i l, (i = true ↔ rn.first = some c) → (l = true ↔ rn.last = some c) →
        Sits (removeH H n c (a.lastOr none) (b.headOr none) i l) par prev next (f.setKids n (a.app b)) ∧ Sits (removeH H n c (a.lastOr none) (b.headOr none) i l) none none none (.node c q ck .nil) ∧ (∀ x, x ∉ f.blocks → removeH H n c (a.lastOr none) (b.headOr none) i l x = H x) := by
  obtain ⟨rn, hn, hn1, hn2, hks⟩ := hs.at_kids hk
  obtain ⟨hsa, hsc⟩ := (sits_app H a _ _ _ _).1 hks
  obtain ⟨hcc, hck, hsb⟩ := hsc
  have hm := kidsOf_mem hk
  rw [blocks_app] at hnk hdk hm
  simp only [blocks] at hnk hdk hm
  simp only [List.mem_append, List.mem_cons, not_or] at hnk
  obtain ⟨hda, hdcb, hacb⟩ := List.nodup_append.1 hdk
  obtain ⟨hcb0, hdckb⟩ := List.nodup_cons.1 hdcb
  obtain ⟨hdck, hdb, hckb⟩ := List.nodup_append.1 hdckb
  simp only [List.mem_append, not_or] at hcb0
  obtain ⟨hna, hnc, hnck, hnb⟩ := hnk
  have hca : c ∉ a.blocks := fun h => hacb c h c List.mem_cons_self rfl
  have hab : ∀ x ∈ a.blocks, x ∉ b.blocks := fun x h h' => hacb x h x (List.mem_cons_of_mem _ (List.mem_append.2 (.inr h'))) rfl
  have hack : ∀ x ∈ a.blocks, x ∉ ck.blocks := fun x h h' => hacb x h x (List.mem_cons_of_mem _ (List.mem_append.2 (.inl h'))) rfl
  have hp : ∀ p, a.lastOr none = some p → p ∈ a.blocks := fun p h => (lastOr_mem a none p h).resolve_right (by simp)
  have ho : ∀ o, b.headOr none = some o → o ∈ b.blocks := fun o h => headOr_mem b o h
  refine ⟨rn, _, hn, hcc, hn1, hn2, rfl, fun i l hi hl => ?_⟩
  have hKc := removeH_c (n := n) (prev := a.lastOr none) (next := b.headOr none) (i := i) (l := l) hcc (fun e => hca (hp c e)) (fun e => hcb0.2 (ho c e)) hnc
  have hKn := removeH_n (c := c) (prev := a.lastOr none) (next := b.headOr none) (i := i) (l := l) hn (fun e => hna (hp n e)) (fun e => hnb (ho n e)) hnc
  have hKx := fun x (h1 : x ≠ c) (h2 : x ≠ n) => removeH_x (H := H) (prev := a.lastOr none) (next := b.headOr none) (i := i) (l := l) h1 h2
  generalize removeH H n c (a.lastOr none) (b.headOr none) i l = K at hKc hKn hKx
  have hKo : ∀ x, x ≠ c → x ≠ n → a.lastOr none ≠ some x → b.headOr none ≠ some x → K x = H x := fun x h1 h2 h3 h4 => (hKx x h1 h2).trans ((modO_other _ _ h3).trans (modO_other _ _ h4))
  have hKa : Sits K (some n) none (b.headOr none) a := by
    cases e1 : a.lastOr none with
    | none =>
      obtain rfl := lastOr_none e1
      trivial
    | some p =>
      obtain ⟨rp, h1, h2, h3⟩ := hsa.setNext a _ _ _ (b.headOr none) p e1 hda
      refine h3.congr a _ _ _ fun x hx => ?_
      have hxc : x ≠ c := fun e => hca (e ▸ hx)
      have hxn : x ≠ n := fun e => hna (e ▸ hx)
      have hxo : b.headOr none ≠ some x := fun e => hab x hx (ho x e)
      by_cases hxp : x = p
      · subst hxp
        rw [upd_same, hKx x hxc hxn, e1]
        exact modO_at ((modO_other _ _ hxo).trans h1) _
      · rw [upd_other _ _ hxp]
        exact hKo x hxc hxn (fun e => hxp (by rw [e1] at e; exact (Option.some.inj e).symm)) hxo
  have hKb : Sits K (some n) (a.lastOr none) none b := by
    cases e2 : b.headOr none with
    | none =>
      obtain rfl := headOr_none e2
      trivial
    | some o =>
      obtain ⟨ro, h1, h2, h3⟩ := hsb.setPrev b _ _ _ (a.lastOr none) o e2 hdb
      refine h3.congr b _ _ _ fun x hx => ?_
      have hxc : x ≠ c := fun e => hcb0.2 (e ▸ hx)
      have hxn : x ≠ n := fun e => hnb (e ▸ hx)
      have hxp : a.lastOr none ≠ some x := fun e => hab x (hp x e) hx
      by_cases hxo : x = o
      · subst hxo
        rw [upd_same, hKx x hxc hxn, e2]
        exact (modO_other _ _ hxp).trans (modO_at h1 _)
      · rw [upd_other _ _ hxo]
        exact hKo x hxc hxn hxp (fun e => hxo (by rw [e2] at e; exact (Option.some.inj e).symm))
  have hKk : Sits K (some n) none none (a.app b) := (sits_app K a b _ _ _).2 ⟨hKa, hKb⟩
  have hKn' : K n = some { rn with first := (a.app b).headOr none, last := (a.app b).lastOr none } := by
    rw [hKn]
    have e1 : (if i = true then b.headOr none else rn.first) = (a.app b).headOr none := by
      rw [headOr_app] at hn1 ⊢
      cases a with
      | nil =>
        have : rn.first = some c := hn1
        rw [if_pos (hi.2 this)]
        rfl
      | node b' p' k' r' =>
        have h1 : rn.first = some b' := hn1
        rw [if_neg (fun e => ?_), h1]
        · rfl
        · rw [h1] at hi
          exact hca (by rw [← Option.some.inj (hi.1 e)]; simp [blocks])
    have e2 : (if l = true then a.lastOr none else rn.last) = (a.app b).lastOr none := by
      rw [lastOr_app] at hn2 ⊢
      cases b with
      | nil =>
        have : rn.last = some c := hn2
        rw [if_pos (hl.2 this)]
        rfl
      | node b' p' k' r' =>
        have h1 : rn.last = r'.lastOr (some b') := hn2
        rw [if_neg (fun e => ?_), h1]
        · rfl
        · have h2 := hl.1 e
          rw [h1] at h2
          rcases lastOr_mem r' (some b') c h2 with h3 | h3
          · exact hcb0.2 (by simp [blocks, h3])
          · exact hcb0.2 (by simp [blocks, (Option.some.inj h3).symm])
    rw [e1, e2]
  refine ⟨Sits.setKids hKn' hKk hn hd hk (fun x hx hxn hxk => ?_) hs, ⟨hKc, hck.congr ck _ _ _ fun x hx => ?_, trivial⟩, fun x hx => ?_⟩
  · rw [blocks_app] at hxk
    simp only [blocks, List.mem_append, List.mem_cons, not_or] at hxk
    exact hKo x hxk.2.1 hxn (fun e => hxk.1 (hp x e)) (fun e => hxk.2.2.2 (ho x e))
  · exact hKo x (fun e => hcb0.1 (e ▸ hx)) (fun e => hnck (e ▸ hx)) (fun e => hack x (hp x e) hx) (fun e => hckb x hx x (ho x e) rfl)
  · exact hKo x (fun e => hx (hm.2 x (by simp [e]))) (fun e => hx (e ▸ hm.1)) (fun e => hx (hm.2 x (by simp [hp x e]))) (fun e => hx (hm.2 x (by simp [ho x e])))
/-- What one node says is turned; all else is as it was. -/
def F.setPay : F P → Nat → P → F P
  | nil, n, q => nil
  | node b p k r, n, q => node b (if b = n then q else p) (k.setPay n q) (r.setPay n q)
theorem F.headOr_setPay (n : Nat) (q : P) (d : Option Nat) (f : F P) : (f.setPay n q).headOr d = f.headOr d := by cases f <;> rfl
theorem F.lastOr_setPay (n : Nat) (q : P) : ∀ (f : F P) (d : Option Nat), (f.setPay n q).lastOr d = f.lastOr d
  | nil, d => rfl
  | node b p k r, d => F.lastOr_setPay n q r (some b)
theorem Sits.setPay {H : NM P} {n : Nat} {q : P} {rn : NR P} (hn : H n = some rn) : ∀ (f : F P) (par prev next : Option Nat), Sits H par prev next f → Sits (upd H n { rn with pay := q }) par prev next (f.setPay n q)
  | .nil, _, _, _, hs => trivial
  | .node b p k r, par, prev, next, hs => by
    obtain ⟨h1, h2, h3⟩ := hs
    refine ⟨?_, Sits.setPay hn k _ _ _ h2, Sits.setPay hn r _ _ _ h3⟩
    rw [headOr_setPay, lastOr_setPay, headOr_setPay]
    by_cases hb : b = n
    · subst hb
      rw [if_pos rfl, upd_same]
      obtain rfl := Option.some.inj (hn.symm.trans h1)
      rfl
    · rw [if_neg hb, upd_other _ _ hb]
      exact h1
namespace F
def len : F P → Nat
  | nil => 0
  | node _ _ _ r => r.len + 1
theorem len_app : ∀ f g : F P, (f.app g).len = f.len + g.len
  | nil, g => by simp [app, len]
  | node b p k r, g => by simp only [app, len, len_app r g]; omega
theorem kidsOf_app (n : Nat) : ∀ (f g : F P), n ∉ f.blocks → (f.app g).kidsOf n = g.kidsOf n
  | nil, g, h => rfl
  | node b p k r, g, h => by
    simp only [blocks, List.mem_cons, List.mem_append, not_or] at h
    rw [app, kidsOf, if_neg (fun e => h.1 e.symm), kidsOf_out n k h.2.1]
    exact kidsOf_app n r g h.2.2
theorem setKids_app (n : Nat) (x : F P) : ∀ (f g : F P), n ∉ f.blocks → (f.app g).setKids n x = f.app (g.setKids n x)
  | nil, g, h => rfl
  | node b p k r, g, h => by
    simp only [blocks, List.mem_cons, List.mem_append, not_or] at h
    rw [app, setKids, if_neg (fun e => h.1 e.symm), setKids_out n x k h.2.1, setKids_app n x r g h.2.2]
    rfl
/-- The blocks outside of a node's children, whatever these are. -/
theorem outer {n : Nat} : ∀ (f : F P) (k : F P), f.kidsOf n = some k → f.blocks.Nodup → ∃ o : List Nat, f.blocks.Perm (o ++ k.blocks) ∧ n ∈ o ∧ ∀ x : F P, (f.setKids n x).blocks.Perm (o ++ x.blocks)
  | nil, k, h, hd => by cases h
  | node b p kk r, k, h, hd => by
    simp only [blocks, List.nodup_cons, List.nodup_append, List.mem_append, not_or] at hd
    obtain ⟨⟨hbk, hbr⟩, hdk, hdr, hkr⟩ := hd
    rw [kidsOf] at h
    split at h
    · rename_i e
      obtain rfl := Option.some.inj h
      refine ⟨b :: r.blocks, ?_, by simp [e], fun x => ?_⟩
      · simp only [blocks, List.cons_append]
        exact (List.perm_append_comm).cons b
      · rw [setKids, if_pos e]
        simp only [blocks, List.cons_append]
        exact (List.perm_append_comm).cons b
    · rename_i e
      split at h
      · rename_i y hy
        obtain rfl := Option.some.inj h
        obtain ⟨o, h1, h2, h3⟩ := outer kk y hy hdk
        have hnr : n ∉ r.blocks := fun hh => hkr n (kidsOf_mem hy).1 n hh rfl
        refine ⟨b :: (o ++ r.blocks), ?_, by simp [h2], fun x => ?_⟩
        · simp only [blocks, List.cons_append]
          refine List.Perm.cons b ((h1.append_right _).trans ?_)
          rw [List.append_assoc, List.append_assoc]
          exact List.Perm.append_left o List.perm_append_comm
        · rw [setKids, if_neg e, setKids_out n x r hnr]
          simp only [blocks, List.cons_append]
          refine List.Perm.cons b (((h3 x).append_right _).trans ?_)
          rw [List.append_assoc, List.append_assoc]
          exact List.Perm.append_left o List.perm_append_comm
      · obtain ⟨o, h1, h2, h3⟩ := outer r k h hdr
        have hnk : n ∉ kk.blocks := fun hh => hkr n hh n (kidsOf_mem h).1 rfl
        refine ⟨b :: (kk.blocks ++ o), ?_, by simp [h2], fun x => ?_⟩
        · simp only [blocks, List.cons_append, List.append_assoc]
          exact List.Perm.cons b (List.Perm.append_left _ h1)
        · rw [setKids, if_neg e, setKids_out n x kk hnk]
          simp only [blocks, List.cons_append, List.append_assoc]
          exact List.Perm.cons b (List.Perm.append_left _ (h3 x))
theorem kidsOf_nodup {n : Nat} {f k : F P} (h : f.kidsOf n = some k) (hd : f.blocks.Nodup) : n ∉ k.blocks ∧ k.blocks.Nodup := by
  obtain ⟨o, h1, h2, h3⟩ := outer f k h hd
  obtain ⟨ho, hk, hok⟩ := List.nodup_append.1 ((h1.nodup_iff).1 hd)
  exact ⟨fun hh => hok n h2 n hh rfl, hk⟩
/-- The children of a node within the children of another one are turned. -/
theorem setKids_inner {n c : Nat} {x y : F P} (hc : c ≠ n) : ∀ (f : F P) (k : F P), f.kidsOf n = some k → f.blocks.Nodup → c ∈ k.blocks → (f.setKids n x).setKids c y = f.setKids n (x.setKids c y)
  | nil, k, h, hd, hk => by cases h
  | node b p kk r, k, h, hd, hk => by
    simp only [blocks, List.nodup_cons, List.nodup_append, List.mem_append, not_or] at hd
    obtain ⟨⟨hbk, hbr⟩, hdk, hdr, hkr⟩ := hd
    rw [kidsOf] at h
    rw [setKids, setKids]
    split at h
    · rename_i e
      obtain rfl := Option.some.inj h
      rw [if_pos e, if_pos e, setKids, if_neg (fun e' => hc (by rw [← e', e])), setKids_out c y r (fun hh => hkr c hk c hh rfl)]
    · rename_i e
      rw [if_neg e, if_neg e]
      split at h
      · rename_i z hz
        obtain rfl := Option.some.inj h
        have hm := kidsOf_mem hz
        have hnr : n ∉ r.blocks := fun hh => hkr n hm.1 n hh rfl
        have hck := hm.2 c hk
        rw [setKids, if_neg (fun e' : b = c => hbk (e' ▸ hck)), setKids_inner hc kk z hz hdk hk, setKids_out n x r hnr, setKids_out n _ r hnr, setKids_out c y r (fun hh => hkr c hck c hh rfl)]
      · have hm := kidsOf_mem h
        have hnk : n ∉ kk.blocks := fun hh => hkr n hh n hm.1 rfl
        have hcr := hm.2 c hk
        rw [setKids, if_neg (fun e' : b = c => hbr (e' ▸ hcr)), setKids_inner hc r k h hdr hk, setKids_out n x kk hnk, setKids_out n _ kk hnk, setKids_out c y kk (fun hh => hkr c hh c hcr rfl)]
end F
end
end Go.Proofs.Ytlallihdiffheaa.Hand
namespace Go.Proofs.Ytlallihdiffheaa.Hand
open Go.RowKit Go.Proofs.YtlallihdiffheaaW.PrintWords Go.Proofs.YtlallihdiffheaaW.PrintLast
set_option linter.unusedVariables false

/-- What a node says: its attributes' slice, and what stands there, too. -/
structure Pay where
  type : Int
  atom : Int
  data : ByteArray
  attr : Value
  attrs : List (ByteArray × ByteArray)
abbrev NRec := NR Pay
def ptrV : Option Nat → Value
  | none => .pointer none
  | some b => .pointer (some ⟨b, 0, none⟩)
def NR.cells (r : NR Pay) : Array Value := #[ptrV r.parent, ptrV r.first, ptrV r.last, ptrV r.prev, ptrV r.next, .int .u32 r.pay.type, .int .u32 r.pay.atom, .string r.pay.data, .string ⟨#[]⟩, r.pay.attr]
def attrCells : List (ByteArray × ByteArray) → List Value
  | [] => []
  | (k, x) :: t => .string ⟨#[]⟩ :: .string k :: .string x :: attrCells t
/-- The attributes' slice in a block of its own kind. -/
def AttrsAt (w : World) (v : Value) (l : List (ByteArray × ByteArray)) : Prop := w.ownsRow 0 117 3 v l.length (attrCells l)
abbrev NMap := NM Pay
/-- The world holds the nodes of the map. -/
structure Holds (w : World) (H : NMap) : Prop where
  node : ∀ b r, H b = some r → w.heap[b]? = some (.cells r.cells 115 (0, 0))
  attrs : ∀ b r, H b = some r → AttrsAt w r.pay.attr r.pay.attrs
/-- But for the map's nodes, the world is as it was. -/
structure Stays (H : NMap) (w w' : World) : Prop where
  os : w'.os = w.os
  tape : w'.tape = w.tape
  output : w'.output = w.output
  size : w.heap.size ≤ w'.heap.size
  block : ∀ k, k < w.heap.size → H k = none → w'.heap[k]? = w.heap[k]?
theorem Stays.refl (H : NMap) (w : World) : Stays H w w := ⟨rfl, rfl, rfl, Nat.le_refl _, fun _ _ _ => rfl⟩
theorem Stays.trans {H : NMap} {a b c : World} (h : Stays H a b) (k : Stays H b c) : Stays H a c :=
  ⟨k.os.trans h.os, k.tape.trans h.tape, k.output.trans h.output, Nat.le_trans h.size k.size, fun i hi hn => (k.block i (Nat.lt_of_lt_of_le hi h.size) hn).trans (h.block i hi hn)⟩
/-- Two steps over two maps: what neither of them has stays. -/
theorem Stays.trans' {H K : NMap} {a b c : World} (h : Stays H a b) (k : Stays K b c) (hk : ∀ i, i < a.heap.size → H i = none → K i = none) : Stays H a c :=
  ⟨k.os.trans h.os, k.tape.trans h.tape, k.output.trans h.output, Nat.le_trans h.size k.size, fun i hi hn => (k.block i (Nat.lt_of_lt_of_le hi h.size) (hk i hi hn)).trans (h.block i hi hn)⟩
theorem Stays.mono {H K : NMap} {a b : World} (h : Stays K a b) (hk : ∀ i, i < a.heap.size → H i = none → K i = none) : Stays H a b :=
  ⟨h.os, h.tape, h.output, h.size, fun i hi hn => h.block i hi (hk i hi hn)⟩
theorem Stays.below {H : NMap} {a b : World} {B : Nat} (h : Stays H a b) (hB : B ≤ a.heap.size) (hk : ∀ i, i < B → H i = none) : Below B a b :=
  ⟨h.os, h.tape, h.output, h.size, fun i hi => h.block i (by omega) (hk i hi)⟩
theorem Stays.of_below {H : NMap} {a b : World} (h : Below a.heap.size a b) : Stays H a b := ⟨h.os, h.tape, h.output, h.size, fun i hi _ => h.block i hi⟩
theorem Holds.lt {w : World} {H : NMap} (h : Holds w H) {b : Nat} {r : NRec} (hb : H b = some r) : b < w.heap.size := (Array.getElem?_eq_some_iff.1 (h.node b r hb)).1
theorem Holds.cell {w : World} {H : NMap} (h : Holds w H) {b : Nat} {r : NRec} (hb : H b = some r) (i : Nat) : w.cell? ⟨b, i, none⟩ = r.cells[i]? := by
  simp [World.cell?, h.node b r hb]
theorem Holds.frozen {w : World} {H : NMap} (h : Holds w H) {b : Nat} {r : NRec} (hb : H b = some r) (i : Nat) : w.frozen? ⟨b, i, none⟩ = false := by
  simp [World.frozen?, h.node b r hb]
/-- A block of another kind than the nodes' is none of theirs. -/
theorem Holds.none_of_type {w : World} {H : NMap} (h : Holds w H) {b : Nat} {c : Array Value} {t : TypeId} {f : Nat × Nat} (hb : w.heap[b]? = some (.cells c t f)) (ht : t ≠ 115) : H b = none := by
  cases e : H b with
  | none => rfl
  | some r =>
    have := h.node b r e
    rw [hb] at this
    injection this with this
    injection this with _ this
    exact absurd this ht
theorem AttrsAt.block {w : World} {v : Value} {l : List (ByteArray × ByteArray)} (h : AttrsAt w v l) {g : Nat} (hg : v.ownBlock = some g) : ∃ c, w.heap[g]? = some (.cells c 117 (0, 0)) := own_typed h g hg
theorem AttrsAt.keep {w w' : World} {v : Value} {l : List (ByteArray × ByteArray)} (h : AttrsAt w v l) (hb : ∀ g, v.ownBlock = some g → w'.heap[g]? = w.heap[g]?) : AttrsAt w' v l := by
  obtain ⟨h1, h2⟩ := h
  refine ⟨h1, h2.imp id ?_⟩
  rintro ⟨g, cap, cur, rfl, h3, h4, h5⟩
  exact ⟨g, cap, cur, rfl, h3, (hb g rfl).trans h4, h5⟩
theorem AttrsAt.stays {w w' : World} {H : NMap} {v : Value} {l : List (ByteArray × ByteArray)} (h : AttrsAt w v l) (hw : Holds w H) (hs : Stays H w w') : AttrsAt w' v l :=
  h.keep fun g hg => by
    obtain ⟨c, hc⟩ := h.block hg
    exact hs.block g (Array.getElem?_eq_some_iff.1 hc).1 (hw.none_of_type hc (by decide))
theorem AttrsAt.nil (w : World) : AttrsAt w (.slice none 0 0) [] := own_nil w 0 _ 3
theorem Holds.below {w w' : World} {H : NMap} (h : Holds w H) (hb : Below w.heap.size w w') : Holds w' H :=
  ⟨fun b r hr => (hb.block b (h.lt hr)).trans (h.node b r hr), fun b r hr => (h.attrs b r hr).keep fun g hg => by
    obtain ⟨c, hc⟩ := (h.attrs b r hr).block hg
    exact hb.block g (Array.getElem?_eq_some_iff.1 hc).1⟩
/-- One cell of a node is stored. -/
theorem Holds.set {w : World} {H : NMap} (h : Holds w H) {b : Nat} {r s : NRec} (hb : H b = some r) (i : Nat) (v : Value) (hs : s.cells = r.cells.setIfInBounds i v) (ha : s.pay.attr = r.pay.attr) (hl : s.pay.attrs = r.pay.attrs) :
    Holds (w.setCell ⟨b, i, none⟩ v) (upd H b s) ∧ Stays H w (w.setCell ⟨b, i, none⟩ v) := by
  have hst : Stays H w (w.setCell ⟨b, i, none⟩ v) := ⟨rfl, rfl, rfl, by simp, fun k hk hn => Below.heap_setCell _ _ _ _ (fun e => by
    have e : k = b := e
    rw [e, hb] at hn
    cases hn)⟩
  refine ⟨⟨fun k q hq => ?_, fun k q hq => ?_⟩, hst⟩
  · by_cases hk : k = b
    · subst hk
      rw [upd_same] at hq
      obtain rfl := Option.some.inj hq
      rw [hs]
      exact Lib.heap_setCell_same (h.node k r hb) v
    · rw [upd_other _ _ hk] at hq
      rw [Below.heap_setCell _ _ _ _ hk]
      exact h.node k q hq
  · by_cases hk : k = b
    · subst hk
      rw [upd_same] at hq
      obtain rfl := Option.some.inj hq
      rw [ha, hl]
      exact (h.attrs k r hb).stays h hst
    · rw [upd_other _ _ hk] at hq
      exact (h.attrs k q hq).stays h hst
/-- A new node. -/
theorem Holds.new {w : World} {H : NMap} (h : Holds w H) {r : NRec} (ha : AttrsAt w r.pay.attr r.pay.attrs) :
    Holds (w.alloc (.cells r.cells 115 (0, 0))) (upd H w.heap.size r) := by
  have hb : Below w.heap.size w (w.alloc (.cells r.cells 115 (0, 0))) := below_alloc (Below.refl _ _) _
  refine ⟨fun k q hq => ?_, fun k q hq => ?_⟩
  · by_cases hk : k = w.heap.size
    · subst hk
      rw [upd_same] at hq
      obtain rfl := Option.some.inj hq
      exact heap_alloc_new w _
    · rw [upd_other _ _ hk] at hq
      exact (hb.block k (h.lt hq)).trans (h.node k q hq)
  · by_cases hk : k = w.heap.size
    · subst hk
      rw [upd_same] at hq
      obtain rfl := Option.some.inj hq
      exact ha.keep fun g hg => hb.block g (by
        obtain ⟨c, hc⟩ := ha.block hg
        exact (Array.getElem?_eq_some_iff.1 hc).1)
    · rw [upd_other _ _ hk] at hq
      exact (h.attrs k q hq).keep fun g hg => hb.block g (by
        obtain ⟨c, hc⟩ := (h.attrs k q hq).block hg
        exact (Array.getElem?_eq_some_iff.1 hc).1)
theorem Holds.empty (w : World) : Holds w (fun _ => none) := ⟨fun _ _ h => (Option.some_ne_none _ h.symm).elim, fun _ _ h => (Option.some_ne_none _ h.symm).elim⟩
end Go.Proofs.Ytlallihdiffheaa.Hand
namespace Go.Proofs.Ytlallihdiffheaa.Hand
open Go.RowKit Go.Proofs.YtlallihdiffheaaW.PrintWords Go.Proofs.YtlallihdiffheaaW.PrintLast
set_option linter.unusedVariables false

theorem Holds.opened {w : World} {H : NMap} (h : Holds w H) {b : Nat} {p f l v x : Option Nat} {q : Pay} (hb : H b = some ⟨p, f, l, v, x, q⟩) :
    w.cell? ⟨b, 0, none⟩ = some (ptrV p) ∧ w.cell? ⟨b, 1, none⟩ = some (ptrV f) ∧ w.cell? ⟨b, 2, none⟩ = some (ptrV l) ∧ w.cell? ⟨b, 3, none⟩ = some (ptrV v) ∧ w.cell? ⟨b, 4, none⟩ = some (ptrV x) ∧
    w.cell? ⟨b, 5, none⟩ = some (.int .u32 q.type) ∧ w.cell? ⟨b, 6, none⟩ = some (.int .u32 q.atom) ∧ w.cell? ⟨b, 7, none⟩ = some (.string q.data) ∧ w.cell? ⟨b, 9, none⟩ = some q.attr := by
  refine ⟨h.cell hb 0, h.cell hb 1, h.cell hb 2, h.cell hb 3, h.cell hb 4, h.cell hb 5, h.cell hb 6, h.cell hb 7, h.cell hb 9⟩
/-- The world after some stores: it holds the turned map, and no other block has turned. -/
structure Turn (H K : NMap) (w w' : World) : Prop where
  holds : Holds w' K
  stays : Stays H w w'
  dom : ∀ x, K x = none ↔ H x = none
theorem Turn.refl {H : NMap} {w : World} (h : Holds w H) : Turn H H w w := ⟨h, Stays.refl H w, fun _ => Iff.rfl⟩
theorem Turn.trans {H K L : NMap} {a b c : World} (h : Turn H K a b) (k : Turn K L b c) : Turn H L a c :=
  ⟨k.holds, h.stays.trans' k.stays (fun i _ hi => (h.dom i).2 hi), fun x => (k.dom x).trans (h.dom x)⟩
theorem Turn.drew {H K : NMap} {w w' : World} (h : Turn H K w w') : Turn H K w w'.drew := ⟨⟨h.holds.node, h.holds.attrs⟩, ⟨h.stays.os, h.stays.tape, h.stays.output, h.stays.size, h.stays.block⟩, h.dom⟩
theorem Turn.has {H K : NMap} {w w' : World} (h : Turn H K w w') {b : Nat} {r : NRec} (hb : H b = some r) : ∃ s, K b = some s := by
  cases e : K b with
  | none => rw [(h.dom b).1 e] at hb; cases hb
  | some s => exact ⟨s, rfl⟩
theorem Turn.step {H K : NMap} {w w' : World} (h : Turn H K w w') {b : Nat} {r : NRec} (hb : H b = some r) (i : Nat) (v : Value) (g : NRec → NRec) (hg : ∀ s : NRec, (g s).cells = s.cells.setIfInBounds i v) (ha : ∀ s : NRec, (g s).pay.attr = s.pay.attr ∧ (g s).pay.attrs = s.pay.attrs) :
    Turn H (modN K b g) w (w'.setCell ⟨b, i, none⟩ v) := by
  obtain ⟨s, hs⟩ := h.has hb
  obtain ⟨h1, h2⟩ := h.holds.set hs i v (hg s) (ha s).1 (ha s).2
  refine ⟨by rw [modN_some hs]; exact h1, h.stays.trans' h2 (fun k _ hk => (h.dom k).2 hk), fun x => ?_⟩
  rw [modN_some hs]
  by_cases hx : x = b
  · subst hx
    rw [upd_same, hb]
    simp
  · rw [upd_other _ _ hx]
    exact h.dom x
theorem Turn.parent {H K : NMap} {w w' : World} (h : Turn H K w w') {b : Nat} {r : NRec} (hb : H b = some r) (v : Option Nat) : Turn H (modN K b (fun r => { r with parent := v })) w (w'.setCell ⟨b, 0, none⟩ (ptrV v)) := h.step hb 0 _ _ (fun _ => rfl) (fun _ => ⟨rfl, rfl⟩)
theorem Turn.first {H K : NMap} {w w' : World} (h : Turn H K w w') {b : Nat} {r : NRec} (hb : H b = some r) (v : Option Nat) : Turn H (modN K b (fun r => { r with first := v })) w (w'.setCell ⟨b, 1, none⟩ (ptrV v)) := h.step hb 1 _ _ (fun _ => rfl) (fun _ => ⟨rfl, rfl⟩)
theorem Turn.last {H K : NMap} {w w' : World} (h : Turn H K w w') {b : Nat} {r : NRec} (hb : H b = some r) (v : Option Nat) : Turn H (modN K b (fun r => { r with last := v })) w (w'.setCell ⟨b, 2, none⟩ (ptrV v)) := h.step hb 2 _ _ (fun _ => rfl) (fun _ => ⟨rfl, rfl⟩)
theorem Turn.prev {H K : NMap} {w w' : World} (h : Turn H K w w') {b : Nat} {r : NRec} (hb : H b = some r) (v : Option Nat) : Turn H (modN K b (fun r => { r with prev := v })) w (w'.setCell ⟨b, 3, none⟩ (ptrV v)) := h.step hb 3 _ _ (fun _ => rfl) (fun _ => ⟨rfl, rfl⟩)
theorem Turn.next {H K : NMap} {w w' : World} (h : Turn H K w w') {b : Nat} {r : NRec} (hb : H b = some r) (v : Option Nat) : Turn H (modN K b (fun r => { r with next := v })) w (w'.setCell ⟨b, 4, none⟩ (ptrV v)) := h.step hb 4 _ _ (fun _ => rfl) (fun _ => ⟨rfl, rfl⟩)
theorem Turn.data {H K : NMap} {w w' : World} (h : Turn H K w w') {b : Nat} {r : NRec} (hb : H b = some r) (v : ByteArray) : Turn H (modN K b (fun r => { r with pay := { r.pay with data := v } })) w (w'.setCell ⟨b, 7, none⟩ (.string v)) := h.step hb 7 _ _ (fun _ => rfl) (fun _ => ⟨rfl, rfl⟩)
set_option maxRecDepth 100000 in
set_option maxHeartbeats 1600000 in
theorem appendChild_any {w : World} {H : NMap} {n c : Nat} {pn fn ln vn xn fc lc : Option Nat} {qn qc : Pay} (hw : Holds w H) (hn : H n = some ⟨pn, fn, ln, vn, xn, qn⟩) (hc : H c = some ⟨none, fc, lc, none, none, qc⟩) (hnc : n ≠ c)
    (hl : ∀ l, ln = some l → l ≠ c ∧ ∃ r, H l = some r) :
    Calls Try.prog 104 #[.pointer (some ⟨n, 0, none⟩), .pointer (some ⟨c, 0, none⟩)] w fun e w' => e = .returned (.tuple #[]) ∧ Turn H (insertH H n c ln none) w w' := by
  obtain ⟨n0, n1, n2, n3, n4, -, -, -, -⟩ := hw.opened hn
  obtain ⟨c0, c1, c2, c3, c4, -, -, -, -⟩ := hw.opened hc
  have fn0 := hw.frozen hn
  have fc0 := hw.frozen hc
  simp only [ptrV] at c0 c3 c4
  have HT := Lib.hid (Turn.refl hw)
  have HL := Lib.hid (insertH_next (n := n) (prev := ln) hc rfl (fun e => (hl c e).1 rfl) (by simp) hnc)
  have HN := Lib.hid hn
  have HC := Lib.hid hc
  cases ln with
  | none =>
    clear hn hc hw hl
    simp only [ptrV] at n2
    go_enter Try.func104, Try.ntmps104
    go_wp2
    go_end0
    refine ⟨rfl, ?_⟩
    rw [HL.out]
    exact (((HT.out.first HN.out (some c)).last HN.out (some c)).parent HC.out (some n)).prev HC.out none
  | some l =>
    obtain ⟨hlc, ⟨pl, fl, ll, vl, xl, ql⟩, hll⟩ := hl l rfl
    have hcl : c ≠ l := fun e => hlc e.symm
    obtain ⟨l0, l1, l2, l3, l4, -, -, -, -⟩ := hw.opened hll
    have fl0 := hw.frozen hll
    have HLL := Lib.hid hll
    clear hn hc hw hl hll
    simp only [ptrV] at n2
    go_enter Try.func104, Try.ntmps104
    go_wp2
    go_end0
    refine ⟨rfl, ?_⟩
    rw [HL.out]
    exact (((HT.out.next HLL.out (some c)).last HN.out (some c)).parent HC.out (some n)).prev HC.out (some l)
theorem infoNode : (Try.prog.info? 115).map (·.size) = some 10 := by kernel_rfl
theorem ptr_same (a : Addr) (W : World) : (binOp .eql 70 (.pointer (some a)) (.pointer (some a))).run Try.prog W = .ok (.bool true) W := by
  obtain ⟨j, hj, _⟩ := Option.map_eq_some_iff.1 infoNode
  exact run_eql_ptr_same W a Try.underlying70 hj
theorem ptr_neq_same (a : Addr) (W : World) : (binOp .neq 70 (.pointer (some a)) (.pointer (some a))).run Try.prog W = .ok (.bool false) W := by
  obtain ⟨j, hte, _⟩ := Option.map_eq_some_iff.1 infoNode
  have h : ∀ d : Nat, (Op.equalIn (d + 1) 70 (.pointer (some a)) (.pointer (some a))).run Try.prog W = .ok true W := fun d => by
    simp [Op.equalIn, run_underlying Try.underlying70, sizeOf, typeInfo, hte, run_sameAddr_same]
  simp only [binOp]
  simp [Op.equal, Op.maxDepth, h 9999]
theorem ptr_other {W : World} {H : NMap} (h : Holds W H) {a b : Nat} {r s : NRec} (ha : H a = some r) (hb : H b = some s) (hne : a ≠ b) : (binOp .eql 70 (.pointer (some ⟨a, 0, none⟩)) (.pointer (some ⟨b, 0, none⟩))).run Try.prog W = .ok (.bool false) W := by
  obtain ⟨j, hj, hz⟩ := Option.map_eq_some_iff.1 infoNode
  exact run_eql_ptr_other W Try.underlying70 hj (by rw [hz]; decide) (fun e => hne (by injection e)) (h.node a r ha) (h.node b s hb)
theorem ptr_neq_other {W : World} {H : NMap} (h : Holds W H) {a b : Nat} {r s : NRec} (ha : H a = some r) (hb : H b = some s) (hne : a ≠ b) : (binOp .neq 70 (.pointer (some ⟨a, 0, none⟩)) (.pointer (some ⟨b, 0, none⟩))).run Try.prog W = .ok (.bool true) W := by
  obtain ⟨j, hte, hz⟩ := Option.map_eq_some_iff.1 infoNode
  have hsz : j.size ≠ 0 := by rw [hz]; decide
  have hx : (⟨a, 0, none⟩ : Addr) ≠ ⟨b, 0, none⟩ := fun e => hne (by injection e)
  have h : ∀ d : Nat, (Op.equalIn (d + 1) 70 (.pointer (some ⟨a, 0, none⟩)) (.pointer (some ⟨b, 0, none⟩))).run Try.prog W = .ok false W := fun d => by
    simp [Op.equalIn, run_underlying Try.underlying70, sizeOf, typeInfo, hte, hsz, run_sameAddr_other W hx (h.node a r ha) (h.node b s hb)]
  simp only [binOp]
  simp [Op.equal, Op.maxDepth, h 9999]
end Go.Proofs.Ytlallihdiffheaa.Hand
namespace Go.Proofs.Ytlallihdiffheaa.Hand
open Go.RowKit Go.Proofs.YtlallihdiffheaaW.PrintWords Go.Proofs.YtlallihdiffheaaW.PrintLast
set_option linter.unusedVariables false

set_option maxRecDepth 100000 in
set_option maxHeartbeats 1600000 in
theorem removeChild_any {w : World} {H : NMap} {n c : Nat} {pn fn ln vn xn fc lc prev next : Option Nat} {qn qc : Pay} (hw : Holds w H) (hn : H n = some ⟨pn, fn, ln, vn, xn, qn⟩) (hc : H c = some ⟨some n, fc, lc, prev, next, qc⟩) (hnc : n ≠ c)
    (ho : ∀ o, next = some o → o ≠ c ∧ ∃ r, H o = some r) (hl : ∀ l, prev = some l → l ≠ c ∧ ∃ r, H l = some r)
    (hf1 : prev = none → fn = some c) (hf2 : ∀ l, prev = some l → ∃ a, fn = some a ∧ a ≠ c ∧ ∃ r, H a = some r) (hg1 : next = none → ln = some c) (hg2 : ∀ o, next = some o → ∃ b, ln = some b ∧ b ≠ c ∧ ∃ r, H b = some r) :
    Calls Try.prog 102 #[.pointer (some ⟨n, 0, none⟩), .pointer (some ⟨c, 0, none⟩)] w fun e w' => e = .returned (.tuple #[]) ∧ Turn H (removeH H n c prev next prev.isNone next.isNone) w w' := by
  obtain ⟨n0, n1, n2, n3, n4, -, -, -, -⟩ := hw.opened hn
  obtain ⟨c0, c1, c2, c3, c4, -, -, -, -⟩ := hw.opened hc
  have fn0 := hw.frozen hn
  have fc0 := hw.frozen hc
  have HT := Lib.hid (Turn.refl hw)
  have HN := Lib.hid hn
  have HC := Lib.hid hc
  have hcn : c ≠ n := fun e => hnc e.symm
  have hq1 := ptr_same
  have hq2 := ptr_neq_same
  cases prev with
  | none =>
    cases next with
    | none =>
      obtain rfl := hf1 rfl
      obtain rfl := hg1 rfl
      clear hn hc hw hl ho hf1 hf2 hg1 hg2
      simp only [ptrV] at c0 c3 c4 n1 n2
      go_enter Try.func102, Try.ntmps102
      go_wp2
      go_end0
      exact ⟨rfl, ((((HT.out.first HN.out (none)).last HN.out (none)).parent HC.out none).prev HC.out none).next HC.out none⟩
    | some o =>
      obtain rfl := hf1 rfl
      obtain ⟨hoc, ⟨po, fo, lo, vo, xo, qo⟩, hoo⟩ := ho o rfl
      have hco : c ≠ o := fun e => hoc e.symm
      obtain ⟨o0, o1, o2, o3, o4, -, -, -, -⟩ := hw.opened hoo
      have fo0 := hw.frozen hoo
      have HO := Lib.hid hoo
      obtain ⟨b, rfl, hbc, rb, hbb⟩ := hg2 o rfl
      obtain ⟨W2, K2, hW2, hT2⟩ : ∃ (W2 : World) (K2 : NMap), W2 = ((w.setCell ⟨n, 1, none⟩ (ptrV (some o))).setCell ⟨o, 3, none⟩ (ptrV none)).drew ∧ Turn H K2 w W2 := ⟨_, _, rfl, ((HT.out.first HN.out (some o)).prev HO.out none).drew⟩
      obtain ⟨_, hb2⟩ := hT2.has hbb
      obtain ⟨_, hc2⟩ := hT2.has hc
      have hqb := ptr_other hT2.holds hb2 hc2 hbc
      rw [hW2] at hqb
      simp only [ptrV] at hqb
      clear hT2 hb2 hc2 hW2
      have hcb : c ≠ b := fun e => hbc e.symm
      clear hoo
      clear hn hc hw hl ho hf1 hf2 hg1 hg2
      simp only [ptrV] at c0 c3 c4 n1 n2
      go_enter Try.func102, Try.ntmps102
      go_wp2
      go_region
      go_wp2
      go_end0
      exact ⟨rfl, (((((HT.out.first HN.out (some o)).prev HO.out (none)).parent HC.out none).prev HC.out none).next HC.out none).drew⟩
  | some l =>
    cases next with
    | none =>
      obtain ⟨hlc, ⟨pl, fl, ll, vl, xl, ql⟩, hll⟩ := hl l rfl
      have hcl : c ≠ l := fun e => hlc e.symm
      obtain ⟨l0, l1, l2, l3, l4, -, -, -, -⟩ := hw.opened hll
      have fl0 := hw.frozen hll
      have HLL := Lib.hid hll
      obtain ⟨a, rfl, hac, ra, haa⟩ := hf2 l rfl
      have hqa := ptr_other hw haa hc hac
      have hca : c ≠ a := fun e => hac e.symm
      clear hll
      obtain rfl := hg1 rfl
      clear hn hc hw hl ho hf1 hf2 hg1 hg2
      simp only [ptrV] at c0 c3 c4 n1 n2
      go_enter Try.func102, Try.ntmps102
      go_wp2
      go_region
      go_wp2
      go_end0
      exact ⟨rfl, (((((HT.out.last HN.out (some l)).next HLL.out (none)).parent HC.out none).prev HC.out none).next HC.out none).drew⟩
    | some o =>
      obtain ⟨hlc, ⟨pl, fl, ll, vl, xl, ql⟩, hll⟩ := hl l rfl
      have hcl : c ≠ l := fun e => hlc e.symm
      obtain ⟨l0, l1, l2, l3, l4, -, -, -, -⟩ := hw.opened hll
      have fl0 := hw.frozen hll
      have HLL := Lib.hid hll
      obtain ⟨a, rfl, hac, ra, haa⟩ := hf2 l rfl
      have hqa := ptr_other hw haa hc hac
      have hca : c ≠ a := fun e => hac e.symm
      clear hll
      obtain ⟨hoc, ⟨po, fo, lo, vo, xo, qo⟩, hoo⟩ := ho o rfl
      have hco : c ≠ o := fun e => hoc e.symm
      obtain ⟨o0, o1, o2, o3, o4, -, -, -, -⟩ := hw.opened hoo
      have fo0 := hw.frozen hoo
      have HO := Lib.hid hoo
      obtain ⟨b, rfl, hbc, rb, hbb⟩ := hg2 o rfl
      obtain ⟨W2, K2, hW2, hT2⟩ : ∃ (W2 : World) (K2 : NMap), W2 = (w.setCell ⟨o, 3, none⟩ (ptrV (some l))).drew ∧ Turn H K2 w W2 := ⟨_, _, rfl, (HT.out.prev HO.out (some l)).drew⟩
      obtain ⟨_, hb2⟩ := hT2.has hbb
      obtain ⟨_, hc2⟩ := hT2.has hc
      have hqb := ptr_other hT2.holds hb2 hc2 hbc
      rw [hW2] at hqb
      simp only [ptrV] at hqb
      clear hT2 hb2 hc2 hW2
      have hcb : c ≠ b := fun e => hbc e.symm
      clear hoo
      clear hn hc hw hl ho hf1 hf2 hg1 hg2
      simp only [ptrV] at c0 c3 c4 n1 n2
      go_enter Try.func102, Try.ntmps102
      go_wp2
      go_region
      go_wp2
      go_region
      go_wp2
      go_end0
      exact ⟨rfl, ((((((HT.out.prev HO.out (some l)).next HLL.out (some o)).parent HC.out none).prev HC.out none).next HC.out none).drew).drew⟩
end Go.Proofs.Ytlallihdiffheaa.Hand
namespace Go.Proofs.Ytlallihdiffheaa.Hand
open Go.RowKit Go.Proofs.YtlallihdiffheaaW.PrintWords Go.Proofs.YtlallihdiffheaaW.PrintLast
set_option linter.unusedVariables false

/-- What a call did to a forest: it sits there, turned; other nodes are as they were. -/
structure Turned (H : NMap) (w : World) (f : F Pay) (H' : NMap) (w' : World) : Prop where
  holds : Holds w' H'
  others : ∀ x, x ∉ f.blocks → H' x = H x
  stays : Stays H w w'
  dom : ∀ x, H' x = none ↔ H x = none
theorem removeChild_sits {w : World} {H : NMap} {f a b ck : F Pay} {n c : Nat} {q : Pay} {par prev next : Option Nat} (hw : Holds w H) (hs : Sits H par prev next f) (hd : f.blocks.Nodup) (hk : f.kidsOf n = some (a.app (.node c q ck b))) :
    Calls Try.prog 102 #[.pointer (some ⟨n, 0, none⟩), .pointer (some ⟨c, 0, none⟩)] w fun e w' => e = .returned (.tuple #[]) ∧ ∃ H', Turned H w f H' w' ∧ Sits H' par prev next (f.setKids n (a.app b)) ∧ Sits H' none none none (.node c q ck .nil) := by
  obtain ⟨hnk, hdk⟩ := F.kidsOf_nodup hk hd
  have hm := F.kidsOf_mem hk
  obtain ⟨rn, rc, hn, hc, e1, e2, e3, hall⟩ := remove_sits hs hd hk hnk hdk
  obtain ⟨hsk⟩ : ∃ _ : True, True := ⟨trivial, trivial⟩
  obtain ⟨rn', hn', _, _, hks⟩ := hs.at_kids hk
  have hrec : ∀ x ∈ (a.app (.node c q ck b)).blocks, ∃ r, H x = some r := fun x hx => hs.has _ _ _ _ x (hm.2 x hx)
  rw [F.blocks_app, F.blocks] at hnk hdk hrec
  simp only [List.mem_append, List.mem_cons, not_or] at hnk
  obtain ⟨hda, hdcb, hacb⟩ := List.nodup_append.1 hdk
  obtain ⟨hcb0, hdckb⟩ := List.nodup_cons.1 hdcb
  simp only [List.mem_append, not_or] at hcb0
  have hca : c ∉ a.blocks := fun h => hacb c h c List.mem_cons_self rfl
  have hp : ∀ p, a.lastOr none = some p → p ∈ a.blocks := fun p h => (F.lastOr_mem a none p h).resolve_right (by simp)
  have ho : ∀ o, b.headOr none = some o → o ∈ b.blocks := fun o h => F.headOr_mem b o h
  obtain ⟨pn, fn, ln, vn, xn, qn⟩ := rn
  subst e3
  have e1 : fn = (a.app (.node c q ck b)).headOr none := e1
  have e2 : ln = (a.app (.node c q ck b)).lastOr none := e2
  have hi : (a.lastOr none).isNone = true ↔ fn = some c := by
    rw [e1, F.headOr_app]
    cases a with
    | nil => simp [F.lastOr, F.headOr]
    | node b1 p1 k1 r1 =>
      constructor
      · intro h
        have := F.lastOr_some r1 b1
        rw [F.lastOr] at h
        cases e : r1.lastOr (some b1) with
        | none => exact absurd e this
        | some _ => rw [e] at h; cases h
      · intro h
        exact absurd (Option.some.inj h) (fun e => hca (by rw [← e]; simp [F.blocks]))
  have hl : (b.headOr none).isNone = true ↔ ln = some c := by
    rw [e2, F.lastOr_app]
    cases b with
    | nil => simp [F.lastOr, F.headOr]
    | node b1 p1 k1 r1 =>
      constructor
      · intro h
        cases h
      · intro h
        have h : r1.lastOr (some b1) = some c := h
        rcases F.lastOr_mem r1 (some b1) c h with h3 | h3
        · exact absurd (by simp [F.blocks, h3]) hcb0.2
        · exact absurd (by simp [F.blocks, Option.some.inj h3]) hcb0.2
  have hx := hall _ _ hi hl
  refine (removeChild_any (w := w) (H := H) hw hn hc hnk.2.1 (fun o hoe => ?_) (fun l hle => ?_) (fun e => hi.1 (by rw [e]; rfl)) (fun l hle => ?_) (fun e => hl.1 (by rw [e]; rfl)) (fun o hoe => ?_)).mono ?_
  · exact ⟨fun e => hcb0.2 (e ▸ ho o hoe), hrec o (by simp [ho o hoe])⟩
  · exact ⟨fun e => hca (e ▸ hp l hle), hrec l (by simp [hp l hle])⟩
  · cases a with
    | nil => cases hle
    | node b1 p1 k1 r1 => exact ⟨b1, e1, fun e => hca (by simp [F.blocks, e]), hrec b1 (by simp [F.blocks])⟩
  · cases b with
    | nil => cases hoe
    | node b1 p1 k1 r1 =>
      rw [F.lastOr_app] at e2
      have e2 : ln = r1.lastOr (some b1) := e2
      obtain ⟨z, hz⟩ : ∃ z, r1.lastOr (some b1) = some z := by
        cases e : r1.lastOr (some b1) with
        | none => exact absurd e (F.lastOr_some r1 b1)
        | some z => exact ⟨z, rfl⟩
      have hzb : z ∈ (F.node b1 p1 k1 r1).blocks := by
        rcases F.lastOr_mem r1 (some b1) z hz with h3 | h3
        · simp [F.blocks, h3]
        · simp [F.blocks, Option.some.inj h3]
      exact ⟨z, e2.trans hz, fun e => hcb0.2 (e ▸ hzb), hrec z (by simp [hzb])⟩
  · rintro e w' ⟨rfl, ht⟩
    exact ⟨rfl, _, ⟨ht.holds, hx.2.2, ht.stays, ht.dom⟩, hx.1, hx.2.1⟩
end Go.Proofs.Ytlallihdiffheaa.Hand
