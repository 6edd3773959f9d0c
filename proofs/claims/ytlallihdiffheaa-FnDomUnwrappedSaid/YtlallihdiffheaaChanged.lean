/- impl.changedAt, impl.Removed and impl.Unwrapped by hand. -/
import Derived.Test.YtlallihdiffheaaChange
import Derived.Test.YtlallihdiffheaaMadeA
import Derived.Test.YtlallihdiffheaaToldA
import Derived.Test.YtlallihdiffheaaGuard
import Derived.Laws.EntriesVeiled
namespace Go.Proofs.Ytlallihdiffheaa.Dom
open Go.RowKit Go.Proofs.YtlallihdiffheaaW.PrintWords Go.Proofs.YtlallihdiffheaaW.PrintLast Go.Proofs.Ytlallihdiffheaa.GT Go.Proofs.Ytlallihdiffheaa.Hand
set_option linter.unusedVariables false
set_option linter.unusedSimpArgs false

/-- A forest that was edited is neat, and not much larger. -/
theorem edit_neat (z : F Pay) (hz : Neat z ∧ FitF z) : ∀ (is : List Int) (k : F Pay), Neat k → FitF k → Neat (F.editF z k is) ∧ FitF (F.editF z k is) ∧ (F.editF z k is).blocks.length ≤ k.blocks.length + z.blocks.length ∧ (k = .nil → F.editF z k is = .nil)
  | [], k, hn, hf => ⟨hn, hf, by rw [F.editF]; omega, fun h => by rw [F.editF]; exact h⟩
  | i :: is, k, hn, hf => by
    rw [F.editF]
    cases e : k.dropF i.toNat with
    | nil => exact ⟨hn, hf, by simp only; omega, id⟩
    | node c q ck r =>
      have htd := F.take_drop k i.toNat
      rw [e] at htd
      have hn2 := hn
      have hf2 := hf
      rw [← htd] at hn2 hf2
      obtain ⟨hnt, hnc⟩ := (neat_app _ _).1 hn2
      obtain ⟨hft, hfc⟩ := (fitF_app _ _).1 hf2
      have hkn : k ≠ .nil := fun h => by rw [h, F.dropF_nil] at e; cases e
      have hlen : k.blocks.length = (k.takeF i.toNat).blocks.length + (ck.blocks.length + 1 + r.blocks.length) := by
        have h := congrArg (fun f : F Pay => f.blocks.length) htd
        simp only [F.blocks_app, F.blocks, List.length_append, List.length_cons] at h
        omega
      cases is with
      | nil =>
        simp only
        refine ⟨(neat_app _ _).2 ⟨hnt, (neat_app _ _).2 ⟨hz.1, hnc.2.2⟩⟩, (fitF_app _ _).2 ⟨hft, (fitF_app _ _).2 ⟨hz.2, hfc.2.2⟩⟩, ?_, fun h => absurd h hkn⟩
        simp only [F.blocks_app, List.length_append]
        omega
      | cons j js =>
        simp only
        obtain ⟨h1, h2, h3, h4⟩ := edit_neat z hz (j :: js) ck hnc.2.1 hfc.2.1
        refine ⟨(neat_app _ _).2 ⟨hnt, ⟨?_, h1, hnc.2.2⟩⟩, (fitF_app _ _).2 ⟨hft, ⟨hfc.1, h2, hfc.2.2⟩⟩, ?_, fun h => absurd h hkn⟩
        · rcases hnc.1 with ⟨ht, h0⟩ | ⟨ht, h0⟩ | ht | ht
          · exact .inl ⟨ht, h4 h0⟩
          · exact .inr (.inl ⟨ht, h4 h0⟩)
          · exact .inr (.inr (.inl ht))
          · exact .inr (.inr (.inr ht))
        · simp only [F.blocks_app, F.blocks, List.length_append, List.length_cons]
          omega
theorem edit_root {z : F Pay} (hz : Neat z ∧ FitF z) {b : Nat} {p : Pay} {k : F Pay} (is : List Int) (hn : Neat (.node b p k .nil)) (hf : FitF (.node b p k .nil)) : Neat (.node b p (F.editF z k is) .nil) ∧ FitF (.node b p (F.editF z k is) .nil) ∧ (F.editF z k is).blocks.length ≤ k.blocks.length + z.blocks.length := by
  obtain ⟨h1, h2, h3, h4⟩ := edit_neat z hz is k hn.2.1 hf.2.1
  refine ⟨⟨?_, h1, trivial⟩, ⟨hf.1, h2, trivial⟩, h3⟩
  rcases hn.1 with ⟨ht, h0⟩ | ⟨ht, h0⟩ | ht | ht
  · exact .inl ⟨ht, h4 h0⟩
  · exact .inr (.inl ⟨ht, h4 h0⟩)
  · exact .inr (.inr (.inl ht))
  · exact .inr (.inr (.inr ht))
/-- The node at a path of a neat forest is neat. -/
theorem sub_neat : ∀ {is : List Int} {b : Nat} {p : Pay} {k : F Pay} {c : Nat} {q : Pay} {ck : F Pay}, Neat (.node b p k .nil) → FitF (.node b p k .nil) → subF b p k is = some (c, q, ck) → Neat (.node c q ck .nil) ∧ FitF (.node c q ck .nil)
  | [], b, p, k, c, q, ck, hn, hf, h => by
    simp only [subF, Option.some.injEq, Prod.mk.injEq] at h
    obtain ⟨rfl, rfl, rfl⟩ := h
    exact ⟨hn, hf⟩
  | i :: is, b, p, k, c, q, ck, hn, hf, h => by
    rw [subF] at h
    split at h
    · cases h
    · cases e : k.dropF i.toNat with
      | nil => rw [e] at h; cases h
      | node d qd kd r =>
        rw [e] at h
        obtain ⟨a, ha, -⟩ := F.dropF_split k _ _ _ _ _ e
        have hn2 := hn.2.1
        have hf2 := hf.2.1
        rw [ha] at hn2 hf2
        have h1 := ((neat_app _ _).1 hn2).2
        have h2 := ((fitF_app _ _).1 hf2).2
        exact sub_neat (is := is) ⟨h1.1, h1.2.1, trivial⟩ ⟨h2.1, h2.2.1, trivial⟩ h
theorem holds_set_other {W : World} {H : NMap} (h : Holds W H) {g : Nat} {cs : Array Value} {t : TypeId} {z : Nat × Nat} (hg : W.heap[g]? = some (.cells cs t z)) (h1 : t ≠ 115) (h2 : t ≠ 117) (j : Nat) (v : Value) : Holds (W.setCell ⟨g, j, none⟩ v) H := by
  have key : ∀ (k : Nat) (c' : Array Value) (t' : TypeId) (z' : Nat × Nat), W.heap[k]? = some (.cells c' t' z') → t ≠ t' → (W.setCell ⟨g, j, none⟩ v).heap[k]? = W.heap[k]? := by
    intro k c' t' z' hk ht
    refine Below.heap_setCell _ _ _ _ (fun e => ?_)
    have e : k = g := e
    rw [e, hg] at hk
    injection hk with hk
    injection hk with _ hk
    exact ht hk
  exact ⟨fun b r hr => (key _ _ _ _ (h.node b r hr) h1).trans (h.node b r hr), fun b r hr => (h.attrs b r hr).keep fun g' hg' => by
    obtain ⟨c', hc'⟩ := (h.attrs b r hr).block hg'
    exact key _ _ _ _ hc' h2⟩
set_option maxRecDepth 100000 in
set_option maxHeartbeats 1600000 in
/-- The closure of changedAt. -/
theorem change_do {K : Nat} {Z : F Pay → F Pay} (hK : EditSpec K Z) (hent : ∀ (v : Value) W, (callFunc K #[v]).run Try.prog W = .ok (.enter K #[v]) W) {w : World} {H : NMap} {b : Nat} {p : Pay} {k : F Pay} {i : Int} {is : List Int} {c : Nat} {q : Pay} {ck : F Pay}
    (hw : Holds w H) (hs : Sits H none none none (.node b p k .nil)) (hn : Neat (.node b p k .nil)) (hd : (b :: k.blocks).Nodup) (hsub : subF b p k (i :: is) = some (c, q, ck)) (hl : k.blocks.length ≤ 1000000) (bd bx : Nat)
    (hbd : w.cell? ⟨bd, 0, none⟩ = some (.func (.func K) #[] #[])) (hbx : w.cell? ⟨bx, 0, none⟩ = some (.pointer (some ⟨c, 0, none⟩))) :
    Calls Try.prog 100 #[.pointer (some ⟨bd, 0, none⟩), .pointer (some ⟨bx, 0, none⟩)] w fun e w' => e = .returned (.tuple #[]) ∧ ∃ H', Holds w' H' ∧ Sits H' none none none (.node b p (F.editF (Z ck) k (i :: is)) .nil) ∧ Stays H w w' := by
  have HK := Lib.hid (hK w H b p k i is c q ck hw hs hn hd hsub hl)
  clear hK hw hs hn hd hsub hl
  go_enter Try.func100, Try.ntmps100
  go_wp2_with (refine HK.out.mono ?_; rintro e w1 ⟨rfl, h⟩; have HR := Lib.hid h; clear h)
  go_end0
  exact ⟨rfl, HR.out⟩
/-- Some forest tells a right tree. -/
theorem some_forest {n : Nat} {x : Nd} (hx : Tn n x) : ∃ b p k, Neat (.node b p k .nil) ∧ nodeOf p (erase k) = x := by
  have key : ∀ (n : Nat), (∀ x, Tn n x → ∃ (b : Nat) (p : Pay) (k : F Pay), Neat (.node b p k .nil) ∧ nodeOf p (erase k) = x) ∧ ∀ l, TnL n l → ∃ f : F Pay, Neat f ∧ erase f = l := by
    intro n
    induction n using Nat.strongRecOn with
    | _ n ih =>
      have h1 : ∀ x, Tn n x → ∃ (b : Nat) (p : Pay) (k : F Pay), Neat (.node b p k .nil) ∧ nodeOf p (erase k) = x := by
        intro x hx
        cases hx with
        | elem m name attrs kids ha h =>
          obtain ⟨f, hf, he⟩ := (ih m (by omega)).2 kids h
          exact ⟨0, ⟨3, 0, name, .slice none 0 0, attrs.map attrOf⟩, f, ⟨.inr (.inr (.inl rfl)), hf, trivial⟩, by rw [he]; exact nodeOf_elem _ _ _ _ _⟩
        | text t => exact ⟨0, ⟨1, 0, t, .slice none 0 0, []⟩, .nil, ⟨.inl ⟨rfl, rfl⟩, trivial, trivial⟩, rfl⟩
        | comment t => exact ⟨0, ⟨4, 0, t, .slice none 0 0, []⟩, .nil, ⟨.inr (.inl ⟨rfl, rfl⟩), trivial, trivial⟩, rfl⟩
        | doc m kids h =>
          obtain ⟨f, hf, he⟩ := (ih m (by omega)).2 kids h
          exact ⟨0, ⟨2, 0, ⟨#[]⟩, .slice none 0 0, []⟩, f, ⟨.inr (.inr (.inr rfl)), hf, trivial⟩, by rw [he]; rfl⟩
      refine ⟨h1, ?_⟩
      intro l
      induction l generalizing n with
      | nil => exact fun _ => ⟨.nil, trivial, rfl⟩
      | cons y l ihl =>
        intro h
        cases h with
        | cons a b _ _ hy hl =>
          have hp := hy.pos
          have hya : ∃ (b : Nat) (p : Pay) (k : F Pay), Neat (.node b p k .nil) ∧ nodeOf p (erase k) = y := by
            by_cases hb : b = 0
            · subst hb
              exact h1 y hy
            · exact (ih a (by omega)).1 y hy
          obtain ⟨b1, p1, k1, hn1, he1⟩ := hya
          obtain ⟨f, hf, he⟩ := (ih b (by omega)).2 l hl
          exact ⟨.node b1 p1 k1 f, ⟨hn1.1, hn1.2.1, hf⟩, by show nodeOf p1 (erase k1) :: erase f = _; rw [he1, he]⟩
  exact (key n).1 x hx
theorem grownBy_set (W : World) (b i : Nat) (v : Value) : W.grownBy (W.setCell ⟨b, i, none⟩ v) (some b) :=
  ⟨rfl, rfl, rfl, by simp, fun k hk hne => Below.heap_setCell _ _ _ _ (fun e => hne (by rw [show k = b from e]))⟩
theorem put5 {w3 : World} {bo : Nat} {z0 z1 z2 z3 z4 : Value} (v0 v1 v2 v3 v4 : Value) (ho : w3.heap[bo]? = some (.cells #[z0, z1, z2, z3, z4] 25 (0, 0))) :
    (((((w3.setCell ⟨bo, 0, none⟩ v0).setCell ⟨bo, 1, none⟩ v1).setCell ⟨bo, 2, none⟩ v2).setCell ⟨bo, 3, none⟩ v3).setCell ⟨bo, 4, none⟩ v4).heap[bo]? = some (.cells #[v0, v1, v2, v3, v4] 25 (0, 0)) ∧ w3.grownBy (((((w3.setCell ⟨bo, 0, none⟩ v0).setCell ⟨bo, 1, none⟩ v1).setCell ⟨bo, 2, none⟩ v2).setCell ⟨bo, 3, none⟩ v3).setCell ⟨bo, 4, none⟩ v4) (some bo) ∧ (((((w3.setCell ⟨bo, 0, none⟩ v0).setCell ⟨bo, 1, none⟩ v1).setCell ⟨bo, 2, none⟩ v2).setCell ⟨bo, 3, none⟩ v3).setCell ⟨bo, 4, none⟩ v4).heap.size = w3.heap.size := by
  have e0 : (w3.setCell ⟨bo, 0, none⟩ v0).heap[bo]? = some (.cells #[v0, z1, z2, z3, z4] 25 (0, 0)) := Lib.heap_setCell_same ho v0
  have e1 : ((w3.setCell ⟨bo, 0, none⟩ v0).setCell ⟨bo, 1, none⟩ v1).heap[bo]? = some (.cells #[v0, v1, z2, z3, z4] 25 (0, 0)) := Lib.heap_setCell_same e0 v1
  have e2 : (((w3.setCell ⟨bo, 0, none⟩ v0).setCell ⟨bo, 1, none⟩ v1).setCell ⟨bo, 2, none⟩ v2).heap[bo]? = some (.cells #[v0, v1, v2, z3, z4] 25 (0, 0)) := Lib.heap_setCell_same e1 v2
  have e3 : ((((w3.setCell ⟨bo, 0, none⟩ v0).setCell ⟨bo, 1, none⟩ v1).setCell ⟨bo, 2, none⟩ v2).setCell ⟨bo, 3, none⟩ v3).heap[bo]? = some (.cells #[v0, v1, v2, v3, z4] 25 (0, 0)) := Lib.heap_setCell_same e2 v3
  have e4 : (((((w3.setCell ⟨bo, 0, none⟩ v0).setCell ⟨bo, 1, none⟩ v1).setCell ⟨bo, 2, none⟩ v2).setCell ⟨bo, 3, none⟩ v3).setCell ⟨bo, 4, none⟩ v4).heap[bo]? = some (.cells #[v0, v1, v2, v3, v4] 25 (0, 0)) := Lib.heap_setCell_same e3 v4
  exact ⟨e4, ((((grownBy_set w3 bo 0 v0).trans (grownBy_set _ bo 1 v1)).trans (grownBy_set _ bo 2 v2)).trans (grownBy_set _ bo 3 v3)).trans (grownBy_set _ bo 4 v4), by simp only [World.size_setCell]⟩
/-- What a change makes of a tree, as the laws see it. -/
def ChangedPost (z : Nd) (w : World) : Ending → World → Prop := fun e w' => ∃ A3 c3 A4 c4, e = .returned (.tuple #[.agg #[.int .i64 z.f0, .string z.f1, .string z.f2, .slice A3 z.f3.length c3, .slice A4 z.f4.length c4], .bool true]) ∧ TellsIn w.heap.size w'.heap.size w' z (treeCells z A3 c3 A4 c4) ∧ Below w.heap.size w w'
def nObj (x : Nd) (A3 : Option Addr) (c3 : Nat) (A4 : Option Addr) (c4 : Nat) : Obj := .cells #[.int .i64 x.f0, .string x.f1, .string x.f2, .slice A3 x.f3.length c3, .slice A4 x.f4.length c4] 25 (0, 0)
def zObj : Obj := .cells #[.int .i64 0, .string ⟨#[]⟩, .string ⟨#[]⟩, .slice none 0 0, .slice none 0 0] 25 (0, 0)
set_option maxRecDepth 100000 in
set_option maxHeartbeats 3200000 in
theorem changedAt_any {K : Nat} {Z : F Pay → F Pay} (hK : EditSpec K Z) (hent : ∀ (v : Value) W, (callFunc K #[v]).run Try.prog W = .ok (.enter K #[v]) W) (ZN : Nd → List Nd) (hZ : ∀ c q ck, Neat (.node c q ck .nil) → FitF (.node c q ck .nil) → erase (Z ck) = ZN (nodeOf q (erase ck)) ∧ Neat (Z ck) ∧ FitF (Z ck) ∧ (Z ck).blocks.length ≤ ck.blocks.length)
    {n : Nat} {x : Nd} (hx : Tn n x) (hn : n ≤ 300) {y : Nd} {i : Int} {is : List Int} (hat : atN x (i :: is) = some y) (w : World) (A3 A4 Ap : Option Addr) (c3 c4 cp : Nat) (h3 : k34.C w A3 x.f3.length x.f3) (l3 : x.f3.length ≤ c3) (h4 : k25.C w A4 x.f4.length x.f4) (l4 : x.f4.length ≤ c4)
    (hp : Kd.C (Kd.int .i64) w Ap (i :: is).length (i :: is)) :
    (∃ m, m ≤ 1000 ∧ Tn m (putN x (i :: is) (ZN y))) ∧ Calls Try.prog 55 #[.agg #[.int .i64 x.f0, .string x.f1, .string x.f2, .slice A3 x.f3.length c3, .slice A4 x.f4.length c4], .slice Ap (i :: is).length cp, .func (.func K) #[] #[]] w (ChangedPost (putN x (i :: is) (ZN y)) w) := by
  have key : ∀ (b : Nat) (p : Pay) (k : F Pay), Neat (.node b p k .nil) → nodeOf p (erase k) = x → ∃ c q ck, subF b p k (i :: is) = some (c, q, ck) ∧ k.blocks.length ≤ 300 ∧ Neat (.node b p (F.editF (Z ck) k (i :: is)) .nil) ∧ FitF (.node b p (F.editF (Z ck) k (i :: is)) .nil) ∧ (F.editF (Z ck) k (i :: is)).blocks.length ≤ 600 ∧ nodeOf p (erase (F.editF (Z ck) k (i :: is))) = putN x (i :: is) (ZN y) := by
    intro b p k hnt ht
    obtain ⟨hlen, hfit⟩ := node_tn hnt ht hx
    simp only [List.length_cons] at hlen
    have h1 := atN_sub (i :: is) b p k .nil hnt
    rw [ht, hat] at h1
    obtain ⟨⟨c, q, ck⟩, hs, hy⟩ := Option.map_eq_some_iff.1 h1.symm
    obtain ⟨hcn, hcf⟩ := sub_neat hnt hfit hs
    obtain ⟨z1, z2, z3, z4⟩ := hZ c q ck hcn hcf
    obtain ⟨e1, e2, e3⟩ := edit_root ⟨z2, z3⟩ (i :: is) hnt hfit
    have hcl := subF_len hs
    refine ⟨c, q, ck, hs, by omega, e1, e2, by omega, ?_⟩
    rw [put_forest (Z ck) is i b p k .nil hnt ⟨c, by rw [subF_at _ b p k, hs]; rfl⟩, ht, z1]
    simp only at hy
    rw [hy]
  have hz : ∃ z, z = putN x (i :: is) (ZN y) := ⟨_, rfl⟩
  obtain ⟨z, hz⟩ := hz
  rw [← hz] at key ⊢
  refine ⟨?_, ?_⟩
  · -- a forest that tells the tree
    obtain ⟨b, p, k, hnt, ht⟩ := some_forest hx
    obtain ⟨c, q, ck, -, -, e1, e2, e3, e4⟩ := key b p k hnt ht
    have h := tn_forest _ e1 e2
    have hh : erase (.node b p (F.editF (Z ck) k (i :: is)) .nil) = [z] := by
      show nodeOf p (erase (F.editF (Z ck) k (i :: is))) :: erase .nil = [z]
      rw [e4]
      rfl
    rw [hh] at h
    simp only [F.blocks, List.length_cons, List.append_nil] at h
    generalize hm : (F.editF (Z ck) k (i :: is)).blocks.length + 1 = m at h
    cases h with
    | cons m1 n1 _ _ hy1 hl1 => exact ⟨m1, by omega, hy1⟩
  · obtain ⟨W0, hW0⟩ : ∃ W0, W0 = ((w.alloc (nObj x A3 c3 A4 c4)).alloc (.cells #[.func (.func K) #[] #[]] 68 (0, 0))).alloc zObj := ⟨_, rfl⟩
    have hsz : W0.heap.size = w.heap.size + 1 + 1 + 1 := by rw [hW0]; simp only [World.size_alloc]
    have b1 : W0.heap[w.heap.size + 1]? = some (.cells #[.func (.func K) #[] #[]] 68 (0, 0)) := by
      rw [hW0, Below.heap_alloc _ _ _ (by simp only [World.size_alloc]; omega), ← World.size_alloc w]
      exact heap_alloc_new _ _
    have b2 : W0.heap[w.heap.size + 1 + 1]? = some zObj := by
      rw [hW0, ← World.size_alloc w, ← World.size_alloc (w.alloc _)]
      exact heap_alloc_new _ _
    have hB0 : Below w.heap.size w W0 := by
      rw [hW0]
      exact below_alloc (below_alloc (below_alloc (Below.refl _ _) _) _) _
    obtain ⟨path, hpath⟩ : ∃ path, path = i :: is := ⟨_, rfl⟩
    have hsub0 : ∀ (b : Nat) (p : Pay) (k : F Pay) t, subF b p k (i :: is) = some t → ptrV (k.atF b path) = .pointer (some ⟨t.1, 0, none⟩) := fun b p k t h => by
      rw [hpath, subF_at _ b p k, h]
      rfl
    rw [← hpath] at hp ⊢
    have HSUB := Lib.hid hsub0
    clear hpath hsub0
    have HK := Lib.hid hK
    have HEN := Lib.hid hent
    have HKEY := Lib.hid key
    have HMADE := Lib.hid (made_tree hx W0 (fun _ => none) A3 A4 c3 c4 (Holds.empty _) (Kd.C_below h3 hB0) l3 (Kd.C_below h4 hB0) l4)
    have HP := Lib.hid (Kd.C_below hp hB0)
    have HPL := Lib.hid hp.2.1
    have HW0 := Lib.hid hW0
    have HS := Lib.hid (And.intro hsz (And.intro b1 (And.intro b2 hB0)))
    have HZ := Lib.hid hz
    clear hK hent hZ hx hat h3 h4 hp key hW0 hsz b1 b2 hB0 hz
    go_enter Try.func55, Try.ntmps55
    go_wp2_with fail
    have e0 := HW0.out
    unfold nObj zObj at e0
    rw [← e0]
    clear e0 HW0
    refine HMADE.out.mono ?_
    rintro e w1 ⟨b, p, k, L, rfl, hm⟩
    obtain ⟨c, q, ck, hsub, hkl, e1, e2, e3, e4⟩ := HKEY.out b p k hm.neat hm.tells
    have hat := HSUB.out b p k _ hsub
    have hs1 := hm.below.size
    have hL0 : ∀ j, j < W0.heap.size → L j = none := fun j hj => hm.others j (fun hc => by have := hm.fresh j hc; omega)
    have hL1 : ∀ j, w1.heap.size ≤ j → L j = none := fun j hj => hm.holds.none_of_size hj
    have hd1 := (hm.below.block _ (by have := HS.out.1; omega)).trans HS.out.2.1
    have hr1 := (hm.below.block _ (by have := HS.out.1; omega)).trans HS.out.2.2.1
    -- the worlds behind
    have hW3 : ∃ W3, W3 = w1.alloc (.cells #[.pointer (some ⟨c, 0, none⟩)] 70 (0, 0)) := ⟨_, rfl⟩
    obtain ⟨W3, hW3⟩ := hW3
    have hz3 : W3.heap.size = w1.heap.size + 1 := by rw [hW3, World.size_alloc]
    have hb3 : Below w1.heap.size w1 W3 := by rw [hW3]; exact below_alloc (Below.refl _ _) _
    have hx3 : W3.heap[w1.heap.size]? = some (.cells #[.pointer (some ⟨c, 0, none⟩)] 70 (0, 0)) := by rw [hW3]; exact heap_alloc_new _ _
    have hb4 : Below w1.heap.size w1 (W3.alloc (.cells #[.bool false] 4 (0, 0))) := below_alloc hb3 _
    have hdo := change_do HK.out HEN.out (hm.holds.below hb4) hm.sits hm.neat hm.apart hsub (by omega) (w.heap.size + 1) w1.heap.size
      (by have h := (hb4.block _ (by have := HS.out.1; omega)).trans hd1; exact (out_cell h 0).1)
      (by have h := (Below.heap_alloc W3 (.cells #[.bool false] 4 (0, 0)) w1.heap.size (by omega)).trans hx3; exact (out_cell h 0).1)
    have hent2 : ∀ W, (callFunc 100 #[.pointer (some ⟨w.heap.size + 1, 0, none⟩), .pointer (some ⟨w1.heap.size, 0, none⟩)]).run Try.prog W = .ok (.enter 100 #[.pointer (some ⟨w.heap.size + 1, 0, none⟩), .pointer (some ⟨w1.heap.size, 0, none⟩)]) W :=
      fun W => enters Try.func100 (by rfl) (by rfl) _ _
    have hguard := guarded_any 100 #[.pointer (some ⟨w.heap.size + 1, 0, none⟩), .pointer (some ⟨w1.heap.size, 0, none⟩)] W3
      (fun W => ∃ H', Holds W H' ∧ Sits H' none none none (.node b p (F.editF (Z ck) k (i :: is)) .nil) ∧ Stays L (W3.alloc (.cells #[.bool false] 4 (0, 0))) W) hent2
      (hdo.mono fun e W h => ⟨h.1, by
        obtain ⟨_, H', h1, h2, h3⟩ := h
        exact (h3.block W3.heap.size (by rw [World.size_alloc]; omega) (hL1 _ (by omega))).trans (heap_alloc_new _ _), h.2⟩)
    obtain ⟨x3, -⟩ := out_cell hx3 0
    simp only [List.getElem?_toArray, List.getElem?_cons_zero] at x3
    have HAT := Lib.hid (implAt_any hm.holds hm.sits hm.neat path Ap cp (Kd.C_below HP.out hm.below) HPL.out (by omega))
    have HG := Lib.hid hguard
    have HPT := Lib.hid hat
    have HM := Lib.hid hm
    have HE := Lib.hid (And.intro e1 (And.intro e2 (And.intro e3 e4)))
    have HL0 := Lib.hid hL0
    have HL1 := Lib.hid hL1
    have HR1 := Lib.hid hr1
    have HB3 := Lib.hid (And.intro hz3 (And.intro hb3 hb4))
    have HW3 := Lib.hid hW3
    clear hm hsub hkl e1 e2 e3 e4 hat hL0 hL1 hd1 hr1 hW3 hz3 hb3 hx3 hb4 hdo hent2 hguard
    go_wp2_with (first
      | (go_at_call 64; refine HAT.out.mono ?_; rw [HPT.out]; rintro e w2 ⟨rfl, rfl⟩)
      | (go_at_call 99; rw [← HW3.out]; refine HG.out.mono ?_; rintro e w4 ⟨rfl, W, ⟨H', hh, hs, hst⟩, hfl, hw4⟩; have HHH := Lib.hid (And.intro hh (And.intro hs (And.intro hst (And.intro hfl hw4)))); clear hh hs hst hfl hw4)
      | (go_at_call 101; have hw4 := HHH.out.2.2.2.2; refine (told_anyA b p _ .nil H' w4 none none none HE.out.1 HE.out.2.1 (by have := HE.out.2.2.1; simp only [F.blocks, List.length_cons, List.append_nil]; omega) (by rw [hw4]; exact holds_set_other HHH.out.1 HHH.out.2.2.2.1 (by decide) (by decide) 0 _) HHH.out.2.1).mono ?_; rw [HE.out.2.2.2]; rintro e w5 ⟨A5, c5, A6, c6, rfl, htl, hb5⟩; have hB4 : Below w.heap.size w w4 := (by rw [hw4]; exact ((((HS.out.2.2.2.trans (HM.out.below.mono (by have := HS.out.1; omega))).trans (HB3.out.2.2.mono (by have := HS.out.1; omega))).trans (HHH.out.2.2.1.below (by have := HS.out.1; have := HB3.out.2.2.size; omega) (fun j hj => HL0.out j (by have := HS.out.1; omega)))).setCell (by show _ ≤ W3.heap.size; have := HS.out.1; have := HB3.out.1; omega) _)); have hr5 : w5.heap[w.heap.size + 1 + 1]? = some zObj := ((hb5.block _ (by have := hB4.size; have := HHH.out.2.2.1.size; rw [hw4, World.size_setCell]; rw [World.size_alloc] at this; have := HS.out.1; have := HB3.out.1; omega)).trans (by rw [hw4]; exact (Below.heap_setCell W ⟨W3.heap.size, 0, none⟩ (.bool false) _ (by have := HS.out.1; have := HB3.out.1; show w.heap.size + 1 + 1 ≠ W3.heap.size; omega)).trans ((HHH.out.2.2.1.block _ (by rw [World.size_alloc]; have := HS.out.1; have := HB3.out.1; omega) (HL0.out _ (by have := HS.out.1; omega))).trans ((HB3.out.2.2.block _ (by have := HS.out.1; omega)).trans HR1.out)))); have hr6 := hr5; unfold zObj at hr6; obtain ⟨r0, f0⟩ := out_cell hr6 0; obtain ⟨r1, f1⟩ := out_cell hr6 1; obtain ⟨r2, f2⟩ := out_cell hr6 2; obtain ⟨r3, f3⟩ := out_cell hr6 3; obtain ⟨r4, f4⟩ := out_cell hr6 4; simp only [List.getElem?_toArray, List.getElem?_cons_succ, List.getElem?_cons_zero] at r0 r1 r2 r3 r4; have HR6 := Lib.hid hr6; have HTL := Lib.hid htl; have HB5 := Lib.hid hb5; have HB4 := Lib.hid hB4; clear htl hb5 hw4 hB4 hr5 hr6))
    obtain ⟨g4, hg, hsz⟩ := put5 (.int .i64 z.f0) (.string z.f1) (.string z.f2) (.slice A5 z.f3.length c5) (.slice A6 z.f4.length c6) HR6.out
    refine bodyPost_ret (results_ct rfl _ _ (w.heap.size + 1 + 1) 25 #[.int .i64 z.f0, .string z.f1, .string z.f2, .slice A5 z.f3.length c5, .slice A6 z.f4.length c6] (0, 0) _ rfl g4 Try.underlying25 rfl (by kernel_rfl)) rfl ?_
    have hs4 := HB4.out.size
    have hs5 := HB5.out.size
    refine ⟨A5, c5, A6, c6, rfl, ?_, (below_then HB4.out hs4 HB5.out).grown hg (by omega) (fun j hj => by have := Option.some.inj hj; omega)⟩
    have hbo : w.heap.size + 1 + 1 < w4.heap.size := by
      have h1 := HHH.out.2.2.1.size
      have h2 := congrArg (fun V : World => V.heap.size) HHH.out.2.2.2.2
      simp only [World.size_setCell] at h2
      rw [World.size_alloc] at h1
      have := HS.out.1
      have := HB3.out.1
      omega
    refine fun X hX => HTL.out X fun j h1 h2 => ?_
    rw [hX j (by omega) (by omega)]
    exact hg.block j h2 (fun e => by have := Option.some.inj e; omega)
theorem removed_Z : ∀ (c : Nat) (q : Pay) (ck : F Pay), Neat (.node c q ck .nil) → FitF (.node c q ck .nil) → erase (F.nil : F Pay) = (fun _ => []) (nodeOf q (erase ck)) ∧ Neat (F.nil : F Pay) ∧ FitF (F.nil : F Pay) ∧ (F.nil : F Pay).blocks.length ≤ ck.blocks.length :=
  fun c q ck _ _ => ⟨rfl, trivial, trivial, Nat.zero_le _⟩
theorem unwrapped_Z : ∀ (c : Nat) (q : Pay) (ck : F Pay), Neat (.node c q ck .nil) → FitF (.node c q ck .nil) → erase ck = (fun y : Nd => y.f4) (nodeOf q (erase ck)) ∧ Neat ck ∧ FitF ck ∧ ck.blocks.length ≤ ck.blocks.length :=
  fun c q ck hn hf => ⟨(kids_nodeOf hn).symm, hn.2.1, hf.2.1, Nat.le_refl _⟩
section
variable {n : Nat} {x : Nd} (hx : Tn n x) (hn : n ≤ 300) {y : Nd} {i : Int} {is : List Int} (hat : atN x (i :: is) = some y) (w : World) (A3 A4 Ap : Option Addr) (c3 c4 cp : Nat) (h3 : k34.C w A3 x.f3.length x.f3) (l3 : x.f3.length ≤ c3) (h4 : k25.C w A4 x.f4.length x.f4) (l4 : x.f4.length ≤ c4) (hp : Kd.C (Kd.int .i64) w Ap (i :: is).length (i :: is))
include hx hn hat h3 l3 h4 l4 hp
set_option maxRecDepth 100000 in
set_option maxHeartbeats 1600000 in
theorem removed_any : (∃ m, m ≤ 1000 ∧ Tn m (putN x (i :: is) [])) ∧ Calls Try.prog 17 #[.agg #[.int .i64 x.f0, .string x.f1, .string x.f2, .slice A3 x.f3.length c3, .slice A4 x.f4.length c4], .slice Ap (i :: is).length cp] w (ChangedPost (putN x (i :: is) []) w) := by
  have hall := fun (w : World) (h3 : k34.C w A3 x.f3.length x.f3) (h4 : k25.C w A4 x.f4.length x.f4) (hp : Kd.C (Kd.int .i64) w Ap (i :: is).length (i :: is)) =>
    changedAt_any removeNode_edit (fun v W => enters Try.func56 (by rfl) (by rfl) _ _) (fun _ => []) removed_Z hx hn hat w A3 A4 Ap c3 c4 cp h3 l3 h4 l4 hp
  refine ⟨(hall w h3 h4 hp).1, ?_⟩
  generalize putN x (i :: is) [] = z at hall ⊢
  generalize i :: is = path at hall hp ⊢
  have HH := Lib.hid hall
  have H3 := Lib.hid h3
  have H4 := Lib.hid h4
  have HP := Lib.hid hp
  clear hall h3 h4 hp hx hat
  go_enter Try.func17, Try.ntmps17
  go_wp2_with (go_at_call 55; refine ((HH.out ((w.alloc (nObj x A3 c3 A4 c4)).alloc zObj) (Kd.C_alloc (Kd.C_alloc H3.out _) _) (Kd.C_alloc (Kd.C_alloc H4.out _) _) (Kd.C_alloc (Kd.C_alloc HP.out _) _)).2).mono ?_; rintro e w1 ⟨A5, c5, A6, c6, rfl, htl, hb1⟩; have hr1 : w1.heap[w.heap.size + 1]? = some zObj := ((hb1.block _ (by simp only [World.size_alloc]; omega)).trans (by rw [← World.size_alloc w (nObj x A3 c3 A4 c4)]; exact heap_alloc_new _ _)); have hr2 := hr1; unfold zObj at hr2; obtain ⟨r0, f0⟩ := out_cell hr2 0; obtain ⟨r1, f1⟩ := out_cell hr2 1; obtain ⟨r2, f2⟩ := out_cell hr2 2; obtain ⟨r3, f3⟩ := out_cell hr2 3; obtain ⟨r4, f4⟩ := out_cell hr2 4; simp only [List.getElem?_toArray, List.getElem?_cons_succ, List.getElem?_cons_zero] at r0 r1 r2 r3 r4; have HR := Lib.hid hr2; have HTL := Lib.hid htl; have HB1 := Lib.hid hb1; clear htl hb1 hr1 hr2)
  obtain ⟨g4, hg, hsz⟩ := put5 (.int .i64 z.f0) (.string z.f1) (.string z.f2) (.slice A5 z.f3.length c5) (.slice A6 z.f4.length c6) HR.out
  refine bodyPost_ret (results_ct rfl _ _ (w.heap.size + 1) 25 #[.int .i64 z.f0, .string z.f1, .string z.f2, .slice A5 z.f3.length c5, .slice A6 z.f4.length c6] (0, 0) _ rfl g4 Try.underlying25 rfl (by kernel_rfl)) rfl ?_
  have hs0 : ((w.alloc (nObj x A3 c3 A4 c4)).alloc zObj).heap.size = w.heap.size + 1 + 1 := by simp only [World.size_alloc]
  have hs1 := HB1.out.size
  refine ⟨A5, c5, A6, c6, rfl, ?_, (below_then (below_alloc (below_alloc (Below.refl _ _) _) _) (by omega) HB1.out).grown hg (by omega) (fun j hj => by have := Option.some.inj hj; omega)⟩
  refine fun X hX => HTL.out X fun j h1 h2 => ?_
  rw [hX j (by omega) (by omega)]
  exact hg.block j h2 (fun e => by have := Option.some.inj e; omega)
set_option maxRecDepth 100000 in
set_option maxHeartbeats 1600000 in
theorem unwrapped_any : (∃ m, m ≤ 1000 ∧ Tn m (putN x (i :: is) y.f4)) ∧ Calls Try.prog 27 #[.agg #[.int .i64 x.f0, .string x.f1, .string x.f2, .slice A3 x.f3.length c3, .slice A4 x.f4.length c4], .slice Ap (i :: is).length cp] w (ChangedPost (putN x (i :: is) y.f4) w) := by
  have hall := fun (w : World) (h3 : k34.C w A3 x.f3.length x.f3) (h4 : k25.C w A4 x.f4.length x.f4) (hp : Kd.C (Kd.int .i64) w Ap (i :: is).length (i :: is)) =>
    changedAt_any unwrapNode_edit (fun v W => enters Try.func68 (by rfl) (by rfl) _ _) (fun y : Nd => y.f4) unwrapped_Z hx hn hat w A3 A4 Ap c3 c4 cp h3 l3 h4 l4 hp
  refine ⟨(hall w h3 h4 hp).1, ?_⟩
  generalize putN x (i :: is) y.f4 = z at hall ⊢
  generalize i :: is = path at hall hp ⊢
  have HH := Lib.hid hall
  have H3 := Lib.hid h3
  have H4 := Lib.hid h4
  have HP := Lib.hid hp
  clear hall h3 h4 hp hx hat
  go_enter Try.func27, Try.ntmps27
  go_wp2_with (go_at_call 55; refine ((HH.out ((w.alloc (nObj x A3 c3 A4 c4)).alloc zObj) (Kd.C_alloc (Kd.C_alloc H3.out _) _) (Kd.C_alloc (Kd.C_alloc H4.out _) _) (Kd.C_alloc (Kd.C_alloc HP.out _) _)).2).mono ?_; rintro e w1 ⟨A5, c5, A6, c6, rfl, htl, hb1⟩; have hr1 : w1.heap[w.heap.size + 1]? = some zObj := ((hb1.block _ (by simp only [World.size_alloc]; omega)).trans (by rw [← World.size_alloc w (nObj x A3 c3 A4 c4)]; exact heap_alloc_new _ _)); have hr2 := hr1; unfold zObj at hr2; obtain ⟨r0, f0⟩ := out_cell hr2 0; obtain ⟨r1, f1⟩ := out_cell hr2 1; obtain ⟨r2, f2⟩ := out_cell hr2 2; obtain ⟨r3, f3⟩ := out_cell hr2 3; obtain ⟨r4, f4⟩ := out_cell hr2 4; simp only [List.getElem?_toArray, List.getElem?_cons_succ, List.getElem?_cons_zero] at r0 r1 r2 r3 r4; have HR := Lib.hid hr2; have HTL := Lib.hid htl; have HB1 := Lib.hid hb1; clear htl hb1 hr1 hr2)
  obtain ⟨g4, hg, hsz⟩ := put5 (.int .i64 z.f0) (.string z.f1) (.string z.f2) (.slice A5 z.f3.length c5) (.slice A6 z.f4.length c6) HR.out
  refine bodyPost_ret (results_ct rfl _ _ (w.heap.size + 1) 25 #[.int .i64 z.f0, .string z.f1, .string z.f2, .slice A5 z.f3.length c5, .slice A6 z.f4.length c6] (0, 0) _ rfl g4 Try.underlying25 rfl (by kernel_rfl)) rfl ?_
  have hs0 : ((w.alloc (nObj x A3 c3 A4 c4)).alloc zObj).heap.size = w.heap.size + 1 + 1 := by simp only [World.size_alloc]
  have hs1 := HB1.out.size
  refine ⟨A5, c5, A6, c6, rfl, ?_, (below_then (below_alloc (below_alloc (Below.refl _ _) _) _) (by omega) HB1.out).grown hg (by omega) (fun j hj => by have := Option.some.inj hj; omega)⟩
  refine fun X hX => HTL.out X fun j h1 h2 => ?_
  rw [hX j (by omega) (by omega)]
  exact hg.block j h2 (fun e => by have := Option.some.inj e; omega)
end
end Go.Proofs.Ytlallihdiffheaa.Dom
