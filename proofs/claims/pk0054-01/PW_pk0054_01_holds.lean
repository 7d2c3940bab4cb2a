import PyProof.Rows.All
import Wide.All
import OpenK.AllK
import Wide.FinOn
import Lean
import PySem.Challenge.RW_pk0054_01
open PySem PySem.Spec PySem.Calls PySem.W PyProof.Rows
set_option Elab.async false
set_option maxRecDepth 100000
set_option linter.unusedVariables false
set_option linter.unusedSimpArgs false
namespace Mine

noncomputable abbrev Loc := Str → Option Value
noncomputable abbrev frs (c : List Env) : List Addr := c.filterMap (·.frame)

/-- all stays that is not in X; the frames fs up to their slots -/
noncomputable def Ch (X fs : List Addr) (h h' : Heap) : Prop :=
  ∀ b o, b ∉ X → h.get? b = some o → (b ∉ fs → h'.get? b = some o) ∧ ∃ sl, h'.get? b = some { o with slots := sl }

theorem Ch.refl (X fs : List Addr) (h : Heap) : Ch X fs h h := fun _ o _ e => ⟨fun _ => e, o.slots, e⟩
theorem Ch.of_keeps {X fs : List Addr} {h h' : Heap} (k : ∀ b o, b ∉ X → h.get? b = some o → h'.get? b = some o) : Ch X fs h h' :=
  fun b o hb e => ⟨fun _ => k b o hb e, o.slots, k b o hb e⟩
theorem Ch.trans {X fs : List Addr} {h h' h'' : Heap} (x : Ch X fs h h') (y : Ch X fs h' h'') : Ch X fs h h'' := fun b o hb e => by
  obtain ⟨k, sl, e1⟩ := x b o hb e
  obtain ⟨_, sl', e2⟩ := y b _ hb e1
  exact ⟨fun hf => (y b o hb (k hf)).1 hf, sl', e2⟩
theorem Ch.ns {X fs : List Addr} {h h' : Heap} {a : Addr} {m : Loc} (x : Ch X fs h h') (ha : a ∉ X) (hn : h.Ns a m) : h'.Ns a m := by
  obtain ⟨o, es, ep, ho, hd, r⟩ := hn
  obtain ⟨_, sl, e⟩ := x a o ha ho
  exact ⟨_, es, ep, e, hd, r⟩
theorem Ch.list {X fs : List Addr} {h h' : Heap} {a : Addr} {vs : Array Value} (x : Ch X fs h h') (ha : a ∉ X) (hn : h.IsList a vs) : h'.IsList a vs := by
  obtain ⟨o, ho, hc, n, hd⟩ := hn
  obtain ⟨_, sl, e⟩ := x a o ha ho
  exact ⟨_, e, hc, n, hd⟩
theorem Ch.plain {X fs : List Addr} {h h' : Heap} {a : Addr} {vs : Array Value} (x : Ch X fs h h') (ha : a ∉ X) (hn : PlainL h a vs) : PlainL h' a vs := by
  obtain ⟨o, n, ho, hc, hdn, hd⟩ := hn
  obtain ⟨_, sl, e⟩ := x a o ha ho
  exact ⟨_, n, e, hc, hdn, hd⟩
theorem Ch.cell {X fs : List Addr} {h h' : Heap} {a : Addr} {v : Option Value} (x : Ch X fs h h') (ha : a ∉ X) (hn : h.IsCell a v) : h'.IsCell a v := by
  obtain ⟨o, ho, hd⟩ := hn
  obtain ⟨_, sl, e⟩ := x a o ha ho
  exact ⟨_, e, hd⟩

/-- generators: none is changed, none is left unclean -/
structure GG (a b : Array GenState) : Prop where
  bare : AllBare a → AllBare b
  ext : ∀ (g : Nat) (st : GenState), a[g]? = some st → b[g]? = some st
theorem GG.refl (a : Array GenState) : GG a a := ⟨id, fun _ _ e => e⟩
theorem GG.trans {a b c : Array GenState} (x : GG a b) (y : GG b c) : GG a c := ⟨fun h => y.bare (x.bare h), fun g st e => y.ext g st (x.ext g st e)⟩
/-- growth of a state -/
structure Gr (fs : List Addr) (s s' : Shared) : Prop where
  ch : Ch [] fs s.heap s'.heap
  os : s'.os = s.os
  gs : GG s.gens s'.gens
theorem Gr.refl (fs : List Addr) (s : Shared) : Gr fs s s := ⟨Ch.refl _ _ _, rfl, .refl _⟩
theorem Gr.trans {fs : List Addr} {s s' s'' : Shared} (x : Gr fs s s') (y : Gr fs s' s'') : Gr fs s s'' := ⟨x.ch.trans y.ch, y.os.trans x.os, x.gs.trans y.gs⟩
theorem Gr.of_keeps {fs : List Addr} {s s' : Shared} (k : Keeps s s') : Gr fs s s' := by
  obtain ⟨h, tk, rfl, k⟩ := k
  exact ⟨.of_keeps fun b o _ e => k b o e, rfl, .refl _⟩
theorem Gr.toks {fs : List Addr} {s s' : Shared} (x : Gr fs s s') (t : Nat) : Gr fs s { s' with toks := t } := ⟨x.ch, x.os, x.gs⟩
theorem Gr.push {fs : List Addr} {s : Shared} (o : Obj) : Gr fs s { s with heap := s.heap.push o } := ⟨.of_keeps fun _ _ _ e => Heap.get?_push_of_some _ e, rfl, .refl _⟩
theorem Gr.none {fs : List Addr} {s s' : Shared} (x : Gr fs s s') {a : Addr} (h : s'.heap.get? a = none) : s.heap.get? a = none := by
  cases q : s.heap.get? a with
  | none => rfl
  | some o => obtain ⟨_, sl, e⟩ := x.ch a o (by simp) q; rw [h] at e; cases e

mutual
theorem reads_up {h h' : Heap} {S : Addr → Prop} (k : ∀ b o, S b → h.get? b = some o → ∃ sl, h'.get? b = some { o with slots := sl })
    (ht : ∀ b o vs n, h.get? b = some o → o.cls = .type "tuple" → o.data = .seq vs n → S b) :
    ∀ {v : Value} {d : PyData} {as : List Addr}, Reads h v d as → (∀ a ∈ as, S a) → Reads h' v d as
  | _, _, _, .none, _ => .none
  | _, _, _, .bool b, _ => .bool b
  | _, _, _, .int i t, _ => .int i t
  | _, _, _, .str x t, _ => .str x t
  | _, _, _, .list h1 h2 h3 h4, q => by
    obtain ⟨sl, e⟩ := k _ _ (q _ List.mem_cons_self) h1
    exact .list e h2 h3 (readsAll_up k ht h4 fun a ha => q a (List.mem_cons_of_mem _ ha))
  | _, _, _, .tuple h1 h2 h3 h4, q => by
    obtain ⟨sl, e⟩ := k _ _ (ht _ _ _ _ h1 h2 h3) h1
    exact .tuple e h2 h3 (readsAll_up k ht h4 q)
  | _, _, _, .dict h1 h2 h3 h4 h5, q => by
    obtain ⟨sl, e⟩ := k _ _ (q _ List.mem_cons_self) h1
    exact .dict e h2 h3 (readsAll_up k ht h4 fun a ha => q a (List.mem_cons_of_mem _ (List.mem_append_left _ ha))) (readsAll_up k ht h5 fun a ha => q a (List.mem_cons_of_mem _ (List.mem_append_right _ ha)))
theorem readsAll_up {h h' : Heap} {S : Addr → Prop} (k : ∀ b o, S b → h.get? b = some o → ∃ sl, h'.get? b = some { o with slots := sl })
    (ht : ∀ b o vs n, h.get? b = some o → o.cls = .type "tuple" → o.data = .seq vs n → S b) :
    ∀ {vs : List Value} {ds : List PyData} {as : List Addr}, ReadsAll h vs ds as → (∀ a ∈ as, S a) → ReadsAll h' vs ds as
  | _, _, _, .nil, _ => .nil
  | _, _, _, .cons h1 h2, q => .cons (reads_up k ht h1 fun a ha => q a (List.mem_append_left _ ha)) (readsAll_up k ht h2 fun a ha => q a (List.mem_append_right _ ha))
end

theorem Gr.reads {fs : List Addr} {s s' : Shared} (x : Gr fs s s') {v : Value} {d : PyData} {as : List Addr} (r : Reads s.heap v d as) : Reads s'.heap v d as :=
  reads_up (S := fun _ => True) (fun b o _ e => (x.ch b o (by simp) e).2) (fun _ _ _ _ _ _ _ => trivial) r fun _ _ => trivial

mutual
theorem reads_in {h : Heap} : ∀ {v : Value} {d : PyData} {as : List Addr}, Reads h v d as → ∀ a ∈ as, ∃ o, h.get? a = some o
  | _, _, _, .none, _, h => by cases h
  | _, _, _, .bool b, _, h => by cases h
  | _, _, _, .int i t, _, h => by cases h
  | _, _, _, .str x t, _, h => by cases h
  | _, _, _, .list h1 h2 h3 h4, a, h => by
    rcases List.mem_cons.mp h with rfl | h
    · exact ⟨_, h1⟩
    · exact readsAll_in h4 a h
  | _, _, _, .tuple h1 h2 h3 h4, a, h => readsAll_in h4 a h
  | _, _, _, .dict h1 h2 h3 h4 h5, a, h => by
    rcases List.mem_cons.mp h with rfl | h
    · exact ⟨_, h1⟩
    · rcases List.mem_append.mp h with h | h
      · exact readsAll_in h4 a h
      · exact readsAll_in h5 a h
theorem readsAll_in {h : Heap} : ∀ {vs : List Value} {ds : List PyData} {as : List Addr}, ReadsAll h vs ds as → ∀ a ∈ as, ∃ o, h.get? a = some o
  | _, _, _, .nil, _, h => by cases h
  | _, _, _, .cons h1 h2, a, h => by
    rcases List.mem_append.mp h with h | h
    · exact reads_in h1 a h
    · exact readsAll_in h2 a h
end

/-- data, off the addresses X; new against h₀ where n says so -/
noncomputable def Dat (X : List Addr) (h₀ h : Heap) (v : Value) (d : PyData) (n : Bool) : Prop := ∃ as, Reads h v d as ∧ ∀ a ∈ as, a ∉ X ∧ (n = true → h₀.get? a = none)
/-- data, new against s -/
noncomputable def New (s s' : Shared) (v : Value) (d : PyData) : Prop := ∃ as, Reads s'.heap v d as ∧ ∀ a ∈ as, s.heap.get? a = none
theorem New.gr {fs : List Addr} {s s' s'' : Shared} {v : Value} {d : PyData} (x : New s s' v d) (g : Gr fs s' s'') : New s s'' v d := let ⟨as, r, n⟩ := x; ⟨as, g.reads r, n⟩
theorem New.pre {fs : List Addr} {s₀ s s' : Shared} {v : Value} {d : PyData} (g : Gr fs s₀ s) (x : New s s' v d) : New s₀ s' v d := let ⟨as, r, n⟩ := x; ⟨as, r, fun a ha => g.none (n a ha)⟩

/-- what stays fixed while a block runs -/
structure Pa where
  base : Heap
  chain : List Env
  X : List Addr
  h₀ : Heap
  g₀ : Array GenState
  o₀ : OsState
  L : Addr
  cs : List (Str × Addr)
  oc : List Addr

/-- what is known of a block: its own lists, data, its names, its cells -/
structure Sy where
  own : List (Addr × List Value)
  dat : List (Value × PyData × Bool)
  m : List (Str × Value)
  cm : List (Str × Value)

noncomputable abbrev mu (P : Pa) (Y : Sy) : List Addr := P.L :: (P.oc ++ Y.own.map (·.1))

structure St (P : Pa) (Y : Sy) (h : Heap) (g : Array GenState) (o : OsState) : Prop where
  ch : Ch P.X (frs P.chain) P.h₀ h
  bs : P.base.StaysIn h
  ff : h.FunFrames P.base P.chain
  fn : ∀ f ∈ frs P.chain, ∃ m, h.Ns f m
  ns : h.Ns P.L (fun x => Y.m.lookup x)
  ce : ∀ n c, P.cs.lookup n = some c → h.IsCell c (Y.cm.lookup n)
  ap : P.cs.Pairwise fun x y => x.2 ≠ y.2
  oc : ∀ c ∈ P.oc, ∃ v, h.IsCell c v
  li : ∀ p ∈ Y.own, PlainL h p.1 p.2.toArray
  nd : (Y.own.map (·.1)).Nodup
  nf : ∀ a ∈ P.oc ++ Y.own.map (·.1), a ∉ frs P.chain
  nb : ∀ a ∈ mu P Y, P.base.get? a = none
  nx : ∀ a ∈ mu P Y, a ∈ P.X ∨ P.h₀.get? a = none
  xi : ∀ a ∈ P.X, ∃ o, h.get? a = some o
  da : ∀ p ∈ Y.dat, Dat (mu P Y) P.h₀ h p.1 p.2.1 p.2.2
  gs : GG P.g₀ g
  os : o = P.o₀

theorem funFrames_up {base h h' : Heap} (k : ∀ b o, h.get? b = some o → (∀ vs, o.data ≠ .fields vs) → ∃ o', h'.get? b = some o' ∧ ∀ vs, o'.data ≠ .fields vs) : ∀ {l : List Env}, h.FunFrames base l → h'.FunFrames base l
  | [], _ => trivial
  | _ :: _, ⟨h1, ⟨L, o, h2, h3, h4, h5⟩, r⟩ => by
    obtain ⟨o', e, f⟩ := k L o h4 h5
    exact ⟨h1, ⟨L, o', h2, h3, e, f⟩, funFrames_up k r⟩

theorem list_not {h : Heap} {a : Addr} {vs : Array Value} (y : h.IsList a vs) : ∃ o, h.get? a = some o ∧ (∀ vs, o.data ≠ .fields vs) ∧ (∀ es n, o.data ≠ .dict es n) ∧ (∀ v, o.data ≠ .cell v) ∧ ¬ (o.cls = .type "tuple" ∧ ∃ vs n, o.data = .seq vs n) := by
  obtain ⟨o, ho, hc, n, hd⟩ := y
  exact ⟨o, ho, (fun vs q => by rw [hd] at q; cases q), (fun es n q => by rw [hd] at q; cases q), (fun v q => by rw [hd] at q; cases q), fun q => by rw [hc] at q; exact absurd q.1 (by decide)⟩
theorem cell_not {h : Heap} {a : Addr} {v : Option Value} (y : h.IsCell a v) : ∃ o, h.get? a = some o ∧ (∀ vs, o.data ≠ .fields vs) ∧ (∀ es n, o.data ≠ .dict es n) ∧ (∀ vs n, o.data ≠ .seq vs n) := by
  obtain ⟨o, ho, hd⟩ := y
  exact ⟨o, ho, (fun vs q => by rw [hd] at q; cases q), (fun es n q => by rw [hd] at q; cases q), (fun vs n q => by rw [hd] at q; cases q)⟩
theorem ns_not {h : Heap} {a : Addr} {m : Loc} (y : h.Ns a m) : ∃ o, h.get? a = some o ∧ (∀ vs, o.data ≠ .fields vs) ∧ (∀ vs n, o.data ≠ .seq vs n) ∧ (∀ v, o.data ≠ .cell v) := by
  obtain ⟨o, es, ep, ho, hd, _⟩ := y
  exact ⟨o, ho, (fun vs q => by rw [hd] at q; cases q), (fun es n q => by rw [hd] at q; cases q), (fun vs q => by rw [hd] at q; cases q)⟩

namespace St
variable {P : Pa} {Y : Sy} {h : Heap} {g : Array GenState} {o : OsState} {s s' : Shared}

/-- what a mutable address of the block holds: no tuple, no record -/
theorem mu_obj (S : St P Y h g o) {a : Addr} (ha : a ∈ mu P Y) : ∃ o, h.get? a = some o ∧ (∀ vs, o.data ≠ .fields vs) ∧ ¬ (o.cls = .type "tuple" ∧ ∃ vs n, o.data = .seq vs n) := by
  rcases List.mem_cons.mp ha with rfl | ha
  · obtain ⟨o, ho, h1, h2, _⟩ := ns_not S.ns
    exact ⟨o, ho, h1, fun q => by obtain ⟨_, vs, n, q⟩ := q; exact h2 vs n q⟩
  · rcases List.mem_append.mp ha with ha | ha
    · obtain ⟨v, y⟩ := S.oc a ha
      obtain ⟨o, ho, h1, _, h2⟩ := cell_not y
      exact ⟨o, ho, h1, fun q => by obtain ⟨_, vs, n, q⟩ := q; exact h2 vs n q⟩
    · obtain ⟨p, hp, rfl⟩ := List.mem_map.mp ha
      obtain ⟨o, ho, h1, _, _, h2⟩ := list_not (S.li p hp).isList
      exact ⟨o, ho, h1, h2⟩
theorem mu_in (S : St P Y h g o) {a : Addr} (ha : a ∈ mu P Y) (n : h.get? a = none) : False := by
  obtain ⟨o, ho, _⟩ := S.mu_obj ha
  rw [n] at ho; cases ho

/-- a step that leaves all that stood, but the frames' slots -/
theorem grow (S : St P Y s.heap s.gens s.os) (G : Gr (frs P.chain) s s') : St P Y s'.heap s'.gens s'.os where
  ch := S.ch.trans fun b o _ e => G.ch b o (by simp) e
  bs := fun b o e => by
    obtain ⟨k, _⟩ := G.ch b o (by simp) (S.bs b o e)
    refine k fun hf => ?_
    rw [(S.ff.mem hf).1] at e; cases e
  ff := funFrames_up (fun b o e hn => let ⟨_, sl, e'⟩ := G.ch b o (by simp) e; ⟨_, e', hn⟩) S.ff
  fn := fun f hf => let ⟨m, y⟩ := S.fn f hf; ⟨m, G.ch.ns (by simp) y⟩
  ns := G.ch.ns (by simp) S.ns
  ce := fun n c hc => G.ch.cell (by simp) (S.ce n c hc)
  ap := S.ap
  oc := fun c hc => let ⟨v, y⟩ := S.oc c hc; ⟨v, G.ch.cell (by simp) y⟩
  li := fun p hp => G.ch.plain (by simp) (S.li p hp)
  nd := S.nd
  nf := S.nf
  nb := S.nb
  nx := S.nx
  xi := fun a ha => let ⟨o, e⟩ := S.xi a ha; let ⟨_, sl, e'⟩ := G.ch a o (by simp) e; ⟨_, e'⟩
  da := fun p hp => let ⟨as, r, q⟩ := S.da p hp; ⟨as, G.reads r, q⟩
  gs := S.gs.trans G.gs
  os := G.os.trans S.os

theorem know (S : St P Y h g o) {v : Value} {d : PyData} {n : Bool} (r : Dat (mu P Y) P.h₀ h v d n) : St P { Y with dat := (v, d, n) :: Y.dat } h g o :=
  { ch := S.ch, bs := S.bs, ff := S.ff, fn := S.fn, ns := S.ns, ce := S.ce, ap := S.ap, oc := S.oc, li := S.li, nd := S.nd, nf := S.nf, nb := S.nb, nx := S.nx, xi := S.xi, gs := S.gs, os := S.os,
    da := fun p hp => by
      rcases List.mem_cons.mp hp with rfl | hp
      · exact r
      · exact S.da p hp }
theorem drop (S : St P Y h g o) {dat' : List (Value × PyData × Bool)} (k : ∀ p ∈ dat', p ∈ Y.dat) : St P { Y with dat := dat' } h g o :=
  { ch := S.ch, bs := S.bs, ff := S.ff, fn := S.fn, ns := S.ns, ce := S.ce, ap := S.ap, oc := S.oc, li := S.li, nd := S.nd, nf := S.nf, nb := S.nb, nx := S.nx, xi := S.xi, gs := S.gs, os := S.os,
    da := fun p hp => S.da p (k p hp) }
/-- new data are new against the block's start -/
theorem dat_of (S : St P Y s.heap s.gens s.os) {v : Value} {d : PyData} (N : New s s' v d) : Dat (mu P Y) P.h₀ s'.heap v d true := by
  obtain ⟨as, r, n⟩ := N
  refine ⟨as, r, fun a ha => ⟨fun hm => S.mu_in hm (n a ha), fun _ => ?_⟩⟩
  cases q : P.h₀.get? a with
  | none => rfl
  | some o =>
    by_cases hX : a ∈ P.X
    · obtain ⟨o', e⟩ := S.xi a hX
      rw [n a ha] at e; cases e
    · obtain ⟨_, sl, e⟩ := S.ch a o hX q; rw [n a ha] at e; cases e
theorem add (S : St P Y s.heap s.gens s.os) (G : Gr (frs P.chain) s s') {v : Value} {d : PyData} (N : New s s' v d) : St P { Y with dat := (v, d, true) :: Y.dat } s'.heap s'.gens s'.os :=
  (S.grow G).know (S.dat_of N)

/-- a change at one mutable address of the block -/
theorem but (S : St P Y s.heap s.gens s.os) {a : Addr} {h' : Heap} (hs : Heap.SameBut a s.heap h') {own' : List (Addr × List Value)} {m' cm' : List (Str × Value)}
    (ha : a ∈ mu P Y) (hown : own'.map (·.1) = Y.own.map (·.1)) (hli : ∀ p ∈ own', PlainL h' p.1 p.2.toArray) (hns : h'.Ns P.L (fun x => m'.lookup x))
    (hce : ∀ n c, P.cs.lookup n = some c → h'.IsCell c (cm'.lookup n)) (hoc : ∀ c ∈ P.oc, ∃ v, h'.IsCell c v) : St P { Y with own := own', m := m', cm := cm' } h' s.gens s.os where
  ch := fun b o hb e => by
    obtain ⟨k, sl, e'⟩ := S.ch b o hb e
    have : b ≠ a := by
      rintro rfl
      rcases S.nx b ha with q | q
      · exact hb q
      · rw [q] at e; cases e
    rw [hs.2 b this]
    exact ⟨k, sl, e'⟩
  bs := fun b o e => by
    have : b ≠ a := by rintro rfl; rw [S.nb b ha] at e; cases e
    rw [hs.2 b this]; exact S.bs b o e
  ff := funFrames_up (fun b o e hn => by
    by_cases q : b = a
    · subst q
      rcases List.mem_cons.mp ha with rfl | ha
      · obtain ⟨o', ho', h1, _⟩ := ns_not hns
        exact ⟨o', ho', h1⟩
      · rcases List.mem_append.mp ha with ha | ha
        · obtain ⟨v, y⟩ := hoc b ha
          obtain ⟨o', ho', h1, _⟩ := cell_not y
          exact ⟨o', ho', h1⟩
        · rw [← hown] at ha
          obtain ⟨p, hp, rfl⟩ := List.mem_map.mp ha
          obtain ⟨o', ho', hn', _⟩ := list_not (hli p hp).isList
          exact ⟨o', ho', hn'⟩
    · exact ⟨o, by rw [hs.2 b q]; exact e, hn⟩) S.ff
  fn := fun f hf => by
    obtain ⟨m, y⟩ := S.fn f hf
    by_cases q : f = a
    · subst q
      rcases List.mem_cons.mp ha with rfl | ha
      · exact ⟨_, hns⟩
      · exact absurd hf (S.nf _ ha)
    · exact ⟨m, y.sameBut hs q⟩
  ns := hns
  ce := hce
  ap := S.ap
  oc := hoc
  li := hli
  nd := hown ▸ S.nd
  nf := by show ∀ a ∈ P.oc ++ own'.map (·.1), _; rw [hown]; exact S.nf
  nb := by show ∀ a ∈ P.L :: (P.oc ++ own'.map (·.1)), _; rw [hown]; exact S.nb
  nx := by show ∀ a ∈ P.L :: (P.oc ++ own'.map (·.1)), _; rw [hown]; exact S.nx
  xi := fun b hb => by
    by_cases q : b = a
    · subst q
      rcases List.mem_cons.mp ha with rfl | ha
      · obtain ⟨o', ho', _⟩ := ns_not hns
        exact ⟨o', ho'⟩
      · rcases List.mem_append.mp ha with ha | ha
        · obtain ⟨v, y⟩ := hoc b ha
          obtain ⟨o', ho', _⟩ := cell_not y
          exact ⟨o', ho'⟩
        · rw [← hown] at ha
          obtain ⟨p, hp, rfl⟩ := List.mem_map.mp ha
          obtain ⟨o', ho', _⟩ := list_not (hli p hp).isList
          exact ⟨o', ho'⟩
    · obtain ⟨o, e⟩ := S.xi b hb
      exact ⟨o, by rw [hs.2 b q]; exact e⟩
  da := fun p hp => by
    obtain ⟨as, r, q⟩ := S.da p hp
    show Dat (P.L :: (P.oc ++ own'.map (·.1))) _ _ _ _ _
    rw [hown]
    refine ⟨as, reads_up (S := fun b => b ≠ a) (fun b o hb e => ⟨o.slots, by rw [hs.2 b hb]; exact e⟩) ?_ r ?_, q⟩
    · rintro b o vs n e hc hd rfl
      obtain ⟨o', ho', _, hn⟩ := S.mu_obj ha
      rw [e] at ho'; cases ho'
      exact hn ⟨hc, vs, n, hd⟩
    · rintro b hb rfl
      exact (q b hb).1 ha
  gs := S.gs
  os := S.os

theorem ne_ap {cs : List (Str × Addr)} (ap : cs.Pairwise fun x y => x.2 ≠ y.2) {n n' : Str} {c c' : Addr} (h : cs.lookup n = some c) (h' : cs.lookup n' = some c') (hn : n ≠ n') : c ≠ c' := fun e => by
  subst e
  exact hn (name_of_addr ap (mem_of_lookup h) (mem_of_lookup h'))

theorem L_ne_list (S : St P Y h g o) {p : Addr × List Value} (hp : p ∈ Y.own) : p.1 ≠ P.L := fun e => by
  obtain ⟨o, ho, _, hn, _⟩ := list_not (S.li p hp).isList
  obtain ⟨o', es, n, ho', hd, _⟩ := S.ns
  rw [e, ho'] at ho; cases ho
  exact hn es n hd
theorem L_ne_cell (S : St P Y h g o) {c : Addr} {v : Option Value} (y : h.IsCell c v) : c ≠ P.L := fun e => by
  obtain ⟨o, ho, hd⟩ := y
  obtain ⟨o', es, n, ho', hd', _⟩ := S.ns
  rw [e, ho'] at ho; cases ho
  rw [hd'] at hd; cases hd
theorem list_ne_cell (_S : St P Y h g o) {a c : Addr} {v : Option Value} {vs : Array Value} (x : h.IsList a vs) (y : h.IsCell c v) : c ≠ a := fun e => by
  subst e
  obtain ⟨o, ho, hd⟩ := y
  obtain ⟨o', ho', _, _, hn, _⟩ := list_not x
  rw [ho'] at ho; cases ho
  exact hn _ hd

/-- a local name is stored -/
theorem setL (S : St P Y s.heap s.gens s.os) {h' : Heap} {x : Str} {v : Value} (hn : h'.Ns P.L (fun y => if y = x then some v else Y.m.lookup y)) (hs : Heap.SameBut P.L s.heap h') :
    St P { Y with m := (x, v) :: Y.m } h' s.gens s.os :=
  S.but (own' := Y.own) (cm' := Y.cm) hs List.mem_cons_self rfl (fun p hp => (S.li p hp).extBut hs.extBut (S.L_ne_list hp))
    (by
      have e : (fun y => ((x, v) :: Y.m).lookup y) = fun y => if y = x then some v else Y.m.lookup y := by
        funext y
        rw [List.lookup_cons]
        by_cases q : y = x
        · subst q; simp
        · have : (y == x) = false := beq_eq_false_iff_ne.mpr q
          rw [this]; simp [q]
      rw [e]; exact hn)
    (fun n c hc => (S.ce n c hc).sameBut hs (S.L_ne_cell (S.ce n c hc)))
    (fun c hc => let ⟨v, y⟩ := S.oc c hc; ⟨v, y.sameBut hs (S.L_ne_cell y)⟩)
/-- a cell of the block's own is stored -/
theorem setC (S : St P Y s.heap s.gens s.os) {h' : Heap} {x : Str} {c : Addr} {v : Value} (hc : P.cs.lookup x = some c) (ho : c ∈ P.oc) (hn : h'.IsCell c (some v)) (hs : Heap.SameBut c s.heap h') :
    St P { Y with cm := (x, v) :: Y.cm } h' s.gens s.os :=
  S.but (own' := Y.own) (m' := Y.m) hs (List.mem_cons_of_mem _ (List.mem_append_left _ ho)) rfl (fun p hp => (S.li p hp).extBut hs.extBut (Ne.symm (S.list_ne_cell (S.li p hp).isList (S.ce x c hc))))
    (S.ns.sameBut hs (Ne.symm (S.L_ne_cell (S.ce x c hc))))
    (fun n c' hc' => by
      rw [List.lookup_cons]
      by_cases q : n = x
      · subst q
        rw [hc] at hc'; cases hc'
        simpa using hn
      · have : (n == x) = false := beq_eq_false_iff_ne.mpr q
        rw [this]
        exact (S.ce n c' hc').sameBut hs (ne_ap S.ap hc' hc q))
    (fun c' hc' => by
      by_cases q : c' = c
      · subst q; exact ⟨_, hn⟩
      · obtain ⟨v, y⟩ := S.oc c' hc'; exact ⟨v, y.sameBut hs q⟩)
/-- a list of the block's own is changed -/
theorem setO (S : St P Y s.heap s.gens s.os) {h' : Heap} {a : Addr} {xs ys : List Value} {pre post : List (Addr × List Value)} (e : Y.own = pre ++ (a, xs) :: post) (hn : PlainL h' a ys.toArray) (hs : Heap.SameBut a s.heap h') :
    St P { Y with own := pre ++ (a, ys) :: post } h' s.gens s.os := by
  have hm : (a, xs) ∈ Y.own := by rw [e]; simp
  have hne : ∀ p ∈ pre ++ post, p.1 ≠ a := by
    have hnd := S.nd
    rw [e] at hnd
    simp only [List.map_append, List.map_cons] at hnd
    intro p hp q
    obtain ⟨_, h2, h3⟩ := List.nodup_append.mp hnd
    rcases List.mem_append.mp hp with hp | hp
    · exact h3 p.1 (List.mem_map_of_mem hp) a List.mem_cons_self q
    · exact (List.nodup_cons.mp h2).1 (q ▸ List.mem_map_of_mem hp)
  refine S.but (own' := pre ++ (a, ys) :: post) (m' := Y.m) (cm' := Y.cm) hs (List.mem_cons_of_mem _ (List.mem_append_right _ (List.mem_map_of_mem hm))) (by rw [e]; simp) (fun p hp => ?_)
    (S.ns.sameBut hs (Ne.symm (S.L_ne_list hm))) (fun n c hc => (S.ce n c hc).sameBut hs (S.list_ne_cell (S.li _ hm).isList (S.ce n c hc)))
    (fun c hc => let ⟨v, y⟩ := S.oc c hc; ⟨v, y.sameBut hs (S.list_ne_cell (S.li _ hm).isList y)⟩)
  rcases List.mem_append.mp hp with q | q
  · exact (S.li p (by rw [e]; simp [q])).extBut hs.extBut (hne p (by simp [q]))
  · rcases List.mem_cons.mp q with rfl | q
    · exact hn
    · exact (S.li p (by rw [e]; simp [q])).extBut hs.extBut (hne p (by simp [q]))

/-- a new list becomes the block's own -/
theorem ownN (S : St P Y s.heap s.gens s.os) (G : Gr (frs P.chain) s s') {a : Addr} {xs : List Value} (hl : PlainL s'.heap a xs.toArray) (hn : s.heap.get? a = none) :
    St P { Y with own := (a, xs) :: Y.own } s'.heap s'.gens s'.os := by
  have S' := S.grow G
  have hX : ∀ b ∈ mu P Y, b ≠ a := fun b hb q => S.mu_in hb (q ▸ hn)
  refine { ch := S'.ch, bs := S'.bs, ff := S'.ff, fn := S'.fn, ns := S'.ns, ce := S'.ce, ap := S'.ap, oc := S'.oc, gs := S'.gs, os := S'.os, xi := S'.xi, li := ?_, nd := ?_, nf := ?_, nb := ?_, nx := ?_, da := ?_ }
  · intro p hp
    rcases List.mem_cons.mp hp with rfl | hp
    · exact hl
    · exact S'.li p hp
  · exact List.nodup_cons.mpr ⟨fun q => hX a (List.mem_cons_of_mem _ (List.mem_append_right _ q)) rfl, S.nd⟩
  · intro b hb
    rcases List.mem_append.mp hb with hb | hb
    · exact S.nf b (List.mem_append_left _ hb)
    · rcases List.mem_cons.mp hb with rfl | hb
      · intro hf
        obtain ⟨_, o, ho, _⟩ := S.ff.mem hf
        rw [hn] at ho; cases ho
      · exact S.nf b (List.mem_append_right _ hb)
  · intro b hb
    have : b = a ∨ b ∈ mu P Y := by simp only [mu, List.mem_cons, List.mem_append, List.map_cons] at hb ⊢; rcases hb with h | h | h | h <;> simp [h]
    rcases this with rfl | hb
    · cases q : P.base.get? b with
      | none => rfl
      | some o => have := S.bs b o q; rw [hn] at this; cases this
    · exact S.nb b hb
  · intro b hb
    have : b = a ∨ b ∈ mu P Y := by simp only [mu, List.mem_cons, List.mem_append, List.map_cons] at hb ⊢; rcases hb with h | h | h | h <;> simp [h]
    rcases this with rfl | hb
    · by_cases q : b ∈ P.X
      · exact .inl q
      · refine .inr ?_
        cases z : P.h₀.get? b with
        | none => rfl
        | some o => obtain ⟨_, sl, e⟩ := S.ch b o q z; rw [hn] at e; cases e
    · exact S.nx b hb
  · intro p hp
    obtain ⟨as, r, q⟩ := S.da p hp
    refine ⟨as, G.reads r, fun b hb => ⟨fun hm => ?_, (q b hb).2⟩⟩
    have : b = a ∨ b ∈ mu P Y := by simp only [mu, List.mem_cons, List.mem_append, List.map_cons] at hm ⊢; rcases hm with h | h | h | h <;> simp [h]
    rcases this with rfl | hm
    · obtain ⟨o, ho⟩ := reads_in r b hb
      rw [hn] at ho; cases ho
    · exact (q b hb).1 hm

/-- the end of a call: what the caller sees -/
theorem done {base : Heap} {chain : List Env} {env : Env} {L : Addr} {cs : List (Str × Addr)} {oc : List Addr} (S : St ⟨base, env :: chain, [], s.heap, s.gens, s.os, L, cs, oc⟩ Y s'.heap s'.gens s'.os) (hf : env.frame = some L) : Gr (frs chain) s s' where
  ch := fun b o _ e => by
    obtain ⟨k, r⟩ := S.ch b o (by simp) e
    refine ⟨fun hb => k ?_, r⟩
    have hL : s.heap.get? L = none := (S.nx L List.mem_cons_self).elim (fun q => by cases q) id
    show b ∉ List.filterMap (·.frame) (env :: chain)
    rw [List.filterMap_cons, hf]
    intro q
    rcases List.mem_cons.mp q with rfl | q
    · rw [hL] at e; cases e
    · exact hb q
  os := S.os
  gs := S.gs
end St
end Mine
namespace Mine
theorem Dat.gr {X fs : List Addr} {h₀ : Heap} {s s' : Shared} {v : Value} {d : PyData} {n : Bool} (G : Gr fs s s') (x : Dat X h₀ s.heap v d n) : Dat X h₀ s'.heap v d n := let ⟨as, r, q⟩ := x; ⟨as, G.reads r, q⟩
theorem Dat.weak {X : List Addr} {h₀ h : Heap} {v : Value} {d : PyData} {n : Bool} (x : Dat X h₀ h v d n) : Dat X h₀ h v d false := let ⟨as, r, q⟩ := x; ⟨as, r, fun a ha => ⟨(q a ha).1, fun z => by cases z⟩⟩
theorem Dat.int (X : List Addr) (h₀ h : Heap) (i : Int) (t : Tok) (n : Bool) : Dat X h₀ h (.int i t) (.int i) n := ⟨[], .int i t, fun _ h => by cases h⟩
theorem Dat.str (X : List Addr) (h₀ h : Heap) (i : Str) (t : Tok) (n : Bool) : Dat X h₀ h (.str i t) (.str i) n := ⟨[], .str i t, fun _ h => by cases h⟩
theorem Dat.bool (X : List Addr) (h₀ h : Heap) (b : Bool) (n : Bool) : Dat X h₀ h (.bool b) (.bool b) n := ⟨[], .bool b, fun _ h => by cases h⟩
theorem Dat.none (X : List Addr) (h₀ h : Heap) (n : Bool) : Dat X h₀ h .none .none n := ⟨[], .none, fun _ h => by cases h⟩
theorem Dat.isInt {X : List Addr} {h₀ h : Heap} {v : Value} {i : Int} {n : Bool} (x : Dat X h₀ h v (.int i) n) : ∃ t, v = .int i t := by obtain ⟨as, r, _⟩ := x; cases r; exact ⟨_, rfl⟩
theorem Dat.isStr {X : List Addr} {h₀ h : Heap} {v : Value} {i : Str} {n : Bool} (x : Dat X h₀ h v (.str i) n) : ∃ t, v = .str i t := by obtain ⟨as, r, _⟩ := x; cases r; exact ⟨_, rfl⟩
theorem Dat.isNone {X : List Addr} {h₀ h : Heap} {v : Value} {n : Bool} (x : Dat X h₀ h v .none n) : v = .none := by obtain ⟨as, r, _⟩ := x; cases r; rfl
/-- many data -/
noncomputable def Dats (X : List Addr) (h₀ h : Heap) (vs : List Value) (ds : List PyData) (n : Bool) : Prop := ∃ as, ReadsAll h vs ds as ∧ ∀ a ∈ as, a ∉ X ∧ (n = true → h₀.get? a = none)
theorem Dats.nil {X : List Addr} {h₀ h : Heap} {n : Bool} : Dats X h₀ h [] [] n := ⟨[], .nil, fun _ h => by cases h⟩
theorem Dats.cons {X : List Addr} {h₀ h : Heap} {v : Value} {vs : List Value} {d : PyData} {ds : List PyData} {n : Bool} (x : Dat X h₀ h v d n) (y : Dats X h₀ h vs ds n) : Dats X h₀ h (v :: vs) (d :: ds) n := by
  obtain ⟨as, r, q⟩ := x
  obtain ⟨bs, r', q'⟩ := y
  exact ⟨as ++ bs, .cons r r', fun a ha => (List.mem_append.mp ha).elim (q a) (q' a)⟩
theorem Dats.gr {X fs : List Addr} {h₀ : Heap} {s s' : Shared} {v : List Value} {d : List PyData} {n : Bool} (G : Gr fs s s') (x : Dats X h₀ s.heap v d n) : Dats X h₀ s'.heap v d n := by
  obtain ⟨as, r, q⟩ := x
  exact ⟨as, readsAll_up (S := fun _ => True) (fun b o _ e => (G.ch b o (by simp) e).2) (fun _ _ _ _ _ _ _ => trivial) r fun _ _ => trivial, q⟩
theorem Dats.get {X : List Addr} {h₀ h : Heap} : ∀ {vs : List Value} {ds : List PyData} {n : Bool}, Dats X h₀ h vs ds n → ∀ {i : Nat} {d : PyData}, ds[i]? = some d → ∃ v, vs[i]? = some v ∧ Dat X h₀ h v d n
  | _, _, _, ⟨_, .nil, _⟩, _, _, e => by cases e
  | _, _, _, ⟨_, .cons (as := as) (bs := bs) r r', q⟩, 0, _, e => by
    cases e
    exact ⟨_, rfl, as, r, fun a ha => q a (List.mem_append_left _ ha)⟩
  | _, _, _, ⟨_, .cons (as := as) (bs := bs) r r', q⟩, i + 1, _, e => Dats.get (i := i) ⟨bs, r', fun a ha => q a (List.mem_append_right _ ha)⟩ e
theorem Dats.len {X : List Addr} {h₀ h : Heap} : ∀ {vs : List Value} {ds : List PyData} {n : Bool}, Dats X h₀ h vs ds n → vs.length = ds.length
  | _, _, _, ⟨_, .nil, _⟩ => rfl
  | _, _, _, ⟨_, .cons (as := as) (bs := bs) r r', q⟩ => by
    have := Dats.len (n := _) ⟨bs, r', fun a ha => q a (List.mem_append_right _ ha)⟩
    simp [this]
theorem Dat.isList {X : List Addr} {h₀ h : Heap} {v : Value} {ds : List PyData} {n : Bool} (x : Dat X h₀ h v (.list ds) n) : ∃ a vs, v = .ref a ∧ h.IsList a vs.toArray ∧ Dats X h₀ h vs ds n ∧ a ∉ X := by
  obtain ⟨as, r, q⟩ := x
  cases r with
  | list h1 h2 h3 h4 =>
    rename_i a o vs k as
    exact ⟨a, vs.toList, rfl, ⟨o, h1, h2, k, by simpa using h3⟩, ⟨as, h4, fun b hb => q b (List.mem_cons_of_mem _ hb)⟩, (q a List.mem_cons_self).1⟩
theorem Dat.isTup {X : List Addr} {h₀ h : Heap} {v : Value} {ds : List PyData} {n : Bool} (x : Dat X h₀ h v (.tuple ds) n) : ∃ a vs, v = .ref a ∧ IsTup h a vs.toArray ∧ Dats X h₀ h vs ds n := by
  obtain ⟨as, r, q⟩ := x
  cases r with
  | tuple h1 h2 h3 h4 =>
    rename_i a o vs k
    exact ⟨a, vs.toList, rfl, ⟨o, h1, h2, k, by simpa using h3⟩, ⟨as, h4, q⟩⟩
theorem Dat.ofList {X : List Addr} {h₀ h : Heap} {a : Addr} {vs : List Value} {ds : List PyData} {n : Bool} (hl : h.IsList a vs.toArray) (y : Dats X h₀ h vs ds n) (ha : a ∉ X) (hn : n = true → h₀.get? a = .none) : Dat X h₀ h (.ref a) (.list ds) n := by
  obtain ⟨o, ho, hc, k, hd⟩ := hl
  obtain ⟨as, r, q⟩ := y
  exact ⟨a :: as, .list ho hc hd (by simpa using r), fun b hb => by
    rcases List.mem_cons.mp hb with rfl | hb
    · exact ⟨ha, hn⟩
    · exact q b hb⟩
theorem Dat.ofTup {X : List Addr} {h₀ h : Heap} {a : Addr} {vs : List Value} {ds : List PyData} {n : Bool} (hl : IsTup h a vs.toArray) (y : Dats X h₀ h vs ds n) : Dat X h₀ h (.ref a) (.tuple ds) n := by
  obtain ⟨o, ho, hc, k, hd⟩ := hl
  obtain ⟨as, r, q⟩ := y
  exact ⟨as, .tuple ho hc hd (by simpa using r), q⟩
theorem St.fresh {P : Pa} {Y : Sy} {s : Shared} (S : St P Y s.heap s.gens s.os) {a : Addr} (h : s.heap.get? a = none) : a ∉ mu P Y ∧ P.h₀.get? a = none := by
  refine ⟨fun hm => S.mu_in hm h, ?_⟩
  cases q : P.h₀.get? a with
  | none => rfl
  | some o =>
    by_cases hX : a ∈ P.X
    · obtain ⟨o', e⟩ := S.xi a hX
      rw [h] at e; cases e
    · obtain ⟨_, sl, e⟩ := S.ch a o hX q; rw [h] at e; cases e

section
variable {prog : Program} {w : World} {A : Around} {env : Env} {P : Pa} {Y : Sy}

/-- an expression's value, at every state that bears the picture Y -/
structure Ex (prog : Program) (w : World) (A : Around) (env : Env) (P : Pa) (Y : Sy) (e : Expr) (V : Value → Heap → Prop) : Prop where
  go : ∀ (s : Shared) (Q : Value → Shared → Prop) (E : Value → Shared → Prop), St P Y s.heap s.gens s.os → (∀ v s', Gr (frs P.chain) s s' → V v s'.heap → Q v s') → wpAny (model prog w) A (eval e env) Q E s
noncomputable abbrev ExI (prog : Program) (w : World) (A : Around) (env : Env) (P : Pa) (Y : Sy) (e : Expr) (i : Int) : Prop := Ex prog w A env P Y e fun v _ => ∃ t, v = .int i t
noncomputable abbrev ExS (prog : Program) (w : World) (A : Around) (env : Env) (P : Pa) (Y : Sy) (e : Expr) (x : Str) : Prop := Ex prog w A env P Y e fun v _ => ∃ t, v = .str x t
noncomputable abbrev ExV (prog : Program) (w : World) (A : Around) (env : Env) (P : Pa) (Y : Sy) (e : Expr) (u : Value) : Prop := Ex prog w A env P Y e fun v _ => v = u
noncomputable abbrev ExD (prog : Program) (w : World) (A : Around) (env : Env) (P : Pa) (Y : Sy) (e : Expr) (d : PyData) (n : Bool) : Prop := Ex prog w A env P Y e fun v h => Dat (mu P Y) P.h₀ h v d n
/-- a test -/
structure Tr (prog : Program) (w : World) (A : Around) (env : Env) (P : Pa) (Y : Sy) (e : Expr) (b : Bool) : Prop where
  go : ∀ (s : Shared) (Q : Bool → Shared → Prop) (E : Value → Shared → Prop), St P Y s.heap s.gens s.os → (∀ s', Gr (frs P.chain) s s' → Q b s') → wpAny (model prog w) A (isTrue e env (eval e env)) Q E s
/-- arguments, items -/
structure ExL (prog : Program) (w : World) (A : Around) (env : Env) (P : Pa) (Y : Sy) (es : List Expr) (V : List Value → Heap → Prop) : Prop where
  go : ∀ (s : Shared) (pos : Pos) (Q : List Value → Shared → Prop) (E : Value → Shared → Prop), St P Y s.heap s.gens s.os → (∀ vs s', Gr (frs P.chain) s s' → V vs s'.heap → Q vs s') → wpAny (model prog w) A (spliced (backTo pos (starEach es env))) Q E s
noncomputable abbrev ExLD (prog : Program) (w : World) (A : Around) (env : Env) (P : Pa) (Y : Sy) (es : List Expr) (ds : List PyData) (n : Bool) : Prop := ExL prog w A env P Y es fun vs h => Dats (mu P Y) P.h₀ h vs ds n

theorem Ex.mono {e : Expr} {V V' : Value → Heap → Prop} (h : Ex prog w A env P Y e V) (k : ∀ v h, V v h → V' v h) : Ex prog w A env P Y e V' := .mk fun s Q E S q => h.go s Q E S fun v s' G hv => q v s' G (k _ _ hv)
theorem ExV.toI {e : Expr} {i : Int} {t : Tok} (h : ExV prog w A env P Y e (.int i t)) : ExI prog w A env P Y e i := h.mono fun _ _ e => ⟨t, e⟩
theorem ExV.toS {e : Expr} {i : Str} {t : Tok} (h : ExV prog w A env P Y e (.str i t)) : ExS prog w A env P Y e i := h.mono fun _ _ e => ⟨t, e⟩
theorem ExD.toI {e : Expr} {i : Int} {n : Bool} (h : ExD prog w A env P Y e (.int i) n) : ExI prog w A env P Y e i := h.mono fun _ _ e => e.isInt
theorem ExD.toS {e : Expr} {i : Str} {n : Bool} (h : ExD prog w A env P Y e (.str i) n) : ExS prog w A env P Y e i := h.mono fun _ _ e => e.isStr
theorem ExI.toD {e : Expr} {i : Int} {n : Bool} (h : ExI prog w A env P Y e i) : ExD prog w A env P Y e (.int i) n := h.mono fun _ _ ⟨t, e⟩ => e ▸ Dat.int ..
theorem ExS.toD {e : Expr} {i : Str} {n : Bool} (h : ExS prog w A env P Y e i) : ExD prog w A env P Y e (.str i) n := h.mono fun _ _ ⟨t, e⟩ => e ▸ Dat.str ..
theorem ExD.weak {e : Expr} {d : PyData} {n : Bool} (h : ExD prog w A env P Y e d n) : ExD prog w A env P Y e d false := h.mono fun _ _ x => x.weak

theorem ExI.const {i : Int} {k : Nat} {pos : Pos} : ExI prog w A env P Y (.Constant (.int i) k pos) i := .mk fun s _ _ _ q => wpAny_Constant_int (q _ _ ((Gr.refl _ s).toks _) ⟨_, rfl⟩)
theorem ExS.const {i : Str} {k : Nat} {pos : Pos} : ExS prog w A env P Y (.Constant (.str i) k pos) i := .mk fun s _ _ _ q => Constant_str (q _ _ ((Gr.refl _ s).toks _) ⟨_, rfl⟩)
theorem ExV.noneC {k : Nat} {pos : Pos} : ExV prog w A env P Y (.Constant .none k pos) .none := .mk fun s _ _ _ q => wpAny_pure (q _ _ (Gr.refl _ s) rfl)
theorem ExD.noneC {k : Nat} {pos : Pos} {n : Bool} : ExD prog w A env P Y (.Constant .none k pos) .none n := ExV.noneC.mono fun _ _ e => e ▸ Dat.none ..

theorem ExV.loc {x : Str} {pos : Pos} {v : Value} (hm : Y.m.lookup x = some v) (hL : env.locals = P.L := by rfl) (hk : env.scope.kind = .function := by rfl) (hx : env.kindOf x = some .local := by rfl) (hd : (x == ("__debug__" : Str)) = false := by rfl) :
    ExV prog w A env P Y (.Name x pos) v := .mk fun s _ _ S q => wpAny_Name (wpAny_loadName_local hk hx (hL ▸ S.ns) hm (q _ _ (Gr.refl _ s) rfl)) hd
theorem ExV.cel {x : Str} {pos : Pos} {v : Value} {c : Addr} (hc : P.cs.lookup x = some c) (hm : Y.cm.lookup x = some v) (hL : env.cells = P.cs := by rfl) (hk : env.scope.kind = .function := by rfl) (hx : env.kindOf x = some .cell := by rfl) (hd : (x == ("__debug__" : Str)) = false := by rfl) :
    ExV prog w A env P Y (.Name x pos) v := .mk fun s _ _ S q => wpAny_Name (wpAny_loadName_cell hk hx (hL ▸ hc) (hm ▸ S.ce x c hc) (q _ _ (Gr.refl _ s) rfl)) hd
theorem ExV.fre {x : Str} {pos : Pos} {v : Value} {c : Addr} (hc : P.cs.lookup x = some c) (hm : Y.cm.lookup x = some v) (hL : env.cells = P.cs := by rfl) (hk : env.scope.kind = .function := by rfl) (hx : env.kindOf x = some .free := by rfl) (hd : (x == ("__debug__" : Str)) = false := by rfl) (hn : (x == ("__classdict__" : Str)) = false := by rfl) :
    ExV prog w A env P Y (.Name x pos) v := .mk fun s _ _ S q => wpAny_Name (wpAny_loadName_free hk hx (hL ▸ hc) (hm ▸ S.ce x c hc) (q _ _ (Gr.refl _ s) rfl) hn) hd

/-- what the top is known to hold -/
structure Tb (K : Frag) (mg mb : Loc) (base : Heap) : Prop where
  X : K.In base
  g : base.Ns mainGlobals mg
  b : base.Ns builtinsNs mb
  lim : base.NoLimit
  bi : ∀ x, x ≠ ("__name__" : Str) → mb x = bootBuiltins x
theorem ExV.glob {K : Frag} {mg mb : Loc} {x : Str} {pos : Pos} {v : Value} (T : Tb K mg mb P.base) (e : nsIn K mainGlobals x = some (some v)) (hg : env.globals = mainGlobals := by rfl) (hk : env.scope.kind = .function := by rfl)
    (hx : env.kindOf x = some .globalImplicit := by rfl) (hd : (x == ("__debug__" : Str)) = false := by rfl) : ExV prog w A env P Y (.Name x pos) v := .mk fun s _ _ S q =>
  Name_function_global hk hx (loadGlobal_global (by rw [hg]; exact T.g.keeps S.bs) (mg_of T.X T.g e) (q _ _ (Gr.refl _ s) rfl)) hd
theorem ExV.bltn {K : Frag} {mg mb : Loc} {x : Str} {pos : Pos} {v : Value} (T : Tb K mg mb P.base) (e : nsIn K mainGlobals x = some none) (hv : bootBuiltins x = some v) (hn : x ≠ ("__name__" : Str)) (hg : env.globals = mainGlobals := by rfl) (hb : env.builtins = builtinsNs := by rfl) (hk : env.scope.kind = .function := by rfl)
    (hx : env.kindOf x = some .globalImplicit := by rfl) (hd : (x == ("__debug__" : Str)) = false := by rfl) : ExV prog w A env P Y (.Name x pos) v := .mk fun s _ _ S q =>
  Name_function_global hk hx (loadGlobal_builtin (by rw [hg]; exact T.g.keeps S.bs) (mg_none_of T.X T.g e) (by rw [hb]; exact T.b.keeps S.bs) ((T.bi x hn).trans hv) (q _ _ (Gr.refl _ s) rfl)) hd

theorem ExI.bin {op : Operator} {l r : Expr} {pos : Pos} {a b c : Int} (hop : ∀ (s : Shared) (Q E : Value → Shared → Prop) (t u : Tok), (∀ t' tk, Q (.int c t') { s with toks := tk }) → wpAny (model prog w) A (binaryOp op (.int a t) (.int b u)) Q E s)
    (h1 : ExI prog w A env P Y l a) (h2 : ExI prog w A env P Y r b) : ExI prog w A env P Y (.BinOp l op r pos) c := .mk fun s Q E S q => by
  refine wpAny_BinOp (h1.go s _ _ S fun v s1 G1 hv => ?_)
  obtain ⟨t, rfl⟩ := hv
  refine h2.go s1 _ _ (S.grow G1) fun v s2 G2 hv => ?_
  obtain ⟨u, rfl⟩ := hv
  exact hop s2 _ _ _ _ fun t' tk => q _ _ ((G1.trans G2).toks _) ⟨t', rfl⟩
theorem ExI.add {l r : Expr} {pos : Pos} {a b : Int} : ExI prog w A env P Y l a → ExI prog w A env P Y r b → ExI prog w A env P Y (.BinOp l .Add r pos) (a + b) := ExI.bin fun _ _ _ _ _ k => PyProof.Rows.add_int (k _ _)
theorem ExI.sub {l r : Expr} {pos : Pos} {a b : Int} : ExI prog w A env P Y l a → ExI prog w A env P Y r b → ExI prog w A env P Y (.BinOp l .Sub r pos) (a - b) := ExI.bin fun _ _ _ _ _ k => PyProof.Rows.sub_int (k _ _)
theorem ExI.mul {l r : Expr} {pos : Pos} {a b : Int} (h : IntMulOk a b) : ExI prog w A env P Y l a → ExI prog w A env P Y r b → ExI prog w A env P Y (.BinOp l .Mult r pos) (a * b) := ExI.bin fun _ _ _ _ _ k => PyProof.Rows.mul_int (k _ _) h
theorem ExI.mod {l r : Expr} {pos : Pos} {a b : Int} (h : b ≠ 0) : ExI prog w A env P Y l a → ExI prog w A env P Y r b → ExI prog w A env P Y (.BinOp l .Mod r pos) (a.fmod b) := ExI.bin fun _ _ _ _ _ k => PyProof.Rows.mod_int h (k _ _)
theorem ExI.fdiv {l r : Expr} {pos : Pos} {a b : Int} (h : b ≠ 0) (hp : Builtin.divisionGoesByPylong a b = false) : ExI prog w A env P Y l a → ExI prog w A env P Y r b → ExI prog w A env P Y (.BinOp l .FloorDiv r pos) (a.fdiv b) := ExI.bin fun _ _ _ _ _ k => PyProof.Rows.floordiv_int h (k _ _) (by rw [hp]; try simp)
end
end Mine
namespace Mine
theorem wpAny_rel {M : Model} {A : Around} {E : Value → Shared → Prop} {s : Shared} {vs keep : List Value} {Q : Unit → Shared → Prop} (h : Q () s) : wpAny M A (release vs keep) Q E s := fun Γ p hΓ => by rw [Sem.wp_release]; exact h
theorem wpAny_opr {M : Model} {A : Around} {E : Value → Shared → Prop} {s : Shared} {vs : List Value} {t : Sem Value} {Q : Value → Shared → Prop} (h : wpAny M A t Q E s) : wpAny M A (operate vs t) Q E s := fun Γ p hΓ => by rw [Sem.wp_operate]; exact h Γ p hΓ
theorem seqIndex_of {k : Int} {n : Nat} (h0 : 0 ≤ k) (h : k.toNat < n) : seqIndex? k n = some k.toNat := by
  unfold seqIndex?
  have e : (if k < 0 then k + (n : Int) else k) = k := if_neg (by (first | lia | omega))
  have : (decide (0 ≤ k) && decide (k < (n : Int))) = true := by simp; (first | lia | omega)
  dsimp only
  rw [e, if_pos this]
section
variable {prog : Program} {w : World} {A : Around} {env : Env} {P : Pa} {Y : Sy}

/-- a comparison of two ints -/
noncomputable abbrev CmpI (prog : Program) (w : World) (A : Around) (op : CmpOp) (a b : Int) (c : Bool) : Prop :=
  ∀ (s : Shared) (Q E : Value → Shared → Prop) (t u : Tok), Q (.bool c) s → wpAny (model prog w) A (compareOp op (.int a t) (.int b u)) Q E s
theorem CmpI.eq {a b : Int} : CmpI prog w A .Eq a b (a == b) := fun _ _ _ _ _ k => PyProof.Rows.eq_int k
theorem CmpI.ne {a b : Int} : CmpI prog w A .NotEq a b (a != b) := fun _ _ _ _ _ k => PyProof.Rows.ne_int k
theorem CmpI.lt {a b : Int} : CmpI prog w A .Lt a b (decide (a < b)) := fun _ _ _ _ _ k => PyProof.Rows.lt_int k
theorem CmpI.gt {a b : Int} : CmpI prog w A .Gt a b (decide (b < a)) := fun _ _ _ _ _ k => PyProof.Rows.gt_int k
theorem CmpI.le {a b : Int} : CmpI prog w A .LtE a b (decide (a ≤ b)) := fun _ _ _ _ _ k => PyProof.Rows.le_int k

theorem ExV.cmpI {op : CmpOp} {l r : Expr} {pos : Pos} {a b : Int} {c : Bool} (hop : CmpI prog w A op a b c) (h1 : ExI prog w A env P Y l a) (h2 : ExI prog w A env P Y r b) (hm : behindInMarks op r = false := by rfl) :
    ExV prog w A env P Y (.Compare l [op] [r] pos) (.bool c) := .mk fun s Q E S q => by
  refine wpAny_Compare1 (h1.go s _ _ S fun v s1 G1 hv => ?_) hm
  obtain ⟨t, rfl⟩ := hv
  refine h2.go s1 _ _ (S.grow G1) fun v s2 G2 hv => ?_
  obtain ⟨u, rfl⟩ := hv
  exact hop s2 _ _ _ _ (q _ _ (G1.trans G2) rfl)
theorem Tr.cmpI {op : CmpOp} {l r : Expr} {pos : Pos} {a b : Int} {c : Bool} (hop : CmpI prog w A op a b c) (h1 : ExI prog w A env P Y l a) (h2 : ExI prog w A env P Y r b) (hm : behindInMarks op r = false := by rfl) :
    Tr prog w A env P Y (.Compare l [op] [r] pos) c := .mk fun s Q E S q => by
  refine wpAny_isTrue_Compare1 (h1.go s _ _ S fun v s1 G1 hv => ?_) hm
  obtain ⟨t, rfl⟩ := hv
  refine h2.go s1 _ _ (S.grow G1) fun v s2 G2 hv => ?_
  obtain ⟨u, rfl⟩ := hv
  exact hop s2 _ _ _ _ (wpAny_truthy_bool (q _ (G1.trans G2)))
/-- a < b <= c -/
theorem Tr.cmpI2 {op op' : CmpOp} {l r r' : Expr} {pos : Pos} {a b b' : Int} {c c' : Bool} (hop : CmpI prog w A op a b c) (hop' : CmpI prog w A op' b b' c') (h1 : ExI prog w A env P Y l a) (h2 : ExI prog w A env P Y r b) (h3 : ExI prog w A env P Y r' b') (hm : lastMarks [op, op'] [r, r'] = false := by rfl) :
    Tr prog w A env P Y (.Compare l [op, op'] [r, r'] pos) (c && c') := .mk fun s Q E S q => by
  refine isTrue_chain (h1.go s _ _ S fun v s1 G1 hv => ?_) hm
  obtain ⟨t, rfl⟩ := hv
  unfold testChain
  refine wpAny_bind (wpAny_holding (h2.go s1 _ _ (S.grow G1) fun v s2 G2 hv => ?_))
  obtain ⟨u, rfl⟩ := hv
  refine wpAny_bind (wpAny_standAt (wpAny_bind (wpAny_holding (hop s2 _ _ _ _ ?_))))
  refine wpAny_bind (wpAny_rel (wpAny_bind (wpAny_holding (wpAny_truthy_bool ?_))))
  cases c with
  | false => exact wpAny_pure (q _ (G1.trans G2))
  | true =>
    unfold testChain
    refine wpAny_bind (wpAny_holding (h3.go s2 _ _ ((S.grow G1).grow G2) fun v s3 G3 hv => ?_))
    obtain ⟨u', rfl⟩ := hv
    exact wpAny_bind (wpAny_standAt (wpAny_bind (wpAny_opr (hop' s3 _ _ _ _ (wpAny_holding (wpAny_truthy_bool (by simpa using q _ ((G1.trans G2).trans G3))))))))

theorem Tr.not {e : Expr} {pos : Pos} {b : Bool} (h : Tr prog w A env P Y e b) : Tr prog w A env P Y (.UnaryOp .Not e pos) (!b) := .mk fun s Q E S q => isTrue_not (h.go s _ _ S fun s' G => q s' G)
theorem Tr.ofV {e : Expr} {b : Bool} (h : ExV prog w A env P Y e (.bool b)) (he : ∀ whole, isTrue e env whole = (do let v ← whole; standAt e.pos; holding [v] (truthy v)) := by intro _; rfl) : Tr prog w A env P Y e b := .mk fun s Q E S q =>
  isTrue_plain (h.go s _ _ S fun v s' G hv => by subst hv; exact wpAny_truthy_bool (q s' G)) (he _)

theorem Tr.and2 {e e' : Expr} {pos : Pos} {b b' : Bool} (h : Tr prog w A env P Y e b) (h' : b = true → Tr prog w A env P Y e' b') : Tr prog w A env P Y (.BoolOp .And [e, e'] pos) (b && b') := .mk fun s Q E S q => by
  refine isTrue_and (h.go s _ _ S fun s1 G1 => ?_)
  cases b with
  | false => exact q s1 G1
  | true =>
    refine isTrue_and ((h' rfl).go s1 _ _ (S.grow G1) fun s2 G2 => ?_)
    cases b' with
    | false => exact q s2 (G1.trans G2)
    | true => exact isTrue_and_nil (q s2 (G1.trans G2))

theorem Ex.ifexp {t b o : Expr} {pos : Pos} {c : Bool} {V : Value → Heap → Prop} (ht : Tr prog w A env P Y t c) (hb : c = true → Ex prog w A env P Y b V) (ho : c = false → Ex prog w A env P Y o V) : Ex prog w A env P Y (.IfExp t b o pos) V := .mk fun s Q E S q => by
  refine wpAny_IfExp (ht.go s _ _ S fun s1 G1 => ?_)
  cases c with
  | true => exact (hb rfl).go s1 _ _ (S.grow G1) fun v s2 G2 hv => q v s2 (G1.trans G2) hv
  | false => exact (ho rfl).go s1 _ _ (S.grow G1) fun v s2 G2 hv => q v s2 (G1.trans G2) hv

theorem ExLD.nil {n : Bool} : ExLD prog w A env P Y [] [] n := .mk fun s _ Q E S q => spliced_nil (q _ _ (Gr.refl _ s) .nil)
theorem ExLD.cons {e : Expr} {es : List Expr} {d : PyData} {ds : List PyData} {n : Bool} (h : ExD prog w A env P Y e d n) (h' : ExLD prog w A env P Y es ds n) (he : starEach (e :: es) env = (false, eval e env) :: starEach es env := by rfl) : ExLD prog w A env P Y (e :: es) (d :: ds) n := .mk fun s pos Q E S q => by
  rw [he]
  refine spliced_cons (h.go s _ _ S fun v s1 G1 hv => h'.go s1 pos _ _ (S.grow G1) fun vs s2 G2 hvs => q _ _ (G1.trans G2) (Dats.cons (hv.gr G2) hvs))
/-- arguments by their values -/
noncomputable abbrev ExLV (prog : Program) (w : World) (A : Around) (env : Env) (P : Pa) (Y : Sy) (es : List Expr) (V : List Value → Heap → Prop) : Prop := ExL prog w A env P Y es V
theorem ExL.nil : ExL prog w A env P Y [] (fun vs _ => vs = []) := .mk fun s _ Q E S q => spliced_nil (q _ _ (Gr.refl _ s) rfl)
theorem ExL.one {e : Expr} {V : Value → Heap → Prop} (h : Ex prog w A env P Y e V) (he : starEach [e] env = [(false, eval e env)] := by rfl) : ExL prog w A env P Y [e] (fun vs h => ∃ v, vs = [v] ∧ V v h) := .mk fun s pos Q E S q => by
  rw [he]
  exact spliced_cons (h.go s _ _ S fun v s1 G1 hv => spliced_nil (q _ _ G1 ⟨v, rfl, hv⟩))
theorem ExL.two {e e' : Expr} {V V' : Value → Heap → Prop} (h : Ex prog w A env P Y e V) (h' : Ex prog w A env P Y e' V') (hV : ∀ (s s' : Shared) v, Gr (frs P.chain) s s' → V v s.heap → V v s'.heap) (he : starEach [e, e'] env = [(false, eval e env), (false, eval e' env)] := by rfl) :
    ExL prog w A env P Y [e, e'] (fun vs h => ∃ v v', vs = [v, v'] ∧ V v h ∧ V' v' h) := .mk fun s pos Q E S q => by
  rw [he]
  exact spliced_cons (h.go s _ _ S fun v s1 G1 hv => spliced_cons (h'.go s1 _ _ (S.grow G1) fun v' s2 G2 hv' => spliced_nil (q _ _ (G1.trans G2) ⟨v, v', rfl, hV _ _ _ G2 hv, hv'⟩)))
theorem ExL.three {e e' e'' : Expr} {V V' V'' : Value → Heap → Prop} (h : Ex prog w A env P Y e V) (h' : Ex prog w A env P Y e' V') (h'' : Ex prog w A env P Y e'' V'') (hV : ∀ (s s' : Shared) v, Gr (frs P.chain) s s' → V v s.heap → V v s'.heap) (hV' : ∀ (s s' : Shared) v, Gr (frs P.chain) s s' → V' v s.heap → V' v s'.heap)
    (he : starEach [e, e', e''] env = [(false, eval e env), (false, eval e' env), (false, eval e'' env)] := by rfl) :
    ExL prog w A env P Y [e, e', e''] (fun vs h => ∃ v v' v'', vs = [v, v', v''] ∧ V v h ∧ V' v' h ∧ V'' v'' h) := .mk fun s pos Q E S q => by
  rw [he]
  exact spliced_cons (h.go s _ _ S fun v s1 G1 hv => spliced_cons (h'.go s1 _ _ (S.grow G1) fun v' s2 G2 hv' => spliced_cons (h''.go s2 _ _ ((S.grow G1).grow G2) fun v'' s3 G3 hv'' => spliced_nil (q _ _ ((G1.trans G2).trans G3) ⟨v, v', v'', rfl, hV _ _ _ G3 (hV _ _ _ G2 hv), hV' _ _ _ G3 hv', hv''⟩))))

theorem heap_new (h : Heap) : h.get? h.objs.size = none := by
  cases q : h.get? h.objs.size with
  | none => rfl
  | some o => exact absurd (Heap.lt_size q) (Nat.lt_irrefl _)

theorem ExD.list {es : List Expr} {pos : Pos} {ds : List PyData} {n : Bool} (h : ExLD prog w A env P Y es ds n) (hsz : ds.length ≤ sizeLine := by first | decide | (simp [sizeLine]; done)) : ExD prog w A env P Y (.List es pos) (.list ds) n := .mk fun s Q E S q => by
  refine wpAny_List (h.go s pos _ _ S fun vs s1 G1 hvs => ⟨hvs.len ▸ hsz, ?_⟩)
  have G2 : Gr (frs P.chain) s1 { s1 with heap := s1.heap.push { cls := .type "list", data := .seq vs.toArray } } := Gr.push _
  obtain ⟨f1, f2⟩ := (S.grow G1).fresh (heap_new s1.heap)
  refine q _ _ (G1.trans G2) (Dat.ofList (vs := vs) ⟨_, Heap.get?_push_size _ rfl, rfl, 0, rfl⟩ (hvs.gr G2) f1 fun _ => f2)
theorem ExD.tuple {es : List Expr} {k : Nat} {pos : Pos} {ds : List PyData} {n : Bool} (h : ExLD prog w A env P Y es ds n) (hsz : ds.length ≤ sizeLine := by first | decide | (simp [sizeLine]; done)) : ExD prog w A env P Y (.Tuple es k pos) (.tuple ds) n := .mk fun s Q E S q => by
  refine wpAny_Tuple (h.go s pos _ _ S fun vs s1 G1 hvs => ⟨hvs.len ▸ hsz, ?_⟩)
  have G2 : Gr (frs P.chain) s1 { s1 with heap := s1.heap.push { cls := .type "tuple", data := .seq vs.toArray } } := Gr.push _
  refine q _ _ (G1.trans G2) (Dat.ofTup (vs := vs) ⟨_, Heap.get?_push_size _ rfl, rfl, 0, rfl⟩ (hvs.gr G2))

/-- known data under a name -/
theorem ExV.toD {e : Expr} {v : Value} {d : PyData} {n : Bool} (h : ExV prog w A env P Y e v) (hd : (v, d, n) ∈ Y.dat) : ExD prog w A env P Y e d n := .mk fun s Q E S q =>
  h.go s Q E S fun u s' G hu => by subst hu; exact q _ s' G ((S.grow G).da _ hd)

theorem ExD.itemL {value slice : Expr} {pos : Pos} {ds : List PyData} {n : Bool} {k : Int} {d : PyData} (hv : ExD prog w A env P Y value (.list ds) n) (hi : ExI prog w A env P Y slice k) (h0 : 0 ≤ k) (hk : k < 2 ^ 63) (hd : ds[k.toNat]? = some d)
    (hs : ∀ a u, subscripted slice false (.ref a) (.int k u) = operate [.ref a, .int k u] (getItem (.ref a) (.int k u)) := by intros; with_unfolding_all rfl) : ExD prog w A env P Y (.Subscript value slice pos) d n := .mk fun s Q E S q => by
  refine Subscript_ (hv.go s _ _ S fun v s1 G1 hv => hi.go s1 _ _ (S.grow G1) fun u s2 G2 hu => ?_)
  obtain ⟨t, rfl⟩ := hu
  obtain ⟨a, vs, rfl, hl, hds, _⟩ := (hv.gr G2).isList
  obtain ⟨x, hx, hxd⟩ := hds.get hd
  exact tail_any hl.typeIs slot_list_getitem.lookup (wpAny_getItem_list hl h0 hk (by simpa using hx) (q _ _ (G1.trans G2) hxd)) (hs _ _)
theorem ExD.itemT {value slice : Expr} {pos : Pos} {ds : List PyData} {n : Bool} {k : Int} {d : PyData} (hv : ExD prog w A env P Y value (.tuple ds) n) (hi : ExI prog w A env P Y slice k) (h0 : 0 ≤ k) (hk : k < 2 ^ 63) (hd : ds[k.toNat]? = some d)
    (hs : ∀ a u, subscripted slice false (.ref a) (.int k u) = operate [.ref a, .int k u] (getItem (.ref a) (.int k u)) := by intros; with_unfolding_all rfl) : ExD prog w A env P Y (.Subscript value slice pos) d n := .mk fun s Q E S q => by
  refine Subscript_ (hv.go s _ _ S fun v s1 G1 hv => hi.go s1 _ _ (S.grow G1) fun u s2 G2 hu => ?_)
  obtain ⟨t, rfl⟩ := hu
  obtain ⟨a, vs, rfl, hl, hds⟩ := (hv.gr G2).isTup
  obtain ⟨x, hx, hxd⟩ := hds.get hd
  have hlt : k.toNat < vs.length := by
    have := (List.getElem?_eq_some_iff.mp hx).1; exact this
  exact item_tupleT (j := k.toNat) hl (by (first | lia | omega)) hk (seqIndex_of h0 hlt) hx (q _ _ (G1.trans G2) hxd) (hs _ _)
theorem ExS.item {value slice : Expr} {pos : Pos} {x : Str} {k : Int} {c : Nat} (hv : ExS prog w A env P Y value x) (hi : ExI prog w A env P Y slice k) (h0 : 0 ≤ k) (hk : k < 2 ^ 63) (hd : x.cps[k.toNat]? = some c)
    (hs : ∀ t u, subscripted slice false (.str x t) (.int k u) = operate [.str x t, .int k u] (getItem (.str x t) (.int k u)) := by intros; with_unfolding_all rfl) : ExS prog w A env P Y (.Subscript value slice pos) ⟨#[c]⟩ := .mk fun s Q E S q => by
  refine Subscript_ (hv.go s _ _ S fun v s1 G1 hv => hi.go s1 _ _ (S.grow G1) fun u s2 G2 hu => ?_)
  obtain ⟨t, rfl⟩ := hv
  obtain ⟨u, rfl⟩ := hu
  have hlt : k.toNat < x.cps.size := by
    have := (Array.getElem?_eq_some_iff.mp hd).1; exact this
  refine tail_any (typeIs_str s2 x t) F.slot_str_getitem.lookup (_root_.PySem.P.getItem_str (c := c) ?_ ?_ (q _ _ ((G1.trans G2).toks _) ⟨_, rfl⟩)) (hs _ _)
  · simp only [Bool.or_eq_false_iff, decide_eq_false_iff_not]; (first | lia | omega)
  · rw [seqIndex_of h0 (show k.toNat < x.length from hlt)]; exact hd
end
end Mine
namespace Mine

noncomputable abbrev Sy.set (Y : Sy) (x : Str) (v : Value) : Sy := { Y with m := (x, v) :: Y.m }
noncomputable abbrev Sy.setC (Y : Sy) (x : Str) (v : Value) : Sy := { Y with cm := (x, v) :: Y.cm }
noncomputable abbrev Sy.put (Y : Sy) (v : Value) (d : PyData) (n : Bool) : Sy := { Y with dat := (v, d, n) :: Y.dat }
noncomputable def Sy.old (Y : Sy) : Sy := { Y with dat := Y.dat.map fun p => (p.1, p.2.1, false) }

noncomputable def Pa.turn (P : Pa) (Y : Sy) (s : Shared) : Pa := { P with X := mu P Y, h₀ := s.heap, g₀ := s.gens, o₀ := s.os }

namespace St
variable {P : Pa} {Y Y' : Sy} {h : Heap} {g : Array GenState} {o : OsState} {s s₁ s₂ : Shared}
theorem old (S : St P Y h g o) : St P Y.old h g o :=
  { ch := S.ch, bs := S.bs, ff := S.ff, fn := S.fn, ns := S.ns, ce := S.ce, ap := S.ap, oc := S.oc, li := S.li, nd := S.nd, nf := S.nf, nb := S.nb, nx := S.nx, xi := S.xi, gs := S.gs, os := S.os,
    da := fun p hp => by
      obtain ⟨q, hq, rfl⟩ := List.mem_map.mp hp
      exact (S.da q hq).weak }
theorem turn (S : St P Y s.heap s.gens s.os) : St (P.turn Y s) Y.old s.heap s.gens s.os :=
  { ch := Ch.refl _ _ _, bs := S.bs, ff := S.ff, fn := S.fn, ns := S.ns, ce := S.ce, ap := S.ap, oc := S.oc, li := S.li, nd := S.nd, nf := S.nf, nb := S.nb, gs := .refl _, os := rfl,
    nx := fun a ha => .inl ha
    xi := fun a ha => let ⟨o, ho, _⟩ := S.mu_obj ha; ⟨o, ho⟩
    da := fun p hp => by
      obtain ⟨q, hq, rfl⟩ := List.mem_map.mp hp
      obtain ⟨as, r, z⟩ := S.da q hq
      exact ⟨as, r, fun a ha => ⟨(z a ha).1, fun e => by cases e⟩⟩ }
theorem back (S : St P Y s₁.heap s₁.gens s₁.os) (S' : St (P.turn Y s₁) Y' s₂.heap s₂.gens s₂.os) (ha : Y'.own.map (·.1) = Y.own.map (·.1)) : St P Y'.old s₂.heap s₂.gens s₂.os where
  ch := fun b o hb e => by
    obtain ⟨k, sl, e1⟩ := S.ch b o hb e
    have hm : b ∉ mu P Y := fun hm => by
      rcases S.nx b hm with q | q
      · exact hb q
      · rw [q] at e; cases e
    refine ⟨fun hf => (S'.ch b o hm (k hf)).1 hf, ?_⟩
    obtain ⟨_, sl', e2⟩ := S'.ch b _ hm e1
    exact ⟨sl', e2⟩
  bs := S'.bs
  ff := S'.ff
  fn := S'.fn
  ns := S'.ns
  ce := S'.ce
  ap := S'.ap
  oc := S'.oc
  li := S'.li
  nd := S'.nd
  nf := S'.nf
  nb := S'.nb
  nx := by show ∀ a ∈ P.L :: (P.oc ++ Y'.own.map (·.1)), _; rw [ha]; exact S.nx
  xi := fun a hX => by
    obtain ⟨o, e⟩ := S.xi a hX
    by_cases hm : a ∈ mu P Y
    · have : a ∈ mu (P.turn Y s₁) Y' := by show a ∈ P.L :: (P.oc ++ Y'.own.map (·.1)); rw [ha]; exact hm
      obtain ⟨o', ho', _⟩ := S'.mu_obj this
      exact ⟨o', ho'⟩
    · obtain ⟨_, sl, e'⟩ := S'.ch a o hm e
      exact ⟨_, e'⟩
  da := fun p hp => by
    obtain ⟨q, hq, rfl⟩ := List.mem_map.mp hp
    obtain ⟨as, r, z⟩ := S'.da q hq
    exact ⟨as, r, fun a ha' => ⟨(z a ha').1, fun e => by cases e⟩⟩
  gs := S.gs.trans S'.gs
  os := S'.os.trans S.os
/-- another list of names that says the same -/
theorem congr (S : St P Y h g o) {m' : List (Str × Value)} (e : ∀ x, Y.m.lookup x = m'.lookup x) : St P { Y with m := m' } h g o :=
  { ch := S.ch, bs := S.bs, ff := S.ff, fn := S.fn, ns := (funext e : (fun x => Y.m.lookup x) = fun x => m'.lookup x) ▸ S.ns, ce := S.ce, ap := S.ap, oc := S.oc, li := S.li, nd := S.nd, nf := S.nf, nb := S.nb, nx := S.nx, xi := S.xi, gs := S.gs, os := S.os, da := S.da }
theorem congrC (S : St P Y h g o) {m' : List (Str × Value)} (e : ∀ x, Y.cm.lookup x = m'.lookup x) : St P { Y with cm := m' } h g o :=
  { ch := S.ch, bs := S.bs, ff := S.ff, fn := S.fn, ns := S.ns, ce := fun n c hc => by have := S.ce n c hc; rw [e] at this; exact this, ap := S.ap, oc := S.oc, li := S.li, nd := S.nd, nf := S.nf, nb := S.nb, nx := S.nx, xi := S.xi, gs := S.gs, os := S.os, da := S.da }
/-- a step of an iterator: records that are none of ours -/
theorem iter (S : St P Y s.heap s.gens s.os) {h' : Heap} {wr : List Addr} (k : ∀ b o, b ∉ wr → s.heap.get? b = some o → h'.get? b = some o)
    (hw : ∀ b ∈ wr, (∃ o vs, s.heap.get? b = some o ∧ o.data = .fields vs) ∧ P.base.get? b = none ∧ P.h₀.get? b = none ∧ b ∉ P.X) : St P Y h' s.gens s.os := by
  have off : ∀ b o, s.heap.get? b = some o → (∀ vs, o.data ≠ .fields vs) → b ∉ wr := fun b o e hn hb => by
    obtain ⟨⟨o', vs, e', hd⟩, _⟩ := hw b hb
    rw [e] at e'; cases e'; exact hn vs hd
  have list_off : ∀ {a : Addr} {vs : Array Value}, s.heap.IsList a vs → h'.IsList a vs := fun {a vs} y => by
    obtain ⟨o, ho, h1, _⟩ := list_not y
    exact y.at fun o' e => k a o' (off a o ho h1) e
  have plain_off : ∀ {a : Addr} {vs : Array Value}, PlainL s.heap a vs → PlainL h' a vs := fun {a vs} y => by
    obtain ⟨o, ho, h1, _⟩ := list_not y.isList
    obtain ⟨o', n, e, r⟩ := y
    exact ⟨o', n, k a o' (off a o' e fun vs z => by rw [r.2.2] at z; cases z) e, r⟩
  have cell_off : ∀ {a : Addr} {v : Option Value}, s.heap.IsCell a v → h'.IsCell a v := fun {a v} y => by
    obtain ⟨o, ho, h1, _⟩ := cell_not y
    obtain ⟨o', e', d'⟩ := y
    exact ⟨o', k a o' (off a o ho h1) e', d'⟩
  have ns_off : ∀ {a : Addr} {m : Loc}, s.heap.Ns a m → h'.Ns a m := fun {a m} y => by
    obtain ⟨o, ho, h1, _⟩ := ns_not y
    exact y.at' fun o' e => k a o' (off a o ho h1) e
  exact
  { ch := fun b o hb e => by
      obtain ⟨k1, sl, e1⟩ := S.ch b o hb e
      have hbw : b ∉ wr := fun q => by rw [(hw b q).2.2.1] at e; cases e
      exact ⟨fun hf => k b o hbw (k1 hf), sl, k b _ hbw e1⟩
    bs := fun b o e => k b o (fun q => by rw [(hw b q).2.1] at e; cases e) (S.bs b o e)
    ff := funFrames_up (fun b o e hn => ⟨o, k b o (off b o e hn) e, hn⟩) S.ff
    fn := fun f hf => let ⟨m, y⟩ := S.fn f hf; ⟨m, ns_off y⟩
    ns := ns_off S.ns
    ce := fun n c hc => cell_off (S.ce n c hc)
    ap := S.ap
    oc := fun c hc => let ⟨v, y⟩ := S.oc c hc; ⟨v, cell_off y⟩
    li := fun p hp => plain_off (S.li p hp)
    nd := S.nd, nf := S.nf, nb := S.nb, nx := S.nx
    xi := fun a ha => let ⟨o, e⟩ := S.xi a ha; ⟨o, k a o (fun q => (hw a q).2.2.2 ha) e⟩
    da := fun p hp => by
      obtain ⟨as, r, q⟩ := S.da p hp
      refine ⟨as, reads_up (S := fun b => b ∉ wr) (fun b o hb e => ⟨o.slots, k b o hb e⟩) (fun b o vs n e _ hd => off b o e fun vs' z => by rw [hd] at z; cases z) r ?_, q⟩
      intro a ha
      obtain ⟨o, ho, hn⟩ := reads_not r a ha
      exact off a o ho hn
    gs := S.gs, os := S.os }
where
  reads_not {h : Heap} {v : Value} {d : PyData} {as : List Addr} (r : Reads h v d as) : ∀ a ∈ as, ∃ o, h.get? a = some o ∧ ∀ vs, o.data ≠ .fields vs := by
    refine Reads.rec (motive_1 := fun v d as _ => ∀ a ∈ as, ∃ o, h.get? a = some o ∧ ∀ vs, o.data ≠ .fields vs) (motive_2 := fun vs ds as _ => ∀ a ∈ as, ∃ o, h.get? a = some o ∧ ∀ vs, o.data ≠ .fields vs)
      (fun _ h => by cases h) (fun _ _ h => by cases h) (fun _ _ _ h => by cases h) (fun _ _ _ h => by cases h) ?_ ?_ ?_ (fun _ h => by cases h) ?_ r
    · intro a o vs n xs as ho hc hd _ ih b hb
      rcases List.mem_cons.mp hb with rfl | hb
      · exact ⟨o, ho, fun vs q => by rw [hd] at q; cases q⟩
      · exact ih b hb
    · intro a o vs n xs as ho hc hd _ ih b hb; exact ih b hb
    · intro a o es n kvs as bs ho hc hd _ _ ih ih' b hb
      rcases List.mem_cons.mp hb with rfl | hb
      · exact ⟨o, ho, fun vs q => by rw [hd] at q; cases q⟩
      · exact (List.mem_append.mp hb).elim (ih b) (ih' b)
    · intro v vs d ds as bs _ _ ih ih' b hb; exact (List.mem_append.mp hb).elim (ih b) (ih' b)
end St

section
variable {prog : Program} {w : World} {A : Around} {env : Env} {P : Pa} {Y : Sy} {s : Shared} {Q : Flow → Shared → Prop} {E : Value → Shared → Prop} {rest : List Stmt}

theorem storeL {x : Str} {v : Value} {Q : Unit → Shared → Prop} (S : St P Y s.heap s.gens s.os) (h : ∀ s', St P (Y.set x v) s'.heap s'.gens s'.os → Q () s') (hL : env.locals = P.L := by rfl) (hk : env.scope.kind = .function := by rfl) (hx : env.kindOf x = some .local := by rfl) :
    wpAny (model prog w) A (storeName env x v) Q E s :=
  wpAny_storeName_local hx (hL ▸ S.ns) (fun h' hn hs => h { s with heap := h', toks := s.toks + 1 } (S.setL (hL ▸ hn) (hL ▸ hs))) (by rw [hk]; rfl)
theorem storeC {x : Str} {v : Value} {c : Addr} {Q : Unit → Shared → Prop} (S : St P Y s.heap s.gens s.os) (hc : P.cs.lookup x = some c) (ho : c ∈ P.oc) (h : ∀ s', St P (Y.setC x v) s'.heap s'.gens s'.os → Q () s') (hL : env.cells = P.cs := by rfl) (hk : env.scope.kind = .function := by rfl) (hx : env.kindOf x = some .cell := by rfl) :
    wpAny (model prog w) A (storeName env x v) Q E s :=
  wpAny_storeName_cell hk hx (hL ▸ hc) (S.ce x c hc) fun h' hn hs => h { s with heap := h' } (S.setC hc ho hn hs)

/-- x = e, the value told by V -/
theorem xs_assign {x : Str} {px pos : Pos} {e : Expr} {V : Value → Heap → Prop} (S : St P Y s.heap s.gens s.os) (he : Ex prog w A env P Y e V)
    (h : ∀ v s₁, St P Y s₁.heap s₁.gens s₁.os → V v s₁.heap → wpAny (model prog w) A (storeName env x v) (fun _ s' => wpAny (model prog w) A (execs rest env) Q E s') E s₁)
    (hs : swapsWith e (some (.Name x px)) pos.line env = pure false := by rfl) : wpAny (model prog w) A (execs (.Assign [.Name x px] e pos :: rest) env) Q E s :=
  wpAny_execs_cons (wpAny_Assign_Name (he.go s _ _ S fun v s' G hv => wpAny_mono (h v s' (S.grow G) hv) (fun _ _ z => z) fun _ _ z => z) hs)
theorem xs_I {x : Str} {px pos : Pos} {e : Expr} {i : Int} (S : St P Y s.heap s.gens s.os) (he : ExI prog w A env P Y e i) (h : ∀ t s', St P (Y.set x (.int i t)) s'.heap s'.gens s'.os → wpAny (model prog w) A (execs rest env) Q E s')
    (hL : env.locals = P.L := by rfl) (hk : env.scope.kind = .function := by rfl) (hx : env.kindOf x = some .local := by rfl) (hs : swapsWith e (some (.Name x px)) pos.line env = pure false := by rfl) : wpAny (model prog w) A (execs (.Assign [.Name x px] e pos :: rest) env) Q E s :=
  xs_assign S he (fun v s₁ S₁ hv => by obtain ⟨t, rfl⟩ := hv; exact storeL S₁ (fun s' S' => h t s' S') hL hk hx) hs
theorem xs_S {x : Str} {px pos : Pos} {e : Expr} {i : Str} (S : St P Y s.heap s.gens s.os) (he : ExS prog w A env P Y e i) (h : ∀ t s', St P (Y.set x (.str i t)) s'.heap s'.gens s'.os → wpAny (model prog w) A (execs rest env) Q E s')
    (hL : env.locals = P.L := by rfl) (hk : env.scope.kind = .function := by rfl) (hx : env.kindOf x = some .local := by rfl) (hs : swapsWith e (some (.Name x px)) pos.line env = pure false := by rfl) : wpAny (model prog w) A (execs (.Assign [.Name x px] e pos :: rest) env) Q E s :=
  xs_assign S he (fun v s₁ S₁ hv => by obtain ⟨t, rfl⟩ := hv; exact storeL S₁ (fun s' S' => h t s' S') hL hk hx) hs
theorem xs_D {x : Str} {px pos : Pos} {e : Expr} {d : PyData} {n : Bool} (S : St P Y s.heap s.gens s.os) (he : ExD prog w A env P Y e d n) (h : ∀ v s', St P ((Y.put v d n).set x v) s'.heap s'.gens s'.os → wpAny (model prog w) A (execs rest env) Q E s')
    (hL : env.locals = P.L := by rfl) (hk : env.scope.kind = .function := by rfl) (hx : env.kindOf x = some .local := by rfl) (hs : swapsWith e (some (.Name x px)) pos.line env = pure false := by rfl) : wpAny (model prog w) A (execs (.Assign [.Name x px] e pos :: rest) env) Q E s :=
  xs_assign S he (fun v s₁ S₁ hv => storeL (S₁.know hv) (fun s' S' => h v s' S') hL hk hx) hs
theorem xs_ret {pos : Pos} {e : Expr} {V : Value → Heap → Prop} (S : St P Y s.heap s.gens s.os) (he : Ex prog w A env P Y e V) (h : ∀ v s', St P Y s'.heap s'.gens s'.os → V v s'.heap → Q (.ret v) s') : wpAny (model prog w) A (execs (.Return (some e) pos :: rest) env) Q E s :=
  wpAny_execs_cons (wpAny_Return_some (he.go s _ _ S fun v s' G hv => h v s' (S.grow G) hv))
theorem xs_if {pos : Pos} {t : Expr} {b o : List Stmt} {c : Bool} (S : St P Y s.heap s.gens s.os) (ht : Tr prog w A env P Y t c)
    (hb : c = true → ∀ s', St P Y s'.heap s'.gens s'.os → wpAny (model prog w) A (execs b env) (fun f s' => match f with | .next => wpAny (model prog w) A (execs rest env) Q E s' | f => Q f s') E s')
    (ho : c = false → ∀ s', St P Y s'.heap s'.gens s'.os → wpAny (model prog w) A (execs o env) (fun f s' => match f with | .next => wpAny (model prog w) A (execs rest env) Q E s' | f => Q f s') E s') :
    wpAny (model prog w) A (execs (.If t b o pos :: rest) env) Q E s := by
  refine wpAny_execs_cons (wpAny_If (ht.go s _ _ S fun s' G => ?_))
  cases c with
  | true => exact hb rfl s' (S.grow G)
  | false => exact ho rfl s' (S.grow G)
end
end Mine
namespace Mine

noncomputable def bl (k : Str → Option NameKind) : List (Str × Value) → List (Str × Value) → List (Str × Value)
  | [], m => m
  | (n, v) :: r, m => bl k r (if k n = some .local then (n, v) :: m else m)
noncomputable def bc (k : Str → Option NameKind) : List (Str × Value) → List (Str × Value) → List (Str × Value)
  | [], m => m
  | (n, v) :: r, m => bc k r (if k n = some .local then m else (n, v) :: m)
theorem lookup_cons_fun (n : Str) (v : Value) (m : List (Str × Value)) : (fun y => ((n, v) :: m).lookup y) = fun y => if y = n then some v else m.lookup y := by
  funext y
  rw [List.lookup_cons]
  by_cases q : y = n
  · subst q; simp
  · have : (y == n) = false := beq_eq_false_iff_ne.mpr q
    rw [this]; simp [q]
theorem bl_spec (k : Str → Option NameKind) : ∀ (b : List (Str × Value)) (m : List (Str × Value)), bindL k b (fun y => m.lookup y) = fun y => (bl k b m).lookup y
  | [], m => rfl
  | (n, v) :: r, m => by
    unfold bindL bl
    by_cases h : k n = some .local
    · rw [if_pos h, if_pos h, ← lookup_cons_fun, bl_spec k r]
    · rw [if_neg h, if_neg h, bl_spec k r]
theorem bc_spec (k : Str → Option NameKind) : ∀ (b : List (Str × Value)) (m : List (Str × Value)), bindC k b (fun y => m.lookup y) = fun y => (bc k b m).lookup y
  | [], m => rfl
  | (n, v) :: r, m => by
    unfold bindC bc
    by_cases h : k n = some .local
    · rw [if_pos h, if_pos h, bc_spec k r]
    · rw [if_neg h, if_neg h, ← lookup_cons_fun, bc_spec k r]

theorem in_cells_names : ∀ (names : List (Str × NameKind)) (n : Nat) (acc : List (Str × Addr)) (x : Str × Addr), x ∈ cellsFrom n names acc → x ∈ acc ∨ x.1 ∈ names.map (·.1)
  | [], _, _, _, h => .inl h
  | (y, k) :: r, n, acc, x, h => by
    unfold cellsFrom at h
    split at h
    · rcases in_cells_names r _ _ x h with q | q
      · rcases List.mem_cons.mp q with rfl | q
        · exact .inr (by simp)
        · exact .inl q
      · exact .inr (List.mem_cons_of_mem _ q)
    · rcases in_cells_names r _ _ x h with q | q
      · exact .inl q
      · exact .inr (List.mem_cons_of_mem _ q)

/-- every cell of the list is found under its name -/
noncomputable def cellsPlain (names : List (Str × NameKind)) : Bool := (cellsFrom 0 names []).all fun p => (cellsFrom 0 names []).lookup p.1 == some p.2
theorem cells_shift : ∀ (names : List (Str × NameKind)) (n d : Nat) (acc : List (Str × Addr)), cellsFrom (n + d) names (acc.map fun p => (p.1, p.2 + d)) = (cellsFrom n names acc).map fun p => (p.1, p.2 + d)
  | [], _, _, _ => rfl
  | (y, k) :: r, n, d, acc => by
    unfold cellsFrom
    split
    · have := cells_shift r (n + 1) d ((y, n) :: acc)
      rw [List.map_cons] at this
      rw [← this]
      congr 1
      (first | lia | omega)
    · exact cells_shift r n d acc
theorem cells_at (names : List (Str × NameKind)) (d : Nat) : cellsFrom d names [] = (cellsFrom 0 names []).map fun p => (p.1, p.2 + d) := by
  have := cells_shift names 0 d []
  rw [Nat.zero_add] at this
  exact this
theorem lookup_map_snd (f : Addr → Addr) (x : Str) : ∀ l : List (Str × Addr), (l.map fun p => (p.1, f p.2)).lookup x = (l.lookup x).map f
  | [] => rfl
  | (y, a) :: r => by
    rw [List.map_cons, List.lookup_cons, List.lookup_cons]
    cases x == y <;> simp [lookup_map_snd f x r]
theorem cells_found {names : List (Str × NameKind)} (h : cellsPlain names = true) (d : Nat) (p : Str × Addr) (hp : p ∈ cellsFrom d names []) : (cellsFrom d names []).lookup p.1 = some p.2 := by
  rw [cells_at] at hp ⊢
  obtain ⟨q, hq, rfl⟩ := List.mem_map.mp hp
  have := List.all_eq_true.mp h q hq
  rw [lookup_map_snd (fun a => a + d)]
  rw [beq_iff_eq.mp this]
  rfl

section
variable {prog : Program} {w : World} {A : Around} {s : Shared} {K : Frag} {mg mb : Loc} {base : Heap} {chain : List Env}
  {name qual : Str} {params : Arguments} {body : List Stmt} {scope : Scope} {dV kV doc pm cdv ct oc : Value} {an od : Option Addr} {osl : Array (Option Value)} {f : Addr} {vs : List Value} {binds : List (Str × Value)}

/-- the block of a call -/
noncomputable abbrev callPa (base : Heap) (chain : List Env) (s : Shared) (qual : Str) (scope : Scope) (L f : Addr) (cdv : Value) : Pa :=
  { base := base, chain := envX qual scope L f cdv (cellsFrom (L + 1) scope.names []) :: chain, X := [], h₀ := s.heap, g₀ := s.gens, o₀ := s.os, L := L, cs := cellsFrom (L + 1) scope.names [], oc := (cellsFrom (L + 1) scope.names []).map (·.2) }

theorem enter {Q E : Value → Shared → Prop} {ml mc : List (Str × Value)} (T : Tb K mg mb base) (bs : base.StaysIn s.heap) (ff : s.heap.FunFrames base chain) (fn : ∀ f ∈ frs chain, ∃ m, s.heap.Ns f m) (hroom : A.depth < recursionLimit)
    (ho : K.lookup f = some ⟨oc, od, .func (fnOf name qual params body scope dV kV doc pm an cdv ct), osl⟩) (hcd : codeIn K cdv qual = true)
    (hbind : bindArgs (fnOf name qual params body scope dV kV doc pm an cdv ct) ⟨vs, []⟩ = pure binds)
    (hkind : (binds.all fun y => scope.names.lookup y.1 == some .local || scope.names.lookup y.1 == some .cell) = true) (hpl : cellsPlain scope.names = true)
    (hml : bl (fun x => scope.names.lookup x) binds [] = ml) (hmc : bc (fun x => scope.names.lookup x) binds [] = mc)
    (h : ∀ L s₁, St (callPa base chain s qual scope L f cdv) ⟨[], [], ml, mc⟩ s₁.heap s₁.gens s₁.os →
      wpAny (model prog w) (A.deeper (envX qual scope L f cdv (cellsFrom (L + 1) scope.names []))) (execs body (envX qual scope L f cdv (cellsFrom (L + 1) scope.names [])))
        (fun fl s' => Q (match fl with | .ret v => v | _ => .none) s')
        (fun e s' => wpAny (model prog w) (A.deeper (envX qual scope L f cdv (cellsFrom (L + 1) scope.names []))) (leaving (envX qual scope L f cdv (cellsFrom (L + 1) scope.names [])) e) (fun _ s'' => E e s'') (fun e' s'' => E e' s'') s') s₁)
    (hco : scope.isCoroutine = false := by rfl) (hgen : scope.isGenerator = false := by rfl) (hk : scope.kind = .function := by rfl) : wpAny (model prog w) A (call (.ref f) vs) Q E s := by
  have X := T.X.keeps bs
  refine wpAny_call (codeAny_call_cells (fd := fnOf name qual params body scope dV kV doc pm an cdv ct) (body := body) (binds := binds) hroom (X _ _ ho) rfl (T.lim.keeps bs) (codeRec_of X hcd) rfl hbind rfl (kindsX hkind _) (fun s₁ x => ?_) hco hgen hk)
  refine wpAny_mono (h s.heap.objs.size s₁ ?_) (fun fl s' q => q) fun e s' q => q
  obtain ⟨⟨⟨h1, tk, e1⟩, ns, keep, fresh⟩, cell, apart, above⟩ := x
  have hnew : ∀ a, s.heap.objs.size ≤ a → s.heap.get? a = none := fun a ha => by
    cases q : s.heap.get? a with
    | none => rfl
    | some o => exact absurd (Heap.lt_size q) (Nat.not_lt.mpr ha)
  have hbase : ∀ a, s.heap.get? a = none → base.get? a = none := fun a ha => by
    cases q : base.get? a with
    | none => rfl
    | some o => have := bs a o q; rw [ha] at this; cases this
  have hcs : ∀ a ∈ (cellsFrom (s.heap.objs.size + 1) scope.names []).map (·.2), s.heap.get? a = none := fun a ha => by
    obtain ⟨p, hp, rfl⟩ := List.mem_map.mp ha
    exact hnew _ (Nat.le_of_lt (above p.1 p.2 hp))
  have hmu : ∀ a ∈ s.heap.objs.size :: ((cellsFrom (s.heap.objs.size + 1) scope.names []).map (·.2) ++ ([] : List (Addr × List Value)).map (·.1)), s.heap.get? a = none := fun a ha => by
    rcases List.mem_cons.mp ha with rfl | ha
    · exact hnew _ (Nat.le_refl _)
    · rw [List.map_nil, List.append_nil] at ha; exact hcs a ha
  have hns : s₁.heap.Ns s.heap.objs.size (fun y => ml.lookup y) := by
    rw [← hml, ← bl_spec]; exact ns
  exact
  { ch := .of_keeps fun b o _ e => keep b o e
    bs := fun b o e => keep b o (bs b o e)
    ff := ⟨by show scope.kind ≠ .module; rw [hk]; decide, (by obtain ⟨o, ho, h1, _⟩ := ns_not hns; exact ⟨_, o, rfl, hbase _ (hnew _ (Nat.le_refl _)), ho, h1⟩), funFrames_up (fun b o e hn => ⟨o, keep b o e, hn⟩) ff⟩
    fn := fun f hf => by
      have hf' : f ∈ List.filterMap (·.frame) (envX qual scope s.heap.objs.size _ cdv (cellsFrom (s.heap.objs.size + 1) scope.names []) :: chain) := hf
      rw [List.filterMap_cons] at hf'
      rcases List.mem_cons.mp hf' with rfl | hf'
      · exact ⟨_, hns⟩
      · obtain ⟨m, y⟩ := fn f hf'; exact ⟨m, y.keeps keep⟩
    ns := hns
    ce := fun n c hc => by
      have := cell n c hc
      have e : bindC (callEnvC (fnOf name qual params body scope dV kV doc pm an cdv ct) s.heap.objs.size f).kindOf binds (fun _ => none) = fun y => mc.lookup y := by
        rw [← hmc, ← bc_spec]; rfl
      rw [e] at this; exact this
    ap := apart
    oc := fun c hc => by
      obtain ⟨p, hp, rfl⟩ := List.mem_map.mp hc
      exact ⟨_, cell p.1 p.2 (cells_found hpl _ p hp)⟩
    li := fun p hp => by cases hp
    nd := List.nodup_nil
    nf := fun a ha hf => by
      rw [List.map_nil, List.append_nil] at ha
      have hf' : a ∈ List.filterMap (·.frame) (envX qual scope s.heap.objs.size _ cdv (cellsFrom (s.heap.objs.size + 1) scope.names []) :: chain) := hf
      rw [List.filterMap_cons] at hf'
      obtain ⟨p, hp, rfl⟩ := List.mem_map.mp ha
      rcases List.mem_cons.mp hf' with e | hf'
      · have := above p.1 p.2 hp
        have e' : p.2 = s.heap.objs.size := e
        have h' : s.heap.objs.size < p.2 := this
        rw [e'] at h'
        exact absurd h' (Nat.lt_irrefl _)
      · obtain ⟨_, o, ho, _⟩ := ff.mem hf'
        rw [hcs _ (List.mem_map_of_mem hp)] at ho; cases ho
    nb := fun a ha => hbase a (hmu a ha)
    nx := fun a ha => .inr (hmu a ha)
    xi := fun a ha => by cases ha
    da := fun p hp => by cases hp
    gs := by rw [e1]; exact .refl _
    os := by rw [e1] }
end
end Mine
namespace Mine
section
variable {prog : Program} {w : World} {A : Around} {env : Env} {P : Pa} {Y : Sy}

/-- a comparison of two values -/
noncomputable abbrev CmpV (prog : Program) (w : World) (A : Around) (op : CmpOp) (V V' : Value → Heap → Prop) (c : Bool) : Prop :=
  ∀ (s : Shared) (v v' : Value) (Q E : Value → Shared → Prop), V v s.heap → V' v' s.heap → Q (.bool c) s → wpAny (model prog w) A (compareOp op v v') Q E s
theorem Tr.cmp {op : CmpOp} {l r : Expr} {pos : Pos} {V V' : Value → Heap → Prop} {c : Bool} (hop : CmpV prog w A op V V' c) (h1 : Ex prog w A env P Y l V) (h2 : Ex prog w A env P Y r V') (hV : ∀ (s s' : Shared) v, Gr (frs P.chain) s s' → V v s.heap → V v s'.heap) (hm : behindInMarks op r = false := by rfl) :
    Tr prog w A env P Y (.Compare l [op] [r] pos) c := .mk fun s Q E S q =>
  wpAny_isTrue_Compare1 (h1.go s _ _ S fun v s1 G1 hv => h2.go s1 _ _ (S.grow G1) fun v' s2 G2 hv' => hop s2 _ _ _ _ (hV _ _ _ G2 hv) hv' (wpAny_truthy_bool (q _ (G1.trans G2)))) hm
theorem ExV.cmp {op : CmpOp} {l r : Expr} {pos : Pos} {V V' : Value → Heap → Prop} {c : Bool} (hop : CmpV prog w A op V V' c) (h1 : Ex prog w A env P Y l V) (h2 : Ex prog w A env P Y r V') (hV : ∀ (s s' : Shared) v, Gr (frs P.chain) s s' → V v s.heap → V v s'.heap) (hm : behindInMarks op r = false := by rfl) :
    ExV prog w A env P Y (.Compare l [op] [r] pos) (.bool c) := .mk fun s Q E S q =>
  wpAny_Compare1 (h1.go s _ _ S fun v s1 G1 hv => h2.go s1 _ _ (S.grow G1) fun v' s2 G2 hv' => hop s2 _ _ _ _ (hV _ _ _ G2 hv) hv' (q _ _ (G1.trans G2) rfl)) hm
theorem keepD {X : List Addr} {h₀ : Heap} {fs : List Addr} {d : PyData} {n : Bool} (s s' : Shared) (v : Value) (G : Gr fs s s') (x : Dat X h₀ s.heap v d n) : Dat X h₀ s'.heap v d n := x.gr G
theorem keepI {fs : List Addr} {i : Int} (s s' : Shared) (v : Value) (G : Gr fs s s') (x : ∃ t, v = Value.int i t) : ∃ t, v = Value.int i t := x
theorem keepS {fs : List Addr} {i : Str} (s s' : Shared) (v : Value) (G : Gr fs s s') (x : ∃ t, v = Value.str i t) : ∃ t, v = Value.str i t := x
theorem keepV {fs : List Addr} {u : Value} (s s' : Shared) (v : Value) (G : Gr fs s s') (x : v = u) : v = u := x

theorem CmpV.inD {X : List Addr} {h₀ : Heap} {d : PyData} {xs : List PyData} {n n' : Bool} (hxs : PyData.canLayAll0 xs = true) (hd : d.canLay0 = true) (hu : A.units + 1 + d.depth < cLine) :
    CmpV prog w A .In (fun v h => Dat X h₀ h v d n) (fun v h => Dat X h₀ h v (.list xs) n') (xs.any fun y => PyData.eqv y d) := fun s v v' Q E hv hv' q => by
  obtain ⟨as, r, _⟩ := hv
  obtain ⟨bs, r', _⟩ := hv'
  refine SeqAt.in_list_reads r' r hxs hd ?_ q
  have : min (PyData.depthAll xs) d.depth ≤ d.depth := Nat.min_le_right _ _
  (first | lia | omega)
theorem CmpV.eqD {X : List Addr} {h₀ : Heap} {d d' : PyData} {n n' : Bool} (hd : SeqAt.shaped d = true) (hd' : SeqAt.shaped d' = true) (hu : A.units + 64 < cLine) :
    CmpV prog w A .Eq (fun v h => Dat X h₀ h v d n) (fun v h => Dat X h₀ h v d' n') (PyData.eqv d d') := fun s v v' Q E hv hv' q => by
  obtain ⟨as, r, _⟩ := hv
  obtain ⟨bs, r', _⟩ := hv'
  exact SeqAt.compareEq_shaped r r' hd hd' hu q
theorem CmpV.neD {X : List Addr} {h₀ : Heap} {d d' : PyData} {n n' : Bool} (hd : SeqAt.shaped d = true) (hd' : SeqAt.shaped d' = true) (hu : A.units + 64 < cLine) :
    CmpV prog w A .NotEq (fun v h => Dat X h₀ h v d n) (fun v h => Dat X h₀ h v d' n') (!PyData.eqv d d') := fun s v v' Q E hv hv' q => by
  obtain ⟨as, r, _⟩ := hv
  obtain ⟨bs, r', _⟩ := hv'
  exact SeqAt.compareNe_shaped r r' hd hd' hu q
end

/-- what a call is made under -/
structure Cx (A : Around) (chain : List Env) (k : Nat) : Prop where
  hand : A.handled = none
  frames : A.frames = some chain
  depth : A.depth + k < recursionLimit
  units : A.units + 8 * k + 80 < cLine
theorem Cx.deeper {A : Around} {chain : List Env} {k : Nat} (C : Cx A chain (k + 1)) (env : Env) : Cx (A.deeper env) (env :: chain) k :=
  ⟨C.hand, by show A.frames.map (env :: ·) = _; rw [C.frames]; rfl, by have := C.depth; show A.depth + 1 + k < _; (first | lia | omega), by have := C.units; show A.units + 3 + 8 * k + 80 < _; (first | lia | omega)⟩
theorem Cx.le {A : Around} {chain : List Env} {k k' : Nat} (C : Cx A chain k) (h : k' ≤ k) : Cx A chain k' := ⟨C.hand, C.frames, by have := C.depth; (first | lia | omega), by have := C.units; (first | lia | omega)⟩

/-- what a call finds -/
structure At (base : Heap) (chain : List Env) (s : Shared) : Prop where
  bs : base.StaysIn s.heap
  ff : s.heap.FunFrames base chain
  fn : ∀ f ∈ frs chain, ∃ m, s.heap.Ns f m
theorem St.at {P : Pa} {Y : Sy} {s : Shared} (S : St P Y s.heap s.gens s.os) : At P.base P.chain s := ⟨S.bs, S.ff, S.fn⟩

/-- data of the caller's, in the callee's block -/
theorem St.arg {base : Heap} {chain : List Env} {s s₁ : Shared} {qual : Str} {scope : Scope} {L f : Addr} {cdv : Value} {Y : Sy} (S : St (callPa base chain s qual scope L f cdv) Y s₁.heap s₁.gens s₁.os) {v : Value} {d : PyData} {as : List Addr} (r : Reads s.heap v d as) :
    St (callPa base chain s qual scope L f cdv) (Y.put v d false) s₁.heap s₁.gens s₁.os := by
  refine S.know ⟨as, ?_, fun a ha => ⟨fun hm => ?_, fun z => by cases z⟩⟩
  · exact reads_up (S := fun _ => True) (fun b o _ e => (S.ch b o (by simp) e).2) (fun _ _ _ _ _ _ _ => trivial) r fun _ _ => trivial
  · obtain ⟨o, ho⟩ := reads_in r a ha
    rcases S.nx a hm with q | q
    · cases q
    · have q' : s.heap.get? a = none := q
      rw [q'] at ho; cases ho
theorem St.res {base : Heap} {chain : List Env} {s s' : Shared} {qual : Str} {scope : Scope} {L f : Addr} {cdv : Value} {Y : Sy} (S : St (callPa base chain s qual scope L f cdv) Y s'.heap s'.gens s'.os) {v : Value} {d : PyData} (x : Dat (mu (callPa base chain s qual scope L f cdv) Y) s.heap s'.heap v d true) :
    New s s' v d := let ⟨as, r, q⟩ := x; ⟨as, r, fun a ha => (q a ha).2 rfl⟩
end Mine
namespace Mine
section
variable {prog : Program} {w : World} {A : Around} {s : Shared} {K : Frag} {mg mb : Loc} {base : Heap} {chain : List Env}
  {name qual : Str} {params : Arguments} {body : List Stmt} {scope : Scope} {dV kV doc pm cdv ct oc : Value} {an od : Option Addr} {osl : Array (Option Value)} {f : Addr} {vs : List Value}
theorem entr {k : Nat} {Q E : Value → Shared → Prop} (binds ml mc : List (Str × Value)) (T : Tb K mg mb base) (C : Cx A chain (k + 1)) (N : At base chain s)
    (ho : K.lookup f = some ⟨oc, od, .func (fnOf name qual params body scope dV kV doc pm an cdv ct), osl⟩) (hcd : codeIn K cdv qual = true)
    (hbind : bindArgs (fnOf name qual params body scope dV kV doc pm an cdv ct) ⟨vs, []⟩ = pure binds)
    (hkind : (binds.all fun y => scope.names.lookup y.1 == some .local || scope.names.lookup y.1 == some .cell) = true) (hpl : cellsPlain scope.names = true)
    (hml : bl (fun x => scope.names.lookup x) binds [] = ml) (hmc : bc (fun x => scope.names.lookup x) binds [] = mc)
    (h : ∀ L A' s₁, Cx A' (envX qual scope L f cdv (cellsFrom (L + 1) scope.names []) :: chain) k → St (callPa base chain s qual scope L f cdv) ⟨[], [], ml, mc⟩ s₁.heap s₁.gens s₁.os →
      wpAny (model prog w) A' (execs body (envX qual scope L f cdv (cellsFrom (L + 1) scope.names [])))
        (fun fl s' => Q (match fl with | .ret v => v | _ => .none) s')
        (fun e s' => wpAny (model prog w) A' (leaving (envX qual scope L f cdv (cellsFrom (L + 1) scope.names [])) e) (fun _ s'' => E e s'') (fun e' s'' => E e' s'') s') s₁)
    (hco : scope.isCoroutine = false := by rfl) (hgen : scope.isGenerator = false := by rfl) (hk : scope.kind = .function := by rfl) : wpAny (model prog w) A (call (.ref f) vs) Q E s :=
  enter (binds := binds) T N.bs N.ff N.fn (by have := C.depth; (first | lia | omega)) ho hcd hbind hkind hpl hml hmc (fun L s₁ S => h L _ s₁ (C.deeper _) S) hco hgen hk
end
end Mine
namespace Mine

/-- with further known data -/
noncomputable abbrev Sy.also (Y : Sy) (D : List (Value × PyData × Bool)) : Sy := { Y with dat := Y.dat ++ D }

theorem St.knows {P : Pa} {Y : Sy} {h : Heap} {g : Array GenState} {o : OsState} (S : St P Y h g o) {D : List (Value × PyData × Bool)} (k : ∀ p ∈ D, Dat (mu P Y) P.h₀ h p.1 p.2.1 p.2.2) : St P (Y.also D) h g o :=
  { ch := S.ch, bs := S.bs, ff := S.ff, fn := S.fn, ns := S.ns, ce := S.ce, ap := S.ap, oc := S.oc, li := S.li, nd := S.nd, nf := S.nf, nb := S.nb, nx := S.nx, xi := S.xi, gs := S.gs, os := S.os,
    da := fun p hp => (List.mem_append.mp hp).elim (S.da p) (k p) }
theorem St.forget {P : Pa} {Y : Sy} {h : Heap} {g : Array GenState} {o : OsState} {D : List (Value × PyData × Bool)} (S : St P (Y.also D) h g o) : St P Y h g o :=
  { ch := S.ch, bs := S.bs, ff := S.ff, fn := S.fn, ns := S.ns, ce := S.ce, ap := S.ap, oc := S.oc, li := S.li, nd := S.nd, nf := S.nf, nb := S.nb, nx := S.nx, xi := S.xi, gs := S.gs, os := S.os,
    da := fun p hp => S.da p (List.mem_append_left _ hp) }
/-- data that a turn found stand behind it -/
theorem St.keepdat {P : Pa} {Y Y' : Sy} {s₁ s₂ : Shared} (S : St P Y s₁.heap s₁.gens s₁.os) (S' : St (P.turn Y s₁) Y' s₂.heap s₂.gens s₂.os) {v : Value} {d : PyData} {n : Bool} (x : Dat (mu P Y) P.h₀ s₁.heap v d n) : Dat (mu P Y) P.h₀ s₂.heap v d n := by
  obtain ⟨as, r, q⟩ := x
  refine ⟨as, reads_up (S := fun b => b ∉ mu P Y) (fun b o hb e => (S'.ch b o hb e).2) ?_ r fun a ha => (q a ha).1, q⟩
  intro b o vs n e hc hd hm
  obtain ⟨o', ho', _, hn⟩ := S.mu_obj hm
  have e' : s₁.heap.get? b = some o := e
  rw [e'] at ho'; cases ho'
  exact hn ⟨hc, vs, n, hd⟩

section
variable {prog : Program} {w : World} {A : Around} {env : Env} {P : Pa} {Y : Sy} {s : Shared}

theorem codeAny_forLoopG {R : Result → Shared → Prop} {target it body orelse env} (I : Nat → Shared → Prop)
    (turn : ∀ n s, I n s → wpAny (model prog w) A (pyNext it) (fun r s₁ => match r with
      | none => wpAny (model prog w) A (execs orelse env) (fun f s₃ => R (.ok f) s₃) (notedBy (model prog w) A env fun e s' => R (.error e) s') s₁
      | some v => wpAny (model prog w) A (letOwnedTupleGo target it v) (fun _ s₁' => wpAny (model prog w) A (assign target env v) (fun _ s₂ => wpAny (model prog w) A (execs body env) (fun f s₃ => match f with
          | .next | .cont => ∃ m, m < n ∧ I m s₃
          | .brk => R (.ok .next) s₃
          | .ret v => R (.ok (.ret v)) s₃) (notedBy (model prog w) A env fun e s' => R (.error e) s') s₂) (notedBy (model prog w) A env fun e s' => R (.error e) s') s₁') (notedBy (model prog w) A env fun e s' => R (.error e) s') s₁) (notedBy (model prog w) A env fun e s' => R (.error e) s') s)
    (n : Nat) (h : I n s) : codeAny (model prog w) A (.forLoop target it body orelse env) R s := by
  refine codeAny_loop' rfl I (fun n s hI => ?_) n h
  show wpAny _ _ ((forTurn target it body orelse env).onRaise (fun x => do noteFrame x env; theTreesLotGoes x)) _ _ s
  refine wpAny_noted ?_
  simp only [forTurn]
  refine wpAny_bind (wpAny_standAt (wpAny_bind (wpAny_onRaise (wpAny_mono (turn n s hI) (fun r s₁ h₁ => ?_) fun _ _ h' => wpAny_standAt h'))))
  cases r with
  | none => exact wpAny_pure (.inr ⟨rfl, codeAny_block h₁⟩)
  | some v =>
    refine wpAny_bind (wpAny_mono h₁ (fun _ s₁' h₁' => ?_) fun _ _ h' => h')
    refine wpAny_bind (wpAny_mono h₁' (fun _ s₂ h₂ => wpAny_bind (wpAny_mono h₂ (fun f s₃ h₃ => ?_) fun _ _ h' => h')) fun _ _ h' => h')
    cases f with
    | next => exact wpAny_pure (.inl ⟨rfl, h₃⟩)
    | cont => exact wpAny_pure (.inl ⟨rfl, h₃⟩)
    | brk => exact wpAny_pure h₃
    | ret v => exact wpAny_pure h₃

/-- an iterator that a block may walk -/
structure Wk (prog : Program) (w : World) (A : Around) (P : Pa) (Y : Sy) (I : Addr) (fp wr : List Addr) (n : Nat) (Pv : Nat → Value → Prop) (Ws : Nat → Heap → Prop) : Prop where
  W : Walks prog w A I fp wr n Pv Ws
  fields : ∀ i h, Ws i h → ∀ b ∈ wr, ∃ o vs, h.get? b = some o ∧ o.data = .fields vs
  seqs : ∀ i h, Ws i h → ∀ b ∈ fp, b ∈ wr ∨ ∃ o xs k, h.get? b = some o ∧ o.data = .seq xs k
  off : ∀ b ∈ fp, b ∈ wr ∨ b ∉ mu P Y
  new : ∀ b ∈ wr, P.base.get? b = none ∧ P.h₀.get? b = none ∧ b ∉ P.X

noncomputable def Adr (Y Y' : Sy) : Prop := Y'.own.map (·.1) = Y.own.map (·.1)
theorem Adr.mu {P : Pa} {Y Y' : Sy} (h : Adr Y Y') : mu P Y' = mu P Y := by show P.L :: (P.oc ++ Y'.own.map (·.1)) = _; rw [h]

/-- the iterator stands behind a turn -/
theorem Wk.turn {I : Addr} {fp wr : List Addr} {n : Nat} {Pv : Nat → Value → Prop} {Ws : Nat → Heap → Prop} (K : Wk prog w A P Y I fp wr n Pv Ws) {Yi Y' : Sy} (ha : Adr Y Yi) {s₁ s₂ : Shared} (S : St P Yi s₁.heap s₁.gens s₁.os) (S' : St (P.turn Yi s₁) Y' s₂.heap s₂.gens s₂.os) {i : Nat} (h : Ws i s₁.heap) : Ws i s₂.heap := by
  refine K.W.frame _ _ _ h fun b hb o e => ?_
  have hm : b ∉ mu P Yi := fun hm => by
    rcases K.off b hb with q | q
    · obtain ⟨o', vs, e', hd⟩ := K.fields i _ h b q
      obtain ⟨o'', e'', hn, _⟩ := S.mu_obj hm
      rw [e'] at e''; cases e''; exact hn vs hd
    · rw [ha.mu] at hm; exact q hm
  refine (S'.ch b o hm e).1 fun hf => ?_
  obtain ⟨m, y⟩ := S.fn b hf
  obtain ⟨o', ho', h1, h2, _⟩ := ns_not y
  rcases K.seqs i _ h b hb with q | ⟨o'', xs, k, e'', hd⟩
  · obtain ⟨o'', vs, e'', hd⟩ := K.fields i _ h b q
    rw [e''] at ho'; cases ho'; exact h1 vs hd
  · rw [e''] at ho'; cases ho'; exact h2 xs k hd

theorem for_w {R : Result → Shared → Prop} {target : Expr} {body orelse : List Stmt} {I : Addr} {fp wr : List Addr} {n : Nat} {Pv : Nat → Value → Prop} {Ws : Nat → Heap → Prop} {D : List (Value × PyData × Bool)}
    (K : Wk prog w A P Y I fp wr n Pv Ws) (S : St P (Y.also D) s.heap s.gens s.os) (h0 : Ws 0 s.heap) (J : Nat → Sy → Prop) (hJ : J 0 Y)
    (turn : ∀ i v Yi s₁ E, i < n → Pv i v → J i Yi → Adr Y Yi → Ws (i + 1) s₁.heap → St P (Yi.also D) s₁.heap s₁.gens s₁.os → St (P.turn (Yi.also D) s₁) (Yi.also D).old s₁.heap s₁.gens s₁.os →
      wpAny (model prog w) A (letOwnedTupleGo target (.ref I) v) (fun _ s₁' => wpAny (model prog w) A (assign target env v) (fun _ s₂ => wpAny (model prog w) A (execs body env) (fun f s₃ => match f with
          | .next | .cont => ∃ Y', Adr Yi Y' ∧ J (i + 1) Y'.old ∧ St (P.turn (Yi.also D) s₁) Y' s₃.heap s₃.gens s₃.os
          | .brk => R (.ok .next) s₃
          | .ret v => R (.ok (.ret v)) s₃) E s₂) E s₁') E s₁)
    (fin : ∀ Yn s' E, J n Yn → Adr Y Yn → St P (Yn.also D) s'.heap s'.gens s'.os → wpAny (model prog w) A (execs orelse env) (fun f s₃ => R (.ok f) s₃) E s') :
    codeAny (model prog w) A (.forLoop target (.ref I) body orelse env) R s := by
  refine codeAny_forLoopG (fun k s' => ∃ i Yi, i ≤ n ∧ k = n + 1 - i ∧ J i Yi ∧ Adr Y Yi ∧ Ws i s'.heap ∧ St P (Yi.also D) s'.heap s'.gens s'.os) ?_ (n + 1) ⟨0, Y, Nat.zero_le _, rfl, hJ, rfl, h0, S⟩
  rintro k s' ⟨i, Yi, hi, rfl, hJi, ha, hWi, Si⟩
  have hw : ∀ b ∈ wr, (∃ o vs, s'.heap.get? b = some o ∧ o.data = .fields vs) ∧ P.base.get? b = none ∧ P.h₀.get? b = none ∧ b ∉ P.X := fun b hb => ⟨K.fields i _ hWi b hb, K.new b hb⟩
  by_cases hlt : i < n
  · refine K.W.item i s' _ _ hlt hWi fun v h₁ tk hPv hW₁ hk₁ => ?_
    have S₁ : St P (Yi.also D) h₁ s'.gens s'.os := Si.iter hk₁ hw
    refine wpAny_mono (turn i v Yi { s' with heap := h₁, toks := tk } _ hlt hPv hJi ha hW₁ S₁ (St.turn (s := { s' with heap := h₁, toks := tk }) S₁)) (fun _ s₁' z => ?_) fun _ _ z => z
    refine wpAny_mono z (fun _ s₂ z => ?_) fun _ _ z => z
    refine wpAny_mono z (fun f s₃ z => ?_) fun _ _ z => z
    have fin' : (∃ Y', Adr Yi Y' ∧ J (i + 1) Y'.old ∧ St (P.turn (Yi.also D) { s' with heap := h₁, toks := tk }) Y' s₃.heap s₃.gens s₃.os) → ∃ m, m < n + 1 - i ∧ ∃ i Yi, i ≤ n ∧ m = n + 1 - i ∧ J i Yi ∧ Adr Y Yi ∧ Ws i s₃.heap ∧ St P (Yi.also D) s₃.heap s₃.gens s₃.os := by
      rintro ⟨Y', ha', hJ', S'⟩
      have ha'' : Adr (Yi.also D) Y' := ha'
      refine ⟨n + 1 - (i + 1), by omega, i + 1, Y'.old, hlt, rfl, hJ', ?_, ?_, ?_⟩
      · show Y'.own.map (·.1) = _; rw [ha']; exact ha
      · exact K.turn (s₁ := { s' with heap := h₁, toks := tk }) (Yi := Yi.also D) ha S₁ S' hW₁
      · have B := St.back (s₁ := { s' with heap := h₁, toks := tk }) S₁ S' ha''
        refine B.knows fun p hp => ?_
        have hmu : mu P Y'.old = mu P (Yi.also D) := by show P.L :: (P.oc ++ Y'.own.map (·.1)) = _; rw [ha'']
        rw [hmu]
        exact St.keepdat (s₁ := { s' with heap := h₁, toks := tk }) S₁ S' (S₁.da p (List.mem_append_right _ hp))
    cases f with
    | next => exact fin' z
    | cont => exact fin' z
    | brk => exact z
    | ret v => exact z
  · have hin : i = n := by omega
    subst hin
    refine K.W.done s' _ _ hWi fun h₁ tk hk₁ => ?_
    exact fin Yi { s' with heap := h₁, toks := tk } _ hJi ha (Si.iter hk₁ hw)
end
end Mine
namespace Mine
section
variable {prog : Program} {w : World} {A : Around} {env : Env} {P : Pa} {Y : Sy} {s : Shared}

theorem codeAny_compLoopG {R : Result → Shared → Prop} {elt target iter : Expr} {ifs : List Expr} {scope : Scope} {pos : Pos} {it acc : Value} {env : Env} (I : Nat → Shared → Prop)
    (turn : ∀ n s, I n s → wpAny (model prog w) A (pyNext it) (fun r s₁ => match r with
      | none => R (.ok .next) s₁
      | some v => wpAny (model prog w) A (letOwnedTupleGo target it v) (fun _ s₁' => wpAny (model prog w) A (assign target env v) (fun _ s₂ =>
          wpAny (model prog w) A (forIn ifs true fun c r => if r = true then do let ok ← isTrue c env (eval c env); pure (ForInStep.yield ok) else pure (ForInStep.yield r)) (fun ok s₃ =>
            if ok = true then wpAny (model prog w) A (eval elt env) (fun x s₄ =>
              wpAny (model prog w) A (call (.builtin "list.append") [acc, x]) (fun _ s₅ => ∃ m, m < n ∧ I m s₅) (notedBy (model prog w) A env fun e s' => R (.error e) s') s₄) (notedBy (model prog w) A env fun e s' => R (.error e) s') s₃
            else ∃ m, m < n ∧ I m s₃) (notedBy (model prog w) A env fun e s' => R (.error e) s') s₂) (notedBy (model prog w) A env fun e s' => R (.error e) s') s₁') (notedBy (model prog w) A env fun e s' => R (.error e) s') s₁) (notedBy (model prog w) A env fun e s' => R (.error e) s') s)
    (n : Nat) (h : I n s) : codeAny (model prog w) A (.compLoop (.ListComp elt [⟨target, iter, ifs, 0⟩] scope pos) 0 it acc env) R s := by
  refine codeAny_loop rfl I (fun n s hI => ?_) n h
  show wpAny _ A ((compTurn (.ListComp elt [⟨target, iter, ifs, 0⟩] scope pos) 0 it acc env).onRaise (fun x => do noteFrame x env; theTreesLotGoes x)) _ _ s
  refine wpAny_noted ?_
  rw [compTurn_list]
  refine wpAny_bind (wpAny_standAt (wpAny_bind (wpAny_mono (turn n s hI) (fun r s₁ h₁ => ?_) fun _ _ h' => h')))
  cases r with
  | none => exact wpAny_pure h₁
  | some v =>
    refine wpAny_bind (wpAny_mono h₁ (fun _ s₁' h₁' => ?_) fun _ _ h' => h')
    refine wpAny_bind (wpAny_mono h₁' (fun _ s₂ h₂ => wpAny_bind (wpAny_mono h₂ (fun ok s₃ h₃ => ?_) fun _ _ h' => h')) fun _ _ h' => h')
    cases ok with
    | false => exact wpAny_pure ⟨rfl, h₃⟩
    | true =>
      exact wpAny_bind (wpAny_bind (wpAny_mono h₃ (fun x s₄ h₄ => wpAny_bind (wpAny_mono h₄ (fun _ s₅ h₅ => wpAny_pure (wpAny_pure ⟨rfl, h₅⟩)) fun _ _ h' => h')) fun _ _ h' => h'))

/-- a clause's tests -/
structure Ts (prog : Program) (w : World) (A : Around) (env : Env) (P : Pa) (Y : Sy) (ifs : List Expr) (b : Bool) : Prop where
  go : ∀ (s : Shared) (Q : Bool → Shared → Prop) (E : Value → Shared → Prop), St P Y s.heap s.gens s.os → (∀ s', Gr (frs P.chain) s s' → Q b s') →
    wpAny (model prog w) A (forIn ifs true fun c r => if r = true then do let ok ← isTrue c env (eval c env); pure (ForInStep.yield ok) else pure (ForInStep.yield r)) Q E s
theorem Ts.nil : Ts prog w A env P Y [] true := .mk fun s Q E S q => by rw [List.forIn_nil]; exact wpAny_pure (q s (Gr.refl _ s))
theorem Ts.one {c : Expr} {b : Bool} (h : Tr prog w A env P Y c b) : Ts prog w A env P Y [c] b := .mk fun s Q E S q => by
  rw [List.forIn_cons]
  simp only [if_true]
  refine wpAny_bind (wpAny_bind (h.go s _ _ S fun s' G => wpAny_pure ?_))
  exact wpAny_pure (q s' G)

theorem St.ins {P : Pa} {Y : Sy} {h : Heap} {g : Array GenState} {o : OsState} (S : St P Y h g o) {D : List (Value × PyData × Bool)} (k : ∀ p ∈ D, Dat (mu P Y) P.h₀ h p.1 p.2.1 p.2.2) : St P { Y with dat := D } h g o :=
  { ch := S.ch, bs := S.bs, ff := S.ff, fn := S.fn, ns := S.ns, ce := S.ce, ap := S.ap, oc := S.oc, li := S.li, nd := S.nd, nf := S.nf, nb := S.nb, nx := S.nx, xi := S.xi, gs := S.gs, os := S.os, da := k }

/-- the walk of a comprehension, its block's picture told by the list it fills -/
theorem comp_w {R : Result → Shared → Prop} {elt target iter : Expr} {ifs : List Expr} {scope : Scope} {pos : Pos} {I D : Addr} {fp wr : List Addr} {n : Nat} {Pv : Nat → Value → Prop} {Ws : Nat → Heap → Prop} {D0 : List (Value × PyData × Bool)} {cm m0 : List (Str × Value)}
    (g : Nat → Option PyData) (hn : n ≤ sizeLine) (K : Wk prog w A P ⟨[(D, [])], [], m0, cm⟩ I fp wr n Pv Ws) (S : St P ⟨[(D, [])], D0, m0, cm⟩ s.heap s.gens s.os) (h0 : Ws 0 s.heap)
    (turn : ∀ i v ys m s₁ (E : Value → Shared → Prop) (Q : Unit → Shared → Prop), i < n → Pv i v → Ws (i + 1) s₁.heap → St P ⟨[(D, ys)], D0, m, cm⟩ s₁.heap s₁.gens s₁.os →
      (∀ s₂ dat' m', St (P.turn ⟨[(D, ys)], D0, m, cm⟩ s₁) ⟨[(D, ys)], dat', m', cm⟩ s₂.heap s₂.gens s₂.os →
        (∃ b, Ts prog w A env (P.turn ⟨[(D, ys)], D0, m, cm⟩ s₁) ⟨[(D, ys)], dat', m', cm⟩ ifs b ∧ (b = true → ∃ r, g i = some r ∧ ExD prog w A env (P.turn ⟨[(D, ys)], D0, m, cm⟩ s₁) ⟨[(D, ys)], dat', m', cm⟩ elt r true) ∧ (b = false → g i = none)) → Q () s₂) →
      wpAny (model prog w) A (letOwnedTupleGo target (.ref I) v) (fun _ s₁' => wpAny (model prog w) A (assign target env v) Q E s₁') E s₁)
    (fin : ∀ ys m s', St P ⟨[(D, ys)], D0, m, cm⟩ s'.heap s'.gens s'.os → Dats (mu P ⟨[(D, ys)], D0, m, cm⟩) P.h₀ s'.heap ys ((List.range n).filterMap g) true → R (.ok .next) s') :
    codeAny (model prog w) A (.compLoop (.ListComp elt [⟨target, iter, ifs, 0⟩] scope pos) 0 (.ref I) (.ref D) env) R s := by
  refine codeAny_compLoopG (fun k s' => ∃ i ys m, i ≤ n ∧ k = n + 1 - i ∧ ys.length ≤ i ∧ Ws i s'.heap ∧ St P ⟨[(D, ys)], D0, m, cm⟩ s'.heap s'.gens s'.os ∧ Dats (mu P ⟨[(D, ys)], D0, m, cm⟩) P.h₀ s'.heap ys ((List.range i).filterMap g) true) ?_ (n + 1)
    ⟨0, [], m0, Nat.zero_le _, rfl, Nat.le_refl _, h0, S, Dats.nil⟩
  rintro k s' ⟨i, ys, m, hi, rfl, hys, hWi, Si, hDs⟩
  have hw : ∀ b ∈ wr, (∃ o vs, s'.heap.get? b = some o ∧ o.data = .fields vs) ∧ P.base.get? b = none ∧ P.h₀.get? b = none ∧ b ∉ P.X := fun b hb => ⟨K.fields i _ hWi b hb, K.new b hb⟩
  -- data stand an iterator's step
  have step : ∀ {h₁ : Heap}, (∀ b o, b ∉ wr → s'.heap.get? b = some o → h₁.get? b = some o) → Dats (mu P ⟨[(D, ys)], D0, m, cm⟩) P.h₀ h₁ ys ((List.range i).filterMap g) true := fun {h₁} hk => by
    obtain ⟨as, r, q⟩ := hDs
    have off : ∀ b o, s'.heap.get? b = some o → (∀ vs, o.data ≠ .fields vs) → b ∉ wr := fun b o e hn hb => by
      obtain ⟨⟨o', vs, e', hd⟩, _⟩ := hw b hb
      rw [e] at e'; cases e'; exact hn vs hd
    refine ⟨as, readsAll_up (S := fun b => b ∉ wr) (fun b o hb e => ⟨o.slots, hk b o hb e⟩) (fun b o vs n e _ hd => off b o e fun vs' z => by rw [hd] at z; cases z) r ?_, q⟩
    intro a ha
    obtain ⟨o, ho, hn⟩ := readsAll_not r a ha
    exact off a o ho hn
  by_cases hlt : i < n
  · refine K.W.item i s' _ _ hlt hWi fun v h₁ tk hPv hW₁ hk₁ => ?_
    have S₁ : St P ⟨[(D, ys)], D0, m, cm⟩ h₁ s'.gens s'.os := Si.iter hk₁ hw
    have hDs₁ := step hk₁
    refine turn i v ys m { s' with heap := h₁, toks := tk } _ _ hlt hPv hW₁ S₁ fun s₂ dat' m' S₂ hb => ?_
    obtain ⟨b, hT, hE, hN⟩ := hb
    refine hT.go s₂ _ _ S₂ fun s₃ G₃ => ?_
    have S₃ := S₂.grow G₃
    -- what a turn leaves
    have back : ∀ {Y' : Sy} {s₄ : Shared}, St (P.turn ⟨[(D, ys)], D0, m, cm⟩ { s' with heap := h₁, toks := tk }) Y' s₄.heap s₄.gens s₄.os → Y'.own.map (·.1) = [D] → Y'.cm = cm → Ws (i + 1) s₄.heap ∧ St P ⟨Y'.own, D0, Y'.m, cm⟩ s₄.heap s₄.gens s₄.os ∧
        Dats (mu P ⟨[(D, ys)], D0, m, cm⟩) P.h₀ s₄.heap ys ((List.range i).filterMap g) true := fun {Y' s₄} S' ha hc => by
      have ha' : Y'.own.map (·.1) = ([(D, ys)] : List (Addr × List Value)).map (·.1) := ha
      refine ⟨K.turn (s₁ := { s' with heap := h₁, toks := tk }) (Yi := ⟨[(D, ys)], D0, m, cm⟩) rfl S₁ S' hW₁, ?_, ?_⟩
      · have B := St.back (s₁ := { s' with heap := h₁, toks := tk }) S₁ S' ha'
        have e : mu P Y'.old = mu P ⟨[(D, ys)], D0, m, cm⟩ := by show P.L :: (P.oc ++ Y'.own.map (·.1)) = _; rw [ha']
        have B' := B.ins (D := D0) fun p hp => by
          rw [e]; exact St.keepdat (s₁ := { s' with heap := h₁, toks := tk }) S₁ S' (S₁.da p hp)
        rw [← hc]; exact B'
      · obtain ⟨as, r, q⟩ := hDs₁
        refine ⟨as, readsAll_up (S := fun b => b ∉ mu P ⟨[(D, ys)], D0, m, cm⟩) (fun b o hb e => (S'.ch b o hb e).2) ?_ r fun a ha => (q a ha).1, q⟩
        intro b o vs n e hc hd hm
        obtain ⟨o', ho', _, hn⟩ := S₁.mu_obj hm
        have e' : h₁.get? b = some o := e
        rw [e'] at ho'; cases ho'
        exact hn ⟨hc, vs, n, hd⟩
    have rng : (List.range (i + 1)).filterMap g = (List.range i).filterMap g ++ (g i).toList := by
      rw [List.range_succ, List.filterMap_append]
      cases q : g i <;> simp [q]
    cases b with
    | false =>
      simp only [Bool.false_eq_true, if_false]
      obtain ⟨b1, b2, b3⟩ := back S₃ rfl rfl
      refine ⟨n + 1 - (i + 1), by omega, i + 1, ys, m', hlt, rfl, by omega, b1, b2, ?_⟩
      rw [rng, hN rfl]
      simpa using b3
    | true =>
      simp only [if_true]
      obtain ⟨r, hr, he⟩ := hE rfl
      refine he.go s₃ _ _ S₃ fun y s₄ G₄ hy => ?_
      have S₄ := S₃.grow G₄
      have hl := S₄.li (D, ys) (by simp)
      refine list_append_plainL hl (fun h₅ hl₅ hs₅ => ?_) (by simp; omega)
      have hl₅' : PlainL h₅ D (ys ++ [y]).toArray := by simpa using hl₅
      have S₅ := S₄.setO (pre := []) (post := []) (ys := ys ++ [y]) rfl hl₅' hs₅
      obtain ⟨b1, b2, b3⟩ := back (s₄ := { s₄ with heap := h₅ }) S₅ rfl rfl
      refine ⟨n + 1 - (i + 1), by omega, i + 1, ys ++ [y], m', hlt, rfl, by simp; omega, b1, b2, ?_⟩
      rw [rng, hr]
      -- the new item's data
      have hy₅ : Dat (mu P ⟨[(D, ys)], D0, m, cm⟩) P.h₀ h₅ y r true := by
        obtain ⟨as, r', q⟩ := hy
        refine ⟨as, reads_up (S := fun b => b ≠ D) (fun b o hb e => ⟨o.slots, by rw [hs₅.2 b hb]; exact e⟩) ?_ r' ?_, fun a ha => ⟨(q a ha).1, fun _ => ?_⟩⟩
        · rintro b o vs n e hc hd rfl
          obtain ⟨o', ho', _, _, _, hn⟩ := list_not hl.isList
          rw [e] at ho'; cases ho'
          exact hn ⟨hc, vs, n, hd⟩
        · rintro a ha rfl
          exact (q a ha).1 (by simp [mu])
        · have hq : h₁.get? a = none := (q a ha).2 rfl
          exact (St.fresh (s := { s' with heap := h₁, toks := tk }) S₁ hq).2
      obtain ⟨as, r1, q1⟩ := b3
      obtain ⟨bs, r2, q2⟩ := hy₅
      exact ⟨as ++ (bs ++ []), readsAll_append r1 (.cons r2 .nil), fun a ha => by
        rcases List.mem_append.mp ha with h | h
        · exact q1 a h
        · exact q2 a (by simpa using h)⟩
  · have hin : i = n := by omega
    subst hin
    refine K.W.done s' _ _ hWi fun h₁ tk hk₁ => ?_
    exact fin ys m { s' with heap := h₁, toks := tk } (Si.iter hk₁ hw) (step hk₁)
where
  readsAll_not {h : Heap} {vs : List Value} {ds : List PyData} {as : List Addr} (r : ReadsAll h vs ds as) : ∀ a ∈ as, ∃ o, h.get? a = some o ∧ ∀ vs, o.data ≠ .fields vs := by
    induction vs generalizing ds as with
    | nil => cases r; intro a h; cases h
    | cons v vs ih =>
      cases r with
      | cons r1 r2 => intro a ha; exact (List.mem_append.mp ha).elim (St.iter.reads_not r1 a) (ih r2 a)
  readsAll_append {h : Heap} {vs vs' : List Value} {ds ds' : List PyData} {as as' : List Addr} (r : ReadsAll h vs ds as) (r' : ReadsAll h vs' ds' as') : ReadsAll h (vs ++ vs') (ds ++ ds') (as ++ as') := by
    induction vs generalizing ds as with
    | nil => cases r; exact r'
    | cons v vs ih =>
      cases r with
      | cons r1 r2 => rw [List.append_assoc]; exact .cons r1 (ih r2)
end
end Mine
namespace Mine
section
variable {prog : Program} {w : World} {A : Around} {env : Env} {P : Pa} {Y : Sy} {s : Shared}

/-- the block of a comprehension -/
noncomputable abbrev compPa (P : Pa) (X : List Addr) (h : Heap) (g : Array GenState) (o : OsState) (C : Addr) (cl : List (Str × Addr)) : Pa := ⟨P.base, P.chain, X, h, g, o, C, cl, []⟩

theorem mem_mu2 {X : List Addr} {h : Heap} {g : Array GenState} {o : OsState} {C D a : Addr} {cl : List (Str × Addr)} {ys : List Value} {dat : List (Value × PyData × Bool)} {m cm : List (Str × Value)} (ha : a ∈ mu (compPa P X h g o C cl) ⟨[(D, ys)], dat, m, cm⟩) : a = C ∨ a = D := by
  simpa [mu] using ha

theorem comp_blockG {E : Value → Shared → Prop} {RR : Value → Addr → Result → Shared → Prop} {elt target iter : Expr} {ifs : List Expr} {scope : Scope} {pos : Pos} {cl : List (Str × Addr)} {I : Addr} {fp wr : List Addr} {n : Nat} {Pv : Nat → Value → Prop} {Ws : Nat → Heap → Prop} {D0 : List (Value × PyData × Bool)} {s1 s2 : Shared}
    (g : Nat → Option PyData) (hn : n ≤ sizeLine) (S1 : St P Y s1.heap s1.gens s1.os) (G2 : Gr (frs P.chain) s1 s2) (W : Walks prog w A I fp wr n Pv Ws) (h0 : Ws 0 s2.heap)
    (fields : ∀ i h, Ws i h → ∀ b ∈ wr, ∃ o vs, h.get? b = some o ∧ o.data = .fields vs) (seqs : ∀ i h, Ws i h → ∀ b ∈ fp, b ∈ wr ∨ ∃ o xs k, h.get? b = some o ∧ o.data = .seq xs k)
    (hwr : ∀ b ∈ wr, s1.heap.get? b = none) (hD0 : ∀ p ∈ D0, p.2.2 = false ∧ ∃ as, Reads s2.heap p.1 p.2.1 as)
    (hcell : ∀ y ∈ scope.names, y.2 ≠ .cell) (hkind : scope.kind = .function)
    (hcl : ∀ n c, cl.lookup n = some c → P.cs.lookup n = some c) (hap : cl.Pairwise fun x y => x.2 ≠ y.2)
    (turn : ∀ i v ys m C D X' h' g' o' s₁ (E : Value → Shared → Prop) (Q : Unit → Shared → Prop), i < n → Pv i v → Ws (i + 1) s₁.heap → St (compPa P X' h' g' o' C cl) ⟨[(D, ys)], D0, m, Y.cm⟩ s₁.heap s₁.gens s₁.os →
      (∀ s₂ dat' m', St (compPa P X' h' g' o' C cl) ⟨[(D, ys)], dat', m', Y.cm⟩ s₂.heap s₂.gens s₂.os →
        (∃ b, Ts prog w A (compEnvC scope cl C env) (compPa P X' h' g' o' C cl) ⟨[(D, ys)], dat', m', Y.cm⟩ ifs b ∧
          (b = true → ∃ r, g i = some r ∧ ExD prog w A (compEnvC scope cl C env) (compPa P X' h' g' o' C cl) ⟨[(D, ys)], dat', m', Y.cm⟩ elt r true) ∧ (b = false → g i = none)) → Q () s₂) →
      wpAny (model prog w) A (letOwnedTupleGo target (.ref I) v) (fun _ s₁' => wpAny (model prog w) A (assign target (compEnvC scope cl C env) v) Q E s₁') E s₁)
    (q : ∀ v C s', s1.heap.get? C = none → Gr (frs P.chain) s1 s' → (∃ m, s'.heap.Ns C m) → Dat (C :: mu P Y) P.h₀ s'.heap v (.list ((List.range n).filterMap g)) true → RR v C (.ok .next) s') :
    wpAny (model prog w) A (newList []) (fun acc s₃ => wpAny (model prog w) A (newFunctionEnv scope env.globals cl [] env.qual none .none (some env)) (fun cenv s₄ =>
      codeAny (model prog w) A (.compStart (.ListComp elt [⟨target, iter, ifs, 0⟩] scope pos) 0 (.ref I) acc { cenv with scope := relabel scope env }) (RR acc cenv.locals) s₄) E s₃) E s2 := by
  refine wpAny_newObj_type (wpAny_newFunctionEnv hcell (by intro y hy; simp at hy) (fun h₁ hns₁ hsb₁ => ?_) hkind)
  dsimp only at hns₁ hsb₁ ⊢
  generalize hH2 : s2.heap.push { cls := .type "list", dict := none, data := .seq ([] : List Value).toArray } = H2 at hns₁ hsb₁ ⊢
  have hC : H2.objs.size = s2.heap.objs.size + 1 := by rw [← hH2, Heap.size_push]
  have hDC : s2.heap.objs.size ≠ H2.objs.size := by rw [hC]; exact Nat.ne_of_lt (Nat.lt_succ_self _)
  have below : ∀ b, b < s2.heap.objs.size → b ≠ H2.objs.size := fun b hb => by rw [hC]; exact Nat.ne_of_lt (Nat.lt_succ_of_lt hb)
  have old : ∀ b o, s2.heap.get? b = some o → h₁.get? b = some o := fun b o e => hsb₁.extBut b o (below b (Heap.lt_size e)) (Heap.get?_push_of_some _ (hH2 ▸ Heap.get?_push_of_some _ e))
  have newD : s2.heap.get? s2.heap.objs.size = none := heap_new _
  have newC : s2.heap.get? H2.objs.size = none := by
    cases z : s2.heap.get? H2.objs.size with
    | none => rfl
    | some o => exact absurd rfl (below _ (Heap.lt_size z))
  have hacc : PlainL h₁ s2.heap.objs.size ([] : List Value).toArray := ⟨_, 0, hsb₁.extBut _ _ hDC (Heap.get?_push_of_some _ (hH2 ▸ Heap.get?_push_size _ rfl)), rfl, rfl, rfl⟩
  clear below hC
  revert hns₁ hsb₁ hDC newD newC hacc
  generalize s2.heap.objs.size = D
  generalize H2.objs.size = C
  intro hns₁ hsb₁ hDC newD newC hacc
  have hst₁ : Ws 0 h₁ := W.frame _ _ _ h0 fun b _ o e => old b o e
  have S2 := S1.grow G2
  -- the block's first picture
  let Pc : Pa := compPa P [] s1.heap s1.gens s1.os C cl
  have n1 : ∀ a, s2.heap.get? a = none → s1.heap.get? a = none := fun a h => G2.none h
  have nb : ∀ a, s2.heap.get? a = none → P.base.get? a = none := fun a h => by
    cases z : P.base.get? a with
    | none => rfl
    | some o => have := S2.bs a o z; rw [h] at this; cases this
  have S4 : St Pc ⟨[(D, [])], D0, [], Y.cm⟩ h₁ s2.gens s2.os := by
    refine { ch := ?_, bs := (fun b o e => old b o (S2.bs b o e)), ff := (funFrames_up (fun b o e hn => ⟨o, old b o e, hn⟩) S2.ff), fn := (fun f hf => let ⟨m, y⟩ := S2.fn f hf; ⟨m, y.keeps old⟩), ns := hns₁, ce := (fun n c hc => (S2.ce n c (hcl n c hc)).keeps old), ap := hap, oc := (fun c hc => by cases hc), li := ?_, nd := (by simp), nf := ?_, nb := ?_, nx := ?_, xi := (fun a ha => by cases ha), da := ?_, gs := G2.gs, os := G2.os }
    · intro b o _ e
      obtain ⟨k, sl, e'⟩ := G2.ch b o (by simp) e
      exact ⟨fun hf => old b o (k hf), sl, old b _ e'⟩
    · intro p hp
      rcases List.mem_singleton.mp hp with rfl
      exact hacc
    · intro a ha hf
      have : a = D := by
        have ha' : a ∈ ([] : List Addr) ++ [D] := ha
        simpa using ha'
      subst this
      obtain ⟨_, o, ho, _⟩ := S2.ff.mem hf
      rw [newD] at ho; cases ho
    · intro a ha
      have : a = C ∨ a = D := mem_mu2 ha
      rcases this with rfl | rfl
      · exact nb _ newC
      · exact nb _ newD
    · intro a ha
      have : a = C ∨ a = D := mem_mu2 ha
      rcases this with rfl | rfl
      · exact .inr (n1 _ newC)
      · exact .inr (n1 _ newD)
    · intro p hp
      obtain ⟨hf, as, r⟩ := hD0 p hp
      rw [hf]
      refine ⟨as, PyProof.Rows.Reads.keeps old r, fun a ha => ⟨fun hm => ?_, fun z => by cases z⟩⟩
      obtain ⟨o, ho⟩ := reads_in r a ha
      have : a = C ∨ a = D := mem_mu2 hm
      rcases this with rfl | rfl
      · rw [newC] at ho; cases ho
      · rw [newD] at ho; cases ho
  have wr2 : ∀ b ∈ wr, ∃ o, s2.heap.get? b = some o := fun b hb => let ⟨o, vs, e, _⟩ := fields 0 _ h0 b hb; ⟨o, e⟩
  have K : Wk prog w A Pc ⟨[(D, [])], [], [], Y.cm⟩ I fp wr n Pv Ws := by
    refine ⟨W, fields, seqs, fun b hb => ?_, fun b hb => ⟨?_, hwr b hb, by simp [Pc]⟩⟩
    · by_cases hbw : b ∈ wr
      · exact .inl hbw
      · refine .inr fun hm => ?_
        have hin : ∃ o, s2.heap.get? b = some o := by
          rcases seqs 0 _ h0 b hb with h | ⟨o, xs, k, e, _⟩
          · exact wr2 b h
          · exact ⟨o, e⟩
        obtain ⟨o, ho⟩ := hin
        have : b = C ∨ b = D := mem_mu2 hm
        rcases this with rfl | rfl
        · rw [newC] at ho; cases ho
        · rw [newD] at ho; cases ho
    · cases z : P.base.get? b with
      | none => rfl
      | some o => have := S1.bs b o z; rw [hwr b hb] at this; cases this
  have loop : ∀ s₃ : Shared, s₃ = { s2 with heap := h₁, toks := s2.toks + ([] : List (Str × Value)).length } →
      codeAny (model prog w) A (.compLoop (.ListComp elt [⟨target, iter, ifs, 0⟩] scope pos) 0 (.ref I) (.ref D) (compEnvC scope cl C env)) (RR (.ref D) C) s₃ := by
    rintro s₃ rfl
    refine comp_w (P := Pc) (s := { s2 with heap := h₁, toks := s2.toks + ([] : List (Str × Value)).length }) g hn K S4 hst₁ ?_ ?_
    · intro i v ys m s₁ E' Q' hi hv hWs Sx k
      exact turn i v ys m C D (mu Pc ⟨[(D, ys)], D0, m, Y.cm⟩) s₁.heap s₁.gens s₁.os s₁ E' Q' hi hv hWs (St.same_dat D0 hD0 Sx) k
    · intro ys m s' Sx hDs
      refine q _ _ _ (n1 _ newC) ⟨fun b o _ e => Sx.ch b o (by simp [Pc]) e, Sx.os, Sx.gs⟩ ⟨_, Sx.ns⟩ ?_
      have hDs' : Dats (C :: mu P Y) P.h₀ s'.heap ys ((List.range n).filterMap g) true := by
        obtain ⟨as, r, z⟩ := hDs
        refine ⟨as, r, fun a ha => ?_⟩
        have hf := S1.fresh ((z a ha).2 rfl)
        refine ⟨fun hm => ?_, fun _ => hf.2⟩
        rcases List.mem_cons.mp hm with rfl | hm
        · exact (z a ha).1 (by simp [mu, Pc])
        · exact hf.1 hm
      have hf := S1.fresh (n1 _ newD)
      refine Dat.ofList (Sx.li (D, ys) (by simp)).isList hDs' (fun hm => ?_) fun _ => hf.2
      rcases List.mem_cons.mp hm with e | hm
      · exact hDC e
      · exact hf.1 hm
  exact codeAny_compStart_list (loop _ rfl) (W.self 0 _ _ _ hst₁ (loop _ rfl))
where
  St.same_dat {Pc : Pa} {D : Addr} {ys : List Value} {m cm : List (Str × Value)} {s₁ : Shared} {h : Heap} (D0 : List (Value × PyData × Bool)) (hD0 : ∀ p ∈ D0, p.2.2 = false ∧ ∃ as, Reads h p.1 p.2.1 as) (S : St Pc ⟨[(D, ys)], D0, m, cm⟩ s₁.heap s₁.gens s₁.os) :
      St (Pc.turn ⟨[(D, ys)], D0, m, cm⟩ s₁) ⟨[(D, ys)], D0, m, cm⟩ s₁.heap s₁.gens s₁.os := by
    have T := S.turn
    have e : D0.map (fun p => (p.1, p.2.1, false)) = D0 := by
      have : D0.map (fun p => (p.1, p.2.1, false)) = D0.map id := List.map_congr_left fun p hp => by
        obtain ⟨a, b, c⟩ := p
        have := (hD0 _ hp).1
        simp at this
        simp [this]
      rw [this]; simp
    have e' : Sy.old ⟨[(D, ys)], D0, m, cm⟩ = ⟨[(D, ys)], D0, m, cm⟩ := by unfold Sy.old; rw [e]
    rw [e'] at T
    exact T

theorem Dat.but {X : List Addr} {h₀ : Heap} {s' : Shared} {C : Addr} {m : Loc} {h' : Heap} {v : Value} {d : PyData} {n : Bool} (x : Dat (C :: X) h₀ s'.heap v d n) (hn : s'.heap.Ns C m) (hs : Heap.SameBut C s'.heap h') : Dat X h₀ h' v d n := by
  obtain ⟨as, r, z⟩ := x
  refine ⟨as, reads_up (S := fun b => b ≠ C) (fun b o hb e => ⟨o.slots, by rw [hs.2 b hb]; exact e⟩) ?_ r ?_, fun a ha => ⟨fun hm => (z a ha).1 (List.mem_cons_of_mem _ hm), (z a ha).2⟩⟩
  · rintro b o vs n e hc hd rfl
    obtain ⟨o', ho', _, h2, _⟩ := ns_not hn
    rw [e] at ho'; cases ho'
    exact h2 vs n hd
  · rintro a ha rfl
    exact (z a ha).1 List.mem_cons_self
theorem Gr.but {fs : List Addr} {s s' : Shared} {C : Addr} {h' : Heap} (G : Gr fs s s') (hC : s.heap.get? C = Option.none) (hs : Heap.SameBut C s'.heap h') : Gr fs s { s' with heap := h' } := by
  refine ⟨fun b o hb e => ?_, G.os, G.gs⟩
  obtain ⟨k, sl, e'⟩ := G.ch b o hb e
  have hbC : b ≠ C := by rintro rfl; rw [hC] at e; cases e
  show (_ → h'.get? b = some o) ∧ ∃ sl, h'.get? b = _
  rw [hs.2 b hbC]
  exact ⟨k, sl, e'⟩

theorem comp_block {Q E : Value → Shared → Prop} {elt target iter : Expr} {ifs : List Expr} {scope : Scope} {pos : Pos} {cl : List (Str × Addr)} {I : Addr} {fp wr : List Addr} {n : Nat} {Pv : Nat → Value → Prop} {Ws : Nat → Heap → Prop} {D0 : List (Value × PyData × Bool)} {s1 s2 : Shared}
    (g : Nat → Option PyData) (hn : n ≤ sizeLine) (S1 : St P Y s1.heap s1.gens s1.os) (G2 : Gr (frs P.chain) s1 s2) (W : Walks prog w A I fp wr n Pv Ws) (h0 : Ws 0 s2.heap)
    (fields : ∀ i h, Ws i h → ∀ b ∈ wr, ∃ o vs, h.get? b = some o ∧ o.data = .fields vs) (seqs : ∀ i h, Ws i h → ∀ b ∈ fp, b ∈ wr ∨ ∃ o xs k, h.get? b = some o ∧ o.data = .seq xs k)
    (hwr : ∀ b ∈ wr, s1.heap.get? b = none) (hD0 : ∀ p ∈ D0, p.2.2 = false ∧ ∃ as, Reads s2.heap p.1 p.2.1 as)
    (hcell : ∀ y ∈ scope.names, y.2 ≠ .cell) (hkind : scope.kind = .function)
    (hcl : ∀ n c, cl.lookup n = some c → P.cs.lookup n = some c) (hap : cl.Pairwise fun x y => x.2 ≠ y.2)
    (turn : ∀ i v ys m C D X' h' g' o' s₁ (E : Value → Shared → Prop) (Q : Unit → Shared → Prop), i < n → Pv i v → Ws (i + 1) s₁.heap → St (compPa P X' h' g' o' C cl) ⟨[(D, ys)], D0, m, Y.cm⟩ s₁.heap s₁.gens s₁.os →
      (∀ s₂ dat' m', St (compPa P X' h' g' o' C cl) ⟨[(D, ys)], dat', m', Y.cm⟩ s₂.heap s₂.gens s₂.os →
        (∃ b, Ts prog w A (compEnvC scope cl C env) (compPa P X' h' g' o' C cl) ⟨[(D, ys)], dat', m', Y.cm⟩ ifs b ∧
          (b = true → ∃ r, g i = some r ∧ ExD prog w A (compEnvC scope cl C env) (compPa P X' h' g' o' C cl) ⟨[(D, ys)], dat', m', Y.cm⟩ elt r true) ∧ (b = false → g i = none)) → Q () s₂) →
      wpAny (model prog w) A (letOwnedTupleGo target (.ref I) v) (fun _ s₁' => wpAny (model prog w) A (assign target (compEnvC scope cl C env) v) Q E s₁') E s₁)
    (q : ∀ v s', Gr (frs P.chain) s1 s' → Dat (mu P Y) P.h₀ s'.heap v (.list ((List.range n).filterMap g)) true → Q v s') :
    wpAny (model prog w) A (newList []) (fun acc s₃ => wpAny (model prog w) A (newFunctionEnv scope env.globals cl [] env.qual none .none (some env)) (fun cenv s₄ =>
      codeAny (model prog w) A (.compStart (.ListComp elt [⟨target, iter, ifs, 0⟩] scope pos) 0 (.ref I) acc { cenv with scope := relabel scope env }) (compPost (model prog w) A E none Q acc cenv.locals) s₄) E s₃) E s2 :=
  comp_blockG (RR := fun acc C => compPost (model prog w) A E none Q acc C) g hn S1 G2 W h0 fields seqs hwr hD0 hcell hkind hcl hap turn fun v C s' hC G ⟨m, hm⟩ hv => ⟨m, hm, fun h' hs => q v _ (G.but hC hs) (hv.but hm hs)⟩

/-- a change at a dict that is none of the block's -/
theorem St.dict (S : St P Y s.heap s.gens s.os) {C : Addr} {m : Loc} {h' : Heap} (hC : s.heap.Ns C m) (hs : Heap.SameBut C s.heap h') (h1 : C ≠ P.L) (h2 : C ∉ frs P.chain) (h3 : P.base.get? C = none) (h4 : P.h₀.get? C = none) (h5 : C ∉ P.X) (h6 : ∀ p ∈ Y.dat, Dat (C :: mu P Y) P.h₀ s.heap p.1 p.2.1 p.2.2) : St P Y h' s.gens s.os := by
  obtain ⟨o₀, ho₀, d1, d2, d3⟩ := ns_not hC
  have offL : ∀ {a : Addr} {vs : Array Value}, s.heap.IsList a vs → a ≠ C := fun {a vs} y e => by
    subst e; obtain ⟨o, ho, _, k, hd⟩ := y; rw [ho₀] at ho; cases ho; exact d2 _ _ hd
  have offC : ∀ {a : Addr} {v : Option Value}, s.heap.IsCell a v → a ≠ C := fun {a v} y e => by
    subst e; obtain ⟨o, ho, hd⟩ := y; rw [ho₀] at ho; cases ho; exact d3 _ hd
  exact
  { ch := fun b o hb e => by
      obtain ⟨k1, sl, e1⟩ := S.ch b o hb e
      have hbw : b ≠ C := fun q => by rw [q, h4] at e; cases e
      rw [hs.2 b hbw]; exact ⟨k1, sl, e1⟩
    bs := fun b o e => by
      have hbw : b ≠ C := fun q => by rw [q, h3] at e; cases e
      rw [hs.2 b hbw]; exact S.bs b o e
    ff := S.ff |> fun ff => by
      have : ∀ {l : List Env}, (∀ f ∈ frs l, f ≠ C) → s.heap.FunFrames P.base l → h'.FunFrames P.base l := by
        intro l hl hf
        induction l with
        | nil => trivial
        | cons e l ih =>
          obtain ⟨a1, ⟨L, o, a2, a3, a4, a5⟩, r⟩ := hf
          have hmem : ∀ f ∈ frs l, f ∈ frs (e :: l) := fun f hf => by
            show f ∈ List.filterMap (·.frame) (e :: l)
            rw [List.filterMap_cons, a2]; exact List.mem_cons_of_mem _ hf
          have hL : L ∈ frs (e :: l) := by
            show L ∈ List.filterMap (·.frame) (e :: l)
            rw [List.filterMap_cons, a2]; exact List.mem_cons_self
          exact ⟨a1, ⟨L, o, a2, a3, by rw [hs.2 L (hl L hL)]; exact a4, a5⟩, ih (fun f hf => hl f (hmem f hf)) r⟩
      exact this (fun f hf e => h2 (e ▸ hf)) ff
    fn := fun f hf => let ⟨m, y⟩ := S.fn f hf; ⟨m, y.sameBut hs fun e => h2 (e ▸ hf)⟩
    ns := S.ns.sameBut hs (Ne.symm h1)
    ce := fun n c hc => (S.ce n c hc).sameBut hs (offC (S.ce n c hc))
    ap := S.ap
    oc := fun c hc => let ⟨v, y⟩ := S.oc c hc; ⟨v, y.sameBut hs (offC y)⟩
    li := fun p hp => (S.li p hp).extBut hs.extBut (offL (S.li p hp).isList)
    nd := S.nd, nf := S.nf, nb := S.nb, nx := S.nx
    xi := fun a ha => let ⟨o, e⟩ := S.xi a ha; ⟨o, by rw [hs.2 a fun q => h5 (q ▸ ha)]; exact e⟩
    da := fun p hp => (h6 p hp).but hC hs
    gs := S.gs, os := S.os }
end
end Mine
namespace Mine
section
variable {prog : Program} {w : World} {A : Around} {env : Env} {P : Pa} {Y : Sy} {s : Shared}

/-- no tuple of the iterator's own is let go -/
noncomputable def Nog (I : Addr) (h : Heap) : Prop := ∃ o, h.get? I = some o ∧ (∃ nm, o.cls = .type nm ∧ ["enumerate", "zip", "dict_itemiterator", "dict_reverseitemiterator", "odict_iterator", "itertools.zip_longest", "itertools.pairwise"].contains nm = false)
theorem Nog.go {I : Addr} {elts : List Expr} {k : Nat} {pos : Pos} {v : Value} {Q : Unit → Shared → Prop} {E : Value → Shared → Prop} {M : Model} (n : Nog I s.heap) (h : Q () s) : wpAny M A (letOwnedTupleGo (.Tuple elts k pos) (.ref I) v) Q E s := by
  obtain ⟨o, ho, nm, hc, hn⟩ := n
  obtain ⟨c, d, dt, sl⟩ := o
  simp only at hc
  subst hc
  unfold letOwnedTupleGo
  cases v with
  | ref a =>
    simp only []
    refine wpAny_bind (wpAny_load ho ?_)
    cases dt with
    | fields vs =>
      simp only [hn, Bool.false_and]
      exact wpAny_pure h
    | _ => exact wpAny_pure h
  | _ => exact wpAny_pure h

/-- a source of items whose data are ds -/
structure Src (prog : Program) (w : World) (A : Around) (env : Env) (P : Pa) (Y : Sy) (iter : Expr) (ds : List PyData) : Prop where
  go : ∀ (s : Shared) (Q E : Value → Shared → Prop), St P Y s.heap s.gens s.os →
    (∀ (I : Addr) (fp wr : List Addr) (Pv : Nat → Value → Prop) (Ws : Nat → Heap → Prop) (D0 : List (Value × PyData × Bool)) (s1 s2 : Shared), Gr (frs P.chain) s s1 → Gr (frs P.chain) s1 s2 → Walks prog w A I fp wr ds.length Pv Ws → Ws 0 s2.heap →
      (∀ i h, Ws i h → ∀ b ∈ wr, ∃ o vs, h.get? b = some o ∧ o.data = .fields vs) → (∀ i h, Ws i h → ∀ b ∈ fp, b ∈ wr ∨ ∃ o xs k, h.get? b = some o ∧ o.data = .seq xs k) →
      (∀ b ∈ wr, s1.heap.get? b = none) → (∀ b ∈ fp, b ∈ wr ∨ b ∉ mu P Y) → (∀ p ∈ D0, p.2.2 = false ∧ Dat (mu P Y) P.h₀ s2.heap p.1 p.2.1 false) →
      (∀ i v, i < ds.length → Pv i v → ∃ d, ds[i]? = some d ∧ ((v, d, false) ∈ D0 ∨ ∃ k t, v = .int k t ∧ d = .int k)) → (∀ i h, Ws i h → Nog I h) → Q (.ref I) s2) →
    wpAny (model prog w) A (eval iter env) (fun x s1 => wpAny (model prog w) A (pyIter x) Q E s1) E s

theorem mem_zipD : ∀ {vs : List Value} {ds : List PyData} {i : Nat} {v : Value} {d : PyData}, vs[i]? = some v → ds[i]? = some d → (v, d, false) ∈ (vs.zip ds).map fun p => (p.1, p.2, false)
  | [], _, _, _, _, h, _ => by cases h
  | _ :: _, [], _, _, _, _, h => by cases h
  | _ :: _, _ :: _, 0, _, _, h, h' => by cases h; cases h'; simp
  | _ :: vs, _ :: ds, i + 1, _, _, h, h' => by
    have := mem_zipD (vs := vs) (ds := ds) (i := i) h h'
    rw [List.zip_cons_cons, List.map_cons]
    exact List.mem_cons_of_mem _ this
theorem Dats.zip {X : List Addr} {h₀ h : Heap} : ∀ {vs : List Value} {ds : List PyData} {n : Bool}, Dats X h₀ h vs ds n → ∀ p ∈ (vs.zip ds).map (fun p => (p.1, p.2, false)), p.2.2 = false ∧ Dat X h₀ h p.1 p.2.1 false
  | _, _, _, ⟨_, .nil, _⟩, _, hp => by simp at hp
  | _, _, _, ⟨_, .cons (as := as) (bs := bs) r r', q⟩, p, hp => by
    rw [List.zip_cons_cons, List.map_cons] at hp
    rcases List.mem_cons.mp hp with rfl | hp
    · exact ⟨rfl, as, r, fun a ha => ⟨(q a (List.mem_append_left _ ha)).1, fun z => by cases z⟩⟩
    · exact Dats.zip (n := _) ⟨bs, r', fun a ha => q a (List.mem_append_right _ ha)⟩ p hp

theorem Src.list {iter : Expr} {ds : List PyData} {n : Bool} (hh : A.handled = none) (h : ExD prog w A env P Y iter (.list ds) n) : Src prog w A env P Y iter ds := .mk fun s Q E S q => by
  refine h.go s _ _ S fun v s1 G1 hv => ?_
  obtain ⟨a, vs, rfl, hl, hds, ha⟩ := hv.isList
  refine wpAny_pyIter_list hl ?_
  have hne : a ≠ s1.heap.objs.size := by obtain ⟨o, ho, _⟩ := hl; exact Nat.ne_of_lt (Heap.lt_size ho)
  have W := Walks.list (prog := prog) (w := w) hh s1.heap.objs.size a hne vs.toArray
  have e : vs.toArray.size = ds.length := by rw [List.size_toArray]; exact hds.len
  rw [e] at W
  have G2 : Gr (frs P.chain) s1 { s1 with heap := s1.heap.push { cls := .type "list_iterator", data := .fields #[.ref a, .int 0 0] } } := Gr.push _
  refine q _ _ _ _ _ ((vs.zip ds).map fun p => (p.1, p.2, false)) s1 _ G1 G2 W ⟨⟨_, Heap.get?_push_size _ rfl, rfl, rfl⟩, hl.push _⟩ ?_ ?_ ?_ ?_ ?_ ?_ ?_
  · rintro i h ⟨⟨o, ho, _, hd⟩, _⟩ b hb
    rw [List.mem_singleton.mp hb]; exact ⟨o, _, ho, hd⟩
  · rintro i h ⟨_, o, ho, _, k, hd⟩ b hb
    rcases List.mem_cons.mp hb with rfl | hb
    · exact .inl (by simp)
    · rw [List.mem_singleton.mp hb]; exact .inr ⟨o, _, k, ho, hd⟩
  · intro b hb
    rw [List.mem_singleton.mp hb]; exact heap_new _
  · intro b hb
    rcases List.mem_cons.mp hb with rfl | hb
    · exact .inl (by simp)
    · rw [List.mem_singleton.mp hb]; exact .inr ha
  · exact (hds.gr G2).zip
  · intro i v hlt hv
    have hv' : vs[i]? = some v := by simpa using hv
    exact ⟨ds[i], by simp [hlt], .inl (mem_zipD hv' (by simp [hlt]))⟩
  · rintro i h ⟨⟨o, ho, hc, _⟩, _⟩
    exact ⟨o, ho, "list_iterator", hc, by decide⟩

theorem Src.tuple {iter : Expr} {ds : List PyData} {n : Bool} (hh : A.handled = none) (h : ExD prog w A env P Y iter (.tuple ds) n) : Src prog w A env P Y iter ds := .mk fun s Q E S q => by
  refine h.go s _ _ S fun v s1 G1 hv => ?_
  obtain ⟨a, vs, rfl, hl, hds⟩ := hv.isTup
  refine iter_tuple hl ?_
  have hne : a ≠ s1.heap.objs.size := by obtain ⟨o, ho, _⟩ := hl; exact Nat.ne_of_lt (Heap.lt_size ho)
  have W := Walks.tuple (prog := prog) (w := w) hh s1.heap.objs.size a hne vs.toArray
  have e : vs.toArray.size = ds.length := by rw [List.size_toArray]; exact hds.len
  rw [e] at W
  have G2 : Gr (frs P.chain) s1 { s1 with heap := s1.heap.push { cls := .type "tuple_iterator", data := .fields #[.ref a, .int 0 0] } } := Gr.push _
  have S1 := S.grow G1
  refine q _ _ _ _ _ ((vs.zip ds).map fun p => (p.1, p.2, false)) s1 _ G1 G2 W ⟨⟨_, Heap.get?_push_size _ rfl, rfl, rfl⟩, IsTup.push hl _⟩ ?_ ?_ ?_ ?_ ?_ ?_ ?_
  · rintro i h ⟨⟨o, ho, _, hd⟩, _⟩ b hb
    rw [List.mem_singleton.mp hb]; exact ⟨o, _, ho, hd⟩
  · rintro i h ⟨_, o, ho, _, k, hd⟩ b hb
    rcases List.mem_cons.mp hb with rfl | hb
    · exact .inl (by simp)
    · rw [List.mem_singleton.mp hb]; exact .inr ⟨o, _, k, ho, hd⟩
  · intro b hb
    rw [List.mem_singleton.mp hb]; exact heap_new _
  · intro b hb
    rcases List.mem_cons.mp hb with rfl | hb
    · exact .inl (by simp)
    · rw [List.mem_singleton.mp hb]
      refine .inr fun hm => ?_
      obtain ⟨o, ho, _, hn⟩ := S1.mu_obj hm
      obtain ⟨o', ho', hc, k, hd⟩ := hl
      rw [ho] at ho'; cases ho'
      exact hn ⟨hc, _, k, hd⟩
  · exact (hds.gr G2).zip
  · intro i v hlt hv
    have hv' : vs[i]? = some v := by simpa using hv
    exact ⟨ds[i], by simp [hlt], .inl (mem_zipD hv' (by simp [hlt]))⟩
  · rintro i h ⟨⟨o, ho, hc, _⟩, _⟩
    exact ⟨o, ho, "tuple_iterator", hc, by decide⟩

/-- range(a, b) by its call -/
theorem Src.range_of {iter : Expr} {a b : Int} (hh : A.handled = none) (ha : -(2 ^ 62) ≤ a) (ha' : a < 2 ^ 62) (hb : -(2 ^ 62) ≤ b) (hb' : b < 2 ^ 62)
    (h : Ex prog w A env P Y iter fun v h => ∃ r t u x, v = .ref r ∧ IsRange h r a b 1 t u x) : Src prog w A env P Y iter ((List.range (b - a).toNat).map fun i : Nat => .int (a + i)) := .mk fun s Q E S q => by
  refine h.go s _ _ S fun v s1 G1 hv => ?_
  obtain ⟨r, t, u, x, rfl, hr⟩ := hv
  refine wpAny_pyIter_range hr (small_one ha ha' hb hb') ?_
  have W := Walks.range (prog := prog) (w := w) hh s1.heap.objs.size a 1 (b - a).toNat
  have e : ((List.range (b - a).toNat).map fun i : Nat => PyData.int (a + i)).length = (b - a).toNat := by simp
  have hsz : Builtin.Range.rangeSize a b 1 = ((b - a).toNat : Int) := by rw [rangeSize_one]; split <;> (first | lia | omega)
  rw [← e] at W
  have G2 : Gr (frs P.chain) s1 { s1 with heap := s1.heap.push { cls := .type "range_iterator", data := .fields #[rawInt a, rawInt (Builtin.Range.rangeSize a b 1), rawInt 1] } } := Gr.push _
  refine q _ _ _ _ _ [] s1 _ G1 G2 W ?_ ?_ ?_ ?_ ?_ ?_ ?_ ?_
  · have e1 : (a + ((0 : Nat) : Int) * 1) = a := by simp
    have e2 : ((((List.range (b - a).toNat).map fun i : Nat => PyData.int (a + i)).length : Int) - ((0 : Nat) : Int)) = Builtin.Range.rangeSize a b 1 := by rw [hsz, e]; simp
    show IsRangeIter _ _ _ _ _
    rw [e1, e2]
    exact Heap.get?_push_size _ rfl
  · intro i h hi b hb
    rw [List.mem_singleton.mp hb]; exact ⟨_, _, hi, rfl⟩
  · intro i h hi b hb
    exact .inl hb
  · intro b hb
    rw [List.mem_singleton.mp hb]; exact heap_new _
  · intro b hb; exact .inl hb
  · intro p hp; cases hp
  · rintro i v hlt ⟨t, rfl⟩
    refine ⟨.int (a + i), ?_, .inr ⟨_, t, rfl, by rw [Int.mul_one]⟩⟩
    rw [List.getElem?_map, List.getElem?_range (by rw [e] at hlt; exact hlt)]
    rfl
  · intro i h hi
    exact ⟨_, hi, "range_iterator", rfl, by decide⟩
end
end Mine
namespace Mine
section
variable {prog : Program} {w : World} {A : Around} {env : Env} {P : Pa} {Y : Sy} {s : Shared}

theorem filterMap_range {α β : Type} (f : α → Option β) : ∀ l : List α, (List.range l.length).filterMap (fun i => (l[i]?).bind f) = l.filterMap f := by
  intro l
  have : l.filterMap f = ((List.range l.length).filterMap fun i => l[i]?).filterMap f := by
    congr 1
    induction l with
    | nil => rfl
    | cons x l ih =>
      rw [List.length_cons, List.range_succ_eq_map, List.filterMap_cons]
      simp only [List.getElem?_cons_zero]
      rw [List.filterMap_map]
      congr 1
  rw [this, List.filterMap_filterMap]

/-- the closure of a comprehension's block -/
structure Cl (env : Env) (P : Pa) (scope : Scope) (cl : List (Str × Addr)) : Prop where
  clos : closureFor scope env = pure cl
  sub : ∀ n c, cl.lookup n = some c → P.cs.lookup n = some c
  ap : cl.Pairwise fun x y => x.2 ≠ y.2
theorem Cl.nil {scope : Scope} (h : closureFor scope env = pure [] := by with_unfolding_all rfl) : Cl env P scope [] := ⟨h, (fun _ _ h => by cases h), List.Pairwise.nil⟩

/-- the picture in a turn of a comprehension, its target a name -/
theorem ExD.comp {x : Str} {px : Pos} {iter elt : Expr} {ifs : List Expr} {scope : Scope} {pos : Pos} {cl : List (Str × Addr)} {ds : List PyData} (g : PyData → Option PyData) (src : Src prog w A env P Y iter ds) (C : Cl env P scope cl) (hsz : ds.length ≤ sizeLine)
    (turn : ∀ d ∈ ds, ∀ X' h' g' o' C D ys dat' m v, (∀ p ∈ Y.old.dat, p ∈ dat') → (v, d, false) ∈ dat' →
      ∃ b, Ts prog w A (compEnvC scope cl C env) (compPa P X' h' g' o' C cl) ⟨[(D, ys)], dat', (x, v) :: m, Y.cm⟩ ifs b ∧
        (b = true → ∃ r, g d = some r ∧ ExD prog w A (compEnvC scope cl C env) (compPa P X' h' g' o' C cl) ⟨[(D, ys)], dat', (x, v) :: m, Y.cm⟩ elt r true) ∧ (b = false → g d = none))
    (hcell : ∀ y ∈ scope.names, y.2 ≠ .cell := by decide) (hkind : scope.kind = .function := by rfl) (hnames : ∀ y ∈ scope.names, y.2 = .local → scope.names.lookup y.1 = some .local := by decide) (hx : scope.names.lookup x = some .local := by rfl)
    (hs : ∀ x, foldedSetIterable iter env x = pure x := by intro _; rfl) : ExD prog w A env P Y (.ListComp elt [⟨.Name x px, iter, ifs, 0⟩] scope pos) (.list (ds.filterMap g)) true := .mk fun s Q E S q => by
  rw [eval_ListComp]
  refine wpAny_comprehension_free (use := none) rfl hs C.clos hkind hnames ?_
  refine src.go s _ _ S fun I fp wr Pv Ws D0 s1 s2 G1 G2 W h0 fields seqs hwr off hD0 kn nog => ?_
  have S1 := S.grow G1
  have S2 := S1.grow G2
  have key := comp_block (Q := Q) (E := E) (elt := elt) (target := .Name x px) (iter := iter) (ifs := ifs) (scope := scope) (pos := pos) (cl := cl) (D0 := D0 ++ Y.old.dat) (env := env) (fun i => (ds[i]?).bind g) hsz S1 G2 W h0 fields seqs hwr ?_ hcell hkind C.sub C.ap ?_ ?_
  · exact key
  · intro p hp
    rcases List.mem_append.mp hp with hp | hp
    · obtain ⟨h1, as, r, _⟩ := hD0 p hp
      exact ⟨h1, as, r⟩
    · obtain ⟨p', hp', rfl⟩ := List.mem_map.mp hp
      obtain ⟨as, r, _⟩ := S2.da p' hp'
      exact ⟨rfl, as, r⟩
  · intro i v ys m C D X' h' g' o' s₁ E' Q' hi hv hWs Sx k
    obtain ⟨d, hd, hkn⟩ := kn i v hi hv
    have Sy : St (compPa P X' h' g' o' C cl) ⟨[(D, ys)], (v, d, false) :: (D0 ++ Y.old.dat), m, Y.cm⟩ s₁.heap s₁.gens s₁.os := by
      refine Sx.know ?_
      rcases hkn with h | ⟨k, t, rfl, rfl⟩
      · exact Sx.da (v, d, false) (List.mem_append_left _ h)
      · exact Dat.int ..
    show wpAny _ _ (letOwnedTupleGo (.Name x px) (.ref I) v) _ _ _
    refine wpAny_pure (wpAny_assign_Name (storeL Sy (fun s₂ S₂ => k s₂ _ _ S₂ ?_) rfl (by show (relabel scope env).kind = _; exact hkind) (lookup_relabel_local hx)))
    obtain ⟨b, hT, hE, hN⟩ := turn d (List.mem_of_getElem? hd) X' h' g' o' C D ys ((v, d, false) :: (D0 ++ Y.old.dat)) m v (fun p hp => List.mem_cons_of_mem _ (List.mem_append_right _ hp)) List.mem_cons_self
    refine ⟨b, hT, fun e => ?_, fun e => ?_⟩
    · obtain ⟨r, hr, he⟩ := hE e
      exact ⟨r, by rw [hd]; exact hr, he⟩
    · rw [hd]; exact hN e
  · intro v s' G hv
    rw [filterMap_range g ds] at hv
    exact q v s' (G1.trans G) hv

theorem mem_cons2 {α : Type} {a b c : α} {l : List α} (h : a ∈ l) : a ∈ b :: c :: l := List.mem_cons_of_mem _ (List.mem_cons_of_mem _ h)

/-- two names at once, out of a pair -/
theorem assign2 {x y : Str} {px py pt : Pos} {k : Nat} {v : Value} {d d' : PyData} {n : Bool} {Q : Unit → Shared → Prop} {E : Value → Shared → Prop} (hh : A.handled = none) (S : St P Y s.heap s.gens s.os) (hv : (v, .tuple [d, d'], n) ∈ Y.dat)
    (h : ∀ u u' s', St P ⟨Y.own, (u', d', n) :: (u, d, n) :: Y.dat, (y, u') :: (x, u) :: Y.m, Y.cm⟩ s'.heap s'.gens s'.os → Q () s')
    (hL : env.locals = P.L) (hk : env.scope.kind = .function) (hx : env.kindOf x = some .local) (hy : env.kindOf y = some .local) :
    wpAny (model prog w) A (assign (.Tuple [.Name x px, .Name y py] k pt) env v) Q E s := by
  obtain ⟨a, vs, rfl, ht, hds⟩ := (S.da _ hv).isTup
  obtain ⟨u, hu, hud⟩ := hds.get (i := 0) rfl
  obtain ⟨u', hu', hud'⟩ := hds.get (i := 1) rfl
  have hlen := hds.len
  obtain ⟨rfl⟩ : vs = [u, u'] := by
    match vs, hlen, hu, hu' with
    | [_, _], _, h1, h2 => cases h1; cases h2; rfl
  refine assign_Tuple_tuple hh ht rfl rfl fun h' he => ?_
  have G : Gr (frs P.chain) s { s with heap := h' } := ⟨.of_keeps fun b o _ e => he b o (Nat.ne_of_lt (Heap.lt_size e)) e, rfl, .refl _⟩
  have S1 := ((S.grow G).know (hud.gr G)).know (hud'.gr G)
  refine assignInOrder_cons (wpAny_assign_Name (storeL (s := { s with heap := h' }) S1 (fun s2 S2 => ?_) hL hk hx))
  refine assignInOrder_cons (wpAny_assign_Name (storeL S2 (fun s3 S3 => ?_) hL hk hy))
  exact assignInOrder_nil (h u u' s3 S3)

/-- the same, its target a pair of names -/
theorem ExD.comp2 {x y : Str} {px py pt : Pos} {kk : Nat} {iter elt : Expr} {ifs : List Expr} {scope : Scope} {pos : Pos} {cl : List (Str × Addr)} {ds : List PyData} (hh : A.handled = none) (g : PyData → Option PyData) (src : Src prog w A env P Y iter ds) (C : Cl env P scope cl) (hsz : ds.length ≤ sizeLine)
    (turn : ∀ d ∈ ds, ∃ e e', d = .tuple [e, e'] ∧ ∀ X' h' g' o' C D ys dat' m v v', (∀ p ∈ Y.old.dat, p ∈ dat') → (v, e, false) ∈ dat' → (v', e', false) ∈ dat' →
      ∃ b, Ts prog w A (compEnvC scope cl C env) (compPa P X' h' g' o' C cl) ⟨[(D, ys)], dat', (y, v') :: (x, v) :: m, Y.cm⟩ ifs b ∧
        (b = true → ∃ r, g d = some r ∧ ExD prog w A (compEnvC scope cl C env) (compPa P X' h' g' o' C cl) ⟨[(D, ys)], dat', (y, v') :: (x, v) :: m, Y.cm⟩ elt r true) ∧ (b = false → g d = none))
    (hcell : ∀ y ∈ scope.names, y.2 ≠ .cell := by decide) (hkind : scope.kind = .function := by rfl) (hnames : ∀ y ∈ scope.names, y.2 = .local → scope.names.lookup y.1 = some .local := by decide) (hx : scope.names.lookup x = some .local := by rfl) (hy : scope.names.lookup y = some .local := by rfl)
    (hs : ∀ x, foldedSetIterable iter env x = pure x := by intro _; rfl) : ExD prog w A env P Y (.ListComp elt [⟨.Tuple [.Name x px, .Name y py] kk pt, iter, ifs, 0⟩] scope pos) (.list (ds.filterMap g)) true := .mk fun s Q E S q => by
  rw [eval_ListComp]
  refine wpAny_comprehension_free (use := none) rfl hs C.clos hkind hnames ?_
  refine src.go s _ _ S fun I fp wr Pv Ws D0 s1 s2 G1 G2 W h0 fields seqs hwr off hD0 kn nog => ?_
  have S1 := S.grow G1
  have S2 := S1.grow G2
  have key := comp_block (Q := Q) (E := E) (elt := elt) (target := .Tuple [.Name x px, .Name y py] kk pt) (iter := iter) (ifs := ifs) (scope := scope) (pos := pos) (cl := cl) (D0 := D0 ++ Y.old.dat) (env := env) (fun i => (ds[i]?).bind g) hsz S1 G2 W h0 fields seqs hwr ?_ hcell hkind C.sub C.ap ?_ ?_
  · exact key
  · intro p hp
    rcases List.mem_append.mp hp with hp | hp
    · obtain ⟨h1, as, r, _⟩ := hD0 p hp
      exact ⟨h1, as, r⟩
    · obtain ⟨p', hp', rfl⟩ := List.mem_map.mp hp
      obtain ⟨as, r, _⟩ := S2.da p' hp'
      exact ⟨rfl, as, r⟩
  · intro i v ys m C D X' h' g' o' s₁ E' Q' hi hv hWs Sx k
    obtain ⟨d, hd, hkn⟩ := kn i v hi hv
    obtain ⟨e, e', rfl, hturn⟩ := turn d (List.mem_of_getElem? hd)
    have hin : (v, PyData.tuple [e, e'], false) ∈ D0 ++ Y.old.dat := by
      rcases hkn with h | ⟨k, t, _, h⟩
      · exact List.mem_append_left _ h
      · cases h
    refine Nog.go (nog _ _ hWs) ?_
    refine assign2 hh Sx hin (fun u u' s₂ S₂ => k s₂ _ _ S₂ ?_) rfl (by show (relabel scope env).kind = _; exact hkind) (lookup_relabel_local hx) (lookup_relabel_local hy)
    obtain ⟨b, hT, hE, hN⟩ := hturn X' h' g' o' C D ys ((u', e', false) :: (u, e, false) :: (D0 ++ Y.old.dat)) m u u' (fun p hp => mem_cons2 (List.mem_append_right _ hp)) (List.mem_cons_of_mem _ List.mem_cons_self) List.mem_cons_self
    refine ⟨b, hT, fun e => ?_, fun e => ?_⟩
    · obtain ⟨r, hr, he⟩ := hE e
      exact ⟨r, by rw [hd]; exact hr, he⟩
    · rw [hd]; exact hN e
  · intro v s' G hv
    rw [filterMap_range g ds] at hv
    exact q v s' (G1.trans G) hv
end
end Mine
namespace Mine
theorem Cl.of {env : Env} {P : Pa} {scope : Scope} {cl : List (Str × Addr)} (ap : P.cs.Pairwise fun x y => x.2 ≠ y.2) (h : ∀ p ∈ cl, P.cs.lookup p.1 = some p.2) (hc : closureFor scope env = pure cl) (ns : List Str) (hns : cl.map (·.1) = ns := by rfl) (hn' : ns.Nodup := by decide) : Cl env P scope cl := by
  have hn : (cl.map (·.1)).Nodup := hns ▸ hn'
  refine ⟨hc, fun n c h' => h (n, c) (mem_of_lookup h'), ?_⟩
  clear hc hns
  induction cl with
  | nil => exact List.Pairwise.nil
  | cons p r ih =>
    rw [List.map_cons] at hn
    obtain ⟨h1, h2⟩ := List.nodup_cons.mp hn
    refine List.pairwise_cons.mpr ⟨fun q hq => ?_, ih (fun q hq => h q (List.mem_cons_of_mem _ hq)) h2⟩
    exact St.ne_ap ap (h p List.mem_cons_self) (h q (List.mem_cons_of_mem _ hq)) fun e => h1 (e ▸ List.mem_map_of_mem hq)
end Mine

namespace Mine
mutual
noncomputable def noL : PyData → Bool
  | .list _ => false
  | .dict _ => false
  | .tuple xs => noLs xs
  | _ => true
noncomputable def noLs : List PyData → Bool
  | [] => true
  | x :: xs => noL x && noLs xs
end
mutual
theorem reads_noL {h : Heap} : ∀ {v : Value} {d : PyData} {as : List Addr}, Reads h v d as → noL d = true → as = []
  | _, _, _, .none, _ => rfl
  | _, _, _, .bool b, _ => rfl
  | _, _, _, .int i t, _ => rfl
  | _, _, _, .str x t, _ => rfl
  | _, _, _, .list h1 h2 h3 h4, q => by simp [noL] at q
  | _, _, _, .tuple h1 h2 h3 h4, q => readsAll_noL h4 (by simpa [noL] using q)
  | _, _, _, .dict h1 h2 h3 h4 h5, q => by simp [noL] at q
theorem readsAll_noL {h : Heap} : ∀ {vs : List Value} {ds : List PyData} {as : List Addr}, ReadsAll h vs ds as → noLs ds = true → as = []
  | _, _, _, .nil, _ => rfl
  | _, _, _, .cons h1 h2, q => by
    unfold noLs at q
    have q' := Bool.and_eq_true_iff.mp q
    rw [reads_noL h1 q'.1, readsAll_noL h2 q'.2]; rfl
end
theorem Dat.flat {X X' : List Addr} {h₀ h₀' h : Heap} {v : Value} {d : PyData} {n n' : Bool} (x : Dat X h₀ h v d n) (hd : noL d = true) : Dat X' h₀' h v d n' := by
  obtain ⟨as, r, _⟩ := x
  have := reads_noL r hd
  subst this
  exact ⟨[], r, fun _ h => by cases h⟩
theorem ExD.flat {prog : Program} {w : World} {A : Around} {env : Env} {P : Pa} {Y : Sy} {e : Expr} {d : PyData} {n n' : Bool} (h : ExD prog w A env P Y e d n) (hd : noL d = true) : ExD prog w A env P Y e d n' := Ex.mono h fun _ _ x => x.flat hd
end Mine
namespace Mine

/-- data that may be compared -/
noncomputable def Shp (k : Nat) (d : PyData) : Prop := d.canLay0 = true ∧ d.depth ≤ k
theorem Shp.int {k : Nat} {i : Int} : Shp k (.int i) := ⟨by simp [PyData.canLay0], by simp [PyData.depth]⟩
theorem Shp.none {k : Nat} : Shp k .none := ⟨by simp [PyData.canLay0], by simp [PyData.depth]⟩
theorem Shp.str {k : Nat} {x : Str} (h : PyData.strOk x = true) : Shp k (.str x) := ⟨by simpa [PyData.canLay0] using h, by simp [PyData.depth]⟩
theorem Shp.all {k : Nat} : ∀ {l : List PyData}, (∀ d ∈ l, Shp k d) → PyData.canLayAll0 l = true ∧ PyData.depthAll l ≤ k
  | [], _ => ⟨by simp [PyData.canLayAll0], by simp [PyData.depthAll]⟩
  | x :: l, h => by
    obtain ⟨h1, h2⟩ := h x List.mem_cons_self
    obtain ⟨h3, h4⟩ := Shp.all (l := l) fun d hd => h d (List.mem_cons_of_mem _ hd)
    exact ⟨by simp [PyData.canLayAll0, h1, h3], by simp only [PyData.depthAll]; (first | lia | omega)⟩
theorem Shp.list {k : Nat} {l : List PyData} (h : ∀ d ∈ l, Shp k d) : Shp (k + 1) (.list l) := by
  obtain ⟨h1, h2⟩ := Shp.all h
  exact ⟨by simpa [PyData.canLay0] using h1, by simp only [PyData.depth]; (first | lia | omega)⟩
theorem Shp.tuple {k : Nat} {l : List PyData} (h : ∀ d ∈ l, Shp k d) : Shp (k + 1) (.tuple l) := by
  obtain ⟨h1, h2⟩ := Shp.all h
  exact ⟨by simpa [PyData.canLay0] using h1, by simp only [PyData.depth]; (first | lia | omega)⟩
theorem Shp.shaped {k : Nat} {d : PyData} (h : Shp k d) (hk : k ≤ 64) : SeqAt.shaped d = true := by
  unfold SeqAt.shaped
  rw [h.1, Bool.true_and]
  exact decide_eq_true (Nat.le_trans h.2 hk)
theorem Shp.le {k k' : Nat} {d : PyData} (h : Shp k d) (hk : k ≤ k') : Shp k' d := ⟨h.1, Nat.le_trans h.2 hk⟩
mutual
theorem eqv_refl : ∀ d : PyData, d.canLay0 = true → PyData.eqv d d = true
  | .none, _ => by simp [PyData.eqv]
  | .bool b, _ => by simp [PyData.eqv]
  | .int i, _ => by simp [PyData.eqv]
  | .str x, _ => by simp [PyData.eqv]
  | .list xs, h => by simp only [PyData.eqv]; exact eqvAll_refl xs (by simpa [PyData.canLay0] using h)
  | .tuple xs, h => by simp only [PyData.eqv]; exact eqvAll_refl xs (by simpa [PyData.canLay0] using h)
  | .dict _, h => by simp [PyData.canLay0] at h
theorem eqvAll_refl : ∀ l : List PyData, PyData.canLayAll0 l = true → PyData.eqvAll l l = true
  | [], _ => by simp [PyData.eqvAll]
  | x :: xs, h => by
    have h' : x.canLay0 = true ∧ PyData.canLayAll0 xs = true := by simpa [PyData.canLayAll0] using h
    simp only [PyData.eqvAll, eqv_refl x h'.1, eqvAll_refl xs h'.2, Bool.and_self]
end
theorem eqv_nil (l : List PyData) : PyData.eqv (.list l) (.list []) = l.isEmpty := by cases l <;> simp [PyData.eqv, PyData.eqvAll]

section
variable {prog : Program} {w : World} {A : Around} {env : Env} {P : Pa} {Y : Sy} {s : Shared}

/-- f(..) of a def -/
theorem Ex.call {K : Frag} {mg mb : Loc} {id : Str} {p pos : Pos} {e : Expr} {es : List Expr} {f : Addr} {Va : List Value → Heap → Prop} {V : Value → Heap → Prop} (T : Tb K mg mb P.base) (hf : nsIn K mainGlobals id = some (some (.ref f))) (hk : keepIn K (.ref f) = true)
    (ha : ExL prog w A env P Y (e :: es) Va) (hc : ∀ (s : Shared) vs (Q E : Value → Shared → Prop), St P Y s.heap s.gens s.os → Va vs s.heap → (∀ v s', Gr (frs P.chain) s s' → V v s'.heap → Q v s') → wpAny (model prog w) A (call (.ref f) vs) Q E s)
    (hg : env.globals = mainGlobals := by rfl) (hkd : env.scope.kind = .function := by rfl) (hx : env.kindOf id = some .globalImplicit := by rfl) (hd : (id == ("__debug__" : Str)) = false := by rfl)
    (he : starEach (e :: es) env = (false, eval e env) :: starEach es env := by rfl) (hplain : ∀ pos, (backTo pos (starEach es env)).any (·.1) = false := by intro _; rfl) : Ex prog w A env P Y (.Call (.Name id p) (e :: es) [] pos) V := .mk fun s Q E S q => by
  refine wpAny_Call_NameR ((ExV.glob (prog := prog) (w := w) (A := A) (Y := Y) T hf hg hkd hx hd).go s _ _ S fun v s1 G1 hv => ?_)
  subst hv
  refine callWith_K (K := K) (h₀ := P.base) T.X hk (ha.go s1 pos _ _ (S.grow G1) fun vs s2 G2 hvs => ⟨T.X.keeps ((S.grow G1).grow G2).bs, ?_⟩) he (hplain _)
  exact hc s2 vs _ _ ((S.grow G1).grow G2) hvs fun v s3 G3 hv => q v s3 ((G1.trans G2).trans G3) hv
/-- f(..) of a built-in function -/
theorem Ex.callB {K : Frag} {mg mb : Loc} {id : Str} {p pos : Pos} {e : Expr} {es : List Expr} {f : String} {Va : List Value → Heap → Prop} {V : Value → Heap → Prop} (T : Tb K mg mb P.base) (hf : nsIn K mainGlobals id = some none) (hv : bootBuiltins id = some (.builtin f)) (hn : id ≠ ("__name__" : Str))
    (ha : ExL prog w A env P Y (e :: es) Va) (hc : ∀ (s : Shared) vs (Q E : Value → Shared → Prop), St P Y s.heap s.gens s.os → Va vs s.heap → (∀ v s', Gr (frs P.chain) s s' → V v s'.heap → Q v s') → wpAny (model prog w) A (PySem.call (.builtin f) vs) Q E s)
    (hg : env.globals = mainGlobals := by rfl) (hb : env.builtins = builtinsNs := by rfl) (hkd : env.scope.kind = .function := by rfl) (hx : env.kindOf id = some .globalImplicit := by rfl) (hd : (id == ("__debug__" : Str)) = false := by rfl)
    (he : starEach (e :: es) env = (false, eval e env) :: starEach es env := by rfl) (hplain : ∀ pos, (backTo pos (starEach es env)).any (·.1) = false := by intro _; rfl) : Ex prog w A env P Y (.Call (.Name id p) (e :: es) [] pos) V := .mk fun s Q E S q => by
  refine wpAny_Call_NameR ((ExV.bltn (prog := prog) (w := w) (A := A) (Y := Y) T hf hv hn hg hb hkd hx hd).go s _ _ S fun v s1 G1 hv => ?_)
  subst hv
  have h2 := ha.go s1 pos (fun vs s2 => wpAny (model prog w) A (PySem.call (.builtin f) vs) Q E s2) E (S.grow G1) fun vs s2 G2 hvs => hc s2 vs _ _ ((S.grow G1).grow G2) hvs fun v s3 G3 hv => q v s3 ((G1.trans G2).trans G3) hv
  have hp := hplain pos
  rw [he] at h2 ⊢
  refine callWith_builtin ?_ (evalArgs_plain h2)
  show (false || (backTo pos (starEach es env)).any (·.1)) = false
  rw [hp]; rfl
/-- T(..) of a built-in type -/
theorem Ex.callT {K : Frag} {mg mb : Loc} {id : Str} {p pos : Pos} {e : Expr} {es : List Expr} {f : String} {Va : List Value → Heap → Prop} {V : Value → Heap → Prop} (T : Tb K mg mb P.base) (hf : nsIn K mainGlobals id = some none) (hv : bootBuiltins id = some (.type f)) (hn : id ≠ ("__name__" : Str))
    (ha : ExL prog w A env P Y (e :: es) Va) (hc : ∀ (s : Shared) vs (Q E : Value → Shared → Prop), St P Y s.heap s.gens s.os → Va vs s.heap → (∀ v s', Gr (frs P.chain) s s' → V v s'.heap → Q v s') → wpAny (model prog w) A (PySem.call (.type f) vs) Q E s)
    (hg : env.globals = mainGlobals := by rfl) (hb : env.builtins = builtinsNs := by rfl) (hkd : env.scope.kind = .function := by rfl) (hx : env.kindOf id = some .globalImplicit := by rfl) (hd : (id == ("__debug__" : Str)) = false := by rfl)
    (he : starEach (e :: es) env = (false, eval e env) :: starEach es env := by rfl) (hplain : ∀ pos, (backTo pos (starEach es env)).any (·.1) = false := by intro _; rfl) : Ex prog w A env P Y (.Call (.Name id p) (e :: es) [] pos) V := .mk fun s Q E S q => by
  refine wpAny_Call_NameR ((ExV.bltn (prog := prog) (w := w) (A := A) (Y := Y) T hf hv hn hg hb hkd hx hd).go s _ _ S fun v s1 G1 hv => ?_)
  subst hv
  have h2 := ha.go s1 pos (fun vs s2 => wpAny (model prog w) A (PySem.call (.type f) vs) Q E s2) E (S.grow G1) fun vs s2 G2 hvs => hc s2 vs _ _ ((S.grow G1).grow G2) hvs fun v s3 G3 hv => q v s3 ((G1.trans G2).trans G3) hv
  have hp := hplain pos
  rw [he] at h2 ⊢
  refine PySem.callWith_type ?_ (evalArgs_plain h2)
  show (false || (backTo pos (starEach es env)).any (·.1)) = false
  rw [hp]; rfl

theorem ExI.len {K : Frag} {mg mb : Loc} {p pos : Pos} {e : Expr} {ds : List PyData} {n : Bool} (T : Tb K mg mb P.base) (hf : nsIn K mainGlobals (Str.ofString "len") = some none) (h : ExD prog w A env P Y e (.list ds) n) {k : Nat} (hk : ds.length = k) (hfit : (k : Int) < 2 ^ 63)
    (hg : env.globals = mainGlobals := by rfl) (hb : env.builtins = builtinsNs := by rfl) (hkd : env.scope.kind = .function := by rfl) (hx : env.kindOf (Str.ofString "len") = some .globalImplicit := by rfl) (he : starEach [e] env = [(false, eval e env)] := by rfl) :
    ExI prog w A env P Y (.Call (.Name (Str.ofString "len") p) [e] [] pos) k := by
  subst hk
  refine Ex.callB T hf (f := "len") (by rfl) (by decide) (ExL.one h he) (fun s vs Q E S hvs q => ?_) hg hb hkd hx (by rfl) he (fun _ => rfl)
  obtain ⟨v, rfl, hv⟩ := hvs
  obtain ⟨a, us, rfl, hl, hds, _⟩ := hv.isList
  have hlen : (us.toArray.size : Int) = ds.length := by rw [List.size_toArray, hds.len]
  refine len_list hl (by rw [hlen]; exact hfit) ?_
  rw [hlen]
  exact q _ _ ((Gr.refl _ s).toks _) ⟨_, rfl⟩
theorem ExI.lenS {K : Frag} {mg mb : Loc} {p pos : Pos} {e : Expr} {x : Str} (T : Tb K mg mb P.base) (hf : nsIn K mainGlobals (Str.ofString "len") = some none) (h : ExS prog w A env P Y e x) (hfit : (x.length : Int) < 2 ^ 63)
    (hg : env.globals = mainGlobals := by rfl) (hb : env.builtins = builtinsNs := by rfl) (hkd : env.scope.kind = .function := by rfl) (hx : env.kindOf (Str.ofString "len") = some .globalImplicit := by rfl) (he : starEach [e] env = [(false, eval e env)] := by rfl) :
    ExI prog w A env P Y (.Call (.Name (Str.ofString "len") p) [e] [] pos) x.length := by
  refine Ex.callB T hf (f := "len") (by rfl) (by decide) (ExL.one h he) (fun s vs Q E S hvs q => ?_) hg hb hkd hx (by rfl) he (fun _ => rfl)
  obtain ⟨v, rfl, t, rfl⟩ := hvs
  exact PyProof.Rows.len_str (by (first | lia | omega)) (q _ _ ((Gr.refl _ s).toks _) ⟨_, rfl⟩)
theorem Ex.range1 {K : Frag} {mg mb : Loc} {p pos : Pos} {e : Expr} {b : Int} (T : Tb K mg mb P.base) (hf : nsIn K mainGlobals (Str.ofString "range") = some none) (h : ExI prog w A env P Y e b)
    (hg : env.globals = mainGlobals := by rfl) (hb : env.builtins = builtinsNs := by rfl) (hkd : env.scope.kind = .function := by rfl) (hx : env.kindOf (Str.ofString "range") = some .globalImplicit := by rfl) (he : starEach [e] env = [(false, eval e env)] := by rfl) :
    Ex prog w A env P Y (.Call (.Name (Str.ofString "range") p) [e] [] pos) fun v h => ∃ r t u x, v = .ref r ∧ IsRange h r 0 b 1 t u x := by
  refine Ex.callT T hf (f := "range") (by rfl) (by decide) (ExL.one h he) (fun s vs Q E S hvs q => ?_) hg hb hkd hx (by rfl) he (fun _ => rfl)
  obtain ⟨v, rfl, t, rfl⟩ := hvs
  exact call_range_1 (q _ _ ((Gr.push (fs := frs P.chain) _).toks _) ⟨_, _, _, _, rfl, IsRange.new ..⟩)
theorem Ex.range2 {K : Frag} {mg mb : Loc} {p pos : Pos} {e e' : Expr} {a b : Int} (T : Tb K mg mb P.base) (hf : nsIn K mainGlobals (Str.ofString "range") = some none) (h : ExI prog w A env P Y e a) (h' : ExI prog w A env P Y e' b)
    (hg : env.globals = mainGlobals := by rfl) (hb : env.builtins = builtinsNs := by rfl) (hkd : env.scope.kind = .function := by rfl) (hx : env.kindOf (Str.ofString "range") = some .globalImplicit := by rfl) (he : starEach [e, e'] env = [(false, eval e env), (false, eval e' env)] := by rfl) (he' : starEach [e'] env = [(false, eval e' env)] := by rfl) :
    Ex prog w A env P Y (.Call (.Name (Str.ofString "range") p) [e, e'] [] pos) fun v h => ∃ r t u x, v = .ref r ∧ IsRange h r a b 1 t u x := by
  refine Ex.callT T hf (f := "range") (by rfl) (by decide) (ExL.two h h' keepI he) (fun s vs Q E S hvs q => ?_) hg hb hkd hx (by rfl) (by rw [he, he']) (fun _ => by rw [he']; rfl)
  obtain ⟨v, v', rfl, ⟨t, rfl⟩, t', rfl⟩ := hvs
  exact call_range_2 (q _ _ ((Gr.push (fs := frs P.chain) _).toks _) ⟨_, _, _, _, rfl, IsRange.new ..⟩)

/-- x is None -/
theorem Tr.isNone {l : Expr} {k : Nat} {pos pos' : Pos} {u : Value} (h : ExV prog w A env P Y l u) : Tr prog w A env P Y (.Compare l [.Is] [.Constant .none k pos'] pos) (u == .none) :=
  Tr.cmp (fun s v v' Q E hv hv' q => by subst hv; subst hv'; exact is_none q) h ExV.noneC keepV
theorem Tr.isNotNone {l : Expr} {k : Nat} {pos pos' : Pos} {u : Value} (h : ExV prog w A env P Y l u) : Tr prog w A env P Y (.Compare l [.IsNot] [.Constant .none k pos'] pos) (!(u == .none)) :=
  Tr.cmp (fun s v v' Q E hv hv' q => by subst hv; subst hv'; exact isNot_none q) h ExV.noneC keepV
end
end Mine
namespace Mine
section
variable {prog : Program} {w : World} {A : Around} {env : Env} {P : Pa} {Y : Sy} {s : Shared}

/-- z = [.. for x in ..], z a local name of the same row -/
theorem xs_comp {Q : Flow → Shared → Prop} {E : Value → Shared → Prop} {rest : List Stmt} {x z : Str} {px pz : Pos} {iter elt : Expr} {ifs : List Expr} {scope : Scope} {pos spos : Pos} {cl : List (Str × Addr)} {ds : List PyData} (S : St P Y s.heap s.gens s.os) (g : PyData → Option PyData) (src : Src prog w A env P Y iter ds) (C : Cl env P scope cl) (hsz : ds.length ≤ sizeLine)
    (turn : ∀ d ∈ ds, ∀ X' h' g' o' C D ys dat' m v, (∀ p ∈ Y.old.dat, p ∈ dat') → (v, d, false) ∈ dat' →
      ∃ b, Ts prog w A (compEnvC scope cl C env) (compPa P X' h' g' o' C cl) ⟨[(D, ys)], dat', (x, v) :: m, Y.cm⟩ ifs b ∧
        (b = true → ∃ r, g d = some r ∧ ExD prog w A (compEnvC scope cl C env) (compPa P X' h' g' o' C cl) ⟨[(D, ys)], dat', (x, v) :: m, Y.cm⟩ elt r true) ∧ (b = false → g d = none))
    (h : ∀ v s', St P ((Y.put v (.list (ds.filterMap g)) true).set z v) s'.heap s'.gens s'.os → wpAny (model prog w) A (execs rest env) Q E s')
    (hsw : swapsWith (.ListComp elt [⟨.Name x px, iter, ifs, 0⟩] scope pos) (some (.Name z pz)) spos.line env = pure true := by rfl)
    (hcell : ∀ y ∈ scope.names, y.2 ≠ .cell := by decide) (hkind : scope.kind = .function := by rfl) (hnames : ∀ y ∈ scope.names, y.2 = .local → scope.names.lookup y.1 = some .local := by decide) (hx : scope.names.lookup x = some .local := by rfl)
    (hL : env.locals = P.L := by rfl) (hk : env.scope.kind = .function := by rfl) (hz : env.kindOf z = some .local := by rfl)
    (hs : ∀ x, foldedSetIterable iter env x = pure x := by intro _; rfl) : wpAny (model prog w) A (execs (.Assign [.Name z pz] (.ListComp elt [⟨.Name x px, iter, ifs, 0⟩] scope pos) spos :: rest) env) Q E s := by
  refine wpAny_execs_cons ?_
  rw [exec_Assign_Name_used _ _ _ _ hsw]
  refine wpAny_bind (wpAny_standAt (wpAny_bind ?_))
  show wpAny _ A (do let _ ← comprehension (.ListComp elt [⟨.Name x px, iter, ifs, 0⟩] scope pos) scope env _ (newList []) false (eval iter env) (some (assign (.Name z pz) env))) _ _ s
  refine wpAny_bind (wpAny_mono (wpAny_comprehension_free (use := some (assign (.Name z pz) env)) (Q := fun _ s' => wpAny (model prog w) A (execs rest env) Q E s') rfl hs C.clos hkind hnames ?_) (fun _ s' hq => wpAny_pure (wpAny_pure hq)) fun _ _ e => e)
  refine src.go s _ _ S fun I fp wr Pv Ws D0 s1 s2 G1 G2 W h0 fields seqs hwr off hD0 kn nog => ?_
  have S1 := S.grow G1
  have S2 := S1.grow G2
  have key := comp_blockG (E := E) (RR := fun acc C => compPost (model prog w) A E (some (assign (.Name z pz) env)) (fun _ s' => wpAny (model prog w) A (execs rest env) Q E s') acc C) (elt := elt) (target := .Name x px) (iter := iter) (ifs := ifs) (scope := scope) (pos := pos) (cl := cl) (D0 := D0 ++ Y.old.dat) (env := env) (fun i => (ds[i]?).bind g) hsz S1 G2 W h0 fields seqs hwr ?_ hcell hkind C.sub C.ap ?_ ?_
  · exact key
  · intro p hp
    rcases List.mem_append.mp hp with hp | hp
    · obtain ⟨h1, as, r, _⟩ := hD0 p hp
      exact ⟨h1, as, r⟩
    · obtain ⟨p', hp', rfl⟩ := List.mem_map.mp hp
      obtain ⟨as, r, _⟩ := S2.da p' hp'
      exact ⟨rfl, as, r⟩
  · intro i v ys m C D X' h' g' o' s₁ E' Q' hi hv hWs Sx k
    obtain ⟨d, hd, hkn⟩ := kn i v hi hv
    have Sy : St (compPa P X' h' g' o' C cl) ⟨[(D, ys)], (v, d, false) :: (D0 ++ Y.old.dat), m, Y.cm⟩ s₁.heap s₁.gens s₁.os := by
      refine Sx.know ?_
      rcases hkn with h | ⟨k, t, rfl, rfl⟩
      · exact Sx.da (v, d, false) (List.mem_append_left _ h)
      · exact Dat.int ..
    show wpAny _ _ (letOwnedTupleGo (.Name x px) (.ref I) v) _ _ _
    refine wpAny_pure (wpAny_assign_Name (storeL Sy (fun s₂ S₂ => k s₂ _ _ S₂ ?_) rfl (by show (relabel scope env).kind = _; exact hkind) (lookup_relabel_local hx)))
    obtain ⟨b, hT, hE, hN⟩ := turn d (List.mem_of_getElem? hd) X' h' g' o' C D ys ((v, d, false) :: (D0 ++ Y.old.dat)) m v (fun p hp => List.mem_cons_of_mem _ (List.mem_append_right _ hp)) List.mem_cons_self
    refine ⟨b, hT, fun e => ?_, fun e => ?_⟩
    · obtain ⟨r, hr, he⟩ := hE e
      exact ⟨r, by rw [hd]; exact hr, he⟩
    · rw [hd]; exact hN e
  · intro v C' s' hC' G ⟨mc, hmc⟩ hv
    rw [filterMap_range g ds] at hv
    show wpAny _ A (assign (.Name z pz) env v) _ _ _
    have S' := S1.grow G
    -- the block's data do not lie at the comprehension's dict
    have hda : ∀ p ∈ Y.dat, Dat (C' :: mu P Y) P.h₀ s'.heap p.1 p.2.1 p.2.2 := fun p hp => by
      obtain ⟨as, r, q⟩ := S1.da p hp
      refine ⟨as, G.reads r, fun a ha => ⟨fun hm => ?_, (q a ha).2⟩⟩
      rcases List.mem_cons.mp hm with rfl | hm
      · obtain ⟨o, ho⟩ := reads_in r a ha
        rw [hC'] at ho; cases ho
      · exact (q a ha).1 hm
    have hfr := S1.fresh hC'
    have hCL : C' ≠ P.L := fun e => hfr.1 (e ▸ List.mem_cons_self)
    have hv0 : Dat (mu P Y) P.h₀ s'.heap v (.list (ds.filterMap g)) true := let ⟨as, r, q⟩ := hv; ⟨as, r, fun a ha => ⟨fun hm => (q a ha).1 (List.mem_cons_of_mem _ hm), (q a ha).2⟩⟩
    have S'' := S'.know hv0
    refine wpAny_assign_Name (wpAny_storeName_local hz (hL ▸ S''.ns) (fun h₂ hn₂ hs₂ => ?_) (by rw [hk]; rfl))
    rw [hL] at hn₂ hs₂
    have hmc₂ : h₂.Ns C' mc := hmc.sameBut hs₂ hCL
    refine ⟨mc, hmc₂, fun h₃ hs₃ => ?_⟩
    have S₂ : St P ((Y.put v (.list (ds.filterMap g)) true).set z v) h₂ s'.gens s'.os := S''.setL hn₂ hs₂
    refine h v { s' with heap := h₃, toks := s'.toks + 1 } (St.dict (s := { s' with heap := h₂, toks := s'.toks + 1 }) S₂ hmc₂ hs₃ hCL ?_ ?_ hfr.2 ?_ ?_)
    · intro hf
      obtain ⟨m, y⟩ := S1.fn C' hf
      obtain ⟨o, ho, _⟩ := ns_not y
      rw [hC'] at ho; cases ho
    · cases q : P.base.get? C' with
      | none => rfl
      | some o => have := S1.bs C' o q; rw [hC'] at this; cases this
    · intro hX
      obtain ⟨o, e⟩ := S1.xi C' hX
      rw [hC'] at e; cases e
    · -- data over the store
      have over : ∀ {u : Value} {d : PyData} {n : Bool}, Dat (C' :: mu P Y) P.h₀ s'.heap u d n → Dat (C' :: mu P Y) P.h₀ h₂ u d n := fun {u d n} x => by
        obtain ⟨as, r, q⟩ := x
        refine ⟨as, reads_up (S := fun b => b ≠ P.L) (fun b o hb e => ⟨o.slots, by rw [hs₂.2 b hb]; exact e⟩) ?_ r ?_, q⟩
        · rintro b o vs n e hc hd rfl
          obtain ⟨o', ho', _, h2, _⟩ := ns_not S'.ns
          rw [e] at ho'; cases ho'
          exact h2 vs n hd
        · rintro a ha rfl
          exact (q _ ha).1 (List.mem_cons_of_mem _ List.mem_cons_self)
      intro p hp
      rcases List.mem_cons.mp hp with rfl | hp
      · exact over hv
      · exact over (hda p hp)

/-- for, over a source -/
theorem xs_for {Q : Flow → Shared → Prop} {E : Value → Shared → Prop} {rest : List Stmt} {target iter : Expr} {body orelse : List Stmt} {pos : Pos} {ds : List PyData} (S : St P Y s.heap s.gens s.os) (src : Src prog w A env P Y iter ds)
    (J : Nat → Sy → Prop) (hJ : J 0 { Y with dat := [] })
    (turn : ∀ i v d Yi s₁ (E' : Value → Shared → Prop) (I : Addr) (D : List (Value × PyData × Bool)), ds[i]? = some d → J i Yi → Adr Y Yi → (∀ p ∈ Y.old.dat, p ∈ D) → Nog I s₁.heap → St P (Yi.also D) s₁.heap s₁.gens s₁.os →
      St (P.turn (Yi.also D) s₁) ((Yi.also D).old.put v d false) s₁.heap s₁.gens s₁.os →
      wpAny (model prog w) A (letOwnedTupleGo target (.ref I) v) (fun _ s₁' => wpAny (model prog w) A (assign target env v) (fun _ s₂ => wpAny (model prog w) A (execs body env) (fun f s₃ => match f with
          | .next | .cont => ∃ Y', Adr Yi Y' ∧ J (i + 1) Y'.old ∧ St (P.turn (Yi.also D) s₁) Y' s₃.heap s₃.gens s₃.os
          | .brk => wpAny (model prog w) A (execs rest env) Q E s₃
          | .ret v => Q (.ret v) s₃) E' s₂) E' s₁') E' s₁)
    (fin : ∀ Yn s' (E' : Value → Shared → Prop) (D : List (Value × PyData × Bool)), J ds.length Yn → Adr Y Yn → (∀ p ∈ Y.old.dat, p ∈ D) → St P (Yn.also D) s'.heap s'.gens s'.os → wpAny (model prog w) A (execs orelse env) (fun f s₃ => match f with | .next => wpAny (model prog w) A (execs rest env) Q E s₃ | f => Q f s₃) E' s')
    (hs : ∀ x, foldedSetIterable iter env x = pure x := by intro _; rfl) : wpAny (model prog w) A (execs (.For target iter body orelse pos :: rest) env) Q E s := by
  refine wpAny_execs_cons (wpAny_For (src.go s _ _ S fun I fp wr Pv Ws D0 s1 s2 G1 G2 W h0 fields seqs hwr off hD0 kn nog => ?_) hs)
  have S1 := S.grow G1
  have S2 := S1.grow G2
  let Y0 : Sy := { Y with dat := [] }
  have hold : ∀ p ∈ Y.old.dat, p ∈ D0 ++ Y.old.dat := fun p hp => List.mem_append_right _ hp
  have S3 : St P (Y0.also (D0 ++ Y.old.dat)) s2.heap s2.gens s2.os := by
    refine S2.ins (D := D0 ++ Y.old.dat) fun p hp => ?_
    rcases List.mem_append.mp hp with hp | hp
    · obtain ⟨h1, h2⟩ := hD0 p hp
      rw [h1]; exact h2
    · obtain ⟨q, hq, rfl⟩ := List.mem_map.mp hp
      exact (S2.da q hq).weak
  have K : Wk prog w A P Y0 I fp wr ds.length Pv Ws := by
    refine ⟨W, fields, seqs, off, fun b hb => ⟨?_, (S1.fresh (hwr b hb)).2, fun hX => ?_⟩⟩
    · cases q : P.base.get? b with
      | none => rfl
      | some o => have := S1.bs b o q; rw [hwr b hb] at this; cases this
    · obtain ⟨o, e⟩ := S1.xi b hX
      rw [hwr b hb] at e; cases e
  refine for_w (env := env) K S3 h0 J hJ ?_ ?_
  · intro i v Yi s₁ E' hi hv hJi ha hWs Si St'
    obtain ⟨d, hd, hkn⟩ := kn i v hi hv
    refine wpAny_mono (turn i v d Yi s₁ E' I (D0 ++ Y.old.dat) hd hJi ha hold (nog _ _ hWs) Si ?_) (fun _ s₁' z => z) fun _ _ z => z
    refine St'.know ?_
    rcases hkn with h | ⟨k, t, rfl, rfl⟩
    · exact St'.da (v, d, false) (List.mem_map.mpr ⟨(v, d, false), List.mem_append_right _ (List.mem_append_left _ h), rfl⟩)
    · exact Dat.int ..
  · intro Yn s' E' hJn ha Sn
    exact fin Yn s' E' _ hJn ha hold Sn
end
end Mine
namespace Mine
section
variable {prog : Program} {w : World} {A : Around} {env : Env} {P : Pa} {Y : Sy} {s : Shared} {Q : Flow → Shared → Prop} {E : Value → Shared → Prop} {rest : List Stmt}

theorem unpackD {t : Addr} {vs : List Value} {Q : List Value → Shared → Prop} {E : Value → Shared → Prop} {n : Nat} (hh : A.handled = none) (S : St P Y s.heap s.gens s.os) (ht : IsTup s.heap t vs.toArray) (hn : vs.length = n)
    (h : ∀ s', Gr (frs P.chain) s s' → Q vs s') : wpAny (model prog w) A (unpackItems (.ref t) n none) Q E s := by
  have e : n = vs.toArray.size := by rw [List.size_toArray]; exact hn.symm
  subst e
  refine unpackItems_tuple hh ht fun h' he => ?_
  rw [show vs.toArray.toList = vs by simp]
  exact h _ ⟨.of_keeps fun b o _ e => he b o (Nat.ne_of_lt (Heap.lt_size e)) e, rfl, .refl _⟩

/-- x, y, z = (..), stored from the last -/
theorem swap3 {x y z : Str} {value : Expr} {d d' d'' : PyData} {n : Bool} {K : Shared → Prop} (hh : A.handled = none) (S : St P Y s.heap s.gens s.os) (he : ExD prog w A env P Y value (.tuple [d, d', d'']) n)
    (h : ∀ u u' u'' s', St P ⟨Y.own, (u, d, n) :: (u', d', n) :: (u'', d'', n) :: Y.dat, (x, u) :: (y, u') :: (z, u'') :: Y.m, Y.cm⟩ s'.heap s'.gens s'.os → K s')
    (hL : env.locals = P.L := by rfl) (hk : env.scope.kind = .function := by rfl) (hx : env.kindOf x = some .local := by rfl) (hy : env.kindOf y = some .local := by rfl) (hz : env.kindOf z = some .local := by rfl) :
    wpAny (model prog w) A (eval value env) (fun v s₁ => wpAny (model prog w) A (unpackItems v [x, y, z].length Option.none) (fun items s₂ => wpAny (model prog w) A (assignInOrder ([x, y, z].reverse.map fun n v => bindName env n v) items.reverse) (fun _ s' => K s') E s₂) E s₁) E s := by
  refine he.go s _ _ S fun v s1 G1 hv => ?_
  obtain ⟨a, vs, rfl, ht, hds⟩ := hv.isTup
  have S1 := S.grow G1
  refine unpackD hh S1 ht hds.len fun s2 G2 => ?_
  have S2 := S1.grow G2
  obtain ⟨u, hu, hud⟩ := hds.get (i := 0) rfl
  obtain ⟨u', hu', hud'⟩ := hds.get (i := 1) rfl
  obtain ⟨u'', hu'', hud''⟩ := hds.get (i := 2) rfl
  have hlen := hds.len
  obtain ⟨rfl⟩ : vs = [u, u', u''] := by
    match vs, hlen, hu, hu', hu'' with
    | [_, _, _], _, h1, h2, h3 => cases h1; cases h2; cases h3; rfl
  have S3 := ((S2.know (hud''.gr G2)).know (hud'.gr G2)).know (hud.gr G2)
  show wpAny _ A (assignInOrder [fun v => bindName env z v, fun v => bindName env y v, fun v => bindName env x v] [u'', u', u]) _ _ _
  refine assignInOrder_cons (wpAny_bindName (storeL S3 (fun s4 S4 => ?_) hL hk hz))
  refine assignInOrder_cons (wpAny_bindName (storeL S4 (fun s5 S5 => ?_) hL hk hy))
  refine assignInOrder_cons (wpAny_bindName (storeL S5 (fun s6 S6 => ?_) hL hk hx))
  exact assignInOrder_nil (h u u' u'' s6 S6)
theorem swap2 {x y : Str} {value : Expr} {d d' : PyData} {n : Bool} {K : Shared → Prop} (hh : A.handled = none) (S : St P Y s.heap s.gens s.os) (he : ExD prog w A env P Y value (.tuple [d, d']) n)
    (h : ∀ u u' s', St P ⟨Y.own, (u, d, n) :: (u', d', n) :: Y.dat, (x, u) :: (y, u') :: Y.m, Y.cm⟩ s'.heap s'.gens s'.os → K s')
    (hL : env.locals = P.L := by rfl) (hk : env.scope.kind = .function := by rfl) (hx : env.kindOf x = some .local := by rfl) (hy : env.kindOf y = some .local := by rfl) :
    wpAny (model prog w) A (eval value env) (fun v s₁ => wpAny (model prog w) A (unpackItems v [x, y].length Option.none) (fun items s₂ => wpAny (model prog w) A (assignInOrder ([x, y].reverse.map fun n v => bindName env n v) items.reverse) (fun _ s' => K s') E s₂) E s₁) E s := by
  refine he.go s _ _ S fun v s1 G1 hv => ?_
  obtain ⟨a, vs, rfl, ht, hds⟩ := hv.isTup
  have S1 := S.grow G1
  refine unpackD hh S1 ht hds.len fun s2 G2 => ?_
  have S2 := S1.grow G2
  obtain ⟨u, hu, hud⟩ := hds.get (i := 0) rfl
  obtain ⟨u', hu', hud'⟩ := hds.get (i := 1) rfl
  have hlen := hds.len
  obtain ⟨rfl⟩ : vs = [u, u'] := by
    match vs, hlen, hu, hu' with
    | [_, _], _, h1, h2 => cases h1; cases h2; rfl
  have S3 := (S2.know (hud'.gr G2)).know (hud.gr G2)
  show wpAny _ A (assignInOrder [fun v => bindName env y v, fun v => bindName env x v] [u', u]) _ _ _
  refine assignInOrder_cons (wpAny_bindName (storeL S3 (fun s4 S4 => ?_) hL hk hy))
  refine assignInOrder_cons (wpAny_bindName (storeL S4 (fun s5 S5 => ?_) hL hk hx))
  exact assignInOrder_nil (h u u' s5 S5)
noncomputable def notSlice : Expr → Bool
  | .Slice .. => false
  | _ => true
theorem subscripted_of {slice : Expr} {o i : Value} (h : notSlice slice = true) : subscripted slice false o i = operate [o, i] (getItem o i) := by
  cases slice <;> first | rfl | simp [notSlice] at h
theorem ExD.atL {value slice : Expr} {pos : Pos} {ds : List PyData} {n : Bool} {k : Int} {d : PyData} (hv : ExD prog w A env P Y value (.list ds) n) (hi : ExI prog w A env P Y slice k) (h0 : 0 ≤ k) (hk : k < 2 ^ 63) (hd : ds[k.toNat]? = some d)
    (hs : notSlice slice = true := by rfl) : ExD prog w A env P Y (.Subscript value slice pos) d n := ExD.itemL hv hi h0 hk hd (fun _ _ => subscripted_of hs)
theorem ExD.atT {value slice : Expr} {pos : Pos} {ds : List PyData} {n : Bool} {k : Int} {d : PyData} (hv : ExD prog w A env P Y value (.tuple ds) n) (hi : ExI prog w A env P Y slice k) (h0 : 0 ≤ k) (hk : k < 2 ^ 63) (hd : ds[k.toNat]? = some d)
    (hs : notSlice slice = true := by rfl) : ExD prog w A env P Y (.Subscript value slice pos) d n := ExD.itemT hv hi h0 hk hd (fun _ _ => subscripted_of hs)
theorem ExS.at {value slice : Expr} {pos : Pos} {x : Str} {k : Int} {c : Nat} (hv : ExS prog w A env P Y value x) (hi : ExI prog w A env P Y slice k) (h0 : 0 ≤ k) (hk : k < 2 ^ 63) (hd : x.cps[k.toNat]? = some c)
    (hs : notSlice slice = true := by rfl) : ExS prog w A env P Y (.Subscript value slice pos) ⟨#[c]⟩ := ExS.item hv hi h0 hk hd (fun _ _ => subscripted_of hs)
end
end Mine
namespace Mine
/-- wpAny, closed to unfolding -/
structure Wp {α : Type} (M : Model) (A : Around) (m : Sem α) (Q : α → Shared → Prop) (E : Value → Shared → Prop) (s : Shared) : Prop where
  go : wpAny M A m Q E s
/-- behind a block: on, or out -/
structure Nx (K : Shared → Prop) (Q : Flow → Shared → Prop) (f : Flow) (s : Shared) : Prop where
  go : match f with | .next => K s | f => Q f s
theorem Nx.next {K : Shared → Prop} {Q : Flow → Shared → Prop} {s : Shared} (h : K s) : Nx K Q .next s := ⟨h⟩
theorem Nx.ret {K : Shared → Prop} {Q : Flow → Shared → Prop} {s : Shared} {v : Value} (h : Q (.ret v) s) : Nx K Q (.ret v) s := ⟨h⟩
theorem Nx.brk {K : Shared → Prop} {Q : Flow → Shared → Prop} {s : Shared} (h : Q .brk s) : Nx K Q .brk s := ⟨h⟩
theorem Nx.cont {K : Shared → Prop} {Q : Flow → Shared → Prop} {s : Shared} (h : Q .cont s) : Nx K Q .cont s := ⟨h⟩
/-- a loop's turn -/
structure Lp (N : Shared → Prop) (B : Shared → Prop) (Q : Flow → Shared → Prop) (f : Flow) (s : Shared) : Prop where
  go : match f with | .next | .cont => N s | .brk => B s | .ret v => Q (.ret v) s
theorem Lp.next {N B : Shared → Prop} {Q : Flow → Shared → Prop} {s : Shared} (h : N s) : Lp N B Q .next s := ⟨h⟩
theorem Lp.cont {N B : Shared → Prop} {Q : Flow → Shared → Prop} {s : Shared} (h : N s) : Lp N B Q .cont s := ⟨h⟩
theorem Lp.brk {N B : Shared → Prop} {Q : Flow → Shared → Prop} {s : Shared} (h : B s) : Lp N B Q .brk s := ⟨h⟩
theorem Lp.ret {N B : Shared → Prop} {Q : Flow → Shared → Prop} {s : Shared} {v : Value} (h : Q (.ret v) s) : Lp N B Q (.ret v) s := ⟨h⟩
/-- what a called function's block gives -/
structure Rt (Q : Value → Shared → Prop) (f : Flow) (s : Shared) : Prop where
  go : Q (match f with | .ret v => v | _ => .none) s
section
variable {prog : Program} {w : World} {A : Around} {env : Env} {P : Pa} {Y : Sy} {s : Shared} {Q : Flow → Shared → Prop} {E : Value → Shared → Prop} {rest : List Stmt}

theorem ys_nil (h : Q .next s) : Wp (model prog w) A (execs [] env) Q E s := ⟨wpAny_execs_nil h⟩
theorem ys_assign {x : Str} {px pos : Pos} {e : Expr} {V : Value → Heap → Prop} (S : St P Y s.heap s.gens s.os) (he : Ex prog w A env P Y e V)
    (h : ∀ v s₁, St P Y s₁.heap s₁.gens s₁.os → V v s₁.heap → Wp (model prog w) A (storeName env x v) (fun _ s' => Wp (model prog w) A (execs rest env) Q E s') E s₁)
    (hs : swapsWith e (some (.Name x px)) pos.line env = pure false := by rfl) : Wp (model prog w) A (execs (.Assign [.Name x px] e pos :: rest) env) Q E s :=
  ⟨xs_assign S he (fun v s₁ S₁ hv => wpAny_mono (h v s₁ S₁ hv).go (fun _ _ z => z.go) fun _ _ z => z) hs⟩
theorem ys_I {x : Str} {px pos : Pos} {e : Expr} {i : Int} (S : St P Y s.heap s.gens s.os) (he : ExI prog w A env P Y e i) (h : ∀ t s', St P (Y.set x (.int i t)) s'.heap s'.gens s'.os → Wp (model prog w) A (execs rest env) Q E s')
    (hL : env.locals = P.L := by rfl) (hk : env.scope.kind = .function := by rfl) (hx : env.kindOf x = some .local := by rfl) (hs : swapsWith e (some (.Name x px)) pos.line env = pure false := by rfl) : Wp (model prog w) A (execs (.Assign [.Name x px] e pos :: rest) env) Q E s :=
  ⟨xs_I S he (fun t s' S' => (h t s' S').go) hL hk hx hs⟩
theorem ys_S {x : Str} {px pos : Pos} {e : Expr} {i : Str} (S : St P Y s.heap s.gens s.os) (he : ExS prog w A env P Y e i) (h : ∀ t s', St P (Y.set x (.str i t)) s'.heap s'.gens s'.os → Wp (model prog w) A (execs rest env) Q E s')
    (hL : env.locals = P.L := by rfl) (hk : env.scope.kind = .function := by rfl) (hx : env.kindOf x = some .local := by rfl) (hs : swapsWith e (some (.Name x px)) pos.line env = pure false := by rfl) : Wp (model prog w) A (execs (.Assign [.Name x px] e pos :: rest) env) Q E s :=
  ⟨xs_S S he (fun t s' S' => (h t s' S').go) hL hk hx hs⟩
theorem ys_D {x : Str} {px pos : Pos} {e : Expr} {d : PyData} {n : Bool} (S : St P Y s.heap s.gens s.os) (he : ExD prog w A env P Y e d n) (h : ∀ v s', St P ((Y.put v d n).set x v) s'.heap s'.gens s'.os → Wp (model prog w) A (execs rest env) Q E s')
    (hL : env.locals = P.L := by rfl) (hk : env.scope.kind = .function := by rfl) (hx : env.kindOf x = some .local := by rfl) (hs : swapsWith e (some (.Name x px)) pos.line env = pure false := by rfl) : Wp (model prog w) A (execs (.Assign [.Name x px] e pos :: rest) env) Q E s :=
  ⟨xs_D S he (fun t s' S' => (h t s' S').go) hL hk hx hs⟩
theorem ys_ret {pos : Pos} {e : Expr} {V : Value → Heap → Prop} (S : St P Y s.heap s.gens s.os) (he : Ex prog w A env P Y e V) (h : ∀ v s', St P Y s'.heap s'.gens s'.os → V v s'.heap → Q (.ret v) s') : Wp (model prog w) A (execs (.Return (some e) pos :: rest) env) Q E s :=
  ⟨xs_ret S he h⟩
theorem ys_if {pos : Pos} {t : Expr} {b o : List Stmt} {c : Bool} (S : St P Y s.heap s.gens s.os) (ht : Tr prog w A env P Y t c)
    (hb : c = true → ∀ s', St P Y s'.heap s'.gens s'.os → Wp (model prog w) A (execs b env) (Nx (fun s' => Wp (model prog w) A (execs rest env) Q E s') Q) E s')
    (ho : c = false → ∀ s', St P Y s'.heap s'.gens s'.os → Wp (model prog w) A (execs o env) (Nx (fun s' => Wp (model prog w) A (execs rest env) Q E s') Q) E s') :
    Wp (model prog w) A (execs (.If t b o pos :: rest) env) Q E s :=
  ⟨xs_if S ht (fun c s' S' => wpAny_mono (hb c s' S').go (fun f _ z => by cases f <;> first | exact z.go.go | exact z.go) fun _ _ z => z) (fun c s' S' => wpAny_mono (ho c s' S').go (fun f _ z => by cases f <;> first | exact z.go.go | exact z.go) fun _ _ z => z)⟩
theorem ys_swap3 {x y z : Str} {elts : List Expr} {k : Nat} {tpos pos : Pos} {value : Expr} {d d' d'' : PyData} {n : Bool} (hs : swapsWithSole [.Tuple elts k tpos] value pos.line env = pure false) (hw : swappedStores [.Tuple elts k tpos] value env = pure (some [x, y, z])) (hh : A.handled = none) (S : St P Y s.heap s.gens s.os) (he : ExD prog w A env P Y value (.tuple [d, d', d'']) n)
    (h : ∀ u u' u'' s', St P ⟨Y.own, (u, d, n) :: (u', d', n) :: (u'', d'', n) :: Y.dat, (x, u) :: (y, u') :: (z, u'') :: Y.m, Y.cm⟩ s'.heap s'.gens s'.os → Wp (model prog w) A (execs rest env) Q E s')
    (hL : env.locals = P.L := by rfl) (hk : env.scope.kind = .function := by rfl) (hx : env.kindOf x = some .local := by rfl) (hy : env.kindOf y = some .local := by rfl) (hz : env.kindOf z = some .local := by rfl) :
    Wp (model prog w) A (execs (.Assign [.Tuple elts k tpos] value pos :: rest) env) Q E s :=
  ⟨wpAny_execs_cons (Assign_Tuple_swapped (swap3 hh S he (fun u u' u'' s' S' => (h u u' u'' s' S').go) hL hk hx hy hz) hs hw)⟩
theorem ys_swap2 {x y : Str} {elts : List Expr} {k : Nat} {tpos pos : Pos} {value : Expr} {d d' : PyData} {n : Bool} (hs : swapsWithSole [.Tuple elts k tpos] value pos.line env = pure false) (hw : swappedStores [.Tuple elts k tpos] value env = pure (some [x, y])) (hh : A.handled = none) (S : St P Y s.heap s.gens s.os) (he : ExD prog w A env P Y value (.tuple [d, d']) n)
    (h : ∀ u u' s', St P ⟨Y.own, (u, d, n) :: (u', d', n) :: Y.dat, (x, u) :: (y, u') :: Y.m, Y.cm⟩ s'.heap s'.gens s'.os → Wp (model prog w) A (execs rest env) Q E s')
    (hL : env.locals = P.L := by rfl) (hk : env.scope.kind = .function := by rfl) (hx : env.kindOf x = some .local := by rfl) (hy : env.kindOf y = some .local := by rfl) :
    Wp (model prog w) A (execs (.Assign [.Tuple elts k tpos] value pos :: rest) env) Q E s :=
  ⟨wpAny_execs_cons (Assign_Tuple_swapped (swap2 hh S he (fun u u' s' S' => (h u u' s' S').go) hL hk hx hy) hs hw)⟩
end
section
variable {prog : Program} {w : World} {A : Around} {s : Shared} {K : Frag} {mg mb : Loc} {base : Heap} {chain : List Env}
  {name qual : Str} {params : Arguments} {body : List Stmt} {scope : Scope} {dV kV doc pm cdv ct oc : Value} {an od : Option Addr} {osl : Array (Option Value)} {f : Addr} {vs : List Value}
theorem entw {k : Nat} {Q E : Value → Shared → Prop} (binds ml mc : List (Str × Value)) (T : Tb K mg mb base) (C : Cx A chain (k + 1)) (N : At base chain s)
    (ho : K.lookup f = some ⟨oc, od, .func (fnOf name qual params body scope dV kV doc pm an cdv ct), osl⟩) (hcd : codeIn K cdv qual = true)
    (hbind : bindArgs (fnOf name qual params body scope dV kV doc pm an cdv ct) ⟨vs, []⟩ = pure binds)
    (hkind : (binds.all fun y => scope.names.lookup y.1 == some .local || scope.names.lookup y.1 == some .cell) = true) (hpl : cellsPlain scope.names = true)
    (hml : bl (fun x => scope.names.lookup x) binds [] = ml) (hmc : bc (fun x => scope.names.lookup x) binds [] = mc)
    (hco : scope.isCoroutine = false) (hgen : scope.isGenerator = false) (hk : scope.kind = .function)
    (h : ∀ L A' s₁, Cx A' (envX qual scope L f cdv (cellsFrom (L + 1) scope.names []) :: chain) k → St (callPa base chain s qual scope L f cdv) ⟨[], [], ml, mc⟩ s₁.heap s₁.gens s₁.os →
      Wp (model prog w) A' (execs body (envX qual scope L f cdv (cellsFrom (L + 1) scope.names []))) (Rt Q)
        (fun e s' => wpAny (model prog w) A' (leaving (envX qual scope L f cdv (cellsFrom (L + 1) scope.names [])) e) (fun _ s'' => E e s'') (fun e' s'' => E e' s'') s') s₁)
     : Wp (model prog w) A (call (.ref f) vs) Q E s :=
  ⟨entr binds ml mc T C N ho hcd hbind hkind hpl hml hmc (fun L A' s₁ C' S => wpAny_mono (h L A' s₁ C' S).go (fun _ _ z => z.go) fun _ _ z => z) hco hgen hk⟩
end
end Mine
namespace Mine
/-- a heap without its frames -/
noncomputable def del : List Addr → Heap → Heap
  | [], h => h
  | a :: fs, h => (del fs h).update a (fun o => { o with data := .freed })
theorem del_self (h : Heap) (a : Addr) : (h.update a (fun o => { o with data := .freed })).get? a = none := by
  cases h
  simp only [Heap.update, Heap.get?, Array.getElem?_modify, if_true]
  split
  · rfl
  · rename_i o e
    cases q : (by assumption : Array Obj)[a]? with
    | none => rw [q] at e; simp
    | some o => simp_all
theorem del_out {fs : List Addr} {h : Heap} {a : Addr} (ha : a ∉ fs) : (del fs h).get? a = h.get? a := by
  induction fs with
  | nil => rfl
  | cons b fs ih =>
    rw [List.mem_cons, not_or] at ha
    exact (Heap.get?_update_other _ _ (Ne.symm ha.1)).trans (ih ha.2)
theorem del_in {fs : List Addr} {h : Heap} {a : Addr} (ha : a ∈ fs) : (del fs h).get? a = none := by
  induction fs with
  | nil => cases ha
  | cons b fs ih =>
    by_cases e : b = a
    · subst e; exact del_self _ _
    · rcases List.mem_cons.mp ha with q | q
      · exact absurd q.symm e
      · exact (Heap.get?_update_other _ _ e).trans (ih q)
theorem del_some {fs : List Addr} {h : Heap} {a : Addr} {o : Obj} (e : (del fs h).get? a = some o) : a ∉ fs ∧ h.get? a = some o := by
  by_cases q : a ∈ fs
  · rw [del_in q] at e; cases e
  · exact ⟨q, (del_out q).symm.trans e⟩
end Mine
namespace Mine
theorem ff_base {h base base' : Heap} : ∀ {l : List Env}, h.FunFrames base l → (∀ a ∈ frs l, base'.get? a = none) → h.FunFrames base' l
  | [], _, _ => trivial
  | env :: l, ⟨k, ⟨L, o, hf, _, ho, hn⟩, r⟩, q => by
    refine ⟨k, ⟨L, o, hf, q L ?_, ho, hn⟩, ff_base r fun a ha => q a ?_⟩
    · simp [frs, List.filterMap_cons, hf]
    · simp only [frs, List.filterMap_cons, hf, List.mem_cons]; exact .inr ha
theorem At.ffd {base : Heap} {chain : List Env} {s : Shared} (N : At base chain s) : s.heap.FunFrames (del (frs chain) s.heap) chain := ff_base N.ff fun a ha => del_in ha
theorem del_stays {fs : List Addr} {h : Heap} : (del fs h).StaysIn h := fun b o e => (del_some e).2
/-- an exception that is noted at the frame L -/
structure Held (chain : List Env) (s s' : Shared) (e : Addr) (cls a0 : Value) (L : Addr) : Prop where
  fl : Heap.HeldW (del (frs chain) s.heap) chain e cls a0 L s'.heap
  up : s.heap.UpToSlots s'.heap
  os : s'.os = s.os
  gs : GG s.gens s'.gens
/-- an exception on its way -/
structure Fly (chain : List Env) (s s' : Shared) (e : Addr) (cls a0 : Value) : Prop where
  fl : Heap.FlyingW (del (frs chain) s.heap) chain e cls a0 s'.heap
  up : s.heap.UpToSlots s'.heap
  os : s'.os = s.os
  gs : GG s.gens s'.gens
theorem gr_of {base : Heap} {chain : List Env} {s s' : Shared} (N : At base chain s) (k : (del (frs chain) s.heap).StaysIn s'.heap) (up : s.heap.UpToSlots s'.heap) (os : s'.os = s.os) (gs : GG s.gens s'.gens) : Gr (frs chain) s s' where
  ch := fun b o _ e => by
    by_cases q : b ∈ frs chain
    · obtain ⟨_, o', ho', hn⟩ := N.ff.mem q
      rw [e] at ho'; cases ho'
      exact ⟨fun z => absurd q z, up b o e hn⟩
    · have := k b o ((del_out q).trans e)
      exact ⟨fun _ => this, o.slots, this⟩
  os := os
  gs := gs
theorem Held.gr {base : Heap} {chain : List Env} {s s' : Shared} {e L : Addr} {cls a0 : Value} (H : Held chain s s' e cls a0 L) (N : At base chain s) : Gr (frs chain) s s' := gr_of N H.fl.1 H.up H.os H.gs
theorem Fly.gr {base : Heap} {chain : List Env} {s s' : Shared} {e : Addr} {cls a0 : Value} (H : Fly chain s s' e cls a0) (N : At base chain s) : Gr (frs chain) s s' := gr_of N H.fl.1 H.up H.os H.gs
section
variable {M : Model} {A : Around} {E : Value → Shared → Prop}
/-- a new exception is noted at its frame -/
theorem noteNew {base : Heap} {env : Env} {outer : List Env} {L e : Addr} {cls : String} {Q : Unit → Shared → Prop} {s : Shared} {h' : Heap} {tk : Nat} (N : At base (env :: outer) s) (hfr : A.frames = some (env :: outer)) (hf : env.frame = some L) (hx : Heap.NewExc s.heap h' e cls)
    (h : ∀ s2 a0, Held (env :: outer) s s2 e (.type cls) a0 L → Q () s2) : wpAny M A (noteFrame (.ref e) env) Q E { s with heap := h', toks := tk } := by
  obtain ⟨ob, t, he, hc, hd⟩ := hx.there
  have hb : (del (frs (env :: outer)) s.heap).StaysIn h' := fun b o z => hx.keeps b o (del_some z).2
  have hen : (del (frs (env :: outer)) s.heap).get? e = none := by
    cases q : (del (frs (env :: outer)) s.heap).get? e with
    | none => rfl
    | some o => have := (del_some q).2; rw [hx.new] at this; cases this
  unfold noteFrame
  simp only [hf]
  refine wpAny_bind (wpAny_field he hd (x := .none) rfl ?_)
  rw [if_neg (by decide)]
  refine wpAny_entryW (base := del (frs (env :: outer)) s.heap) hfr (N.ffd.of_keeps fun b o hb hnf => ⟨o, hx.keeps b o hb, rfl⟩) hf he hb hen hd (a0 := t) (by simp) rfl fun h'' hN => ?_
  obtain ⟨k1, k2, k3, k4⟩ := hN
  exact h _ t ⟨⟨k1, hen, k2, hc ▸ k3⟩, (Heap.UpToSlots.of_keeps hx.keeps).trans k4, rfl, .refl _⟩
/-- back from a loop's activation -/
theorem came {chain : List Env} {env : Env} {L e : Addr} {cls a0 : Value} {s s' : Shared} (hf : env.frame = some L) (H : Held chain s s' e cls a0 L)
    (h : ∀ s2, Held chain s s2 e cls a0 L → E (.ref e) s2) : cameBackBy M A env E (.ref e) s' := by
  obtain ⟨hkb, hen, hl, oe, vs, T, oT, ts, he, hcls, hd, h1, hnT, hTe, hT, hdT, h3⟩ := H.fl
  have hsz3 : 3 < ts.size := (Array.getElem?_eq_some_iff.mp h3).1
  have other : ∀ b, b ≠ T → (s'.heap.update T (Obj.mapFields (·.setIfInBounds 3 (rawInt L)))).get? b = s'.heap.get? b :=
    fun b hb => Heap.get?_update_other _ _ (Ne.symm hb)
  have noRecord : ∀ b o, s'.heap.get? b = some o → (∀ vs, o.data ≠ .fields vs) → b ≠ T := fun b o hb hnf q => by
    rw [q, hT] at hb; injection hb with hb; subst hb; exact hnf ts hdT
  unfold cameBackBy
  refine wpAny_bind (wpAny_field he hd h1 ?_)
  rw [if_neg (by simp)]
  rw [hf]
  unfold setFlight
  refine wpAny_bind (wpAny_field he hd h1 ?_)
  rw [if_pos (show (Value.ref T != Value.none) = true from by simp)]
  refine wpAny_setField hT hdT hsz3 (h _ ⟨⟨fun b o hbo => (other b fun q => by rw [q, hnT] at hbo; cases hbo).trans (hkb b o hbo), hen,
    (hl.of_keeps fun b o hb hnf => ⟨o, (other b (noRecord b o hb hnf)).trans hb, rfl⟩), ?_⟩, ?_, H.os, H.gs⟩)
  · exact ⟨oe, vs, T, _, _, (other e (Ne.symm hTe)).trans he, hcls, hd, h1, hnT, hTe, Heap.get?_update_self _ hT (Obj.isFreed_of_fields (Obj.data_mapFields hdT _)), Obj.data_mapFields hdT _, by simp [hsz3]⟩
  · exact H.up.trans fun b o hb hn => ⟨o.slots, (other b (noRecord b o hb hn)).trans hb⟩
end
end Mine
namespace Mine
/-- out of a call: what the caller sees -/
theorem fly_out {base : Heap} {chain : List Env} {env : Env} {s s₁ s' : Shared} {e L : Addr} {cls a0 : Value} (N : At base chain s) (G : Gr (frs chain) s s₁) (hL : s.heap.get? L = none) (hf : env.frame = some L)
    (fl : Heap.FlyingW (del (frs (env :: chain)) s₁.heap) chain e cls a0 s'.heap) (up : s₁.heap.UpToSlots s'.heap) (os : s'.os = s₁.os) (gs : GG s₁.gens s'.gens) : Fly chain s s' e cls a0 := by
  have inn : ∀ b o, (del (frs chain) s.heap).get? b = some o → (del (frs (env :: chain)) s₁.heap).get? b = some o := fun b o q => by
    obtain ⟨q1, q2⟩ := del_some q
    have q3 := (G.ch b o (by simp) q2).1 q1
    rw [del_out]
    · exact q3
    · intro z
      simp only [frs, List.filterMap_cons, hf, List.mem_cons] at z
      rcases z with rfl | z
      · rw [hL] at q2; cases q2
      · exact q1 z
  have out : ∀ b, (del (frs (env :: chain)) s₁.heap).get? b = none → (del (frs chain) s.heap).get? b = none := fun b q => by
    cases z : (del (frs chain) s.heap).get? b with
    | none => rfl
    | some o => rw [inn b o z] at q; cases q
  obtain ⟨k1, k2, k3, oe, vs, T, oT, ts, he, hc, hd, h1, hnT, hTe, hT, hdT, h3⟩ := fl
  refine ⟨⟨fun b o q => k1 b o (inn b o q), out e k2, ff_base k3 fun a ha => del_in ha, oe, vs, T, oT, ts, he, hc, hd, h1, out T hnT, hTe, hT, hdT, h3⟩, fun b o q hn => ?_, os.trans G.os, G.gs.trans gs⟩
  obtain ⟨_, sl, e1⟩ := G.ch b o (by simp) q
  obtain ⟨sl', e2⟩ := up b _ e1 hn
  exact ⟨sl', e2⟩
section
variable {M : Model} {A : Around} {E : Value → Shared → Prop}
/-- a noted exception leaves the call -/
theorem leaveHeld {base : Heap} {chain : List Env} {env : Env} {s s₁ s' : Shared} {e L : Addr} {cls a0 : Value} {Q : Unit → Shared → Prop} (N : At base chain s) (G : Gr (frs chain) s s₁) (hL : s.heap.get? L = none) (hf : env.frame = some L)
    (H : Held (env :: chain) s₁ s' e cls a0 L) (h : ∀ s2, Fly chain s s2 e cls a0 → Q () s2) : wpAny M A (leaving env (.ref e)) Q E s' := by
  unfold leaving
  refine wpAny_bind (wpAny_noteFrame_againW hf H.fl.2.2.2 ?_)
  refine wpAny_landsW H.fl fun h' hfl up => ?_
  obtain ⟨k1, k2, ⟨_, _, k3⟩, k4⟩ := hfl
  exact h _ (fly_out N G hL hf ⟨k1, k2, k3, k4⟩ (H.up.trans up) H.os H.gs)
/-- a flying exception comes to a try -/
theorem noteFly {chain : List Env} {env : Env} {s s' : Shared} {e L : Addr} {cls a0 : Value} {Q : Unit → Shared → Prop} (hfr : A.frames = some (env :: chain)) (hf : env.frame = some L)
    (F : Fly (env :: chain) s s' e cls a0) (h : ∀ s2, Held (env :: chain) s s2 e cls a0 L → Q () s2) : wpAny M A (noteFrame (.ref e) env) Q E s' :=
  wpAny_looks_onW hfr hf F.fl fun h' hh up => h _ ⟨hh, F.up.trans up, F.os, F.gs⟩
theorem landHeld {chain : List Env} {s s' : Shared} {e L : Addr} {cls a0 : Value} {Q : Unit → Shared → Prop}
    (H : Held chain s s' e cls a0 L) (h : ∀ s2, Fly chain s s2 e cls a0 → Q () s2) : wpAny M A (setFlight (.ref e) none) Q E s' :=
  wpAny_landsW H.fl fun h' hh up => h _ ⟨hh, H.up.trans up, H.os, H.gs⟩
theorem landFly {chain : List Env} {s s' : Shared} {e : Addr} {cls a0 : Value} {Q : Unit → Shared → Prop}
    (H : Fly chain s s' e cls a0) (h : ∀ s2, Fly chain s s2 e cls a0 → Q () s2) : wpAny M A (setFlight (.ref e) none) Q E s' :=
  wpAny_setFlight_noneW H.fl.1 H.fl.2.2.1 H.fl.2.2.2.at fun h' k1 k2 k3 k4 => h _ ⟨⟨k1, H.fl.2.1, k2, k3⟩, H.up.trans fun b o hb hn => ⟨o.slots, k4 b o hb hn⟩, H.os, H.gs⟩
end
theorem Fly.more {base : Heap} {chain : List Env} {s s' s'' : Shared} {e : Addr} {cls a0 : Value} (F : Fly chain s s' e cls a0) (k : Keeps s' s'') : Fly chain s s'' e cls a0 := by
  obtain ⟨h, tk, rfl, k⟩ := k
  obtain ⟨k1, k2, k3, oe, vs, T, oT, ts, he, hc, hd, h1, hnT, hTe, hT, hdT, h3⟩ := F.fl
  exact ⟨⟨fun b o q => k b o (k1 b o q), k2, k3.of_keeps fun b o hb _ => ⟨o, k b o hb, rfl⟩, oe, vs, T, oT, ts, k _ _ he, hc, hd, h1, hnT, hTe, k _ _ hT, hdT, h3⟩, F.up.trans (.of_keeps k), F.os, F.gs⟩
section
variable {prog : Program} {w : World} {A : Around} {env : Env} {P : Pa} {Y : Sy} {s : Shared} {Q : Flow → Shared → Prop} {E : Value → Shared → Prop} {rest : List Stmt}
/-- while, the picture told by J; a turn's test may raise -/
theorem ys_while {test : Expr} {body : List Stmt} {pos : Pos} (S : St P Y s.heap s.gens s.os) (J : Nat → Sy → Prop) (n : Nat) (hJ : J n Y)
    (turn : ∀ n Yi s₁ (E' : Value → Shared → Prop), (∀ x s', notedBy (model prog w) A env (cameBackBy (model prog w) A env E) x s' → E' x s') → J n Yi → St P Yi s₁.heap s₁.gens s₁.os →
      Wp (model prog w) A (isTrue test env (eval test env)) (fun b s₂ => if b then Wp (model prog w) A (execs body env) (Lp (fun s₃ => ∃ m Y', m < n ∧ J m Y' ∧ St P Y' s₃.heap s₃.gens s₃.os) (fun s₃ => Wp (model prog w) A (execs rest env) Q E s₃) Q) E' s₂
        else Wp (model prog w) A (execs rest env) Q E s₂) E' s₁) :
    Wp (model prog w) A (execs (.While test body [] pos :: rest) env) Q E s := by
  refine ⟨wpAny_execs_cons (wpAny_While (codeAny_whileLoop (fun n s' => ∃ Yi, J n Yi ∧ St P Yi s'.heap s'.gens s'.os) (fun n s₁ hI => ?_) n ⟨Y, hJ, S⟩))⟩
  obtain ⟨Yi, hJi, Si⟩ := hI
  refine wpAny_mono (turn n Yi s₁ _ (fun x s' z => z) hJi Si).go (fun b s₂ h₂ => ?_) fun _ _ z => z
  cases b with
  | true =>
    rw [if_pos rfl] at h₂ ⊢
    refine wpAny_mono h₂.go (fun f s₃ h₃ => ?_) fun _ _ z => z
    cases f with
    | next => obtain ⟨m, Y', hm, hJ', S'⟩ := h₃.go; exact ⟨m, hm, Y', hJ', S'⟩
    | cont => obtain ⟨m, Y', hm, hJ', S'⟩ := h₃.go; exact ⟨m, hm, Y', hJ', S'⟩
    | brk => exact h₃.go.go
    | ret v => exact h₃.go
  | false =>
    rw [if_neg (by decide)] at h₂ ⊢
    exact wpAny_execs_nil h₂.go
end
end Mine
namespace Mine
section
variable {prog : Program} {w : World} {A : Around} {env : Env} {P : Pa} {Y : Sy} {s : Shared} {Q : Flow → Shared → Prop} {E : Value → Shared → Prop} {rest : List Stmt}

/-- x[i:j] of a text -/
theorem ExS.slice {value lo hi : Expr} {p pos : Pos} {x : Str} {i j : Int} (hsz : x.length ≤ sizeLine) (hv : ExS prog w A env P Y value x) (hl : ExI prog w A env P Y lo i) (hh : ExI prog w A env P Y hi j)
    (ht : ∀ o r, letTemporaryGo value o r = pure () := by intro _ _; rfl) : ExS prog w A env P Y (.Subscript value (.Slice (some lo) (some hi) none p) pos) (Txt.slice x (some i) (some j)) := .mk fun s Q E S q => by
  refine wpAny_Subscript_Slice (T := "str") F.slot_str_getitem.lookup (hv.go s _ _ S fun v s1 G1 hv => ?_) ht
  obtain ⟨t, rfl⟩ := hv
  refine wpAny_Slice ?_
  show wpAny _ A (eval lo env) _ _ s1
  refine hl.go s1 _ _ (S.grow G1) fun v s2 G2 hv => ?_
  obtain ⟨u, rfl⟩ := hv
  show wpAny _ A (eval hi env) _ _ s2
  refine hh.go s2 _ _ ((S.grow G1).grow G2) fun v s3 G3 hv => ?_
  obtain ⟨u', rfl⟩ := hv
  rw [evalPart_none]
  refine wpAny_pure ⟨typeIs_str _ x t, ?_⟩
  obtain ⟨T, id, _, _, hg⟩ := SBH.sliceItem_ss (prog := prog) (w := w) (A := A) (E := E) (s := s3) (x := x) (t := t) (Q := Q) (ui := u) (uj := u') (i := i) (j := j) (P := fun h' => Gr (frs P.chain) s { s3 with heap := h' })
    (fun h ob G => G.trans (s' := { s3 with heap := h }) (s'' := { s3 with heap := h.push ob }) (Gr.push (s := { s3 with heap := h }) ob)) ((G1.trans G2).trans G3) (fun h' t' k G => q _ _ (G.toks k) ⟨t', rfl⟩) hsz
  exact hg

/-- x op= e -/
theorem ys_aug {x : Str} {px pos : Pos} {op : Operator} {value : Expr} {a b c : Int} {t : Tok} (S : St P Y s.heap s.gens s.os) (hm : Y.m.lookup x = some (.int a t)) (hv : ExI prog w A env P Y value b)
    (hop : ∀ (s : Shared) (Q E : Value → Shared → Prop) (t u : Tok), (∀ t' tk, Q (.int c t') { s with toks := tk }) → wpAny (model prog w) A (inplaceOp op (.int a t) (.int b u)) Q E s)
    (h : ∀ t s', St P (Y.set x (.int c t)) s'.heap s'.gens s'.os → Wp (model prog w) A (execs rest env) Q E s')
    (hL : env.locals = P.L := by rfl) (hk : env.scope.kind = .function := by rfl) (hx : env.kindOf x = some .local := by rfl) : Wp (model prog w) A (execs (.AugAssign (.Name x px) op value pos :: rest) env) Q E s := by
  refine ⟨wpAny_execs_cons (wpAny_AugAssign_Name (wpAny_loadName_local hk hx (hL ▸ S.ns) hm ?_))⟩
  refine hv.go s _ _ S fun v s1 G1 hv => ?_
  obtain ⟨u, rfl⟩ := hv
  refine hop s1 _ _ _ _ fun t' tk => ?_
  have S1 : St P Y s1.heap s1.gens s1.os := S.grow G1
  exact storeL (s := { s1 with toks := tk }) S1 (fun s' S' => (h t' s' S').go) hL hk hx
theorem ys_inc {x : Str} {px pos : Pos} {value : Expr} {a b : Int} {t : Tok} (S : St P Y s.heap s.gens s.os) (hm : Y.m.lookup x = some (.int a t)) (hv : ExI prog w A env P Y value b)
    (h : ∀ t s', St P (Y.set x (.int (a + b) t)) s'.heap s'.gens s'.os → Wp (model prog w) A (execs rest env) Q E s')
    (hL : env.locals = P.L := by rfl) (hk : env.scope.kind = .function := by rfl) (hx : env.kindOf x = some .local := by rfl) : Wp (model prog w) A (execs (.AugAssign (.Name x px) .Add value pos :: rest) env) Q E s :=
  ys_aug S hm hv (fun _ _ _ _ _ k => PyProof.Rows.iadd_int (k _ _)) h hL hk hx
theorem ys_dec {x : Str} {px pos : Pos} {value : Expr} {a b : Int} {t : Tok} (S : St P Y s.heap s.gens s.os) (hm : Y.m.lookup x = some (.int a t)) (hv : ExI prog w A env P Y value b)
    (h : ∀ t s', St P (Y.set x (.int (a - b) t)) s'.heap s'.gens s'.os → Wp (model prog w) A (execs rest env) Q E s')
    (hL : env.locals = P.L := by rfl) (hk : env.scope.kind = .function := by rfl) (hx : env.kindOf x = some .local := by rfl) : Wp (model prog w) A (execs (.AugAssign (.Name x px) .Sub value pos :: rest) env) Q E s :=
  ys_aug S hm hv (fun _ _ _ _ _ k => PyProof.Rows.isub_int (k _ _)) h hL hk hx

/-- an int as a test -/
theorem Tr.int {e : Expr} {a : Int} (h : ExI prog w A env P Y e a) (he : ∀ whole, isTrue e env whole = (do let v ← whole; standAt e.pos; holding [v] (truthy v)) := by intro _; rfl) : Tr prog w A env P Y e (a != 0) := .mk fun s Q E S q =>
  isTrue_plain (h.go s _ _ S fun v s' G hv => by obtain ⟨t, rfl⟩ := hv; exact PySem.P.truthy_int (q s' G)) (he _)

/-- an expression that raises -/
structure Rz (prog : Program) (w : World) (A : Around) (env : Env) (P : Pa) (Y : Sy) (e : Expr) (cls : String) : Prop where
  go : ∀ (s : Shared) (Q E : Value → Shared → Prop), St P Y s.heap s.gens s.os → (∀ s1 h' tk x, Gr (frs P.chain) s s1 → Heap.NewExc s1.heap h' x cls → E (.ref x) { s1 with heap := h', toks := tk }) → wpAny (model prog w) A (eval e env) Q E s
structure RzT (prog : Program) (w : World) (A : Around) (env : Env) (P : Pa) (Y : Sy) (e : Expr) (cls : String) : Prop where
  go : ∀ (s : Shared) (Q : Bool → Shared → Prop) (E : Value → Shared → Prop), St P Y s.heap s.gens s.os → (∀ s1 h' tk x, Gr (frs P.chain) s s1 → Heap.NewExc s1.heap h' x cls → E (.ref x) { s1 with heap := h', toks := tk }) → wpAny (model prog w) A (isTrue e env (eval e env)) Q E s
theorem Rz.item {value slice : Expr} {pos : Pos} {x : Str} {k : Int} (hh : A.handled = none) (hv : ExS prog w A env P Y value x) (hi : ExI prog w A env P Y slice k) (hr : fitsSsize k = true) (ho : (x.length : Int) ≤ k)
    (hs : notSlice slice = true := by rfl) (ht : ∀ o r, letTemporaryGo value o r = pure () := by intro _ _; rfl) : Rz prog w A env P Y (.Subscript value slice pos) "IndexError" := .mk fun s Q E S q => by
  refine Subscript_ (hv.go s _ _ S fun v s1 G1 hv => hi.go s1 _ _ (S.grow G1) fun u s2 G2 hu => ?_)
  obtain ⟨t, rfl⟩ := hv
  obtain ⟨u, rfl⟩ := hu
  exact item_str_or hh hr (fun _ h' tk e hx => q s2 h' tk e (G1.trans G2) hx) (fun _ z => absurd z (by omega)) (subscripted_of hs) (ht _)
theorem RzT.cmp {op : CmpOp} {l r : Expr} {pos : Pos} {cls : String} (h1 : Rz prog w A env P Y l cls) (hm : behindInMarks op r = false := by rfl) : RzT prog w A env P Y (.Compare l [op] [r] pos) cls := .mk fun s Q E S q =>
  wpAny_isTrue_Compare1 (h1.go s _ _ S q) hm
theorem RzT.and2 {e e' : Expr} {pos : Pos} {cls : String} (h : Tr prog w A env P Y e true) (h' : RzT prog w A env P Y e' cls) : RzT prog w A env P Y (.BoolOp .And [e, e'] pos) cls := .mk fun s Q E S q => by
  refine isTrue_and (h.go s _ _ S fun s1 G1 => ?_)
  rw [if_pos rfl]
  exact isTrue_and (h'.go s1 _ _ (S.grow G1) fun s2 h' tk x G2 hx => q s2 h' tk x (G1.trans G2) hx)
end
end Mine
namespace Mine
theorem lk_ext {m m' : List (Str × Value)} (ks : List Str) (h1 : (m.map (·.1)).all (ks.contains ·) = true) (h2 : (m'.map (·.1)).all (ks.contains ·) = true) (h : ks.map (fun k => m.lookup k) = ks.map (fun k => m'.lookup k)) (x : Str) : m.lookup x = m'.lookup x := by
  by_cases hx : x ∈ ks
  · exact List.map_inj_left.mp h x hx
  · have key : ∀ {m : List (Str × Value)}, (m.map (·.1)).all (ks.contains ·) = true → m.lookup x = none := by
      intro m hm
      cases q : m.lookup x with
      | none => rfl
      | some v =>
        have := List.all_eq_true.mp hm x (List.mem_map.mpr ⟨(x, v), mem_of_lookup q, rfl⟩)
        exact absurd (by simpa using this) hx
    rw [key h1, key h2]
theorem St.norm {P : Pa} {own : List (Addr × List Value)} {dat : List (Value × PyData × Bool)} {m cm : List (Str × Value)} {h : Heap} {g : Array GenState} {o : OsState} (S : St P ⟨own, dat, m, cm⟩ h g o) (m' : List (Str × Value)) (ks : List Str)
    (h1 : (m.map (·.1)).all (ks.contains ·) = true := by rfl) (h2 : (m'.map (·.1)).all (ks.contains ·) = true := by rfl) (h3 : ks.map (fun k => m.lookup k) = ks.map (fun k => m'.lookup k) := by rfl) : St P ⟨own, dat, m', cm⟩ h g o :=
  S.congr (lk_ext ks h1 h2 h3)
end Mine
namespace Mine
section
variable {prog : Program} {w : World} {A : Around} {env : Env} {P : Pa} {Y : Sy} {s : Shared} {Q : Flow → Shared → Prop} {E : Value → Shared → Prop} {rest : List Stmt}

/-- an expression out of which an exception flies -/
structure Rf (prog : Program) (w : World) (A : Around) (env : Env) (P : Pa) (Y : Sy) (e : Expr) (cls : String) : Prop where
  go : ∀ (s : Shared) (Q E : Value → Shared → Prop), St P Y s.heap s.gens s.os → (∀ s1 s2 x a0, Gr (frs P.chain) s s1 → Fly P.chain s1 s2 x (.type cls) a0 → E (.ref x) s2) → wpAny (model prog w) A (eval e env) Q E s

theorem Rf.call {K : Frag} {mg mb : Loc} {id : Str} {p pos : Pos} {e : Expr} {es : List Expr} {f : Addr} {Va : List Value → Heap → Prop} {cls : String} (T : Tb K mg mb P.base) (hf : nsIn K mainGlobals id = some (some (.ref f))) (hk : keepIn K (.ref f) = true)
    (ha : ExL prog w A env P Y (e :: es) Va) (hc : ∀ (s : Shared) vs (Q E : Value → Shared → Prop), St P Y s.heap s.gens s.os → Va vs s.heap → (∀ x a0 s', Fly P.chain s s' x (.type cls) a0 → E (.ref x) s') → wpAny (model prog w) A (PySem.call (.ref f) vs) Q E s)
    (hg : env.globals = mainGlobals := by rfl) (hkd : env.scope.kind = .function := by rfl) (hx : env.kindOf id = some .globalImplicit := by rfl) (hd : (id == ("__debug__" : Str)) = false := by rfl)
    (he : starEach (e :: es) env = (false, eval e env) :: starEach es env := by rfl) (hplain : ∀ pos, (backTo pos (starEach es env)).any (·.1) = false := by intro _; rfl) : Rf prog w A env P Y (.Call (.Name id p) (e :: es) [] pos) cls := .mk fun s Q E S q => by
  refine wpAny_Call_NameR ((ExV.glob (prog := prog) (w := w) (A := A) (Y := Y) T hf hg hkd hx hd).go s _ _ S fun v s1 G1 hv => ?_)
  subst hv
  refine callWith_K (K := K) (h₀ := P.base) T.X hk (ha.go s1 pos _ _ (S.grow G1) fun vs s2 G2 hvs => ⟨T.X.keeps ((S.grow G1).grow G2).bs, ?_⟩) he (hplain _)
  exact hc s2 vs _ _ ((S.grow G1).grow G2) hvs fun x a0 s3 F => q s2 s3 x a0 (G1.trans G2) F

/-- x = e, e raises -/
theorem ys_assignR {x : Str} {px pos : Pos} {e : Expr} {cls : String} (S : St P Y s.heap s.gens s.os) (he : Rf prog w A env P Y e cls)
    (h : ∀ s₁ s₂ x a0, St P Y s₁.heap s₁.gens s₁.os → Fly P.chain s₁ s₂ x (.type cls) a0 → E (.ref x) s₂)
    (hs : swapsWith e (some (.Name x px)) pos.line env = pure false := by rfl) : Wp (model prog w) A (execs (.Assign [.Name x px] e pos :: rest) env) Q E s :=
  ⟨wpAny_execs_cons (wpAny_Assign_Name (he.go s _ _ S fun s1 s2 x a0 G F => h s1 s2 x a0 (S.grow G) F) hs)⟩

theorem Heap_there {chain : List Env} {s s' : Shared} {e L : Addr} {X : String} {a0 : Value} (H : Held chain s s' e (.type X) a0 L) : s'.TypeIs (.ref e) X := by
  obtain ⟨ob, h1, h2⟩ := H.fl.there
  exact ⟨ob, h1, h2⟩
theorem Fly_there {chain : List Env} {s s' : Shared} {e : Addr} {X : String} {a0 : Value} (H : Fly chain s s' e (.type X) a0) : s'.heap.ExcAt e X a0 := by
  obtain ⟨oe, vs, h1, h2, h3, h4⟩ := H.fl.first
  exact ⟨oe, vs, h1, h2, h3, h4⟩

theorem ExV.bltnA {K : Frag} {mg mb : Loc} {x : Str} {pos : Pos} {v : Value} (T : Tb K mg mb P.base) (e : nsIn K mainGlobals x = some none) (hv : bootBuiltins x = some v) (hn : x ≠ ("__name__" : Str)) (hg : env.globals = mainGlobals := by rfl) (hb : env.builtins = builtinsNs := by rfl) (hk : env.scope.kind = .function := by rfl)
    (hx : env.kindOf x = some .globalImplicit := by rfl) (hd : (x == ("__debug__" : Str)) = false := by rfl) {Q E : Value → Shared → Prop} (S : St P Y s.heap s.gens s.os) (q : Q v s) : wpAny (model prog w) A (eval (.Name x pos) env) Q E s :=
  Name_function_global hk hx (loadGlobal_builtin (by rw [hg]; exact T.g.keeps S.bs) (mg_none_of T.X T.g e) (by rw [hb]; exact T.b.keeps S.bs) ((T.bi x hn).trans hv) q) hd

/-- try, one clause that takes what is raised -/
theorem ys_try {K : Frag} {mg mb : Loc} {x : Str} {np hpos pos : Pos} {X T' : String} {body suite : List Stmt} {b₀ : Stmt} {L : Addr} {chain : List Env} (S : St P Y s.heap s.gens s.os) (hch : P.chain = env :: chain) (T : Tb K mg mb P.base) (hfr : A.frames = some P.chain) (hf : env.frame = some L)
    (hv : bootBuiltins x = some (.type T')) (hn : nsIn K mainGlobals x = some none) (hx0 : x ≠ ("__name__" : Str))
    (hexc : isSubtype (.type T') (.type "BaseException") = pure true) (hnt : isSubtype (.type ((Manifest.find? T').elim "type" fun y => y.metatype)) (.type "tuple") = pure false) (hsub : isSubtype (.type X) (.type T') = pure true)
    (J : Sy → Prop)
    (hb : ∀ Eb : Value → Shared → Prop, (∀ s₁ s₂ e a0 Y₁, J Y₁ → St P Y₁ s₁.heap s₁.gens s₁.os → Fly P.chain s₁ s₂ e (.type X) a0 → Eb (.ref e) s₂) → Wp (model prog w) A (execs body env) (Nx (fun s' => Wp (model prog w) A (execs rest env) Q E s') Q) Eb s)
    (hs : ∀ s₂ e Y₁ (E' : Value → Shared → Prop), J Y₁ → St P Y₁ s₂.heap s₂.gens s₂.os → Wp (model prog w) (A.mark (some (.ref e))) (execs (b₀ :: suite) env) (Nx (fun s' => Wp (model prog w) A (execs rest env) Q E s') Q) E' s₂)
    (hg : env.globals = mainGlobals := by rfl) (hbn : env.builtins = builtinsNs := by rfl) (hk : env.scope.kind = .function := by rfl)
    (hx : env.kindOf x = some .globalImplicit := by rfl) (hd : (x == ("__debug__" : Str)) = false := by rfl) :
    Wp (model prog w) A (execs (.Try body [.ExceptHandler (some (.Name x np)) none (b₀ :: suite) hpos] [] [] pos :: rest) env) Q E s := by
  refine ⟨wpAny_execs_cons (wpAny_Try_except (wpAny_mono (hb (fun e s₁ => wpAny (model prog w) A (noteFrame e env) (fun _ s₂ => wpAny (model prog w) A (setFlight e none) (fun _ s₃ => wpAny (model prog w) A (handleBy e env [.ExceptHandler (some (.Name x np)) none (b₀ :: suite) hpos]) (fun f s' => match f with | .next => wpAny (model prog w) A (execs rest env) Q E s' | f => Q f s') E s₃) E s₂) E s₁) ?_).go (fun f s₁ z => ?_) fun e s₁ z => z))⟩
  · intro s₁ s₂ e a0 Y₁ hJ S₁ F
    have hch' := hch
    rw [hch'] at F hfr
    have S₁' := S₁.at
    refine noteFly hfr hf F fun s₃ H₃ => landHeld H₃ fun s₄ F₄ => ?_
    rw [hch'] at S₁'
    have S₄ := S₁.grow (hch ▸ F₄.gr S₁')
    refine wpAny_handleBy_builtin (b := true) hexc hnt hsub (ExV.bltnA T hn hv hx0 hg hbn hk hx hd S₄ ⟨rfl, (let ⟨oe, vs, h1, h2, _⟩ := Fly_there F₄; ⟨oe, h1, h2⟩), ?_⟩)
    rw [if_pos rfl]
    refine lands_againW F₄.fl fun h₅ hf₅ up₅ => ?_
    have F₅ : Fly (env :: chain) s₁ { s₄ with heap := h₅ } e (.type X) a0 := ⟨hf₅, F₄.up.trans up₅, F₄.os, F₄.gs⟩
    have S₅ := S₁.grow (hch ▸ F₅.gr S₁')
    refine wpAny_mono (hs _ e Y₁ _ hJ S₅).go (fun f s' z => ?_) fun _ _ z => z
    cases f <;> first | exact z.go.go | exact z.go
  · cases f <;> first | exact wpAny_execs_nil z.go.go | exact z.go

theorem ExS.find {o e : Expr} {apos pos : Pos} {x y : Str} (h : ExS prog w A env P Y o x) (h' : ExS prog w A env P Y e y)
    (hbase : attributeBase o (Str.ofString "find") env (eval o env) = eval o env := by rfl) (hs : starEach [e] env = [(false, eval e env)] := by rfl) (hline : (apos.endLine == pos.line) = true := by rfl) :
    ExI prog w A env P Y (.Call (.Attribute o (Str.ofString "find") apos) [e] [] pos) (Txt.find x y) := .mk fun s Q E S q => by
  refine Call_method1 hbase hs hline (h.go s _ _ S fun v s1 G1 hv => ?_)
  obtain ⟨t, rfl⟩ := hv
  refine SB.find (h'.go s1 _ _ (S.grow G1) fun v s2 G2 hv => ?_)
  obtain ⟨u, rfl⟩ := hv
  exact ⟨y, u, rfl, q _ _ ((G1.trans G2).toks _) ⟨_, rfl⟩⟩

theorem Dats.append {X : List Addr} {h₀ h : Heap} {vs vs' : List Value} {ds ds' : List PyData} {n : Bool} (x : Dats X h₀ h vs ds n) (y : Dats X h₀ h vs' ds' n) : Dats X h₀ h (vs ++ vs') (ds ++ ds') n := by
  obtain ⟨as, r, q⟩ := x
  obtain ⟨bs, r', q'⟩ := y
  exact ⟨as ++ bs, comp_w.readsAll_append r r', fun a ha => (List.mem_append.mp ha).elim (q a) (q' a)⟩
theorem ExD.addL {l r : Expr} {pos : Pos} {ds ds' : List PyData} {n : Bool} (h : ExD prog w A env P Y l (.list ds) n) (h' : ExD prog w A env P Y r (.list ds') n) (hsz : ds.length + ds'.length ≤ sizeLine) : ExD prog w A env P Y (.BinOp l .Add r pos) (.list (ds ++ ds')) n := .mk fun s Q E S q => by
  refine wpAny_BinOp (h.go s _ _ S fun v s1 G1 hv => ?_)
  refine h'.go s1 _ _ (S.grow G1) fun v' s2 G2 hv' => ?_
  obtain ⟨a, vs, rfl, hl, hds, _⟩ := (hv.gr G2).isList
  obtain ⟨b, ws, rfl, hl', hds', _⟩ := hv'.isList
  have S2 := (S.grow G1).grow G2
  have hlen : vs.length + ws.length ≤ sizeLine := by rw [hds.len, hds'.len]; exact hsz
  obtain ⟨⟨cls, dd, data, sl⟩, ho, hc, n, hd⟩ := id hl
  obtain ⟨⟨cls2, dd2, data2, sl2⟩, ho2, hc2, n2, hd2⟩ := id hl'
  simp only at hc hd hc2 hd2
  subst hc hd hc2 hd2
  have e : vs.toArray ++ ws.toArray = (vs ++ ws).toArray := by simp
  refine concat_meets ⟨_, ho, rfl⟩ ⟨_, ho2, rfl⟩ noFill_list_add seq_list_add PySem.F.slot_list_add PySem.F.entry_list_add (PySem.F.args_list_add_2 _ _) (list_addW a b vs.toArray ws.toArray n n2 dd dd2 sl sl2 (by simpa using hlen)) ⟨ho, ho2, ?_⟩
  rw [e]
  obtain ⟨f1, f2⟩ := S2.fresh (heap_new s2.heap)
  have G3 : Gr (frs P.chain) s2 { s2 with heap := s2.heap.push { cls := .type "list", data := .seq (vs ++ ws).toArray } } := Gr.push _
  exact q _ _ ((G1.trans G2).trans G3) (Dat.ofList (vs := vs ++ ws) ⟨_, Heap.get?_push_size _ rfl, rfl, 0, rfl⟩ ((hds.append hds').gr G3) f1 fun _ => f2)
end
end Mine
namespace Mine
/-- what a loop does with an exception of its body -/
noncomputable def Hn (env : Env) (e : Value) : Sem Fin := (do noteFrame e env; theTreesLotGoes e : Sem Unit).bind fun _ => .raise e
/-- what a statement does with a loop's end -/
noncomputable def Kf (env : Env) (K : Flow → Sem Fin) (H : Value → Sem Fin) (gd : Bool → Bool) (lv : List Value → List Value) (r : Result) : Sem Fin :=
  ((match r with | .ok f => (.pure f : Sem Flow) | .error e => .raise e).onRaise fun (x : Value) => do
        if (← field x 1) == Value.none then unsupported "frame.own-activation:exception-without-traceback"
        setFlight x env.frame).wrap K H gd lv
section
variable {M : Model} {A : Around} {R : GenEnd} {Y : Protocol} {n : Nat} {s₀ : Shared} {c : Code} {fs : List Frame} {s : Shared} {env : Env}
  {K : Flow → Sem Fin} {H : Value → Sem Fin} {gd : Bool → Bool} {lv : List Value → List Value}

theorem seg_st {st : Stmt} {rest : List Stmt} (h : wpAny M (A.over c fs) (exec st env) (fun f s' => match f with | .next => Seg M A R Y n s₀ c ((execs rest env).wrap K H gd lv) fs s' | f => Seg M A R Y n s₀ c (K f) fs s') (fun x s' => Seg M A R Y n s₀ c (H x) fs s') s) :
    Seg M A R Y n s₀ c ((execs (st :: rest) env).wrap K H gd lv) fs s := by
  refine seg_execs_cons (seg_wrap (wpAny_mono h (fun f s' h' => ?_) fun _ _ x => x))
  cases f <;> exact h'
theorem seg_If {test : Expr} {body orelse : List Stmt} {pos : Pos} (h : wpAny M (A.over c fs) (isTrue test env (eval test env)) (fun b s' => Seg M A R Y n s₀ c ((execs (if b = true then body else orelse) env).wrap K H gd lv) fs s') (fun x s' => Seg M A R Y n s₀ c (H x) fs s') s) :
    Seg M A R Y n s₀ c ((exec (.If test body orelse pos) env).wrap K H gd lv) fs s := by
  rw [arm_exec_If]
  refine seg_bind_wrap (wpAny_standAt (seg_bind_wrap (wpAny_mono h (fun b s' hb => ?_) fun _ _ x => x)))
  cases b <;> exact hb
theorem seg_For {target iter : Expr} {body orelse : List Stmt} {pos : Pos}
    (h : wpAny M (A.over c fs) (eval iter env) (fun x s₁ => wpAny M (A.over c fs) (pyIter x) (fun it s₂ =>
      ∀ p, Seg M A R Y n s₀ (.forLoop target it body orelse env) (M.den (.forLoop target it body orelse env)) (.ret (Kf env K H gd lv) none (gd false) (lv []) c p [] :: fs) s₂) (fun x s' => Seg M A R Y n s₀ c (H x) fs s') s₁) (fun x s' => Seg M A R Y n s₀ c (H x) fs s') s)
    (hs : ∀ x, foldedSetIterable iter env x = pure x := by intro _; rfl) : Seg M A R Y n s₀ c ((exec (.For target iter body orelse pos) env).wrap K H gd lv) fs s := by
  rw [exec_For]
  refine seg_bind_wrap (wpAny_standAt (seg_bind_wrap (wpAny_mono h (fun x s₁ h₁ => ?_) fun _ _ e => e)))
  refine seg_bind_wrap (wpAny_of_eq (hs x) (seg_bind_wrap (wpAny_standAt (seg_bind_wrap (wpAny_holding (wpAny_mono h₁ (fun it s₂ h₂ => ?_) fun _ _ e => e))))))
  exact seg_call h₂
theorem seg_While' {test : Expr} {body orelse : List Stmt} {pos : Pos}
    (h : ∀ p, Seg M A R Y n s₀ (.whileLoop test body orelse env) (M.den (.whileLoop test body orelse env)) (.ret (Kf env K H gd lv) none (gd false) (lv []) c p [] :: fs) s) :
    Seg M A R Y n s₀ c ((exec (.While test body orelse pos) env).wrap K H gd lv) fs s := seg_While h
end
section
variable {prog : Program} {w : World} {A : Around} {R : GenEnd} {Y : Protocol} {n : Nat} {s₀ : Shared} {fs : List Frame} {s : Shared} {env : Env}
theorem seg_forLoop {x : Str} {px : Pos} {it : Value} {body : List Stmt}
    (h : wpAny (model prog w) (A.over (.forLoop (.Name x px) it body [] env) fs) (pyNext it) (fun r s₁ => match r with
      | none => Seg (model prog w) A R Y n s₀ (.forLoop (.Name x px) it body [] env) (.pure (.again (.block [] env))) fs s₁
      | some v => wpAny (model prog w) (A.over (.forLoop (.Name x px) it body [] env) fs) (storeName env x v) (fun _ s₂ =>
          Seg (model prog w) A R Y n s₀ (.forLoop (.Name x px) it body [] env) ((execs body env).wrap (fun f => match f with
            | .next | .cont => .pure (.again (.forLoop (.Name x px) it body [] env))
            | .brk => .pure (.done .next)
            | .ret v => .pure (.done (.ret v))) (Hn env) id id) fs s₂) (fun e s' => Seg (model prog w) A R Y n s₀ (.forLoop (.Name x px) it body [] env) (Hn env e) fs s') s₁)
      (fun e s' => Seg (model prog w) A R Y n s₀ (.forLoop (.Name x px) it body [] env) (Hn env e) fs s') s) :
    Seg (model prog w) A R Y n s₀ (.forLoop (.Name x px) it body [] env) ((model prog w).den (.forLoop (.Name x px) it body [] env)) fs s := by
  show Seg _ A R Y n s₀ _ ((forTurn (.Name x px) it body [] env).onRaise (fun x => do noteFrame x env; theTreesLotGoes x)) fs s
  simp only [forTurn]
  rw [Sem.onRaise_eq_wrap]
  refine seg_bind_wrap (wpAny_standAt ?_)
  refine seg_bind_wrap (wpAny_onRaise (wpAny_mono h (fun r s₁ h₁ => ?_) fun _ _ h' => wpAny_standAt h'))
  cases r with
  | none => exact h₁
  | some v =>
    refine seg_bind_wrap (wpAny_of_eq (rfl : letOwnedTupleGo (.Name x px) it v = pure ()) ?_)
    refine seg_bind_wrap (wpAny_assign_Name (wpAny_mono h₁ (fun _ s₂ h₂ => ?_) fun _ _ e => e))
    show Seg _ A R Y n s₀ _ (Sem.wrap _ _ _ _ ((execs body env) >>= _)) fs s₂
    rw [Sem.bind_eq_wrap', Sem.wrap_wrap]
    have key : ∀ K' : Flow → Sem Fin, (∀ f, K' f = match f with
            | .next | .cont => .pure (.again (.forLoop (.Name x px) it body [] env))
            | .brk => .pure (.done .next)
            | .ret v => .pure (.done (.ret v))) → Seg (model prog w) A R Y n s₀ (.forLoop (.Name x px) it body [] env) ((execs body env).wrap K' (Hn env) id id) fs s₂ := fun K' hK => by
      rw [funext hK]; exact h₂
    exact key _ fun f => by cases f <;> rfl
/-- a loop with an empty else ends -/
theorem seg_forEnd {x : Str} {px : Pos} {it : Value} {body : List Stmt} {k h g l c₁ p₁ kp} (hk : Seg (model prog w) A R Y n s₀ c₁ (k (.ok .next)) fs s) :
    Seg (model prog w) A R Y n s₀ (.forLoop (.Name x px) it body [] env) (.pure (.again (.block [] env))) (.ret k h g l c₁ p₁ kp :: fs) s :=
  seg_again rfl (by
    show Seg _ A R Y n s₀ _ (.pure (.done .next)) _ s
    exact seg_leaf (.ok .next) hk)
theorem seg_leave {k h g l c₁ p₁ kp} {c : Code} (r : Result) (hk : Seg (model prog w) A R Y n s₀ c₁ (k r) fs s) : Seg (model prog w) A R Y n s₀ c (leafOf r) (.ret k h g l c₁ p₁ kp :: fs) s := seg_leaf r hk
end

section
variable {prog : Program} {w : World} {A : Around} {E : Value → Shared → Prop} {s : Shared}
theorem notStop_ValueError : isSubtype (.type "ValueError") (.type "StopIteration") = pure false := by rw [isSubtype_type]; kernel_rfl
theorem pyNext_gen {a : Addr} {g n : Nat} {gs : GenState} {P : Nat → Shared → Shared → Prop} {PE : Nat → Shared → Addr → Shared → Prop} {Y : Protocol} {Q : Option Value → Shared → Prop} (hh : A.handled = none)
    (hl : s.heap.NoLimit) (hroom : A.depth < recursionLimit)
    (hg : s.heap.IsGen a g) (hgs : s.gens[g]? = some gs)
    (hgo : gs.Goes (model prog w) A.in1 (fun n s₀ r s₁ => (r = .ok (.ret .none) ∧ P n s₀ s₁) ∨ ∃ e, r = .error (.ref e) ∧ PE n s₀ e s₁) Y n (.send .none) (s.setGen g .running))
    (hY : ∀ v s₁ gs', gs'.bare = true → Y (n - 1) (s.setGen g .running) v s₁ (fun r' s'' => match n with
        | 0 => False
        | m + 1 => gs'.Goes (model prog w) A.in1 (fun n s₀ r s₁ => (r = .ok (.ret .none) ∧ P n s₀ s₁) ∨ ∃ e, r = .error (.ref e) ∧ PE n s₀ e s₁) Y m r' s'') → Q (some v) (s₁.setGen g gs'))
    (hP : ∀ s₁, P n (s.setGen g .running) s₁ → ∀ h', (∀ b o, s₁.heap.get? b = some o → h'.get? b = some o) → Q none { s₁.setGen g .finished with heap := h' })
    (hE : ∀ e s₁, PE n (s.setGen g .running) e s₁ → (s₁.TypeIs (.ref e) "ValueError" ∧ s₁.heap.IsGen a g) ∧ E (.ref e) (s₁.setGen g .finished)) :
    wpAny (model prog w) A (pyNext (.ref a)) Q E s := by
  unfold pyNext
  refine wpAny_bind (wpAny_attempt (wpAny_callSpecial?_slot (name := Str.ofString "__next__") hg.typeIs slot_gen_next
    (wpAny_call_entry slot_gen_next hg.typeIs entry_gen_next ?_ (args_gen_next _))))
  show wpAny _ _ (Builtin.Generator.genWake (.ref a) (.send .none)) _ _ s
  unfold Builtin.Generator.genWake
  refine wpAny_bind (wpAny_holding (wpAny_genNumber hg (wpAny_bind (wpAny_genState hgs ?_))))
  cases gs with
  | running => exact hgo.elim
  | finished => exact hgo.elim
  | _ =>
    refine wpAny_bind (wpAny_roomToWake hl hroom ?_)
    show wpAny _ _ (.resume g (.send .none) [] _) _ _ s
    refine wpAny_resumeQ hgs hgo (fun x s₁ hx => ?_) (fun v s₁ gs' hb hv => ?_)
    · rcases hx with ⟨rfl, hp⟩ | ⟨e, rfl, hp⟩
      · show wpAny _ _ (newExc (.type "StopIteration") [] >>= _) _ _ _
        refine wpAny_bind ?_
        simp only [newExc, newTuple]
        refine wpAny_bind (wpAny_newObj_type ?_ (by size_fits))
        refine wpAny_bind (m := firstArgMember _ _) (wpAny_of_eq (a := Value.none) (by first | rfl | (simp only [firstArgMember]; rfl)) ?_)
        refine wpAny_newObj_type ?_ (by size_fits)
        simp only [raiseNew]
        refine wpAny_bind (wpAny_bind (wpAny_handled ?_))
        rw [show A.in1.handled = none from hh]
        refine wpAny_throw ?_
        refine wpAny_bind (wpAny_isInstance (T := "StopIteration") (b := true) ⟨_, Heap.get?_push_size _ rfl, rfl⟩ isSubtype_stop ?_)
        exact wpAny_pure (hP s₁ hp _ fun b o hb => Heap.get?_push_of_some _ (Heap.get?_push_of_some _ hb))
      · obtain ⟨⟨ht, hga⟩, hq⟩ := hE e s₁ hp
        obtain ⟨o, nm, qn, ho, hc, hd, hsl⟩ := hga
        show wpAny _ _ (Builtin.Generator.genLeft (.ref a) (.ref e)) _ _ _
        unfold Builtin.Generator.genLeft
        refine wpAny_bind ?_
        unfold Builtin.Generator.madeByALambda
        refine wpAny_bind (wpAny_load (s := s₁.setGen g .finished) (o := o) ho ?_)
        rw [hd]
        refine wpAny_pure ?_
        refine wpAny_bind (wpAny_isInstance (T := "ValueError") (b := false) (s := s₁.setGen g .finished) ht notStop_ValueError ?_)
        rw [Bool.and_false]
        rw [if_neg (by decide)]
        unfold Builtin.Generator.genEscaped
        refine wpAny_bind (wpAny_isInstance (T := "ValueError") (b := false) (s := s₁.setGen g .finished) ht notStop_ValueError ?_)
        rw [if_pos (by decide)]
        refine wpAny_throw ?_
        refine wpAny_bind (wpAny_isInstance (T := "ValueError") (b := false) (s := s₁.setGen g .finished) ht notStop_ValueError ?_)
        rw [if_neg (by decide)]
        exact wpAny_throw hq
    · exact wpAny_pure ⟨v, rfl, wpAny_pure (hY v s₁ gs' hb hv)⟩
end
end Mine
namespace Mine
section
variable {M : Model} {A : Around} {E : Value → Shared → Prop}
theorem noteMade {base : Heap} {env : Env} {outer : List Env} {L e : Addr} {cls : String} {args : List Value} {Q : Unit → Shared → Prop} {s : Shared} {h' : Heap} {tk : Nat} (N : At base (env :: outer) s) (hfr : A.frames = some (env :: outer)) (hf : env.frame = some L) (hx : Heap.MadeExc s.heap h' e cls args)
    (h : ∀ s2 t, Held (env :: outer) s s2 e (.type cls) (.ref t) L → s2.heap.TupAt t args → s2.gens = s.gens → Q () s2) : wpAny M A (noteFrame (.ref e) env) Q E { s with heap := h', toks := tk } := by
  obtain ⟨t, he, htn, ht⟩ := hx.there
  have hb : (del (frs (env :: outer)) s.heap).StaysIn h' := fun b o z => hx.keeps b o (del_some z).2
  have hen : (del (frs (env :: outer)) s.heap).get? e = none := by
    cases q : (del (frs (env :: outer)) s.heap).get? e with
    | none => rfl
    | some o => have := (del_some q).2; rw [hx.new] at this; cases this
  unfold noteFrame
  simp only [hf]
  refine wpAny_bind (wpAny_field he rfl (x := .none) rfl ?_)
  rw [if_neg (by decide)]
  refine wpAny_entryW (base := del (frs (env :: outer)) s.heap) hfr (N.ffd.of_keeps fun b o hb hnf => ⟨o, hx.keeps b o hb, rfl⟩) hf he hb hen rfl (a0 := .ref t) (by simp) rfl fun h'' hN => ?_
  obtain ⟨k1, k2, k3, k4⟩ := hN
  exact h _ t ⟨⟨k1, hen, k2, k3⟩, (Heap.UpToSlots.of_keeps hx.keeps).trans k4, rfl, .refl _⟩ (Heap.TupAt.of_slots ⟨_, _, ht, rfl, rfl⟩ k4) rfl
theorem came' {chain : List Env} {env : Env} {L e : Addr} {cls a0 : Value} {s s' : Shared} {Q : Unit → Shared → Prop} (hf : env.frame = some L) (H : Held chain s s' e cls a0 L)
    (h : ∀ s2, Held chain s s2 e cls a0 L → s'.heap.UpToSlots s2.heap → s2.gens = s'.gens → Q () s2) : wpAny M A (do
      if (← field (.ref e) 1) == Value.none then unsupported "frame.own-activation:exception-without-traceback"
      setFlight (.ref e) env.frame) Q E s' := by
  obtain ⟨hkb, hen, hl, oe, vs, T, oT, ts, he, hcls, hd, h1, hnT, hTe, hT, hdT, h3⟩ := H.fl
  have hsz3 : 3 < ts.size := (Array.getElem?_eq_some_iff.mp h3).1
  have other : ∀ b, b ≠ T → (s'.heap.update T (Obj.mapFields (·.setIfInBounds 3 (rawInt L)))).get? b = s'.heap.get? b :=
    fun b hb => Heap.get?_update_other _ _ (Ne.symm hb)
  have noRecord : ∀ b o, s'.heap.get? b = some o → (∀ vs, o.data ≠ .fields vs) → b ≠ T := fun b o hb hnf q => by
    rw [q, hT] at hb; injection hb with hb; subst hb; exact hnf ts hdT
  refine wpAny_bind (wpAny_field he hd h1 ?_)
  rw [if_neg (by simp)]
  rw [hf]
  unfold setFlight
  refine wpAny_bind (wpAny_field he hd h1 ?_)
  rw [if_pos (show (Value.ref T != Value.none) = true from by simp)]
  refine wpAny_setField hT hdT hsz3 (h _ ⟨⟨fun b o hbo => (other b fun q => by rw [q, hnT] at hbo; cases hbo).trans (hkb b o hbo), hen,
    (hl.of_keeps fun b o hb hnf => ⟨o, (other b (noRecord b o hb hnf)).trans hb, rfl⟩), ?_⟩, ?_, H.os, H.gs⟩ (fun b o hb hn => ⟨o.slots, (other b (noRecord b o hb hn)).trans hb⟩) rfl)
  · exact ⟨oe, vs, T, _, _, (other e (Ne.symm hTe)).trans he, hcls, hd, h1, hnT, hTe, Heap.get?_update_self _ hT (Obj.isFreed_of_fields (Obj.data_mapFields hdT _)), Obj.data_mapFields hdT _, by simp [hsz3]⟩
  · exact H.up.trans fun b o hb hn => ⟨o.slots, (other b (noRecord b o hb hn)).trans hb⟩
theorem leaveHeld' {base : Heap} {chain : List Env} {env : Env} {s s₁ s' : Shared} {e L : Addr} {cls a0 : Value} {Q : Unit → Shared → Prop} (N : At base chain s) (G : Gr (frs chain) s s₁) (hL : s.heap.get? L = none) (hf : env.frame = some L)
    (H : Held (env :: chain) s₁ s' e cls a0 L) (h : ∀ s2, Fly chain s s2 e cls a0 → (del (frs (env :: chain)) s₁.heap).StaysIn s2.heap → s'.heap.UpToSlots s2.heap → Q () s2) : wpAny M A (leaving env (.ref e)) Q E s' := by
  unfold leaving
  refine wpAny_bind (wpAny_noteFrame_againW hf H.fl.2.2.2 ?_)
  refine wpAny_landsW H.fl fun h' hfl up => ?_
  obtain ⟨k1, k2, ⟨_, _, k3⟩, k4⟩ := hfl
  exact h _ (fly_out N G hL hf ⟨k1, k2, k3, k4⟩ (H.up.trans up) H.os H.gs) k1 up
theorem noteFly' {chain : List Env} {env : Env} {s s' : Shared} {e L : Addr} {cls a0 : Value} {Q : Unit → Shared → Prop} (hfr : A.frames = some (env :: chain)) (hf : env.frame = some L)
    (F : Fly (env :: chain) s s' e cls a0) (h : ∀ s2, Held (env :: chain) s s2 e cls a0 L → s'.heap.UpToSlots s2.heap → Q () s2) : wpAny M A (noteFrame (.ref e) env) Q E s' :=
  wpAny_looks_onW hfr hf F.fl fun h' hh up => h _ ⟨hh, F.up.trans up, F.os, F.gs⟩ up
theorem landHeld' {chain : List Env} {s s' : Shared} {e L : Addr} {cls a0 : Value} {Q : Unit → Shared → Prop}
    (H : Held chain s s' e cls a0 L) (h : ∀ s2, Fly chain s s2 e cls a0 → s'.heap.UpToSlots s2.heap → Q () s2) : wpAny M A (setFlight (.ref e) none) Q E s' :=
  wpAny_landsW H.fl fun h' hh up => h _ ⟨hh, H.up.trans up, H.os, H.gs⟩ up
theorem Fly.there {chain : List Env} {s s' : Shared} {e : Addr} {X : String} {a0 : Value} (H : Fly chain s s' e (.type X) a0) : s'.TypeIs (.ref e) X := let ⟨oe, vs, h1, h2, _⟩ := Fly_there H; ⟨oe, h1, h2⟩
end
end Mine
namespace Mine
theorem GG.set {a b : Array GenState} (x : GG a b) {g : Nat} (hg : a.size ≤ g) {gs : GenState} (hb : gs.bare = true) : GG a (b.setIfInBounds g gs) where
  bare := fun h y hy => by
    obtain ⟨i, hi, rfl⟩ := Array.mem_iff_getElem.mp hy
    rw [Array.getElem_setIfInBounds (by simpa using hi)]
    split
    · exact hb
    · exact x.bare h _ (Array.getElem_mem _)
  ext := fun i st e => by
    have hi : i < a.size := (Array.getElem?_eq_some_iff.mp e).1
    rw [Array.getElem?_setIfInBounds_ne (by (first | lia | omega))]
    exact x.ext i st e
theorem GG.push {a b : Array GenState} (x : GG a b) {gs : GenState} (hb : gs.bare = true) : GG a (b.push gs) where
  bare := fun h y hy => by
    rcases Array.mem_push.mp hy with q | rfl
    · exact x.bare h y q
    · exact hb
  ext := fun i st e => by
    have := x.ext i st e
    have hi : i < b.size := (Array.getElem?_eq_some_iff.mp this).1
    rw [Array.getElem?_push, if_neg (by (first | lia | omega))]
    exact this
theorem GG.size {a b : Array GenState} (x : GG a b) : a.size ≤ b.size := by
  rcases Nat.lt_or_ge b.size a.size with h | h
  · have := x.ext b.size a[b.size] (by simp [h])
    have := (Array.getElem?_eq_some_iff.mp this).1
    (first | lia | omega)
  · exact h
section
variable {P : Pa} {Y : Sy} {s s' : Shared}
/-- a pull of a generator: its names C and its iterator I are changed -/
theorem St.pull (S : St P Y s.heap s.gens s.os) {C I : Addr} {h' : Heap} {g' : Array GenState} {m : Loc} (hk : ∀ b o, b ≠ C → b ≠ I → s.heap.get? b = some o → h'.get? b = some o) (hC : s.heap.Ns C m)
    (hI : s.heap.get? I = none ∨ ∃ o vs, s.heap.get? I = some o ∧ o.data = .fields vs) (hg : GG P.g₀ g') (hCL : C ≠ P.L) (hCf : C ∉ frs P.chain) (bC : P.base.get? C = none) (bI : P.base.get? I = none) (nC : P.h₀.get? C = none) (nI : P.h₀.get? I = none) (xC : C ∉ P.X) (xI : I ∉ P.X) (hd : Y.dat = []) :
    St P Y h' g' s.os := by
  obtain ⟨o₀, ho₀, d1, d2, d3⟩ := ns_not hC
  have notI : ∀ {b : Addr} {o : Obj}, s.heap.get? b = some o → (∀ vs, o.data ≠ .fields vs) → b ≠ I := fun {b o} e hn q => by
    rcases hI with h | ⟨o', vs, h, hd'⟩
    · rw [q, h] at e; cases e
    · rw [q, h] at e; cases e; exact hn vs hd'
  have kD : ∀ {b : Addr} {o : Obj}, b ≠ C → s.heap.get? b = some o → (∀ vs, o.data ≠ .fields vs) → h'.get? b = some o := fun {b o} hb e hn => hk b o hb (notI e hn) e
  have nsK : ∀ {b : Addr} {m : Loc}, b ≠ C → s.heap.Ns b m → h'.Ns b m := fun {b m} hb y => by
    obtain ⟨o, ho, h1, _⟩ := ns_not y
    exact y.at' fun o' e => kD hb e (by rw [ho] at e; cases e; exact h1)
  have ceK : ∀ {b : Addr} {v : Option Value}, s.heap.IsCell b v → h'.IsCell b v := fun {b v} y => by
    obtain ⟨o, ho, hd'⟩ := y
    refine ⟨o, kD (fun q => ?_) ho (fun vs z => by rw [hd'] at z; cases z), hd'⟩
    rw [q, ho₀] at ho; cases ho; exact d3 _ hd'
  have liK : ∀ {b : Addr} {vs : Array Value}, PlainL s.heap b vs → PlainL h' b vs := fun {b vs} y => by
    obtain ⟨o, n, ho, h1, h2, hd'⟩ := y
    refine ⟨o, n, kD (fun q => ?_) ho (fun vs z => by rw [hd'] at z; cases z), h1, h2, hd'⟩
    rw [q, ho₀] at ho; cases ho; exact d2 _ _ hd'
  exact
  { ch := fun b o hb e => by
      obtain ⟨k1, sl, e1⟩ := S.ch b o hb e
      have hbC : b ≠ C := fun q => by rw [q, nC] at e; cases e
      have hbI : b ≠ I := fun q => by rw [q, nI] at e; cases e
      exact ⟨fun hf => hk b o hbC hbI (k1 hf), sl, hk b _ hbC hbI e1⟩
    bs := fun b o e => hk b o (fun q => by rw [q, bC] at e; cases e) (fun q => by rw [q, bI] at e; cases e) (S.bs b o e)
    ff := by
      have : ∀ {l : List Env}, (∀ f ∈ frs l, f ≠ C) → s.heap.FunFrames P.base l → h'.FunFrames P.base l := by
        intro l hl hf
        induction l with
        | nil => trivial
        | cons e l ih =>
          obtain ⟨a1, ⟨L, o, a2, a3, a4, a5⟩, r⟩ := hf
          have hmem : ∀ f ∈ frs l, f ∈ frs (e :: l) := fun f hf => by
            show f ∈ List.filterMap (·.frame) (e :: l)
            rw [List.filterMap_cons, a2]; exact List.mem_cons_of_mem _ hf
          have hL : L ∈ frs (e :: l) := by
            show L ∈ List.filterMap (·.frame) (e :: l)
            rw [List.filterMap_cons, a2]; exact List.mem_cons_self
          exact ⟨a1, ⟨L, o, a2, a3, kD (hl L hL) a4 a5, a5⟩, ih (fun f hf => hl f (hmem f hf)) r⟩
      exact this (fun f hf e => hCf (e ▸ hf)) S.ff
    fn := fun f hf => let ⟨m, y⟩ := S.fn f hf; ⟨m, nsK (fun e => hCf (e ▸ hf)) y⟩
    ns := nsK (Ne.symm hCL) S.ns
    ce := fun n c hc => ceK (S.ce n c hc)
    ap := S.ap
    oc := fun c hc => let ⟨v, y⟩ := S.oc c hc; ⟨v, ceK y⟩
    li := fun p hp => liK (S.li p hp)
    nd := S.nd, nf := S.nf, nb := S.nb, nx := S.nx
    xi := fun a ha => let ⟨o, e⟩ := S.xi a ha; ⟨o, hk a o (fun q => xC (q ▸ ha)) (fun q => xI (q ▸ ha)) e⟩
    da := fun p hp => by rw [hd] at hp; cases hp
    gs := hg
    os := S.os }
/-- a local dict is changed -/
theorem St.setM (S : St P Y s.heap s.gens s.os) {h' : Heap} {m' : List (Str × Value)} (hn : h'.Ns P.L (fun y => m'.lookup y)) (hs : Heap.SameBut P.L s.heap h') : St P { Y with m := m' } h' s.gens s.os :=
  S.but (own' := Y.own) (cm' := Y.cm) hs List.mem_cons_self rfl (fun p hp => (S.li p hp).extBut hs.extBut (S.L_ne_list hp)) hn
    (fun n c hc => (S.ce n c hc).sameBut hs (S.L_ne_cell (S.ce n c hc)))
    (fun c hc => let ⟨v, y⟩ := S.oc c hc; ⟨v, y.sameBut hs (S.L_ne_cell y)⟩)
/-- an own list becomes data -/
theorem St.release {D : Addr} {ys : List Value} {own : List (Addr × List Value)} {dat : List (Value × PyData × Bool)} {m cm : List (Str × Value)} {ds : List PyData} {h : Heap} {g : Array GenState} {o : OsState} (S : St P ⟨(D, ys) :: own, dat, m, cm⟩ h g o) (hX : D ∉ P.X)
    (hd : Dats (mu P ⟨own, dat, m, cm⟩) P.h₀ h ys ds true) : St P ⟨own, (.ref D, .list ds, true) :: dat, m, cm⟩ h g o := by
  have sub : ∀ a ∈ mu P ⟨own, dat, m, cm⟩, a ∈ mu P ⟨(D, ys) :: own, dat, m, cm⟩ := fun a ha => by
    simp only [mu, List.mem_cons, List.mem_append, List.map_cons] at ha ⊢
    rcases ha with h | h | h <;> simp [h]
  have hnd := List.nodup_cons.mp S.nd
  have hD0 : P.h₀.get? D = none := (S.nx D (by simp [mu])).elim (fun q => absurd q hX) id
  have hl := (S.li (D, ys) (by simp)).isList
  have hDm : D ∉ mu P ⟨own, dat, m, cm⟩ := by
    intro hm
    rcases List.mem_cons.mp hm with q | hm
    · exact S.L_ne_list (p := (D, ys)) (by simp) q
    · rcases List.mem_append.mp hm with hm | hm
      · obtain ⟨v, y⟩ := S.oc D hm
        exact S.list_ne_cell hl y rfl
      · exact hnd.1 hm
  exact
  { ch := S.ch, bs := S.bs, ff := S.ff, fn := S.fn, ns := S.ns, ce := S.ce, ap := S.ap, oc := S.oc, gs := S.gs, os := S.os, xi := S.xi
    li := fun p hp => S.li p (List.mem_cons_of_mem _ hp)
    nd := hnd.2
    nf := fun a ha => S.nf a (by
      rcases List.mem_append.mp ha with h | h
      · exact List.mem_append_left _ h
      · exact List.mem_append_right _ (List.mem_cons_of_mem _ h))
    nb := fun a ha => S.nb a (sub a ha)
    nx := fun a ha => S.nx a (sub a ha)
    da := fun p hp => by
      rcases List.mem_cons.mp hp with rfl | hp
      · exact Dat.ofList hl hd hDm fun _ => hD0
      · obtain ⟨as, r, q⟩ := S.da p hp
        exact ⟨as, r, fun a ha => ⟨fun hm => (q a ha).1 (sub a hm), (q a ha).2⟩⟩ }
end
/-- values that are these ints -/
inductive IV : List Value → List Int → Prop
  | nil : IV [] []
  | cons {t vs} {i : Int} {is} : IV vs is → IV (.int i t :: vs) (i :: is)
theorem IV.snoc {vs : List Value} {is : List Int} (h : IV vs is) (i : Int) (t : Tok) : IV (vs ++ [.int i t]) (is ++ [i]) := by
  induction h with
  | nil => exact .cons .nil
  | cons _ ih => exact .cons ih
theorem IV.dats {X : List Addr} {h₀ h : Heap} {vs : List Value} {is : List Int} {n : Bool} (x : IV vs is) : Dats X h₀ h vs (is.map .int) n := by
  induction x with
  | nil => exact .nil
  | cons _ ih => exact .cons (Dat.int ..) ih
theorem IV.len {vs : List Value} {is : List Int} (h : IV vs is) : vs.length = is.length := by
  induction h with
  | nil => rfl
  | cons _ ih => simp [ih]
section
variable {prog : Program} {w : World} {A : Around} {env : Env} {P : Pa} {Y : Sy} {s : Shared} {Q : Flow → Shared → Prop} {E : Value → Shared → Prop} {rest : List Stmt}
/-- x.append(e), x an own list -/
theorem ys_append {x : Str} {px ap cp pos : Pos} {e : Expr} {D : Addr} {xs : List Value} {pre post : List (Addr × List Value)} {V : Value → Heap → Prop} (S : St P Y s.heap s.gens s.os) (hm : Y.m.lookup x = some (.ref D)) (ho : Y.own = pre ++ (D, xs) :: post) (hsz : xs.length ≤ sizeLine) (he : Ex prog w A env P Y e V)
    (h : ∀ v (s' s₁ : Shared), V v s₁.heap → St P Y s₁.heap s₁.gens s₁.os → Heap.SameBut D s₁.heap s'.heap → St P { Y with own := pre ++ (D, xs ++ [v]) :: post } s'.heap s'.gens s'.os → Wp (model prog w) A (execs rest env) Q E s')
    (hL : env.locals = P.L := by rfl) (hk : env.scope.kind = .function := by rfl) (hx : env.kindOf x = some .local := by rfl) (hd : (x == ("__debug__" : Str)) = false := by rfl)
    (hbase : attributeBase (.Name x px) "append" env (eval (.Name x px) env) = eval (.Name x px) env := by rfl) (htrees : backTo cp (starEach [e] env) = [(false, eval e env)] := by rfl) (hstar : starEach [e] env = [(false, eval e env)] := by rfl) (hline : (ap.endLine == cp.line) = true := by rfl)
    (hi : interactive env = false := by rfl) (hs : swapsWith (.Call (.Attribute (.Name x px) "append" ap) [e] [] cp) none pos.line env = pure false := by rfl) :
    Wp (model prog w) A (execs (.Expr (.Call (.Attribute (.Name x px) "append" ap) [e] [] cp) pos :: rest) env) Q E s := by
  refine ⟨wpAny_execs_cons (wpAny_Expr_any (wpAny_Call_append hbase (by rw [hstar]; rfl) hline htrees ?_) hi hs)⟩
  refine (ExV.loc (prog := prog) (w := w) (A := A) (pos := px) hm hL hk hx hd).go s _ _ S fun v s1 G1 hv => ?_
  subst hv
  have S1 := S.grow G1
  refine ⟨D, xs.toArray, rfl, S1.li (D, xs) (by rw [ho]; simp), he.go s1 _ _ S1 fun v s2 G2 hv => ?_⟩
  have S2 := S1.grow G2
  refine list_append_plainL (S2.li (D, xs) (by rw [ho]; simp)) (fun h' hl' hs' => ?_) (by simpa using hsz)
  have hl'' : PlainL h' D (xs ++ [v]).toArray := by simpa using hl'
  exact (h v { s2 with heap := h' } s2 hv S2 hs' (S2.setO (ys := xs ++ [v]) ho hl'' hs')).go

/-- try, one clause with a name that takes what is raised (a noted exception) -/
theorem ys_tryA {K : Frag} {mg mb : Loc} {x nm : Str} {np hpos pos : Pos} {X T' : String} {body suite : List Stmt} {b₀ : Stmt} {L : Addr} {chain : List Env} {words : List Value → Prop} (S : St P Y s.heap s.gens s.os) (hch : P.chain = env :: chain) (T : Tb K mg mb P.base) (hfr : A.frames = some P.chain) (hf : env.frame = some L)
    (hv : bootBuiltins x = some (.type T')) (hn : nsIn K mainGlobals x = some none) (hx0 : x ≠ ("__name__" : Str))
    (hexc : isSubtype (.type T') (.type "BaseException") = pure true) (hnt : isSubtype (.type ((Manifest.find? T').elim "type" fun y => y.metatype)) (.type "tuple") = pure false) (hsub : isSubtype (.type X) (.type T') = pure true)
    (J : Sy → Prop)
    (hb : ∀ Eb : Value → Shared → Prop, (∀ s₁ s₂ e t args Y₁, J Y₁ → St P Y₁ s₁.heap s₁.gens s₁.os → Held P.chain s₁ s₂ e (.type X) (.ref t) L → words args → s₂.heap.TupAt t args → Eb (.ref e) s₂) → Wp (model prog w) A (execs body env) (Nx (fun s' => Wp (model prog w) A (execs rest env) Q E s') Q) Eb s)
    (hs : ∀ s₂ e t args Y₁ (E' : Value → Shared → Prop), J Y₁ → St P (Y₁.set nm (.ref e)) s₂.heap s₂.gens s₂.os → s₂.heap.ExcAt e X (.ref t) → words args → s₂.heap.TupAt t args →
      Wp (model prog w) (A.mark (some (.ref e))) (execs (b₀ :: suite) env) (fun f s₄ => ∃ v Y₄, f = .ret v ∧ St P Y₄ s₄.heap s₄.gens s₄.os ∧ ∀ m' s₅, St P { Y₄ with m := m' } s₅.heap s₅.gens s₅.os → Q (.ret v) s₅) E' s₂)
    (hL : env.locals = P.L := by rfl) (hg : env.globals = mainGlobals := by rfl) (hbn : env.builtins = builtinsNs := by rfl) (hk : env.scope.kind = .function := by rfl)
    (hx : env.kindOf x = some .globalImplicit := by rfl) (hnm : env.kindOf nm = some .local := by rfl) (hd : (x == ("__debug__" : Str)) = false := by rfl) :
    Wp (model prog w) A (execs (.Try body [.ExceptHandler (some (.Name x np)) (some nm) (b₀ :: suite) hpos] [] [] pos :: rest) env) Q E s := by
  refine ⟨wpAny_execs_cons (wpAny_Try_except (wpAny_mono (hb (fun e s₁ => wpAny (model prog w) A (noteFrame e env) (fun _ s₂ => wpAny (model prog w) A (setFlight e none) (fun _ s₃ => wpAny (model prog w) A (handleBy e env [.ExceptHandler (some (.Name x np)) (some nm) (b₀ :: suite) hpos]) (fun f s' => match f with | .next => wpAny (model prog w) A (execs rest env) Q E s' | f => Q f s') E s₃) E s₂) E s₁) ?_).go (fun f s₁ z => ?_) fun e s₁ z => z))⟩
  · intro s₁ s₂ e t args Y₁ hJ S₁ H hw ht
    have hch' := hch
    rw [hch'] at H hfr
    have S₁' := S₁.at
    rw [hch'] at S₁'
    refine wpAny_noteFrame_againW hf H.fl.2.2.2 (landHeld' H fun s₄ F₄ up₄ => ?_)
    have S₄ := S₁.grow (hch ▸ F₄.gr S₁')
    refine wpAny_handleBy_builtin_as (b := true) hexc hnt hsub (ExV.bltnA T hn hv hx0 hg hbn hk hx hd S₄ ⟨rfl, F₄.there, ?_⟩)
    rw [if_pos rfl]
    refine lands_againW F₄.fl fun h₅ hf₅ up₅ => ?_
    have F₅ : Fly (env :: chain) s₁ { s₄ with heap := h₅ } e (.type X) (.ref t) := ⟨hf₅, F₄.up.trans up₅, F₄.os, F₄.gs⟩
    have S₅ := S₁.grow (hch ▸ F₅.gr S₁')
    have x5 := Fly_there F₅
    have t5 : h₅.TupAt t args := (ht.of_slots up₄).of_slots up₅
    refine wpAny_storeName_local hnm (hL ▸ S₅.ns) (fun h₆ hn₆ hs₆ => ?_) (by rw [hk]; rfl)
    rw [hL] at hn₆ hs₆
    have S₆ := S₅.setL hn₆ hs₆
    have neL : ∀ {b : Addr} {o : Obj}, h₅.get? b = some o → (∀ es n, o.data ≠ .dict es n) → b ≠ P.L := fun {b o} e hn q => by
      obtain ⟨o', es, n, ho', hd', _⟩ := S₅.ns
      have ho'' : h₅.get? P.L = some o' := ho'
      rw [q, ho''] at e; cases e; exact hn es n hd'
    have x6 : h₆.ExcAt e X (.ref t) := by
      obtain ⟨o, vs, h1, h2, h3, h4⟩ := x5
      refine ⟨o, vs, (hs₆.2 e (neL h1 fun es n z => by rw [h3] at z; cases z)).trans h1, h2, h3, h4⟩
    have t6 : h₆.TupAt t args := by
      obtain ⟨o, n, h1, h2, h3⟩ := t5
      exact ⟨o, n, (hs₆.2 t (neL h1 fun es n z => by rw [h3] at z; cases z)).trans h1, h2, h3⟩
    refine wpAny_mono (hs { s₄ with heap := h₆, toks := s₄.toks + 1 } e t args Y₁ _ hJ S₆ x6 hw t6).go (fun f s₇ z => ?_) fun _ _ z => z
    obtain ⟨v, Y₄, rfl, S₇, hq⟩ := z
    refine wpAny_nameGoes_keeps hnm (hL ▸ S₇.ns) (by rw [hk]; rfl) fun h₈ v' hn₈ hs₈ => ?_
    rw [hL] at hn₈ hs₈
    have lk : ∃ m' : List (Str × Value), (fun y => m'.lookup y) = fun y => if y = nm then v' else Y₄.m.lookup y := by
      have flt : ∀ y, (Y₄.m.filter fun p => p.1 != nm).lookup y = if y = nm then none else Y₄.m.lookup y := by
        intro y
        induction Y₄.m with
        | nil => simp
        | cons p r ih =>
          obtain ⟨a, u⟩ := p
          by_cases ha : a = nm
          · subst ha
            rw [List.filter_cons_of_neg (by simp), ih, List.lookup_cons]
            by_cases hy : y = a
            · simp [hy]
            · have : (y == a) = false := beq_eq_false_iff_ne.mpr hy
              simp [hy, this]
          · rw [List.filter_cons_of_pos (by simpa using ha), List.lookup_cons, List.lookup_cons, ih]
            by_cases hy : y = a
            · subst hy; simp [ha]
            · have : (y == a) = false := beq_eq_false_iff_ne.mpr hy
              simp [this]
      cases v' with
      | none => exact ⟨_, funext flt⟩
      | some u =>
        refine ⟨(nm, u) :: Y₄.m, ?_⟩
        rw [lookup_cons_fun]
    obtain ⟨m', hm'⟩ := lk
    rw [← hm'] at hn₈
    exact hq m' { s₇ with heap := h₈, toks := s₇.toks + 1 } (S₇.setM hn₈ hs₈)
  · cases f <;> first | exact wpAny_execs_nil z.go.go | exact z.go
end
end Mine
set_option maxHeartbeats 8000000
namespace Mine
noncomputable abbrev prg : Program := PySem.Challenge.rw_pk0054_01.row.prog
noncomputable def fnO (i : Nat) (m c : Value) : Obj := match (prg.main.body[i]? : Option Stmt) with
  | some (.FunctionDef name args body _ _ _ scope _ _ _) => { cls := .type "function", data := .func { name := name, qualname := name, params := args, body := .stmts body, scope := scope, globals := 3, closure := [], defaults := .none, kwdefaults := .none, pyModule := m, code := c } }
  | _ => default
noncomputable def KfA (P : Params) : Frag :=
  [(2, { cls := Value.none, data := Data.dict #[] }),
   (3, { cls := Value.type "dict", data := Data.dict #[{ hash := PyData.keyHash P (Str.ofString "__name__"), key := .str (Str.ofString "__name__") 165, val := .str (Str.ofString "law_pk0054_01") 295 }, { hash := PyData.keyHash P (Str.ofString "__doc__"), key := .str (Str.ofString "__doc__") 166, val := Value.none }, { hash := PyData.keyHash P (Str.ofString "__package__"), key := .str (Str.ofString "__package__") 167, val := Value.none }, { hash := PyData.keyHash P (Str.ofString "__loader__"), key := .str (Str.ofString "__loader__") 168, val := Value.builtin "__main__.__loader__#opaque" }, { hash := PyData.keyHash P (Str.ofString "__spec__"), key := .str (Str.ofString "__spec__") 169, val := Value.none }, { hash := PyData.keyHash P (Str.ofString "__annotations__"), key := .str (Str.ofString "__annotations__") 170, val := Value.ref 6 }, { hash := PyData.keyHash P (Str.ofString "__builtins__"), key := .str (Str.ofString "__builtins__") 171, val := Value.ref 4 }, { hash := PyData.keyHash P (Str.ofString "__file__"), key := .str (Str.ofString "__file__") 173, val := .str (Str.ofString "/claim/cut.py") 172 }, { hash := PyData.keyHash P (Str.ofString "__cached__"), key := .str (Str.ofString "__cached__") 174, val := Value.none }, { hash := PyData.keyHash P (Str.ofString "CHAR_MAX"), key := .str (Str.ofString "CHAR_MAX") 190, val := Value.int 127 189 }, { hash := PyData.keyHash P (Str.ofString "_grouping_intervals"), key := .str (Str.ofString "_grouping_intervals") 199, val := Value.ref 21 }, { hash := PyData.keyHash P (Str.ofString "_strip_padding"), key := .str (Str.ofString "_strip_padding") 209, val := Value.ref 28 }, { hash := PyData.keyHash P (Str.ofString "S_IFMT"), key := .str (Str.ofString "S_IFMT") 218, val := Value.ref 35 }, { hash := PyData.keyHash P (Str.ofString "S_IFDIR"), key := .str (Str.ofString "S_IFDIR") 220, val := Value.int 16384 219 }, { hash := PyData.keyHash P (Str.ofString "S_IFCHR"), key := .str (Str.ofString "S_IFCHR") 222, val := Value.int 8192 221 }, { hash := PyData.keyHash P (Str.ofString "S_IFBLK"), key := .str (Str.ofString "S_IFBLK") 224, val := Value.int 24576 223 }, { hash := PyData.keyHash P (Str.ofString "S_IFREG"), key := .str (Str.ofString "S_IFREG") 226, val := Value.int 32768 225 }, { hash := PyData.keyHash P (Str.ofString "S_IFIFO"), key := .str (Str.ofString "S_IFIFO") 228, val := Value.int 4096 227 }, { hash := PyData.keyHash P (Str.ofString "S_IFLNK"), key := .str (Str.ofString "S_IFLNK") 230, val := Value.int 40960 229 }, { hash := PyData.keyHash P (Str.ofString "S_IFSOCK"), key := .str (Str.ofString "S_IFSOCK") 232, val := Value.int 49152 231 }, { hash := PyData.keyHash P (Str.ofString "S_ISUID"), key := .str (Str.ofString "S_ISUID") 234, val := Value.int 2048 233 }, { hash := PyData.keyHash P (Str.ofString "S_ISGID"), key := .str (Str.ofString "S_ISGID") 236, val := Value.int 1024 235 }, { hash := PyData.keyHash P (Str.ofString "S_ISVTX"), key := .str (Str.ofString "S_ISVTX") 238, val := Value.int 512 237 }, { hash := PyData.keyHash P (Str.ofString "S_IRUSR"), key := .str (Str.ofString "S_IRUSR") 240, val := Value.int 256 239 }, { hash := PyData.keyHash P (Str.ofString "S_IWUSR"), key := .str (Str.ofString "S_IWUSR") 242, val := Value.int 128 241 }, { hash := PyData.keyHash P (Str.ofString "S_IXUSR"), key := .str (Str.ofString "S_IXUSR") 244, val := Value.int 64 243 }, { hash := PyData.keyHash P (Str.ofString "S_IRGRP"), key := .str (Str.ofString "S_IRGRP") 246, val := Value.int 32 245 }, { hash := PyData.keyHash P (Str.ofString "S_IWGRP"), key := .str (Str.ofString "S_IWGRP") 248, val := Value.int 16 247 }, { hash := PyData.keyHash P (Str.ofString "S_IXGRP"), key := .str (Str.ofString "S_IXGRP") 250, val := Value.int 8 249 }, { hash := PyData.keyHash P (Str.ofString "S_IROTH"), key := .str (Str.ofString "S_IROTH") 252, val := Value.int 4 251 }, { hash := PyData.keyHash P (Str.ofString "S_IWOTH"), key := .str (Str.ofString "S_IWOTH") 254, val := Value.int 2 253 }, { hash := PyData.keyHash P (Str.ofString "S_IXOTH"), key := .str (Str.ofString "S_IXOTH") 256, val := Value.int 1 255 }, { hash := PyData.keyHash P (Str.ofString "_filemode_table"), key := .str (Str.ofString "_filemode_table") 282, val := Value.ref 68 }, { hash := PyData.keyHash P (Str.ofString "filemode"), key := .str (Str.ofString "filemode") 294, val := Value.ref 75 }, { hash := PyData.keyHash P (Str.ofString "_law_ruler"), key := .str (Str.ofString "_law_ruler") 308, val := Value.ref 82 }, { hash := PyData.keyHash P (Str.ofString "_law_walk"), key := .str (Str.ofString "_law_walk") 319, val := Value.ref 89 }, { hash := PyData.keyHash P (Str.ofString "_law_shown"), key := .str (Str.ofString "_law_shown") 325, val := Value.ref 94 }, { hash := PyData.keyHash P (Str.ofString "_law_overlaid"), key := .str (Str.ofString "_law_overlaid") 332, val := Value.ref 101 }, { hash := PyData.keyHash P (Str.ofString "_law_told"), key := .str (Str.ofString "_law_told") 342, val := Value.ref 108 }, { hash := PyData.keyHash P (Str.ofString "_law_meet"), key := .str (Str.ofString "_law_meet") 348, val := Value.ref 113 }, { hash := PyData.keyHash P (Str.ofString "_law_bare"), key := .str (Str.ofString "_law_bare") 354, val := Value.ref 118 }, { hash := PyData.keyHash P (Str.ofString "_law_due"), key := .str (Str.ofString "_law_due") 360, val := Value.ref 123 }, { hash := PyData.keyHash P (Str.ofString "law"), key := .str (Str.ofString "law") 366, val := Value.ref 128 }] 43 }),
   (6, { cls := Value.type "dict", data := Data.dict #[] }),
   (15, { cls := Value.type "tuple", data := Data.seq #[] }),
   (17, { cls := Value.type "tuple", data := Data.seq #[.str (Str.ofString "grouping") 194, .str (Str.ofString "last_interval") 195, .str (Str.ofString "interval") 196] }),
   (18, { cls := Value.type "tuple", data := Data.seq #[] }),
   (20, { cls := Value.type "code", data := Data.fields #[.str (Str.ofString "_grouping_intervals") 191, .str (Str.ofString "_grouping_intervals") 192, .str (Str.ofString "/claim/cut.py") 193, Value.int 3 0, Value.int 1 0, Value.int 0 0, Value.int 0 0, Value.int 35 0, Value.ref 15, Value.bool true, Value.int 181 0, Value.ref 16, Value.none, Value.ref 17, Value.ref 18, Value.ref 19, Value.int 197 0, Value.int 3 0, .str (Str.ofString "/claim/cut.py") 198] }),
   (21, fnO 2 (.str (Str.ofString "cpy313.locale") 187) (Value.ref 20)),
   (22, { cls := Value.type "tuple", data := Data.seq #[] }),
   (24, { cls := Value.type "tuple", data := Data.seq #[.str (Str.ofString "s") 203, .str (Str.ofString "amount") 204, .str (Str.ofString "lpos") 205, .str (Str.ofString "rpos") 206] }),
   (25, { cls := Value.type "tuple", data := Data.seq #[] }),
   (27, { cls := Value.type "code", data := Data.fields #[.str (Str.ofString "_strip_padding") 200, .str (Str.ofString "_strip_padding") 201, .str (Str.ofString "/claim/cut.py") 202, Value.int 15 0, Value.int 2 0, Value.int 0 0, Value.int 0 0, Value.int 3 0, Value.ref 22, Value.bool true, Value.int 181 0, Value.ref 23, Value.none, Value.ref 24, Value.ref 25, Value.ref 26, Value.int 207 0, Value.int 15 0, .str (Str.ofString "/claim/cut.py") 208] }),
   (28, fnO 3 (.str (Str.ofString "cpy313.locale") 187) (Value.ref 27)),
   (29, { cls := Value.type "tuple", data := Data.seq #[] }),
   (31, { cls := Value.type "tuple", data := Data.seq #[.str (Str.ofString "mode") 215] }),
   (32, { cls := Value.type "tuple", data := Data.seq #[] }),
   (34, { cls := Value.type "code", data := Data.fields #[.str (Str.ofString "S_IFMT") 212, .str (Str.ofString "S_IFMT") 213, .str (Str.ofString "/claim/cut.py") 214, Value.int 26 0, Value.int 1 0, Value.int 0 0, Value.int 0 0, Value.int 3 0, Value.ref 29, Value.bool true, Value.int 181 0, Value.ref 30, Value.none, Value.ref 31, Value.ref 32, Value.ref 33, Value.int 216 0, Value.int 26 0, .str (Str.ofString "/claim/cut.py") 217] }),
   (35, fnO 5 (.str (Str.ofString "cpy313.stat") 210) (Value.ref 34)),
   (36, { cls := Value.type "tuple", data := Data.seq #[Value.int 40960 229, .str (Str.ofString "l") 257] }),
   (37, { cls := Value.type "tuple", data := Data.seq #[Value.int 49152 231, .str (Str.ofString "s") 258] }),
   (38, { cls := Value.type "tuple", data := Data.seq #[Value.int 32768 225, .str (Str.ofString "-") 259] }),
   (39, { cls := Value.type "tuple", data := Data.seq #[Value.int 24576 223, .str (Str.ofString "b") 260] }),
   (40, { cls := Value.type "tuple", data := Data.seq #[Value.int 16384 219, .str (Str.ofString "d") 261] }),
   (41, { cls := Value.type "tuple", data := Data.seq #[Value.int 8192 221, .str (Str.ofString "c") 262] }),
   (42, { cls := Value.type "tuple", data := Data.seq #[Value.int 4096 227, .str (Str.ofString "p") 263] }),
   (43, { cls := Value.type "tuple", data := Data.seq #[Value.ref 36, Value.ref 37, Value.ref 38, Value.ref 39, Value.ref 40, Value.ref 41, Value.ref 42] }),
   (44, { cls := Value.type "tuple", data := Data.seq #[Value.int 256 239, .str (Str.ofString "r") 264] }),
   (45, { cls := Value.type "tuple", data := Data.seq #[Value.ref 44] }),
   (46, { cls := Value.type "tuple", data := Data.seq #[Value.int 128 241, .str (Str.ofString "w") 265] }),
   (47, { cls := Value.type "tuple", data := Data.seq #[Value.ref 46] }),
   (48, { cls := Value.type "tuple", data := Data.seq #[Value.int 2112 266, .str (Str.ofString "s") 267] }),
   (49, { cls := Value.type "tuple", data := Data.seq #[Value.int 2048 233, .str (Str.ofString "S") 268] }),
   (50, { cls := Value.type "tuple", data := Data.seq #[Value.int 64 243, .str (Str.ofString "x") 269] }),
   (51, { cls := Value.type "tuple", data := Data.seq #[Value.ref 48, Value.ref 49, Value.ref 50] }),
   (52, { cls := Value.type "tuple", data := Data.seq #[Value.int 32 245, .str (Str.ofString "r") 270] }),
   (53, { cls := Value.type "tuple", data := Data.seq #[Value.ref 52] }),
   (54, { cls := Value.type "tuple", data := Data.seq #[Value.int 16 247, .str (Str.ofString "w") 271] }),
   (55, { cls := Value.type "tuple", data := Data.seq #[Value.ref 54] }),
   (56, { cls := Value.type "tuple", data := Data.seq #[Value.int 1032 272, .str (Str.ofString "s") 273] }),
   (57, { cls := Value.type "tuple", data := Data.seq #[Value.int 1024 235, .str (Str.ofString "S") 274] }),
   (58, { cls := Value.type "tuple", data := Data.seq #[Value.int 8 249, .str (Str.ofString "x") 275] }),
   (59, { cls := Value.type "tuple", data := Data.seq #[Value.ref 56, Value.ref 57, Value.ref 58] }),
   (60, { cls := Value.type "tuple", data := Data.seq #[Value.int 4 251, .str (Str.ofString "r") 276] }),
   (61, { cls := Value.type "tuple", data := Data.seq #[Value.ref 60] }),
   (62, { cls := Value.type "tuple", data := Data.seq #[Value.int 2 253, .str (Str.ofString "w") 277] }),
   (63, { cls := Value.type "tuple", data := Data.seq #[Value.ref 62] }),
   (64, { cls := Value.type "tuple", data := Data.seq #[Value.int 513 278, .str (Str.ofString "t") 279] }),
   (65, { cls := Value.type "tuple", data := Data.seq #[Value.int 512 237, .str (Str.ofString "T") 280] }),
   (66, { cls := Value.type "tuple", data := Data.seq #[Value.int 1 255, .str (Str.ofString "x") 281] }),
   (67, { cls := Value.type "tuple", data := Data.seq #[Value.ref 64, Value.ref 65, Value.ref 66] }),
   (68, { cls := Value.type "tuple", data := Data.seq #[Value.ref 43, Value.ref 45, Value.ref 47, Value.ref 51, Value.ref 53, Value.ref 55, Value.ref 59, Value.ref 61, Value.ref 63, Value.ref 67] }),
   (69, { cls := Value.type "tuple", data := Data.seq #[] }),
   (71, { cls := Value.type "tuple", data := Data.seq #[.str (Str.ofString "mode") 286, .str (Str.ofString "perm") 287, .str (Str.ofString "index") 288, .str (Str.ofString "table") 289, .str (Str.ofString "bit") 290, .str (Str.ofString "char") 291] }),
   (72, { cls := Value.type "tuple", data := Data.seq #[] }),
   (74, { cls := Value.type "code", data := Data.fields #[.str (Str.ofString "filemode") 283, .str (Str.ofString "filemode") 284, .str (Str.ofString "/claim/cut.py") 285, Value.int 48 0, Value.int 1 0, Value.int 0 0, Value.int 0 0, Value.int 3 0, Value.ref 69, Value.bool true, Value.int 181 0, Value.ref 70, Value.none, Value.ref 71, Value.ref 72, Value.ref 73, Value.int 292 0, Value.int 48 0, .str (Str.ofString "/claim/cut.py") 293] }),
   (75, fnO 26 (.str (Str.ofString "cpy313.stat") 210) (Value.ref 74)),
   (76, { cls := Value.type "tuple", data := Data.seq #[] }),
   (78, { cls := Value.type "tuple", data := Data.seq #[.str (Str.ofString "number") 300, .str (Str.ofString "step") 301, .str (Str.ofString "lead") 302, .str (Str.ofString "form") 303, .str (Str.ofString "rows") 304, .str (Str.ofString "tails") 305] }),
   (79, { cls := Value.type "tuple", data := Data.seq #[] }),
   (81, { cls := Value.type "code", data := Data.fields #[.str (Str.ofString "_law_ruler") 297, .str (Str.ofString "_law_ruler") 298, .str (Str.ofString "/claim/cut.py") 299, Value.int 66 0, Value.int 1 0, Value.int 0 0, Value.int 0 0, Value.int 3 0, Value.ref 76, Value.bool true, Value.int 181 0, Value.ref 77, Value.none, Value.ref 78, Value.ref 79, Value.ref 80, Value.int 306 0, Value.int 66 0, .str (Str.ofString "/claim/cut.py") 307] }),
   (82, fnO 28 (.str (Str.ofString "law_pk0054_01") 295) (Value.ref 81)),
   (83, { cls := Value.type "tuple", data := Data.seq #[] }),
   (85, { cls := Value.type "tuple", data := Data.seq #[.str (Str.ofString "row") 312, .str (Str.ofString "place") 313, .str (Str.ofString "marks") 314, .str (Str.ofString "size") 315, .str (Str.ofString "fault") 316] }),
   (86, { cls := Value.type "tuple", data := Data.seq #[] }),
   (88, { cls := Value.type "code", data := Data.fields #[.str (Str.ofString "_law_walk") 309, .str (Str.ofString "_law_walk") 310, .str (Str.ofString "/claim/cut.py") 311, Value.int 71 0, Value.int 1 0, Value.int 0 0, Value.int 0 0, Value.int 3 0, Value.ref 83, Value.bool true, Value.int 181 0, Value.ref 84, Value.none, Value.ref 85, Value.ref 86, Value.ref 87, Value.int 317 0, Value.int 71 0, .str (Str.ofString "/claim/cut.py") 318] }),
   (89, fnO 29 (.str (Str.ofString "law_pk0054_01") 295) (Value.ref 88)),
   (90, { cls := Value.type "tuple", data := Data.seq #[] }),
   (93, { cls := Value.type "code", data := Data.fields #[.str (Str.ofString "_law_shown") 320, .str (Str.ofString "_law_shown") 321, .str (Str.ofString "/claim/cut.py") 322, Value.int 82 0, Value.int 2 0, Value.int 0 0, Value.int 0 0, Value.int 3 0, Value.ref 90, Value.bool true, Value.int 181 0, Value.ref 91, Value.none, Value.none, Value.none, Value.ref 92, Value.int 323 0, Value.int 82 0, .str (Str.ofString "/claim/cut.py") 324] }),
   (94, fnO 30 (.str (Str.ofString "law_pk0054_01") 295) (Value.ref 93)),
   (95, { cls := Value.type "tuple", data := Data.seq #[] }),
   (97, { cls := Value.type "tuple", data := Data.seq #[.str (Str.ofString "signs") 329] }),
   (98, { cls := Value.type "tuple", data := Data.seq #[] }),
   (100, { cls := Value.type "code", data := Data.fields #[.str (Str.ofString "_law_overlaid") 326, .str (Str.ofString "_law_overlaid") 327, .str (Str.ofString "/claim/cut.py") 328, Value.int 92 0, Value.int 1 0, Value.int 0 0, Value.int 0 0, Value.int 3 0, Value.ref 95, Value.bool true, Value.int 181 0, Value.ref 96, Value.none, Value.ref 97, Value.ref 98, Value.ref 99, Value.int 330 0, Value.int 92 0, .str (Str.ofString "/claim/cut.py") 331] }),
   (101, fnO 31 (.str (Str.ofString "law_pk0054_01") 295) (Value.ref 100)),
   (102, { cls := Value.type "tuple", data := Data.seq #[] }),
   (104, { cls := Value.type "tuple", data := Data.seq #[.str (Str.ofString "row") 336, .str (Str.ofString "few") 337, .str (Str.ofString "told") 338, .str (Str.ofString "rest") 339] }),
   (105, { cls := Value.type "tuple", data := Data.seq #[] }),
   (107, { cls := Value.type "code", data := Data.fields #[.str (Str.ofString "_law_told") 333, .str (Str.ofString "_law_told") 334, .str (Str.ofString "/claim/cut.py") 335, Value.int 94 0, Value.int 2 0, Value.int 0 0, Value.int 0 0, Value.int 3 0, Value.ref 102, Value.bool true, Value.int 181 0, Value.ref 103, Value.none, Value.ref 104, Value.ref 105, Value.ref 106, Value.int 340 0, Value.int 94 0, .str (Str.ofString "/claim/cut.py") 341] }),
   (108, fnO 32 (.str (Str.ofString "law_pk0054_01") 295) (Value.ref 107)),
   (109, { cls := Value.type "tuple", data := Data.seq #[] }),
   (112, { cls := Value.type "code", data := Data.fields #[.str (Str.ofString "_law_meet") 343, .str (Str.ofString "_law_meet") 344, .str (Str.ofString "/claim/cut.py") 345, Value.int 101 0, Value.int 2 0, Value.int 0 0, Value.int 0 0, Value.int 3 0, Value.ref 109, Value.bool true, Value.int 181 0, Value.ref 110, Value.none, Value.none, Value.none, Value.ref 111, Value.int 346 0, Value.int 101 0, .str (Str.ofString "/claim/cut.py") 347] }),
   (113, fnO 33 (.str (Str.ofString "law_pk0054_01") 295) (Value.ref 112)),
   (114, { cls := Value.type "tuple", data := Data.seq #[] }),
   (117, { cls := Value.type "code", data := Data.fields #[.str (Str.ofString "_law_bare") 349, .str (Str.ofString "_law_bare") 350, .str (Str.ofString "/claim/cut.py") 351, Value.int 106 0, Value.int 2 0, Value.int 0 0, Value.int 0 0, Value.int 3 0, Value.ref 114, Value.bool true, Value.int 181 0, Value.ref 115, Value.none, Value.none, Value.none, Value.ref 116, Value.int 352 0, Value.int 106 0, .str (Str.ofString "/claim/cut.py") 353] }),
   (118, fnO 34 (.str (Str.ofString "law_pk0054_01") 295) (Value.ref 117)),
   (119, { cls := Value.type "tuple", data := Data.seq #[] }),
   (122, { cls := Value.type "code", data := Data.fields #[.str (Str.ofString "_law_due") 355, .str (Str.ofString "_law_due") 356, .str (Str.ofString "/claim/cut.py") 357, Value.int 108 0, Value.int 3 0, Value.int 0 0, Value.int 0 0, Value.int 3 0, Value.ref 119, Value.bool true, Value.int 181 0, Value.ref 120, Value.none, Value.none, Value.none, Value.ref 121, Value.int 358 0, Value.int 108 0, .str (Str.ofString "/claim/cut.py") 359] }),
   (123, fnO 35 (.str (Str.ofString "law_pk0054_01") 295) (Value.ref 122)),
   (124, { cls := Value.type "tuple", data := Data.seq #[] }),
   (127, { cls := Value.type "code", data := Data.fields #[.str (Str.ofString "law") 361, .str (Str.ofString "law") 362, .str (Str.ofString "/claim/cut.py") 363, Value.int 125 0, Value.int 1 0, Value.int 0 0, Value.int 0 0, Value.int 3 0, Value.ref 124, Value.bool true, Value.int 181 0, Value.ref 125, Value.none, Value.none, Value.none, Value.ref 126, Value.int 364 0, Value.int 125 0, .str (Str.ofString "/claim/cut.py") 365] }),
   (128, fnO 36 (.str (Str.ofString "law_pk0054_01") 295) (Value.ref 127))]
noncomputable abbrev KF (w : World) : Frag := KfA w.params
noncomputable def kads : List Addr := [2, 3, 6, 15, 17, 18, 20, 21, 22, 24, 25, 27, 28, 29, 31, 32, 34, 35, 36, 37, 38, 39, 40, 41, 42, 43, 44, 45, 46, 47, 48, 49, 50, 51, 52, 53, 54, 55, 56, 57, 58, 59, 60, 61, 62, 63, 64, 65, 66, 67, 68, 69, 71, 72, 74, 75, 76, 78, 79, 81, 82, 83, 85, 86, 88, 89, 90, 93, 94, 95, 97, 98, 100, 101, 102, 104, 105, 107, 108, 109, 112, 113, 114, 117, 118, 119, 122, 123, 124, 127, 128]
noncomputable def vw : Program := view prg [1, 2, 3, 5, 6, 7, 8, 9, 10, 11, 12, 13, 14, 15, 16, 17, 18, 19, 20, 21, 22, 23, 24, 25, 26, 28, 29, 30, 31, 32, 33, 34, 35, 36]
noncomputable def nF : Str := Str.ofString "_filemode_table"
noncomputable def tI (n : Int) (x : String) : WData := .tuple [.int n, .str (Str.ofString x)]
noncomputable def lvF : List (Str × WData) := [(nF, .tuple [.tuple [tI 40960 "l", tI 49152 "s", tI 32768 "-", tI 24576 "b", tI 16384 "d", tI 8192 "c", tI 4096 "p"], .tuple [tI 256 "r"], .tuple [tI 128 "w"], .tuple [tI 2112 "s", tI 2048 "S", tI 64 "x"],
  .tuple [tI 32 "r"], .tuple [tI 16 "w"], .tuple [tI 1032 "s", tI 1024 "S", tI 8 "x"], .tuple [tI 4 "r"], .tuple [tI 2 "w"], .tuple [tI 513 "t", tI 512 "T", tI 1 "x"]])]
theorem kads_eq (P : Params) : kads = (KfA P).map (·.1) := by kernel_rfl
noncomputable def HK : Hook := kHook KfA kads kads_eq
noncomputable def dLaw : DefRec := match (prg.main.body[36]? : Option Stmt) with
  | some (.FunctionDef name args body _ _ _ scope _ _ pos) => { name := name, params := args, body := body, scope := scope, pos := pos }
  | _ => { name := nF, params := default, body := [], scope := default, pos := default }
noncomputable def kO (P : Params) (a : Addr) : Obj := ((KfA P).lookup a).getD default
noncomputable def fnC (i : Nat) : Obj := match (prg.main.body[i]? : Option Stmt) with
  | some (.FunctionDef name args body _ _ _ scope _ _ _) => { cls := .none, data := .func { name := name, qualname := name, params := args, body := .stmts body, scope := scope, globals := 0, closure := [], defaults := .none, kwdefaults := .none } }
  | _ => default
noncomputable def tab0 : Obj := { cls := .none, data := .fields #[] }
/-- the heap behind the top -/
noncomputable def hA (P : Params) : Heap := { objs := { toList := [boot_o_0 P, boot_o_1 P, kO P 2, kO P 3, boot_o_4 P, boot_o_5 P, kO P 6, boot_o_7 P, boot_o_8 P, boot_o_9 P, boot_o_10 P, { cls := Value.type "tuple", data := Data.seq #[] }, { cls := Value.none, data := Data.fields #[Value.int 3 0, Value.int 0 0, Value.ref 20, Value.int 15 0, Value.int 0 0, Value.ref 27, Value.int 26 0, Value.int 0 0, Value.ref 34, Value.int 48 0, Value.int 0 0, Value.ref 74, Value.int 66 0, Value.int 0 0, Value.ref 81, Value.int 71 0, Value.int 0 0, Value.ref 88, Value.int 82 0, Value.int 0 0, Value.ref 93, Value.int 92 0, Value.int 0 0, Value.ref 100, Value.int 94 0, Value.int 0 0, Value.ref 107, Value.int 101 0, Value.int 0 0, Value.ref 112, Value.int 106 0, Value.int 0 0, Value.ref 117, Value.int 108 0, Value.int 0 0, Value.ref 122, Value.int 125 0, Value.int 0 0, Value.ref 127] }, { cls := Value.type "code", data := Data.fields #[.str (Str.ofString "<module>") 182, .str (Str.ofString "<module>") 183, .str (Str.ofString "/claim/cut.py") 184, Value.int 1 0, Value.int 0 0, Value.int 0 0, Value.int 0 0, Value.int 0 0, Value.ref 11, Value.bool false, Value.int 181 0, Value.ref 12, Value.none, Value.none, Value.none, Value.none, Value.int 185 0, Value.int 1 0, .str (Str.ofString "/claim/cut.py") 186] }, { cls := Value.type "frame", slots := #[some (Value.ref 13), some (Value.ref 3), some (Value.ref 3), none, some (.str (Str.ofString "__main__") 164), none, some (Value.ref 0)] }, kO P 15, tab0, kO P 17, kO P 18, fnC 2, kO P 20, kO P 21, kO P 22, tab0, kO P 24, kO P 25, fnC 3, kO P 27, kO P 28, kO P 29, tab0, kO P 31, kO P 32, fnC 5, kO P 34, kO P 35, kO P 36, kO P 37, kO P 38, kO P 39, kO P 40, kO P 41, kO P 42, kO P 43, kO P 44, kO P 45, kO P 46, kO P 47, kO P 48, kO P 49, kO P 50, kO P 51, kO P 52, kO P 53, kO P 54, kO P 55, kO P 56, kO P 57, kO P 58, kO P 59, kO P 60, kO P 61, kO P 62, kO P 63, kO P 64, kO P 65, kO P 66, kO P 67, kO P 68, kO P 69, tab0, kO P 71, kO P 72, fnC 26, kO P 74, kO P 75, kO P 76, tab0, kO P 78, kO P 79, fnC 28, kO P 81, kO P 82, kO P 83, tab0, kO P 85, kO P 86, fnC 29, kO P 88, kO P 89, kO P 90, tab0, fnC 30, kO P 93, kO P 94, kO P 95, tab0, kO P 97, kO P 98, fnC 31, kO P 100, kO P 101, kO P 102, tab0, kO P 104, kO P 105, fnC 32, kO P 107, kO P 108, kO P 109, tab0, fnC 33, kO P 112, kO P 113, kO P 114, tab0, fnC 34, kO P 117, kO P 118, kO P 119, tab0, fnC 35, kO P 122, kO P 123, kO P 124, tab0, fnC 36, kO P 127, kO P 128] } }
noncomputable abbrev sA (w : World) (os : OsState) : Shared := ⟨hA w.params, #[], {}, 367, os⟩
theorem h_open : ∀ w : World, (fencedOpening treeTable prg w 1630).map (fun s => (s.heap, s.gens, s.drawn, s.toks)) = some (boot_heap w.params, Array.mk [], boot_drawn, boot_toks) := boot_open (by kernel_rfl) (by decide) fun s => by kernel_rfl
theorem h_size (w : World) : ((boot_heap w.params).isNs mainGlobals && (Array.mk [] : Array GenState).size == 0, (boot_heap w.params).objs.size, (boot_heap w.params).nsMap mainGlobals "__annotations__") = (true, 11, some (.ref 6)) := by kernel_rfl
theorem h_run (w : World) (os : OsState) : topRun treeTable prg w 11 (some (.ref 6)) 800 ⟨boot_heap w.params, Array.mk [], boot_drawn, boot_toks, os⟩ (topStub prg) = some (sA w os) := by kernel_rfl
theorem h_look (w : World) (os : OsState) : (staticsOk (importedModules prg.main.body) (boot_heap w.params) (hA w.params) && namesBound prg (hA w.params) && gensDone (sA w os) && laidKept (boot_heap w.params) (hA w.params)) = true := by kernel_rfl
noncomputable def xt (s : Shared) : Bool := xlAt vw lvF s && recOk (RowW.records PySem.Challenge.rw_pk0054_01.row.toRowW) s
theorem h_seen (w : World) (os : OsState) : openSeen vw [nF] (importedModules prg.main.body) xt true (sA w os) = openGood vw [nF] := by kernel_rfl
theorem h_obs (w : World) (os : OsState) : HK.obs (sA w os) = HK.val w := by kernel_rfl
theorem hl : LeftO prg vw [nF] xt HK.obs HK.val 1630 :=
  LeftO.of_pieces h_open h_size h_run (by decide) fun w => funext fun os => Prod.ext (h_look w os) (Prod.ext (h_seen w os) (h_obs w os))
theorem said : PySem.Challenge.rw_pk0054_01.wellSaid = true := by
  delta OpenLaw.wellSaid OpenRow.wellSaid OpenRow.partSaid looksOpen
  repeat' (with_reducible refine look_both ?_ ?_)
  all_goals decide +kernel
theorem hdef : defOf vw PySem.Challenge.rw_pk0054_01.row.name = some (dLaw, []) := by kernel_rfl
theorem hthe : PySem.Challenge.rw_pk0054_01.row.prog.theDef PySem.Challenge.rw_pk0054_01.row.name = some (dLaw.params, dLaw.body, dLaw.scope) := by kernel_rfl
theorem hkw : kwWritten? dLaw.params.kwonlyargs dLaw.params.kw_defaults = some [] := by kernel_rfl
theorem hd (walk : WalkO vw [nF] (XL vw lvF) HK.says PySem.Challenge.rw_pk0054_01.row.toRowW dLaw [] fun f vs => PySem.call f vs) : PySem.Challenge.rw_pk0054_01.Holds := by
  refine holds_law said fun said => ?_
  refine holds_open (q := vw) (loose := [nF]) (XP := XL vw lvF) (Yf := HK.obs) (Ya := HK.val) (YP := HK.says) (N := 1630) hl HK.of HK.keeps (fun s e => xl_of s (Bool.and_eq_true_iff.mp e).1) XL.keeps hdef hthe hkw (fun s e => recFacts_of (Bool.and_eq_true_iff.mp e).2) (by kernel_rfl) said (by decide +kernel) ⟨by kernel_rfl, by kernel_rfl, by kernel_rfl, by kernel_rfl, by kernel_rfl, by decide +kernel⟩ ?hw walk
  w_witness2
end Mine
namespace Mine
section
variable {w : World} {A : Around} {s : Shared} {mg mb : Loc} {base : Heap} {chain : List Env} {Q E : Value → Shared → Prop}
noncomputable def overlaid (xs : List Str) : Str := if (xs.map PyData.str).any (fun y => PyData.eqv y (.str (Str.ofString "?"))) then Str.ofString "?" else if (xs.map PyData.str).any (fun y => PyData.eqv y (.str (Str.ofString " "))) then Str.ofString " " else Str.ofString "\t"
theorem c_overlaid (T : Tb (KF w) mg mb base) (C : Cx A chain 1) (N : At base chain s)
    {v : Value} {xs : List Str} {as : List Addr} (hv : Reads s.heap v (.list (xs.map .str)) as) (hok : PyData.canLayAll0 (xs.map .str) = true)
    (h : ∀ t s', Gr (frs chain) s s' → Q (Value.str (overlaid xs) t) s') : wpAny (model prg w) A (call (.ref 101) [v]) Q E s := by
  refine entr [(Str.ofString "signs", v)] [(Str.ofString "signs", v)] [] T C N rfl rfl rfl rfl rfl rfl rfl fun L A' s₁ C' S => ?_
  have S := S.arg hv
  refine xs_ret S (V := fun v _ => ∃ t, v = Value.str (overlaid xs) t) ?_ fun v s' S' hv => ?_
  · have hu : A'.units + 1 + 1 < cLine := by have := C'.units; omega
    refine Ex.ifexp (Tr.cmp (CmpV.inD hok (by decide +kernel) (by show A'.units + 1 + 0 < cLine; omega)) (ExS.const.toD (n := true)) (ExV.toD (ExV.loc rfl) (List.Mem.head _)) keepD) (fun e => ?_) fun e => Ex.ifexp (Tr.cmp (CmpV.inD hok (by decide +kernel) (by show A'.units + 1 + 0 < cLine; omega)) (ExS.const.toD (n := true)) (ExV.toD (ExV.loc rfl) (List.Mem.head _)) keepD) (fun e' => ?_) fun e' => ?_
    · unfold overlaid; rw [if_pos e]; exact ExS.const
    · unfold overlaid; rw [if_neg (by rw [e]; decide), if_pos e']; exact ExS.const
    · unfold overlaid; rw [if_neg (by rw [e]; decide), if_neg (by rw [e']; decide)]; exact ExS.const
  · obtain ⟨t, rfl⟩ := hv
    exact h t s' (S'.done rfl)
end
end Mine
namespace Mine
noncomputable def tupI (p : Int × Int) : PyData := .tuple [.int p.1, .int p.2]
theorem shp_tupI (p : Int × Int) : Shp 1 (tupI p) := Shp.tuple (k := 0) fun d hd => by
  rcases List.mem_cons.mp hd with rfl | hd
  · exact Shp.int
  · rcases List.mem_cons.mp hd with rfl | hd
    · exact Shp.int
    · cases hd
noncomputable def bareB (ts : List (Int × Int)) (place : Int) : Bool := !ts.any fun p => (place - p.1).fmod p.2 == 0
noncomputable def bareG (i : Int) : PyData → Option PyData
  | .tuple [.int a, .int m] => if (i - a).fmod m == 0 then some (.tuple [.int a, .int m]) else none
  | _ => none
theorem bare_fin (i : Int) (ts : List (Int × Int)) : PyData.eqv (.list ((ts.map tupI).filterMap (bareG i))) (.list []) = bareB ts i := by
  rw [eqv_nil]
  unfold bareB
  induction ts with
  | nil => rfl
  | cons p ts ih =>
    rw [List.map_cons, List.filterMap_cons, List.any_cons]
    simp only [tupI, bareG]
    cases hb : (i - p.1).fmod p.2 == 0 with
    | true => simp
    | false => simpa [tupI] using ih
section
variable {w : World} {A : Around} {s : Shared} {mg mb : Loc} {base : Heap} {chain : List Env} {Q E : Value → Shared → Prop}
theorem c_bare (T : Tb (KF w) mg mb base) (C : Cx A chain 1) (N : At base chain s)
    {v : Value} {ts : List (Int × Int)} {as : List Addr} {i : Int} {t : Tok} (hv : Reads s.heap v (.list (ts.map tupI)) as) (hts : ∀ p ∈ ts, p.2 ≠ 0) (hlen : ts.length ≤ 100)
    (h : ∀ s', Gr (frs chain) s s' → Q (Value.bool (bareB ts i)) s') : wpAny (model prg w) A (call (.ref 118) [v, .int i t]) Q E s := by
  refine entr [(Str.ofString "tails", v), (Str.ofString "place", .int i t)] [(Str.ofString "tails", v)] [(Str.ofString "place", .int i t)] T C N rfl rfl rfl rfl rfl rfl rfl fun L A' s₁ C' S => ?_
  have S := S.arg hv
  refine xs_ret S (V := fun v _ => v = .bool (bareB ts i)) ?_ fun v s' S' hv => ?_
  · refine Ex.mono (ExV.cmp (CmpV.eqD ?h1 ?h2 ?h3) (ExD.comp (bareG i) (Src.list C'.hand (ExV.toD (ExV.loc rfl) (List.Mem.head _)))
      (Cl.of (cl := [(Str.ofString "place", L + 1)]) S.ap (List.forall_mem_cons.mpr ⟨rfl, List.forall_mem_nil _⟩) (by with_unfolding_all rfl) [Str.ofString "place"]) ?hsz ?turn) (ExD.list (ExLD.nil (n := true))) keepD) fun v h e => by rw [e, bare_fin]
    case hsz => rw [List.length_map]; simp only [sizeLine]; (first | lia | omega)
    case turn =>
      intro d hd X' h' g' o' C D ys dat' m v hold hv
      obtain ⟨⟨a, b⟩, hp, rfl⟩ := List.mem_map.mp hd
      have hb := hts _ hp
      refine ⟨(i - a).fmod b == 0, Ts.one (Tr.cmpI CmpI.eq (ExI.mod hb (ExI.sub (ExV.toI (ExV.cel rfl rfl)) (ExD.toI (ExD.itemT (ExV.toD (ExV.loc rfl) hv) ExI.const (by decide) (by decide) rfl))) (ExD.toI (ExD.itemT (ExV.toD (ExV.loc rfl) hv) ExI.const (by decide) (by decide) rfl))) ExI.const), fun e => ?_, fun e => ?_⟩
      · exact ⟨_, if_pos e, (ExV.toD (ExV.loc rfl) hv).flat rfl⟩
      · exact if_neg (by rw [e]; decide)
    case h1 =>
      refine (Shp.list (k := 1) fun d hd => ?_).shaped (by decide)
      obtain ⟨d', hd', e⟩ := List.mem_filterMap.mp hd
      obtain ⟨⟨a, b⟩, hp, rfl⟩ := List.mem_map.mp hd'
      simp only [tupI, bareG] at e
      split at e
      · cases e; exact shp_tupI (a, b)
      · cases e
    case h2 => rfl
    case h3 => have := C'.units; (first | lia | omega)
  · subst hv
    exact h s' (S'.done rfl)
end
end Mine
namespace Mine
noncomputable def optT : Option (Int × Int) → PyData
  | none => .none
  | some p => tupI p
noncomputable def hitsG (h q a m : Int) : PyData → Option PyData
  | .int t => if (h + q * t - a).fmod m == 0 then some (.int (h + q * t)) else none
  | _ => none
noncomputable def hits (h q a m : Int) : List Int := (List.range m.toNat).filterMap fun t : Nat => if (h + q * t - a).fmod m == 0 then some (h + q * t) else none
noncomputable def meetL (q m : Int) : List Int → Option (Int × Int)
  | [] => none
  | x :: xs => some (x, (q * m).fdiv ((x :: xs).length : Int))
noncomputable def meetF : Option (Int × Int) → Int × Int → Option (Int × Int)
  | none, _ => none
  | some (h, q), (a, m) => meetL q m (hits h q a m)
theorem hits_data (h q a m : Int) : ((List.range (m - 0).toNat).map fun i : Nat => PyData.int (0 + i)).filterMap (hitsG h q a m) = (hits h q a m).map .int := by
  unfold hits
  rw [List.filterMap_map, List.map_filterMap, Int.sub_zero]
  congr 1
  funext t
  simp only [Function.comp, hitsG, Int.zero_add]
  split <;> simp
theorem natAbs_bits {a : Int} (h0 : 0 ≤ a) (h : a < 2 ^ 60) : Builtin.Int.intBits a ≤ 64 := intBits_le_64 (by (first | lia | omega)) (by (first | lia | omega))
section
variable {w : World} {A : Around} {s : Shared} {mg mb : Loc} {base : Heap} {chain : List Env} {Q E : Value → Shared → Prop}
theorem c_meet (T : Tb (KF w) mg mb base) (C : Cx A chain 1) (N : At base chain s)
    {v v' : Value} {one : Option (Int × Int)} {two : Int × Int} {as as' : List Addr} (hv : Reads s.heap v (optT one) as) (hv' : Reads s.heap v' (tupI two) as') (h1 : 1 ≤ two.2) (h8 : two.2 ≤ 8) (hone : ∀ p, one = some p → 0 ≤ p.2 ∧ p.2 < 2 ^ 60)
    (h : ∀ u s', Gr (frs chain) s s' → New s s' u (optT (meetF one two)) → Q u s') : wpAny (model prg w) A (call (.ref 113) [v, v']) Q E s := by
  refine entr [(Str.ofString "one", v), (Str.ofString "two", v')] [] [(Str.ofString "two", v'), (Str.ofString "one", v)] T C N rfl rfl rfl rfl rfl rfl rfl fun L A' s₁ C' S => ?_
  have S := (S.arg hv).arg hv'
  cases one with
  | none =>
    have e : v = .none := by cases hv; rfl
    subst e
    refine xs_if S (Tr.isNone (u := .none) (ExV.cel rfl rfl)) (fun _ s₂ S₂ => ?_) (fun z => by simp at z)
    refine xs_ret S₂ (V := fun v _ => v = .none) ExV.noneC fun u s' S' hu => ?_
    subst hu
    exact h _ s' (S'.done rfl) ⟨[], .none, fun _ h => by cases h⟩
  | some p =>
    obtain ⟨hh, q⟩ := p
    obtain ⟨a, m⟩ := two
    obtain ⟨hq0, hq1⟩ := hone _ rfl
    obtain ⟨ad, e⟩ : ∃ ad, v = .ref ad := by cases hv; exact ⟨_, rfl⟩
    subst e
    have hm0 : m ≠ 0 := by intro z; simp only at h1; (first | lia | omega)
    refine xs_if S (Tr.isNone (u := .ref ad) (ExV.cel rfl rfl)) (fun z => by simp at z) fun _ s₂ S₂ => ?_
    refine wpAny_execs_nil ?_
    refine xs_comp S₂ (hitsG hh q a m) (Src.range_of C'.hand (a := 0) (b := m) (by decide) (by decide) (by simp only at h1; (first | lia | omega)) (by simp only at h8; (first | lia | omega)) (Ex.range1 T rfl (ExD.toI (ExD.itemT (ExV.toD (ExV.cel rfl rfl) (List.Mem.head _)) ExI.const (by decide) (by decide) rfl))))
      (Cl.of (cl := [(Str.ofString "two", L + 1 + 1), (Str.ofString "one", L + 1)]) S₂.ap (List.forall_mem_cons.mpr ⟨rfl, List.forall_mem_cons.mpr ⟨rfl, List.forall_mem_nil _⟩⟩) (by with_unfolding_all rfl) [Str.ofString "two", Str.ofString "one"]) ?hsz ?turn fun u s₃ S₃ => ?_
    case hsz => simp only [List.length_map, List.length_range, sizeLine]; simp only at h8; (first | lia | omega)
    case turn =>
      intro d hd X' h' g' o' C D ys dat' mm vv hold hvv
      obtain ⟨i, hi, rfl⟩ := List.mem_map.mp hd
      have ho : (Value.ref ad, optT (some (hh, q)), false) ∈ dat' := hold _ (List.Mem.tail _ (List.Mem.head _))
      have ht : (v', tupI (a, m), false) ∈ dat' := hold _ (List.Mem.head _)
      rw [Int.zero_add] at hvv
      refine ⟨(hh + q * i - a).fmod m == 0, Ts.one (Tr.cmpI CmpI.eq (ExI.mod hm0 (ExI.sub (ExI.add (ExD.toI (ExD.itemT (ExV.toD (ExV.cel rfl rfl) ho) ExI.const (by decide) (by decide) rfl)) (ExI.mul (IntMulOk.of_left (natAbs_bits hq0 hq1)) (ExD.toI (ExD.itemT (ExV.toD (ExV.cel rfl rfl) ho) ExI.const (by decide) (by decide) rfl)) (ExD.toI (ExV.toD (ExV.loc rfl) hvv))))
        (ExD.toI (ExD.itemT (ExV.toD (ExV.cel rfl rfl) ht) ExI.const (by decide) (by decide) rfl))) (ExD.toI (ExD.itemT (ExV.toD (ExV.cel rfl rfl) ht) ExI.const (by decide) (by decide) rfl))) ExI.const), fun e => ?_, fun e => ?_⟩
      · refine ⟨.int (hh + q * i), ?_, ExI.toD (ExI.add (ExD.toI (ExD.itemT (ExV.toD (ExV.cel rfl rfl) ho) ExI.const (by decide) (by decide) rfl)) (ExI.mul (IntMulOk.of_left (natAbs_bits hq0 hq1)) (ExD.toI (ExD.itemT (ExV.toD (ExV.cel rfl rfl) ho) ExI.const (by decide) (by decide) rfl)) (ExD.toI (ExV.toD (ExV.loc rfl) hvv))))⟩
        show (if (hh + q * (0 + (i : Int)) - a).fmod m == 0 then some (PyData.int (hh + q * (0 + (i : Int)))) else none) = _
        rw [Int.zero_add, if_pos e]
      · show (if (hh + q * (0 + (i : Int)) - a).fmod m == 0 then some (PyData.int (hh + q * (0 + (i : Int)))) else none) = _
        rw [Int.zero_add, if_neg (by rw [e]; decide)]
    rw [hits_data] at S₃
    have hlen : (hits hh q a m).length ≤ 8 := by
      unfold hits
      refine Nat.le_trans (List.length_filterMap_le _ _) ?_
      simp only [List.length_range]; simp only at h8; (first | lia | omega)
    have hF : meetF (some (hh, q)) (a, m) = meetL q m (hits hh q a m) := rfl
    rw [hF] at h
    clear hF
    generalize hits hh q a m = l at *
    have hshp : Shp 1 (.list (l.map PyData.int)) := Shp.list (k := 0) fun d hd => by
      obtain ⟨i, _, rfl⟩ := List.mem_map.mp hd
      exact Shp.int
    refine xs_ret S₃ (show ExD prg w A' _ _ _ _ (optT (meetL q m l)) true from Ex.ifexp (Tr.cmp (CmpV.neD (hshp.shaped (by decide)) (by rfl) (by have := C'.units; (first | lia | omega))) (ExV.toD (ExV.loc rfl) (List.Mem.head _)) (ExD.list (ExLD.nil (n := true))) keepD) (fun e => ?_) fun e => ?_) fun u s' S' hu => h u s' (S'.done rfl) (S'.res hu)
    · rw [eqv_nil] at e
      cases l with
      | nil => simp at e
      | cons x xs =>
        refine ExD.tuple (ExLD.cons (ExD.itemL (ExV.toD (ExV.loc rfl) (List.Mem.head _)) ExI.const (by decide) (by decide) rfl) (ExLD.cons (ExI.toD (ExI.fdiv ?_ ?_ (ExI.mul (IntMulOk.of_left (natAbs_bits hq0 hq1)) (ExD.toI (ExD.itemT (ExV.toD (ExV.cel rfl rfl) (List.Mem.tail _ (List.Mem.tail _ (List.Mem.head _)))) ExI.const (by decide) (by decide) rfl)) (ExD.toI (ExD.itemT (ExV.toD (ExV.cel rfl rfl) (List.Mem.tail _ (List.Mem.head _))) ExI.const (by decide) (by decide) rfl))) (ExI.len T rfl (ExV.toD (ExV.loc rfl) (List.Mem.head _)) (k := (x :: xs).length) (by simp) ?_))) ExLD.nil))
        · simp only [List.length_cons]; (first | lia | omega)
        · exact PyProof.noPylong_small (by simp only [List.length_cons] at hlen ⊢; (first | lia | omega))
        · simp only [List.length_cons] at hlen ⊢; (first | lia | omega)
    · rw [eqv_nil] at e
      cases l with
      | nil => exact ExD.noneC
      | cons x xs => simp at e
end
end Mine
namespace Mine
noncomputable def stepOf (n : Int) : Int := [2, 4, 3, 8, 6, 1, 5, 7].getD (n.fmod 8).toNat 1
noncomputable def leadOf (n : Int) : Int := 1 + (n.fdiv 80).fmod 8
noncomputable def formOf (n : Int) : Int := (n.fdiv 8).fmod 10
noncomputable def rowOf (form lead step : Int) : List Int := [[lead, step, 0], [lead, step, 0, lead], [lead, step, 0, 0, 127], [lead, lead, step, 0, 5], [step, 0], [lead, step, 127, 0], [lead, step], [0, lead, step, 0], [127, step, 0], []].getD form.toNat []
noncomputable def tailOf (form lead step : Int) : PyData := [PyData.tuple [.int lead, .int step], .tuple [.int lead, .int step], .tuple [.int lead, .int step], .tuple [.int (2 * lead), .int step], .tuple [.int 0, .int step], .none, .none, .none, .none, .none].getD form.toNat .none
noncomputable def wordOf (form : Int) : Str := if form < 5 then Str.ofString "goes on" else if form = 7 then Str.ofString "invalid grouping" else Str.ofString "ends"
noncomputable def rulerD (n : Int) : PyData := .tuple [.list ((rowOf (formOf n) (leadOf n) (stepOf n)).map .int), tailOf (formOf n) (leadOf n) (stepOf n), .str (wordOf (formOf n))]
theorem step_get (n : Int) : ([PyData.int 2, .int 4, .int 3, .int 8, .int 6, .int 1, .int 5, .int 7])[(n.fmod 8).toNat]? = some (.int (stepOf n)) := by
  have h1 : 0 ≤ n.fmod 8 := Int.fmod_nonneg_of_pos n (by decide)
  have h2 : n.fmod 8 < 8 := Int.fmod_lt_of_pos n (by decide)
  unfold stepOf
  generalize n.fmod 8 = k at *
  obtain ⟨j, rfl⟩ := Int.eq_ofNat_of_zero_le h1
  have hj : j < 8 := by omega
  match j, hj with
  | 0, _ => rfl
  | 1, _ => rfl
  | 2, _ => rfl
  | 3, _ => rfl
  | 4, _ => rfl
  | 5, _ => rfl
  | 6, _ => rfl
  | 7, _ => rfl
noncomputable def rowsD (lead step : Int) : List PyData := [.list [.int lead, .int step, .int 0], .list [.int lead, .int step, .int 0, .int lead], .list [.int lead, .int step, .int 0, .int 0, .int 127], .list [.int lead, .int lead, .int step, .int 0, .int 5], .list [.int step, .int 0], .list [.int lead, .int step, .int 127, .int 0], .list [.int lead, .int step], .list [.int 0, .int lead, .int step, .int 0], .list [.int 127, .int step, .int 0], .list []]
noncomputable def tailsD (lead step : Int) : List PyData := [.tuple [.int lead, .int step], .tuple [.int lead, .int step], .tuple [.int lead, .int step], .tuple [.int (2 * lead), .int step], .tuple [.int 0, .int step], .none, .none, .none, .none, .none]
theorem rows_get {f : Int} (a b : Int) (h1 : 0 ≤ f) (h2 : f < 10) : (rowsD a b)[f.toNat]? = some (.list ((rowOf f a b).map .int)) := by
  obtain ⟨j, rfl⟩ := Int.eq_ofNat_of_zero_le h1
  have hj : j < 10 := by omega
  match j, hj with
  | 0, _ | 1, _ | 2, _ | 3, _ | 4, _ | 5, _ | 6, _ | 7, _ | 8, _ | 9, _ => rfl
theorem tails_get {f : Int} (a b : Int) (h1 : 0 ≤ f) (h2 : f < 10) : (tailsD a b)[f.toNat]? = some (tailOf f a b) := by
  obtain ⟨j, rfl⟩ := Int.eq_ofNat_of_zero_le h1
  have hj : j < 10 := by omega
  match j, hj with
  | 0, _ | 1, _ | 2, _ | 3, _ | 4, _ | 5, _ | 6, _ | 7, _ | 8, _ | 9, _ => rfl
theorem sz10 {l : List PyData} (h : l.length = 10) : l.length ≤ sizeLine := by rw [h]; decide
theorem mul2 (a : Int) : IntMulOk 2 a := IntMulOk.of_left (by decide +kernel)
section
variable {w : World} {A : Around} {s : Shared} {mg mb : Loc} {base : Heap} {chain : List Env} {Q E : Value → Shared → Prop}
set_option maxHeartbeats 0 in
theorem c_ruler (T : Tb (KF w) mg mb base) (C : Cx A chain 1) (N : At base chain s) {n : Int} {t : Tok}
    (h : ∀ u s', Gr (frs chain) s s' → New s s' u (rulerD n) → Q u s') : Wp (model prg w) A (call (.ref 82) [.int n t]) Q E s := by
  refine entw [(Str.ofString "number", .int n t)] [(Str.ofString "number", .int n t)] [] T C N rfl rfl rfl rfl rfl rfl rfl rfl rfl rfl fun L A' s₁ C' S => ?_
  have f0 : 0 ≤ formOf n := Int.fmod_nonneg_of_pos _ (by decide)
  have f9 : formOf n < 10 := Int.fmod_lt_of_pos _ (by decide)
  refine ys_swap3 (x := Str.ofString "step") (y := Str.ofString "lead") (z := Str.ofString "form") (by kernel_rfl) (by kernel_rfl) C'.hand S (n := true) (d := .int (stepOf n)) (d' := .int (leadOf n)) (d'' := .int (formOf n)) ?_ fun u1 u2 u3 s₂ S₂ => ?_
  · refine ExD.tuple (ExLD.cons (ExD.atL (ExD.list (ExLD.cons ExI.const.toD (ExLD.cons ExI.const.toD (ExLD.cons ExI.const.toD (ExLD.cons ExI.const.toD (ExLD.cons ExI.const.toD (ExLD.cons ExI.const.toD (ExLD.cons ExI.const.toD (ExLD.cons ExI.const.toD ExLD.nil))))))))) (ExI.mod (by decide) (ExV.toI (ExV.loc rfl)) ExI.const) (Int.fmod_nonneg_of_pos n (by decide)) (by have := Int.fmod_lt_of_pos n (b := 8) (by decide); omega) (step_get n))
      (ExLD.cons (ExI.toD (ExI.add ExI.const (ExI.mod (by decide) (ExI.fdiv (by decide) (PyProof.noPylong_small (by decide)) (ExV.toI (ExV.loc rfl)) ExI.const) ExI.const)))
      (ExLD.cons (ExI.toD (ExI.mod (by decide) (ExI.fdiv (by decide) (PyProof.noPylong_small (by decide)) (ExV.toI (ExV.loc rfl)) ExI.const) ExI.const)) ExLD.nil)))
  obtain ⟨t1, rfl⟩ := (S₂.da (u1, _, _) (List.Mem.head _)).isInt
  obtain ⟨t2, rfl⟩ := (S₂.da (u2, _, _) (List.Mem.tail _ (List.Mem.head _))).isInt
  obtain ⟨t3, rfl⟩ := (S₂.da (u3, _, _) (List.Mem.tail _ (List.Mem.tail _ (List.Mem.head _)))).isInt
  have l1 : 0 ≤ (n.fdiv 80).fmod 8 := Int.fmod_nonneg_of_pos _ (by decide)
  have l2 : (n.fdiv 80).fmod 8 < 8 := Int.fmod_lt_of_pos _ (by decide)
  have l3 : leadOf n = 1 + (n.fdiv 80).fmod 8 := rfl
  refine ys_D S₂ (d := .list (rowsD (leadOf n) (stepOf n))) (n := true) (ExD.list (ExLD.cons (ExD.list (ExLD.cons (ExI.toD (ExV.toI (ExV.loc rfl))) (ExLD.cons (ExI.toD (ExV.toI (ExV.loc rfl))) (ExLD.cons (ExI.toD ExI.const) ExLD.nil)))) (ExLD.cons (ExD.list (ExLD.cons (ExI.toD (ExV.toI (ExV.loc rfl))) (ExLD.cons (ExI.toD (ExV.toI (ExV.loc rfl))) (ExLD.cons (ExI.toD ExI.const) (ExLD.cons (ExI.toD (ExV.toI (ExV.loc rfl))) ExLD.nil))))) (ExLD.cons (ExD.list (ExLD.cons (ExI.toD (ExV.toI (ExV.loc rfl))) (ExLD.cons (ExI.toD (ExV.toI (ExV.loc rfl))) (ExLD.cons (ExI.toD ExI.const) (ExLD.cons (ExI.toD ExI.const) (ExLD.cons (ExI.toD ExI.const) ExLD.nil)))))) (ExLD.cons (ExD.list (ExLD.cons (ExI.toD (ExV.toI (ExV.loc rfl))) (ExLD.cons (ExI.toD (ExV.toI (ExV.loc rfl))) (ExLD.cons (ExI.toD (ExV.toI (ExV.loc rfl))) (ExLD.cons (ExI.toD ExI.const) (ExLD.cons (ExI.toD ExI.const) ExLD.nil)))))) (ExLD.cons (ExD.list (ExLD.cons (ExI.toD (ExV.toI (ExV.loc rfl))) (ExLD.cons (ExI.toD ExI.const) ExLD.nil))) (ExLD.cons (ExD.list (ExLD.cons (ExI.toD (ExV.toI (ExV.loc rfl))) (ExLD.cons (ExI.toD (ExV.toI (ExV.loc rfl))) (ExLD.cons (ExI.toD ExI.const) (ExLD.cons (ExI.toD ExI.const) ExLD.nil))))) (ExLD.cons (ExD.list (ExLD.cons (ExI.toD (ExV.toI (ExV.loc rfl))) (ExLD.cons (ExI.toD (ExV.toI (ExV.loc rfl))) ExLD.nil))) (ExLD.cons (ExD.list (ExLD.cons (ExI.toD ExI.const) (ExLD.cons (ExI.toD (ExV.toI (ExV.loc rfl))) (ExLD.cons (ExI.toD (ExV.toI (ExV.loc rfl))) (ExLD.cons (ExI.toD ExI.const) ExLD.nil))))) (ExLD.cons (ExD.list (ExLD.cons (ExI.toD ExI.const) (ExLD.cons (ExI.toD (ExV.toI (ExV.loc rfl))) (ExLD.cons (ExI.toD ExI.const) ExLD.nil)))) (ExLD.cons (ExD.list ExLD.nil) ExLD.nil)))))))))) (sz10 rfl)) fun vr s₃ S₃ => ?_
  refine ys_D S₃ (d := .list (tailsD (leadOf n) (stepOf n))) (n := true) (ExD.list (ExLD.cons (ExD.tuple (ExLD.cons (ExI.toD (ExV.toI (ExV.loc rfl))) (ExLD.cons (ExI.toD (ExV.toI (ExV.loc rfl))) ExLD.nil))) (ExLD.cons (ExD.tuple (ExLD.cons (ExI.toD (ExV.toI (ExV.loc rfl))) (ExLD.cons (ExI.toD (ExV.toI (ExV.loc rfl))) ExLD.nil))) (ExLD.cons (ExD.tuple (ExLD.cons (ExI.toD (ExV.toI (ExV.loc rfl))) (ExLD.cons (ExI.toD (ExV.toI (ExV.loc rfl))) ExLD.nil))) (ExLD.cons (ExD.tuple (ExLD.cons (ExI.toD (ExI.mul (mul2 _) ExI.const (ExV.toI (ExV.loc rfl)))) (ExLD.cons (ExI.toD (ExV.toI (ExV.loc rfl))) ExLD.nil))) (ExLD.cons (ExD.tuple (ExLD.cons (ExI.toD ExI.const) (ExLD.cons (ExI.toD (ExV.toI (ExV.loc rfl))) ExLD.nil))) (ExLD.cons ExD.noneC (ExLD.cons ExD.noneC (ExLD.cons ExD.noneC (ExLD.cons ExD.noneC (ExLD.cons ExD.noneC ExLD.nil)))))))))) (sz10 rfl)) fun vt s₄ S₄ => ?_
  refine ys_ret S₄ (show ExD prg w A' _ _ _ _ (rulerD n) true from ExD.tuple (ExLD.cons (ExD.atL (ExV.toD (ExV.loc rfl) (List.Mem.tail _ (List.Mem.head _))) (ExV.toI (ExV.loc rfl)) f0 (by omega) (rows_get _ _ f0 f9)) (ExLD.cons (ExD.atL (ExV.toD (ExV.loc rfl) (List.Mem.head _)) (ExV.toI (ExV.loc rfl)) f0 (by omega) (tails_get _ _ f0 f9)) (ExLD.cons ?w ExLD.nil)))) fun v s' S' hv => ⟨?_⟩
  case w =>
    refine ExS.toD (Ex.ifexp (Tr.cmpI CmpI.lt (ExV.toI (ExV.loc rfl)) ExI.const) (fun e => ?_) (fun e => Ex.ifexp (Tr.cmpI CmpI.eq (ExV.toI (ExV.loc rfl)) ExI.const) (fun e' => ?_) fun e' => ?_))
    · rw [show wordOf (formOf n) = Str.ofString "goes on" from if_pos (of_decide_eq_true e)]; exact ExS.const
    · rw [show wordOf (formOf n) = Str.ofString "invalid grouping" from (if_neg (of_decide_eq_false e)).trans (if_pos (eq_of_beq e'))]; exact ExS.const
    · rw [show wordOf (formOf n) = Str.ofString "ends" from (if_neg (of_decide_eq_false e)).trans (if_neg (fun z => by rw [z] at e'; exact absurd e' (by decide)))]; exact ExS.const
  exact h v s' (S'.done rfl) (S'.res hv)
end
end Mine
namespace Mine
section
variable {w : World} {A : Around} {s : Shared} {mg mb : Loc} {base : Heap} {chain : List Env} {Q E : Value → Shared → Prop}
theorem CmpV.eqS {prog : Program} {x y : Str} : CmpV prog w A .Eq (fun v _ => ∃ t, v = Value.str x t) (fun v _ => ∃ t, v = Value.str y t) (x == y) := fun s v v' Q E hv hv' q => by
  obtain ⟨t, rfl⟩ := hv
  obtain ⟨t', rfl⟩ := hv'
  exact PyProof.Rows.eq_str q
theorem one_eq (c d : Nat) : ((⟨#[c]⟩ : Str) == (⟨#[d]⟩ : Str)) = (c == d) := by
  by_cases h : c = d
  · subst h; simp
  · rw [beq_eq_false_iff_ne.mpr h]
    refine beq_eq_false_iff_ne.mpr fun z => h ?_
    injection z with z
    injection z with z
    injection z
/-- amount and s[pos] == ' ' -/
theorem tr_pad {env : Env} {P : Pa} {Y : Sy} {prog : Program} {pa ps pp p1 p2 p3 p4 : Pos} {k : Nat} {n : Str} {a i : Int} {ta ti tx : Tok} {x : Str} {b : Bool}
    (ha : Y.m.lookup (Str.ofString "amount") = some (.int a ta)) (hi : Y.m.lookup n = some (.int i ti)) (hx : Y.m.lookup (Str.ofString "s") = some (.str x tx))
    (hb : (a = 0 ∧ b = false) ∨ (a ≠ 0 ∧ 0 ≤ i ∧ i < 2 ^ 62 ∧ ∃ c, x.cps[i.toNat]? = some c ∧ b = (c == 32)))
    (hL : env.locals = P.L := by rfl) (hk : env.scope.kind = .function := by rfl) (k1 : env.kindOf (Str.ofString "amount") = some .local := by rfl) (k2 : env.kindOf n = some .local := by rfl) (k3 : env.kindOf (Str.ofString "s") = some .local := by rfl) (hd : (n == ("__debug__" : Str)) = false := by rfl) :
    Tr prog w A env P Y (.BoolOp .And [.Name (Str.ofString "amount") pa, .Compare (.Subscript (.Name (Str.ofString "s") ps) (.Name n pp) p1) [.Eq] [.Constant (.str (Str.ofString " ")) k p2] p3] p4) b := by
  have e1 : ExI prog w A env P Y (.Name (Str.ofString "amount") pa) a := ExV.toI (ExV.loc ha hL hk k1)
  rcases hb with ⟨rfl, rfl⟩ | ⟨h0, h1, h2, c, hc, rfl⟩
  · have := Tr.and2 (pos := p4) (b' := true) (Tr.int e1) (e' := .Compare (.Subscript (.Name (Str.ofString "s") ps) (.Name n pp) p1) [.Eq] [.Constant (.str (Str.ofString " ")) k p2] p3) fun z => by simp at z
    simpa using this
  · have := Tr.and2 (pos := p4) (Tr.int e1) fun _ => Tr.cmp (pos := p3) CmpV.eqS (ExS.at (pos := p1) (ExV.toS (ExV.loc (pos := ps) hx hL hk k3)) (ExV.toI (ExV.loc (pos := pp) hi hL hk k2 hd)) h1 (by (first | lia | omega)) hc) (ExS.const (i := Str.ofString " ") (k := k) (pos := p2)) keepS
    have e2 : (a != 0) = true := by simpa using h0
    rw [e2, Bool.true_and] at this
    have e3 : ((⟨#[c]⟩ : Str) == Str.ofString " ") = (c == 32) := one_eq c 32
    rw [e3] at this
    exact this

theorem c_strip (T : Tb (KF w) mg mb base) (C : Cx A chain 1) (N : At base chain s) {x : Str} {tx ta : Tok} {a : Int} (hsz : x.length ≤ 64) (ha : a < 2 ^ 60) (ha' : -(2 ^ 60) < a) (i j : Nat) (hi : i ≤ x.length) (hj : i + j ≤ x.length)
    (h1 : ∀ k < i, x.cps[k]? = some 32 ∧ a ≠ k) (h2 : a = i ∨ ∃ c, x.cps[i]? = some c ∧ c ≠ 32)
    (h3 : ∀ k < j, x.cps[x.length - 1 - k]? = some 32 ∧ a - i ≠ k) (h4 : a - i = j ∨ i + j < x.length ∧ ∃ c, x.cps[x.length - 1 - j]? = some c ∧ c ≠ 32)
    (h : ∀ t s', Gr (frs chain) s s' → Q (Value.str (Txt.slice x (some i) (some ((x.length : Int) - j))) t) s') : Wp (model prg w) A (call (.ref 28) [.str x tx, .int a ta]) Q E s := by
  refine entw [(Str.ofString "s", .str x tx), (Str.ofString "amount", .int a ta)] [(Str.ofString "amount", .int a ta), (Str.ofString "s", .str x tx)] [] T C N rfl rfl rfl rfl rfl rfl rfl rfl rfl rfl fun L A' s₁ C' S => ?_
  refine ys_I S ExI.const fun t1 s₂ S₂ => ?_
  refine ys_while S₂ (fun n Y => ∃ (k : Nat) (u v : Tok), k ≤ i ∧ n = i - k ∧ Y = ⟨[], [], [(Str.ofString "lpos", .int k u), (Str.ofString "amount", .int (a - k) v), (Str.ofString "s", .str x tx)], []⟩) i ⟨0, t1, ta, Nat.zero_le _, rfl, by simp⟩ ?_
  rintro n Yi s₃ E' hE ⟨k, u, v, hk, rfl, rfl⟩ S₃
  have hlen : x.cps.size = x.length := rfl
  by_cases hlt : k < i
  · have hb := h1 k hlt
    refine ⟨(tr_pad (b := true) (a := a - k) (i := k) rfl rfl rfl (.inr ⟨by (first | lia | omega), by (first | lia | omega), by (first | lia | omega), 32, by simpa using hb.1, by simp⟩)).go s₃ _ _ S₃ fun s₄ G₄ => ?_⟩
    rw [if_pos rfl]
    refine ys_inc (S₃.grow G₄) (t := u) (a := k) (b := 1) rfl ExI.const fun t4 s₅ S₅ => ?_
    refine ys_dec S₅ (t := v) (a := a - k) (b := 1) rfl ExI.const fun t5 s₆ S₆ => ?_
    refine ys_nil (Lp.next ⟨i - (k + 1), _, by (first | lia | omega), ⟨k + 1, t4, t5, hlt, rfl, ?_⟩, S₆.norm [(Str.ofString "lpos", .int (k + 1) t4), (Str.ofString "amount", .int (a - k - 1) t5), (Str.ofString "s", .str x tx)] [Str.ofString "lpos", Str.ofString "amount", Str.ofString "s"]⟩)
    simp only [Int.sub_sub]; rfl
  · obtain rfl : k = i := by (first | lia | omega)
    refine ⟨(tr_pad (b := false) (a := a - k) (i := k) rfl rfl rfl ?_).go s₃ _ _ S₃ fun s₄ G₄ => ?_⟩
    · by_cases hz : a - k = 0
      · exact .inl ⟨hz, rfl⟩
      · refine .inr ⟨hz, by (first | lia | omega), by (first | lia | omega), ?_⟩
        rcases h2 with h2 | ⟨c, hc, hn⟩
        · (first | lia | omega)
        · exact ⟨c, by simpa using hc, by simp [hn]⟩
    rw [if_neg (by decide)]
    refine ys_I (S₃.grow G₄) (ExI.sub (ExI.lenS T rfl (ExV.toS (ExV.loc rfl)) (by (first | lia | omega))) ExI.const) fun t6 s₅ S₅ => ?_
    have S₅ := S₅.norm [(Str.ofString "rpos", .int ((x.length : Int) - 1) t6), (Str.ofString "amount", .int (a - k) v), (Str.ofString "lpos", .int k u), (Str.ofString "s", .str x tx)] [Str.ofString "rpos", Str.ofString "amount", Str.ofString "lpos", Str.ofString "s"]
    refine ys_while S₅ (fun n Y => ∃ (l : Nat) (u' v' : Tok), l ≤ j ∧ n = j - l ∧ Y = ⟨[], [], [(Str.ofString "rpos", .int ((x.length : Int) - 1 - l) u'), (Str.ofString "amount", .int (a - k - l) v'), (Str.ofString "lpos", .int k u), (Str.ofString "s", .str x tx)], []⟩) j ⟨0, t6, v, Nat.zero_le _, rfl, by simp⟩ ?_
    rintro n Yi s₃ E' hE ⟨l, u', v', hl, rfl, rfl⟩ S₃
    by_cases hlt : l < j
    · have hb := h3 l hlt
      refine ⟨(tr_pad (b := true) (a := a - k - l) (i := (x.length : Int) - 1 - l) rfl rfl rfl (.inr ⟨by (first | lia | omega), by (first | lia | omega), by (first | lia | omega), 32, by rw [← hb.1]; congr 1; (first | lia | omega), by simp⟩)).go s₃ _ _ S₃ fun s₄ G₄ => ?_⟩
      rw [if_pos rfl]
      refine ys_dec (S₃.grow G₄) (t := u') (a := (x.length : Int) - 1 - l) (b := 1) rfl ExI.const fun t4 s₅ S₅ => ?_
      refine ys_dec S₅ (t := v') (a := a - k - l) (b := 1) rfl ExI.const fun t5 s₆ S₆ => ?_
      refine ys_nil (Lp.next ⟨j - (l + 1), _, by (first | lia | omega), ⟨l + 1, t4, t5, hlt, rfl, ?_⟩, S₆.norm [(Str.ofString "rpos", .int ((x.length : Int) - 1 - l - 1) t4), (Str.ofString "amount", .int (a - k - l - 1) t5), (Str.ofString "lpos", .int k u), (Str.ofString "s", .str x tx)] [Str.ofString "rpos", Str.ofString "amount", Str.ofString "lpos", Str.ofString "s"]⟩)
      simp only [Int.sub_sub]; rfl
    · obtain rfl : l = j := by (first | lia | omega)
      refine ⟨(tr_pad (b := false) (a := a - k - l) (i := (x.length : Int) - 1 - l) rfl rfl rfl ?_).go s₃ _ _ S₃ fun s₄ G₄ => ?_⟩
      · by_cases hz : a - k - l = 0
        · exact .inl ⟨hz, rfl⟩
        · refine .inr ⟨hz, by (first | lia | omega), by (first | lia | omega), ?_⟩
          rcases h4 with h4 | ⟨hq, c, hc, hn⟩
          · (first | lia | omega)
          · exact ⟨c, by rw [← hc]; congr 1; (first | lia | omega), by simp [hn]⟩
      rw [if_neg (by decide)]
      refine ys_ret (S₃.grow G₄) (ExS.slice (by simp only [sizeLine]; (first | lia | omega)) (ExV.toS (ExV.loc rfl)) (ExV.toI (ExV.loc rfl)) (ExI.add (ExV.toI (ExV.loc rfl)) ExI.const)) fun v s' S' hv => ⟨?_⟩
      obtain ⟨t, rfl⟩ := hv
      have e : ((x.length : Int) - 1 - l + 1) = (x.length : Int) - l := by (first | lia | omega)
      rw [e]
      exact h t s' (S'.done rfl)
end
end Mine
namespace Mine
section
variable {w : World} {A : Around} {s : Shared} {mg mb : Loc} {base : Heap} {chain : List Env} {Q E : Value → Shared → Prop}
theorem tr_padR {env : Env} {P : Pa} {Y : Sy} {prog : Program} {pa ps pp p1 p2 p3 p4 : Pos} {k : Nat} {n : Str} {a i : Int} {ta ti tx : Tok} {x : Str} (hh : A.handled = none)
    (ha : Y.m.lookup (Str.ofString "amount") = some (.int a ta)) (hi : Y.m.lookup n = some (.int i ti)) (hx : Y.m.lookup (Str.ofString "s") = some (.str x tx))
    (h0 : a ≠ 0) (hr : fitsSsize i = true) (ho : (x.length : Int) ≤ i)
    (hL : env.locals = P.L := by rfl) (hk : env.scope.kind = .function := by rfl) (k1 : env.kindOf (Str.ofString "amount") = some .local := by rfl) (k2 : env.kindOf n = some .local := by rfl) (k3 : env.kindOf (Str.ofString "s") = some .local := by rfl) (hd : (n == ("__debug__" : Str)) = false := by rfl) :
    RzT prog w A env P Y (.BoolOp .And [.Name (Str.ofString "amount") pa, .Compare (.Subscript (.Name (Str.ofString "s") ps) (.Name n pp) p1) [.Eq] [.Constant (.str (Str.ofString " ")) k p2] p3] p4) "IndexError" := by
  have e1 : Tr prog w A env P Y (.Name (Str.ofString "amount") pa) true := by
    have := Tr.int (ExV.toI (ExV.loc (prog := prog) (w := w) (A := A) (pos := pa) ha hL hk k1))
    have e2 : (a != 0) = true := by simpa using h0
    rw [e2] at this; exact this
  exact RzT.and2 e1 (RzT.cmp (Rz.item (pos := p1) hh (ExV.toS (ExV.loc (pos := ps) hx hL hk k3)) (ExV.toI (ExV.loc (pos := pp) hi hL hk k2 hd)) hr ho))
theorem c_stripR (T : Tb (KF w) mg mb base) (C : Cx A chain 1) (N : At base chain s) {x : Str} {tx ta : Tok} {a : Int} (hsz : x.length ≤ 64) (ha : a < 2 ^ 60) (ha' : -(2 ^ 60) < a)
    (h1 : ∀ k < x.length, x.cps[k]? = some 32) (h2 : ∀ k ≤ x.length, a ≠ k)
    (h : ∀ e a0 s', Fly chain s s' e (.type "IndexError") a0 → E (.ref e) s') : Wp (model prg w) A (call (.ref 28) [.str x tx, .int a ta]) Q E s := by
  refine entw [(Str.ofString "s", .str x tx), (Str.ofString "amount", .int a ta)] [(Str.ofString "amount", .int a ta), (Str.ofString "s", .str x tx)] [] T C N rfl rfl rfl rfl rfl rfl rfl rfl rfl rfl fun L A' s₁ C' S => ?_
  have hL : s.heap.get? L = none := (S.nx L List.mem_cons_self).elim (fun q => by cases q) id
  refine ys_I S ExI.const fun t1 s₂ S₂ => ?_
  refine ys_while S₂ (fun n Y => ∃ (k : Nat) (u v : Tok), k ≤ x.length ∧ n = x.length - k ∧ Y = ⟨[], [], [(Str.ofString "lpos", .int k u), (Str.ofString "amount", .int (a - k) v), (Str.ofString "s", .str x tx)], []⟩) x.length ⟨0, t1, ta, Nat.zero_le _, rfl, by simp⟩ ?_
  rintro n Yi s₃ E' hE ⟨k, u, v, hk, rfl, rfl⟩ S₃
  by_cases hlt : k < x.length
  · have hb := h1 k hlt
    have h2' := h2 k hk
    refine ⟨(tr_pad (b := true) (a := a - k) (i := k) rfl rfl rfl (.inr ⟨by (first | lia | omega), by (first | lia | omega), by (first | lia | omega), 32, by simpa using hb, by simp⟩)).go s₃ _ _ S₃ fun s₄ G₄ => ?_⟩
    rw [if_pos rfl]
    refine ys_inc (S₃.grow G₄) (t := u) (a := k) (b := 1) rfl ExI.const fun t4 s₅ S₅ => ?_
    refine ys_dec S₅ (t := v) (a := a - k) (b := 1) rfl ExI.const fun t5 s₆ S₆ => ?_
    refine ys_nil (Lp.next ⟨x.length - (k + 1), _, by (first | lia | omega), ⟨k + 1, t4, t5, hlt, rfl, ?_⟩, S₆.norm [(Str.ofString "lpos", .int (k + 1) t4), (Str.ofString "amount", .int (a - k - 1) t5), (Str.ofString "s", .str x tx)] [Str.ofString "lpos", Str.ofString "amount", Str.ofString "s"]⟩)
    simp only [Int.sub_sub]; rfl
  · obtain rfl : k = x.length := by (first | lia | omega)
    have h2' := h2 x.length hk
    refine ⟨(tr_padR C'.hand (a := a - x.length) (i := x.length) rfl rfl rfl (by (first | lia | omega)) (by simp [fitsSsize]; (first | lia | omega)) (Int.le_refl _)).go s₃ _ _ S₃ fun s₄ h' tk e G₄ hx => ?_⟩
    refine hE _ _ ?_
    unfold notedBy
    have S₄ := S₃.grow G₄
    refine noteNew (L := L) S₄.at C'.frames rfl hx fun s₅ a0 H₅ => ?_
    refine came (L := L) rfl H₅ fun s₆ H₆ => ?_
    exact leaveHeld N (S₄.done rfl) hL rfl H₆ fun s₇ F => h e a0 s₇ F
end
end Mine
namespace Mine
theorem isSub_IndexError : isSubtype (.type "IndexError") (.type "IndexError") = pure true := by rw [isSubtype_type]; kernel_rfl
section
variable {w : World} {A : Around} {s : Shared} {mg mb : Loc} {base : Heap} {chain : List Env} {Q E : Value → Shared → Prop}
/-- a call of _strip_padding in a block -/
theorem exS_strip {env : Env} {P : Pa} {Y : Sy} {p pos : Pos} {e e' : Expr} {x : Str} {a : Int} (T : Tb (KF w) mg mb P.base) (C : Cx A P.chain 1) (h : ExS prg w A env P Y e x) (h' : ExI prg w A env P Y e' a)
    (hsz : x.length ≤ 64) (ha : a < 2 ^ 60) (ha' : -(2 ^ 60) < a) (i j : Nat) (hi : i ≤ x.length) (hj : i + j ≤ x.length)
    (h1 : ∀ k < i, x.cps[k]? = some 32 ∧ a ≠ k) (h2 : a = i ∨ ∃ c, x.cps[i]? = some c ∧ c ≠ 32)
    (h3 : ∀ k < j, x.cps[x.length - 1 - k]? = some 32 ∧ a - i ≠ k) (h4 : a - i = j ∨ i + j < x.length ∧ ∃ c, x.cps[x.length - 1 - j]? = some c ∧ c ≠ 32)
    (hg : env.globals = mainGlobals := by rfl) (hkd : env.scope.kind = .function := by rfl) (hx : env.kindOf (Str.ofString "_strip_padding") = some .globalImplicit := by rfl)
    (he : starEach [e, e'] env = [(false, eval e env), (false, eval e' env)] := by rfl) (he' : starEach [e'] env = [(false, eval e' env)] := by rfl) :
    ExS prg w A env P Y (.Call (.Name (Str.ofString "_strip_padding") p) [e, e'] [] pos) (Txt.slice x (some i) (some ((x.length : Int) - j))) := by
  refine Ex.call T (f := 28) (by rfl) (by rfl) (ExL.two h h' keepS he) (fun s vs Q E S hvs q => ?_) hg hkd hx (by rfl) (by rw [he, he']) (fun _ => by rw [he']; rfl)
  obtain ⟨v, v', rfl, ⟨t, rfl⟩, t', rfl⟩ := hvs
  exact (c_strip T C S.at hsz ha ha' i j hi hj h1 h2 h3 h4 fun t s' G => q _ s' G ⟨t, rfl⟩).go
theorem rf_strip {env : Env} {P : Pa} {Y : Sy} {p pos : Pos} {e e' : Expr} {x : Str} {a : Int} (T : Tb (KF w) mg mb P.base) (C : Cx A P.chain 1) (h : ExS prg w A env P Y e x) (h' : ExI prg w A env P Y e' a)
    (hsz : x.length ≤ 64) (ha : a < 2 ^ 60) (ha' : -(2 ^ 60) < a) (h1 : ∀ k < x.length, x.cps[k]? = some 32) (h2 : ∀ k ≤ x.length, a ≠ k)
    (hg : env.globals = mainGlobals := by rfl) (hkd : env.scope.kind = .function := by rfl) (hx : env.kindOf (Str.ofString "_strip_padding") = some .globalImplicit := by rfl)
    (he : starEach [e, e'] env = [(false, eval e env), (false, eval e' env)] := by rfl) (he' : starEach [e'] env = [(false, eval e' env)] := by rfl) :
    Rf prg w A env P Y (.Call (.Name (Str.ofString "_strip_padding") p) [e, e'] [] pos) "IndexError" := by
  refine Rf.call T (f := 28) (by rfl) (by rfl) (ExL.two h h' keepS he) (fun s vs Q E S hvs q => ?_) hg hkd hx (by rfl) (by rw [he, he']) (fun _ => by rw [he']; rfl)
  obtain ⟨v, v', rfl, ⟨t, rfl⟩, t', rfl⟩ := hvs
  exact (c_stripR T C S.at hsz ha ha' h1 h2 fun e a0 s' F => q _ _ s' F).go

theorem ExI.neg {env : Env} {P : Pa} {Y : Sy} {prog : Program} {e : Expr} {pos : Pos} {a : Int} (h : ExI prog w A env P Y e a) : ExI prog w A env P Y (.UnaryOp .USub e pos) (-a) := .mk fun s Q E S q => by
  refine wpAny_UnaryOp (h.go s _ _ S fun v s' G hv => ?_)
  obtain ⟨t, rfl⟩ := hv
  exact PyProof.Rows.neg_int (q _ _ (G.toks _) ⟨_, rfl⟩)

structure SOk (x : Str) (a : Int) (i j : Nat) : Prop where
  hi : i ≤ x.length
  hj : i + j ≤ x.length
  h1 : ∀ k < i, x.cps[k]? = some 32 ∧ a ≠ k
  h2 : a = i ∨ ∃ c, x.cps[i]? = some c ∧ c ≠ 32
  h3 : ∀ k < j, x.cps[x.length - 1 - k]? = some 32 ∧ a - i ≠ k
  h4 : a - i = j ∨ i + j < x.length ∧ ∃ c, x.cps[x.length - 1 - j]? = some c ∧ c ≠ 32
noncomputable abbrev cut (x : Str) (i j : Nat) : Str := Txt.slice x (some i) (some ((x.length : Int) - j))
theorem c_told (T : Tb (KF w) mg mb base) (C : Cx A chain 2) (N : At base chain s) {x : Str} {tx tf : Tok} {few : Int} (hsz : x.length ≤ 64) {i1 j1 i2 j2 : Nat} (O1 : SOk x x.length i1 j1) (O2 : SOk x (few.fmod ((x.length : Int) + 1)) i2 j2) (d : List PyData)
    (hd : (∃ i3 j3, SOk x (-1) i3 j3 ∧ (cut x i3 j3).length < 2 ^ 60 ∧ d = [.str (cut x i1 j1), .str (cut x i2 j2), .int (Txt.find x (cut x i3 j3)), .int (cut x i3 j3).length]) ∨ ((∀ k < x.length, x.cps[k]? = some 32) ∧ d = [.str (cut x i1 j1), .str (cut x i2 j2)]))
    (h : ∀ u s', Gr (frs chain) s s' → New s s' u (.list d) → Q u s') : Wp (model prg w) A (call (.ref 108) [.str x tx, .int few tf]) Q E s := by
  refine entw [(Str.ofString "row", .str x tx), (Str.ofString "few", .int few tf)] [(Str.ofString "few", .int few tf), (Str.ofString "row", .str x tx)] [] T C N rfl rfl rfl rfl rfl rfl rfl rfl rfl rfl fun L A' s₁ C' S => ?_
  have f0 : 0 ≤ few.fmod ((x.length : Int) + 1) := Int.fmod_nonneg_of_pos _ (by omega)
  have f1 : few.fmod ((x.length : Int) + 1) < (x.length : Int) + 1 := Int.fmod_lt_of_pos _ (by omega)
  have a1 : (x.length : Int) < 2 ^ 60 := by omega
  have a2 : -(2 ^ 60) < (x.length : Int) := by omega
  have a3 : few.fmod ((x.length : Int) + 1) < 2 ^ 60 := by omega
  have a4 : -(2 ^ 60) < few.fmod ((x.length : Int) + 1) := by omega
  have a5 : (x.length : Int) < 2 ^ 63 := by omega
  have a6 : (x.length : Int) + 1 ≠ 0 := by omega
  refine ys_D S (d := .list [.str (cut x i1 j1), .str (cut x i2 j2)]) (n := true) (ExD.list (ExLD.cons (ExS.toD (exS_strip T C' (ExV.toS (ExV.loc rfl)) (ExI.lenS T rfl (ExV.toS (ExV.loc rfl)) a5) hsz a1 a2 i1 j1 O1.hi O1.hj O1.h1 O1.h2 O1.h3 O1.h4))
    (ExLD.cons (ExS.toD (exS_strip T C' (ExV.toS (ExV.loc rfl)) (ExI.mod a6 (ExV.toI (ExV.loc rfl)) (ExI.add (ExI.lenS T rfl (ExV.toS (ExV.loc rfl)) a5) ExI.const)) hsz a3 a4 i2 j2 O2.hi O2.hj O2.h1 O2.h2 O2.h3 O2.h4)) ExLD.nil))) fun vt s₂ S₂ => ?_
  rcases hd with ⟨i3, j3, O3, hs3, rfl⟩ | ⟨hall, rfl⟩
  · refine ys_try (K := KF w) (mg := mg) (mb := mb) S₂ rfl T C'.frames rfl (X := "IndexError") PyProof.Rows.Boot.«IndexError» rfl (by decide) PySem.F.isExc_IndexError PySem.F.notTuple_IndexError isSub_IndexError (fun _ => False) (fun Eb _ => ?_) (fun _ _ _ _ hf => hf.elim)
    refine ys_S S₂ (exS_strip T C' (ExV.toS (ExV.loc rfl)) (ExI.neg ExI.const) hsz (by decide) (by decide) i3 j3 O3.hi O3.hj O3.h1 O3.h2 O3.h3 O3.h4) fun t3 s₃ S₃ => ?_
    refine ys_nil (Nx.next ?_)
    have a7 : ((cut x i3 j3).length : Int) < 2 ^ 63 := by omega
    refine ys_ret S₃ (ExD.addL (n := true) (ExV.toD (ExV.loc rfl) (List.Mem.head _)) (ExD.list (ExLD.cons (ExI.toD (ExS.find (ExV.toS (ExV.loc rfl)) (ExV.toS (ExV.loc rfl)))) (ExLD.cons (ExI.toD (ExI.lenS T rfl (ExV.toS (ExV.loc rfl)) a7)) ExLD.nil))) (by show 4 ≤ sizeLine; decide)) fun u s' S' hu => ⟨h u s' (S'.done rfl) (S'.res hu)⟩
  · refine ys_try (K := KF w) (mg := mg) (mb := mb) S₂ rfl T C'.frames rfl (X := "IndexError") PyProof.Rows.Boot.«IndexError» rfl (by decide) PySem.F.isExc_IndexError PySem.F.notTuple_IndexError isSub_IndexError (fun Y => Y = (Sy.put ⟨[], [], [(Str.ofString "few", .int few tf), (Str.ofString "row", .str x tx)], []⟩ vt (.list [.str (cut x i1 j1), .str (cut x i2 j2)]) true).set (Str.ofString "told") vt) (fun Eb hEb => ?_) (fun s₃ e Y₁ E' hY S₃ => ?_)
    · exact ys_assignR S₂ (rf_strip T C' (ExV.toS (ExV.loc rfl)) (ExI.neg ExI.const) hsz (by decide) (by decide) hall (fun k _ => by omega)) fun s₃ s₄ e a0 S₃ F => hEb s₃ s₄ e a0 _ rfl S₃ F
    · subst hY
      exact ys_ret S₃ (V := fun v h => Dat _ _ h v (.list [.str (cut x i1 j1), .str (cut x i2 j2)]) true) (ExV.toD (ExV.loc rfl) (List.Mem.head _)) fun u s' S' hu => Nx.ret ⟨h u s' (S'.done rfl) (S'.res hu)⟩
end
end Mine
namespace Mine
inductive Out where
  | val (i : Int)
  | ends
  | raises
  deriving DecidableEq
noncomputable def outG : Option Int → List Int → Nat → Out
  | _, [], _ => .ends
  | last, x :: r, i => if x = 127 then .ends else if x = 0 then (match last with | none => .raises | some l => .val l) else match i with | 0 => .val x | i + 1 => outG (some x) r i

noncomputable abbrev gscope : Scope := ⟨.function, [(Str.ofString "grouping", .local), (Str.ofString "last_interval", .local), (Str.ofString "interval", .local), (Str.ofString "CHAR_MAX", .globalImplicit), (Str.ofString "ValueError", .globalImplicit)], true, false, []⟩
noncomputable abbrev genv (C : Addr) (cdv : Value) : Env := envX (Str.ofString "_grouping_intervals") gscope C 21 cdv []

/-- the generator's block -/
structure GB (base : Heap) (C I a : Addr) (vs : List Value) (k : Nat) (m : Loc) (s₀ s : Shared) : Prop where
  since : GenSince C [I] s₀ s
  ns : s.heap.Ns C m
  it : s.heap.IsListIter I a k
  li : s.heap.IsList a vs.toArray
  bs : base.StaysIn s.heap
/-- addresses of the generator -/
structure GA (base : Heap) (C I a : Addr) : Prop where
  bC : base.get? C = none
  bI : base.get? I = none
  IC : I ≠ C
  aC : a ≠ C
  aI : a ≠ I
section
variable {base : Heap} {C I a : Addr} {vs : List Value} {k : Nat} {m : Loc} {s₀ s : Shared}
theorem GB.toks (B : GB base C I a vs k m s₀ s) (t : Nat) : GB base C I a vs k m s₀ { s with toks := t } := by
  obtain ⟨h1, h2, h3, h4, h5⟩ := B
  exact ⟨h1.step (h' := s.heap) (tk := t) fun _ _ _ _ e => e, h2, h3, h4, h5⟩
theorem GB.store (Z : GA base C I a) (B : GB base C I a vs k m s₀ s) {h' : Heap} {m' : Loc} {tk : Nat} (hn : h'.Ns C m') (hs : Heap.SameBut C s.heap h') : GB base C I a vs k m' s₀ { s with heap := h', toks := tk } := by
  obtain ⟨h1, h2, h3, h4, h5⟩ := B
  exact ⟨h1.step fun b o hb _ e => hs.extBut b o hb e, hn, h3.at fun o e => hs.extBut I o Z.IC e, h4.at fun o e => hs.extBut a o Z.aC e, fun b o e => hs.extBut b o (fun q => by rw [q, Z.bC] at e; cases e) (h5 b o e)⟩
theorem GB.next (Z : GA base C I a) (B : GB base C I a vs k m s₀ s) {h' : Heap} {k' : Nat} (hi : h'.IsListIter I a k') (hs : Heap.ExtBut I s.heap h') : GB base C I a vs k' m s₀ { s with heap := h' } := by
  obtain ⟨h1, h2, h3, h4, h5⟩ := B
  exact ⟨h1.step (tk := s.toks) fun b o _ hb e => hs b o (fun q => hb (by simp [q])) e, h2.at' fun o e => hs C o (Ne.symm Z.IC) e, hi, h4.at fun o e => hs a o Z.aI e, fun b o e => hs b o (fun q => by rw [q, Z.bI] at e; cases e) (h5 b o e)⟩
theorem GB.again (B : GB base C I a vs k m s₀ s) {s'' : Shared} (h : ∀ b ∈ [C, I, a], ∀ o, s.heap.get? b = some o → s''.heap.get? b = some o) (hb : base.StaysIn s''.heap) : GB base C I a vs k m s'' s'' :=
  ⟨GenSince.refl .., B.ns.at' fun o e => h C (by simp) o e, B.it.at fun o e => h I (by simp) o e, B.li.at fun o e => h a (by simp) o e, hb⟩
end

/-- what a pull yields -/
noncomputable def YG (base : Heap) (C I a : Addr) (vs : List Value) (out : Nat → Out) (NN : Nat) : Protocol := fun j s₀ v s' kap =>
  (∃ i t, out (NN - 1 - j) = .val i ∧ v = .int i t) ∧ (∃ k m, GB base C I a vs k m s₀ s') ∧
    (0 < j → ∀ s'' : Shared, (∀ b ∈ [C, I, a], ∀ o, s'.heap.get? b = some o → s''.heap.get? b = some o) → base.StaysIn s''.heap → kap (.send .none) s'')
noncomputable def PG (C I : Addr) (out : Nat → Out) (NN : Nat) (n : Nat) (s₀ s : Shared) : Prop := out (NN - n) = .ends ∧ GenSince C [I] s₀ s
noncomputable abbrev RG (C I : Addr) (out : Nat → Out) (NN : Nat) (PE : Nat → Shared → Addr → Shared → Prop) : GenEnd := fun n s₀ r s₁ => (r = .ok (.ret .none) ∧ PG C I out NN n s₀ s₁) ∨ ∃ e, r = .error (.ref e) ∧ PE n s₀ e s₁

section
variable {w : World} {A : Around} {mg mb : Loc} {base : Heap} {C I a : Addr} {vs : List Value} {out : Nat → Out} {NN : Nat} {PE : Nat → Shared → Addr → Shared → Prop} {cdv : Value}
theorem ld {m : Loc} {x : Str} {p : Pos} {v : Value} {s : Shared} {Q E : Value → Shared → Prop} {prog : Program} (hn : s.heap.Ns C m) (hm : m x = some v) (q : Q v s) (hx : (genv C cdv).kindOf x = some .local := by rfl) (hd : (x == ("__debug__" : Str)) = false := by rfl) : wpAny (model prog w) A (eval (.Name x p) (genv C cdv)) Q E s :=
  wpAny_Name (wpAny_loadName_local rfl hx hn hm q) hd
theorem trueC {p : Pos} {k : Nat} {s : Shared} {Q : Bool → Shared → Prop} {E : Value → Shared → Prop} {prog : Program} {env : Env} (q : Q true s) : wpAny (model prog w) A (isTrue (.Constant (.bool true) k p) env (eval (.Constant (.bool true) k p) env)) Q E s :=
  isTrue_plain (Constant_bool (wpAny_truthy_bool q)) rfl

theorem seg_forever {p0 p1 p2 p3 : Pos} {kk : Nat} {l : Int} {t : Tok} {m : Loc} {k : Nat} {fs : List Frame} (hm : m (Str.ofString "last_interval") = some (.int l t)) (hfs : splitAtGen fs = none) (hfg : fs.any Frame.guarded = false) :
    ∀ (n : Nat), 1 ≤ n → n ≤ NN → (∀ i, NN - n ≤ i → i < NN → out i = .val l) → ∀ s₀ s, GB base C I a vs k m s₀ s →
      Seg (model prg w) A (RG C I out NN PE) (YG base C I a vs out NN) n s₀ (.whileLoop (.Constant (.bool true) kk p0) [.Expr (.Yield (some (.Name (Str.ofString "last_interval") p1)) p2) p3] [] (genv C cdv))
        ((model prg w).den (.whileLoop (.Constant (.bool true) kk p0) [.Expr (.Yield (some (.Name (Str.ofString "last_interval") p1)) p2) p3] [] (genv C cdv))) fs s := by
  intro n
  induction n with
  | zero => intro h; omega
  | succ n ih =>
    intro _ hN ho s₀ s B
    refine seg_whileLoop (trueC ?_)
    rw [if_pos rfl]
    refine seg_execs_cons (seg_Expr_Yield hfs rfl hfg (ld B.ns hm fun kap hkap => ⟨⟨l, t, ho _ (by omega) (by omega), rfl⟩, ⟨k, m, B⟩, fun hj s'' hk hb => hkap _ _ ?_⟩))
    exact seg_again rfl (ih hj (by omega) (fun i h1 h2 => ho i (by omega) h2) s'' s'' (B.again hk hb))

noncomputable abbrev gBody (q1 q2 q3 q4 q5 q6 q7 q8 q9 q10 q11 q12 q13 q14 q15 q16 q17 q18 q19 q20 q21 q22 q23 q24 q25 q26 q27 q28 : Pos) (k1 k2 k3 k4 : Nat) : List Stmt :=
  [.If (.Compare (.Name (Str.ofString "interval") q1) [.Eq] [.Name (Str.ofString "CHAR_MAX") q2] q3) [.Return none q4] [] q5,
   .If (.Compare (.Name (Str.ofString "interval") q6) [.Eq] [.Constant (.int 0) k1 q7] q8)
     [.If (.Compare (.Name (Str.ofString "last_interval") q9) [.Is] [.Constant .none k2 q10] q11) [.Raise (some (.Call (.Name (Str.ofString "ValueError") q12) [.Constant (.str (Str.ofString "invalid grouping")) k3 q13] [] q14)) none q15] [] q16,
      .While (.Constant (.bool true) k4 q17) [.Expr (.Yield (some (.Name (Str.ofString "last_interval") q18)) q19) q20] [] q21] [] q22,
   .Expr (.Yield (some (.Name (Str.ofString "interval") q23)) q24) q25,
   .Assign [.Name (Str.ofString "last_interval") q26] (.Name (Str.ofString "interval") q27) q28]

theorem glob_max (T : Tb (KF w) mg mb base) {C : Addr} {p : Pos} {s : Shared} {Q E : Value → Shared → Prop} (hb : base.StaysIn s.heap) (q : ∀ t, Q (.int 127 t) s) : wpAny (model prg w) A (eval (.Name (Str.ofString "CHAR_MAX") p) (genv C cdv)) Q E s :=
  Name_function_global rfl rfl (loadGlobal_global (T.g.keeps hb) (mg_of T.X T.g (by rfl)) (q _)) rfl
theorem over1 {A : Around} {c c₁ : Code} {k : Result → Sem Fin} {g l p₁ kp} (hh : A.handled = none) : (A.over c [.ret k none g l c₁ p₁ kp]).handled = none := by
  show (markOver none A.handled A.handled) = none
  rw [hh]; rfl
structure IL (vs : List Value) (rs : List Int) : Prop where
  get : ∀ (i : Nat) (x : Int), rs[i]? = some x → ∃ t, vs[i]? = some (Value.int x t)
  len : vs.length = rs.length

theorem seg_top (T : Tb (KF w) mg mb base) (Z : GA base C I a) {rs : List Int} (V : IL vs rs) (hh : A.handled = none) {px : Pos} {q1 q2 q3 q4 q5 q6 q7 q8 q9 q10 q11 q12 q13 q14 q15 q16 q17 q18 q19 q20 q21 q22 q23 q24 q25 q26 q27 q28 : Pos} {k1 k2 k3 k4 : Nat} {kf : Result → Sem Fin} {c₁ : Code} {p₁ : Pos}
    (hfin : ∀ n s₀ s, PG C I out NN n s₀ s → Seg (model prg w) A (RG C I out NN PE) (YG base C I a vs out NN) n s₀ c₁ (kf (.ok .next)) [] s ∧ Seg (model prg w) A (RG C I out NN PE) (YG base C I a vs out NN) n s₀ c₁ (kf (.ok (.ret .none))) [] s) :
    ∀ (rest : List Int) (k : Nat) (last : Option Int) (vl : Value) (n : Nat) (m : Loc) (s₀ s : Shared), rs.drop k = rest → 1 ≤ n → n ≤ NN → (∀ i, NN - n + i < NN → out (NN - n + i) = outG last rest i) → m (Str.ofString "last_interval") = some vl →
      (match last with | none => vl = .none | some l => ∃ t, vl = .int l t) → GB base C I a vs k m s₀ s →
      (∀ m' s' , last = none → GB base C I a vs (k + 1) m' s₀ s' → out (NN - n) = .raises → wpAny (model prg w) (A.over (.forLoop (.Name (Str.ofString "interval") px) (.ref I) (gBody q1 q2 q3 q4 q5 q6 q7 q8 q9 q10 q11 q12 q13 q14 q15 q16 q17 q18 q19 q20 q21 q22 q23 q24 q25 q26 q27 q28 k1 k2 k3 k4) [] (genv C cdv)) [.ret kf none false [] c₁ p₁ []])
        (exec (.Raise (some (.Call (.Name (Str.ofString "ValueError") q12) [.Constant (.str (Str.ofString "invalid grouping")) k3 q13] [] q14)) none q15) (genv C cdv)) (fun _ _ => False)
        (fun e s'' => Seg (model prg w) A (RG C I out NN PE) (YG base C I a vs out NN) n s₀ (.forLoop (.Name (Str.ofString "interval") px) (.ref I) (gBody q1 q2 q3 q4 q5 q6 q7 q8 q9 q10 q11 q12 q13 q14 q15 q16 q17 q18 q19 q20 q21 q22 q23 q24 q25 q26 q27 q28 k1 k2 k3 k4) [] (genv C cdv)) (Hn (genv C cdv) e) [.ret kf none false [] c₁ p₁ []] s'') s') →
      Seg (model prg w) A (RG C I out NN PE) (YG base C I a vs out NN) n s₀ (.forLoop (.Name (Str.ofString "interval") px) (.ref I) (gBody q1 q2 q3 q4 q5 q6 q7 q8 q9 q10 q11 q12 q13 q14 q15 q16 q17 q18 q19 q20 q21 q22 q23 q24 q25 q26 q27 q28 k1 k2 k3 k4) [] (genv C cdv))
        ((model prg w).den (.forLoop (.Name (Str.ofString "interval") px) (.ref I) (gBody q1 q2 q3 q4 q5 q6 q7 q8 q9 q10 q11 q12 q13 q14 q15 q16 q17 q18 q19 q20 q21 q22 q23 q24 q25 q26 q27 q28 k1 k2 k3 k4) [] (genv C cdv))) [.ret kf none false [] c₁ p₁ []] s := by
  intro rest
  induction rest with
  | nil =>
    intro k last vl n m s₀ s hrs h1 hN ho hm hl B hr
    refine seg_forLoop (wpAny_pyNext_list_end (over1 hh) B.it B.li ?_ fun h' he => ?_)
    · have : rs.length ≤ k := List.drop_eq_nil_iff.mp hrs
      have := V.len
      simp; omega
    · refine seg_forEnd (hfin n s₀ _ ⟨?_, B.since.step (tk := s.toks) fun b o _ hb e => he b o (fun q => hb (by simp [q])) e⟩).1
      have := ho 0 (by omega)
      simpa [outG] using this
  | cons x r ih =>
    intro k last vl n m s₀ s hrs h1 hN ho hm hl B hr
    have hk : rs[k]? = some x := by
      have := congrArg List.head? hrs
      simpa [List.head?_drop] using this
    have hr' : rs.drop (k + 1) = r := by
      have := congrArg List.tail hrs
      simpa [List.tail_drop] using this
    obtain ⟨t, hv⟩ := V.get k x hk
    refine seg_forLoop (wpAny_pyNext_list_item B.it B.li (x := .int x t) (by simpa using hv) fun h₁ hit hs₁ => ?_)
    have B1 := B.next Z hit hs₁.extBut
    refine wpAny_storeName_local rfl B1.ns (fun h₂ hn₂ hs₂ => ?_) rfl
    have B2 := B1.store Z (tk := s.toks + 1) hn₂ hs₂
    have mi : (fun y => if y = Str.ofString "interval" then some (Value.int x t) else m y) (Str.ofString "interval") = some (.int x t) := if_pos rfl
    have ml : (fun y => if y = Str.ofString "interval" then some (Value.int x t) else m y) (Str.ofString "last_interval") = some vl := (if_neg (by decide)).trans hm
    generalize (fun y => if y = Str.ofString "interval" then some (Value.int x t) else m y) = m2 at B2 mi ml
    have B2' := B2
    revert B2
    show GB base C I a vs (k + 1) m2 s₀ { s with heap := h₂, toks := s.toks + 1 } → _
    generalize ({ s with heap := h₂, toks := s.toks + 1 } : Shared) = s2 at *
    intro B2
    refine seg_execs_cons (seg_If (wpAny_isTrue_Compare1 (ld B2.ns mi (glob_max T B2.bs fun t' => PyProof.Rows.eq_int (wpAny_truthy_bool ?_))) rfl))
    by_cases h127 : x = 127
    · rw [if_pos (by simpa using h127)]
      refine seg_st (wpAny_Return_none ?_)
      refine seg_leave (.ok (.ret .none)) (hfin n s₀ _ ⟨?_, B2.since⟩).2
      have := ho 0 (by omega)
      simpa [outG, h127] using this
    rw [if_neg (by simpa using h127)]
    refine seg_execs_nil ?_
    refine seg_execs_cons (seg_If (wpAny_isTrue_Compare1 (ld B2.ns mi (wpAny_Constant_int (PyProof.Rows.eq_int (wpAny_truthy_bool ?_)))) rfl))
    have B3 := B2.toks (s2.toks + 1)
    by_cases h0 : x = 0
    · rw [if_pos (by simpa using h0)]
      subst h0
      cases last with
      | none =>
        subst hl
        refine seg_execs_cons (seg_If (wpAny_isTrue_Compare1 (ld B3.ns ml (Constant_none (is_none (wpAny_truthy_bool ?_)))) rfl))
        rw [if_pos (by decide)]
        refine seg_st (wpAny_mono (hr _ _ rfl B3 ?_) (fun _ _ z => z.elim) fun _ _ z => z)
        have := ho 0 (by omega)
        simpa [outG] using this
      | some l =>
        obtain ⟨t', rfl⟩ := hl
        refine seg_execs_cons (seg_If (wpAny_isTrue_Compare1 (ld B3.ns ml (Constant_none (is_none (wpAny_truthy_bool ?_)))) rfl))
        rw [if_neg (by simp)]
        refine seg_execs_nil ?_
        refine seg_execs_cons (seg_While' fun p => seg_forever ml rfl rfl n h1 hN (fun i h2 h3 => ?_) s₀ _ B3)
        have := ho (i - (NN - n)) (by omega)
        rw [show NN - n + (i - (NN - n)) = i by omega] at this
        simpa [outG] using this
    · rw [if_neg (by simpa using h0)]
      refine seg_execs_nil ?_
      obtain ⟨n, rfl⟩ : ∃ n', n = n' + 1 := ⟨n - 1, by omega⟩
      refine seg_execs_cons (seg_Expr_Yield rfl rfl rfl (ld B3.ns mi fun kap hkap => ⟨⟨x, t, ?_, rfl⟩, ⟨_, _, B3⟩, fun hj s'' hk hb => hkap .none _ ?_⟩))
      · have := ho 0 (by omega)
        rw [show NN - 1 - n = NN - (n + 1) + 0 by omega]
        simpa [outG, h127, h0] using this
      have B4 := B3.again hk hb
      refine seg_st (wpAny_Assign_Name (ld B4.ns mi (wpAny_storeName_local rfl B4.ns (fun h₅ hn₅ hs₅ => ?_) rfl)) rfl)
      have B5 := B4.store Z (tk := s''.toks + 1) hn₅ hs₅
      refine seg_execs_nil ?_
      refine seg_again rfl (ih (k + 1) (some x) (.int x t) n _ _ _ hr' hj (by omega) (fun i hi => ?_) (if_pos rfl) ⟨t, rfl⟩ B5 fun _ _ z => by cases z)
      have := ho (i + 1) (by omega)
      rw [show NN - (n + 1) + (i + 1) = NN - n + i by omega] at this
      simpa [outG, h127, h0] using this
end
end Mine
namespace Mine
noncomputable def GCode (C : Addr) (code : Code) : Prop := ∃ q1 q2 q3 q4 q5 q6 q7 q8 q9 q10 q11 q12 q13 q14 q15 q16 q17 q18 q19 q20 q21 q22 q23 q24 q25 q26 q27 q28 k1 k2 k3 k4 k5 r1 r2 r3 r4 r5 r6,
  code = .func [.Assign [.Name (Str.ofString "last_interval") r1] (.Constant .none k5 r2) r3, .For (.Name (Str.ofString "interval") r4) (.Name (Str.ofString "grouping") r5) (gBody q1 q2 q3 q4 q5 q6 q7 q8 q9 q10 q11 q12 q13 q14 q15 q16 q17 q18 q19 q20 q21 q22 q23 q24 q25 q26 q27 q28 k1 k2 k3 k4) [] r6] (genv C (.ref 20))
structure GC (s : Shared) (C Ga : Addr) (v : Value) (code : Code) (s' : Shared) : Prop where
  kp : ∀ b o, s.heap.get? b = some o → s'.heap.get? b = some o
  os : s'.os = s.os
  gens : s'.gens = s.gens.push (.fresh code)
  nC : s.heap.get? C = none
  nG : s.heap.get? Ga = none
  ne : C ≠ Ga
  ns : s'.heap.Ns C (fun x => if x = Str.ofString "grouping" then some v else none)
  gen : s'.heap.IsGen Ga s.gens.size
section
variable {w : World} {A : Around} {s : Shared} {mg mb : Loc} {base : Heap} {chain : List Env} {Q E : Value → Shared → Prop}
theorem call_gen (T : Tb (KF w) mg mb base) (hroom : A.depth < recursionLimit) (bs : base.StaysIn s.heap) {v : Value} (h : ∀ C Ga code s', GCode C code → GC s C Ga v code s' → Q (.ref Ga) s') : Wp (model prg w) A (call (.ref 21) [v]) Q E s := by
  have X := T.X.keeps bs
  have key : ∀ {name qual : Str} {params : Arguments} {body : List Stmt} {scope : Scope} {dV kV doc pm cdv ct oc : Value} {an od : Option Addr} {osl : Array (Option Value)}, (KF w).lookup 21 = some ⟨oc, od, .func (fnOf name qual params body scope dV kV doc pm an cdv ct), osl⟩ →
      codeIn (KF w) cdv qual = true → bindArgs (fnOf name qual params body scope dV kV doc pm an cdv ct) ⟨[v], []⟩ = pure [(Str.ofString "grouping", v)] → scope = gscope → (∀ C, GCode C (.func body (envX qual scope C 21 cdv []))) →
      Wp (model prg w) A (call (.ref 21) [v]) Q E s := by
    intro name qual params body scope dV kV doc pm cdv ct oc an od osl ho hcd hbind hsc hgc
    subst hsc
    refine ⟨wpAny_call (codeAny_call_generator (fd := fnOf name qual params body gscope dV kV doc pm an cdv ct) (body := body) hroom (X _ _ ho) rfl rfl rfl rfl (codeRec_of X hcd) ?_)⟩
    refine wpAny_of_eq hbind ?_
    refine wpAny_newFunctionEnv (scope := gscope) (by decide) (fun x hx => ?_) (fun h' hn hs => ?_) rfl
    · rw [List.mem_singleton.mp hx]; rfl
    have kp : ∀ b o, s.heap.get? b = some o → h'.get? b = some o := fun b o e => hs.extBut b o (Nat.ne_of_lt (Heap.lt_size e)) (Heap.get?_push_of_some _ e)
    have hsz : h'.objs.size = s.heap.objs.size + 1 := by rw [hs.1, Heap.size_push]
    have e : (fun y : Str => ([(Str.ofString "grouping", v)] : List (Str × Value)).reverse.lookup y) = fun y : Str => if y = Str.ofString "grouping" then some v else none := by
      funext y
      by_cases hy : y = Str.ofString "grouping"
      · subst hy; simp
      · have : (y == Str.ofString "grouping") = false := by simpa using hy
        simp [List.lookup, this, hy]
    rw [e] at hn
    refine ⟨(T.lim.keeps bs).keeps kp, h _ _ _ _ (hgc s.heap.objs.size) ⟨fun b o e => Heap.get?_push_of_some _ (kp b o e), rfl, rfl, heap_new _, ?_, ?_, hn.push _, ⟨_, _, _, Heap.get?_push_size _ rfl, rfl, rfl, rfl⟩⟩⟩
    · show s.heap.get? h'.objs.size = none
      cases q : s.heap.get? h'.objs.size with
      | none => rfl
      | some o => exact absurd (Nat.lt_of_lt_of_eq (Nat.lt_succ_self _) hsz.symm) (Nat.not_lt.mpr (Nat.le_of_lt (Heap.lt_size q)))
    · show s.heap.objs.size ≠ h'.objs.size
      exact Nat.ne_of_lt (Nat.lt_of_lt_of_eq (Nat.lt_succ_self _) hsz.symm)
  exact key rfl rfl rfl rfl fun C => ⟨_, _, _, _, _, _, _, _, _, _, _, _, _, _, _, _, _, _, _, _, _, _, _, _, _, _, _, _, _, _, _, _, _, _, _, _, _, _, _, rfl⟩

/-- the first pull raises -/
noncomputable def PEr (chain : List Env) (s_b : Shared) (Ga g : Nat) (out : Nat → Out) (NN : Nat) : Nat → Shared → Addr → Shared → Prop := fun n _ e s₁ =>
  ∃ t tk, Fly chain s_b s₁ e (.type "ValueError") (.ref t) ∧ s₁.heap.TupAt t [.str (Str.ofString "invalid grouping") tk] ∧ out (NN - n) = .raises ∧ s₁.heap.IsGen Ga g
theorem fr1 {A : Around} {target : Expr} {it : Value} {b o : List Stmt} {env : Env} {k : Result → Sem Fin} {g l p₁ kp} {body : List Stmt} {chain : List Env} (h : A.frames = some chain) : (A.over (.forLoop target it b o env) [.ret k none g l (.func body env) p₁ kp]).frames = some (env :: chain) := by
  unfold Around.over
  dsimp only
  rw [pushEnvs_eq, pushEnvs_eq, h]; rfl
theorem fr0 {A : Around} {env : Env} {body : List Stmt} {chain : List Env} (h : A.frames = some chain) : (A.over (.func body env) []).frames = some (env :: chain) := by
  unfold Around.over
  dsimp only
  rw [pushEnvs_eq, pushEnvs_eq, h]; rfl
theorem isGen_of {h h' : Heap} {a g : Nat} (x : h.IsGen a g) (k : ∀ o, h.get? a = some o → h'.get? a = some o) : h'.IsGen a g := let ⟨o, nm, qn, ho, r⟩ := x; ⟨o, nm, qn, k _ ho, r⟩
theorem seg_first (T : Tb (KF w) mg mb base) (hh : A.handled = none) (hfr : A.frames = some chain) (N : At base chain s) {C Ga a : Addr} {code : Code} {s_f : Shared} (hc : GCode C code) (G : GC s C Ga (.ref a) code s_f) {vs : List Value} {rs : List Int} (V : IL vs rs) (hl : s.heap.IsList a vs.toArray) {NN : Nat} (hN : 1 ≤ NN) :
    Seg (model prg w) A (RG C s_f.heap.objs.size (outG none rs) NN (PEr chain s Ga s.gens.size (outG none rs) NN)) (YG base C s_f.heap.objs.size a vs (outG none rs) NN) NN (s_f.setGen s.gens.size .running) code ((model prg w).den code) [] (s_f.setGen s.gens.size .running) := by
  obtain ⟨q1, q2, q3, q4, q5, q6, q7, q8, q9, q10, q11, q12, q13, q14, q15, q16, q17, q18, q19, q20, q21, q22, q23, q24, q25, q26, q27, q28, k1, k2, k3, k4, k5, r1, r2, r3, r4, r5, r6, rfl⟩ := hc
  have hgs : (s_f.setGen s.gens.size .running).gens = s.gens.push .running := by
    show s_f.gens.setIfInBounds s.gens.size .running = _
    rw [G.gens]
    apply Array.ext'
    simp
  have hheap : (s_f.setGen s.gens.size .running).heap = s_f.heap := rfl
  have hosf : (s_f.setGen s.gens.size .running).os = s.os := G.os
  generalize s_f.setGen s.gens.size .running = s0 at *
  obtain ⟨kp, os, gens, nC, nG, ne, ns, gen⟩ := G
  rw [← hheap] at kp ns gen ⊢
  clear hheap gens os
  have inb : ∀ b, s.heap.get? b = none → base.get? b = none := fun b h => by
    cases q : base.get? b with
    | none => rfl
    | some o => have := N.bs b o q; rw [h] at this; cases this
  have nI : s0.heap.get? s0.heap.objs.size = none := heap_new _
  have nIs : s.heap.get? s0.heap.objs.size = none := by
    cases q : s.heap.get? s0.heap.objs.size with
    | none => rfl
    | some o => rw [kp _ _ q] at nI; cases nI
  have ha : ∃ o, s.heap.get? a = some o := let ⟨o, ho, _⟩ := hl; ⟨o, ho⟩
  have Z : GA base C s0.heap.objs.size a := by
    refine ⟨inb _ nC, inb _ nIs, ?_, ?_, ?_⟩
    · intro e; obtain ⟨o, _, _, ho, _⟩ := ns; rw [← e, nI] at ho; cases ho
    · rintro rfl; obtain ⟨o, ho⟩ := ha; rw [nC] at ho; cases ho
    · intro e; obtain ⟨o, ho⟩ := ha; rw [e, nIs] at ho; cases ho
  have nGI : Ga ≠ s0.heap.objs.size := by
    intro e; obtain ⟨o, _, _, ho, _⟩ := gen; rw [e, nI] at ho; cases ho
  have hl0 : s0.heap.IsList a vs.toArray := hl.at fun o e => kp a o e
  generalize hI : s0.heap.objs.size = I at *
  refine seg_func (seg_st (wpAny_Assign_Name (Constant_none (wpAny_storeName_local rfl ns (fun h₁ hn₁ hs₁ => ?_) rfl)) rfl))
  refine seg_execs_cons (seg_For (ld (C := C) (m := fun y => if y = Str.ofString "last_interval" then some .none else if y = Str.ofString "grouping" then some (Value.ref a) else none) hn₁ (by rw [if_neg (by decide), if_pos rfl]) (wpAny_pyIter_list (hl0.at fun o e => hs₁.extBut a o Z.aC e) fun p => ?_)))
  have hsz : h₁.objs.size = I := by rw [hs₁.1]; exact hI
  show Seg _ A _ _ NN s0 (.forLoop _ (.ref h₁.objs.size) _ _ _) _ _ _
  rw [hsz]
  have nI₁ : h₁.get? I = none := by rw [← hsz]; exact heap_new _
  have B0 : GB base C I a vs 0 (fun y => if y = Str.ofString "last_interval" then some .none else if y = Str.ofString "grouping" then some (Value.ref a) else none) s0
      { s0 with heap := h₁.push { cls := .type "list_iterator", data := .fields #[.ref a, .int 0 0] }, toks := s0.toks + 1 } := by
    refine ⟨⟨_, _, rfl, fun b o hb _ e => Heap.get?_push_of_some _ (hs₁.extBut b o hb e)⟩, hn₁.push _, ⟨{ cls := .type "list_iterator", data := .fields #[.ref a, .int 0 0] }, ?_, rfl, rfl⟩, (hl0.at fun o e => hs₁.extBut a o Z.aC e).push _, fun b o e => Heap.get?_push_of_some _ (hs₁.extBut b o (fun q => ?_) (kp b o (N.bs b o e)))⟩
    · rw [← hsz]; exact Heap.get?_push_size _ rfl
    · rw [q, Z.bC] at e; cases e
  refine seg_top T Z V hh (fun n s₀ s₁ hp => ⟨?_, ?_⟩) rs 0 none .none NN _ s0 _ rfl hN (Nat.le_refl _) (fun i _ => by rw [Nat.sub_self, Nat.zero_add]) (if_pos rfl) rfl B0 ?_
  · show Seg _ A _ _ n s₀ _ (leafOf (.ok (.ret .none))) [] s₁
    exact seg_end (.ok (.ret .none)) (.inl ⟨rfl, hp⟩)
  · show Seg _ A _ _ n s₀ _ (leafOf (.ok (.ret .none))) [] s₁
    exact seg_end (.ok (.ret .none)) (.inl ⟨rfl, hp⟩)
  · intro m' s2 _ B2 hra
    have hfr1 := fr1 (A := A) (target := .Name (Str.ofString "interval") r4) (it := .ref I) (b := gBody q1 q2 q3 q4 q5 q6 q7 q8 q9 q10 q11 q12 q13 q14 q15 q16 q17 q18 q19 q20 q21 q22 q23 q24 q25 q26 q27 q28 k1 k2 k3 k4) (o := []) (env := genv C (.ref 20)) (k := Kf (genv C (.ref 20)) (fun f => match f with
            | .next => (execs [] (genv C (.ref 20))).wrap (fun f => .pure (.done (.ret (match f with | .ret v => v | _ => .none)))) (fun e => (leaving (genv C (.ref 20)) e).wrap (fun _ => .raise e) .raise id id) id id
            | f => .pure (.done (.ret (match f with | .ret v => v | _ => .none)))) (fun e => (leaving (genv C (.ref 20)) e).wrap (fun _ => .raise e) .raise id id) id id) (g := false) (l := []) (p₁ := p) (kp := [])
            (body := [.Assign [.Name (Str.ofString "last_interval") r1] (.Constant .none k5 r2) r3, .For (.Name (Str.ofString "interval") r4) (.Name (Str.ofString "grouping") r5) (gBody q1 q2 q3 q4 q5 q6 q7 q8 q9 q10 q11 q12 q13 q14 q15 q16 q17 q18 q19 q20 q21 q22 q23 q24 q25 q26 q27 q28 k1 k2 k3 k4) [] r6]) hfr
    refine wpAny_Raise_call PySem.F.excCall_ValueError PySem.F.excRaise_ValueError (over1 hh) rfl (Name_function_global rfl rfl (loadGlobal_builtin (T.g.keeps B2.bs) (mg_none_of T.X T.g (by rfl)) (T.b.keeps B2.bs) ((T.bi _ (by decide)).trans PyProof.Rows.Boot.«ValueError») ⟨rfl, ?_⟩) rfl)
    refine evalArgs_plain (spliced_cons (Constant_str (k := k3) (pos := q13) (env := genv C (.ref 20)) (spliced_nil ⟨rfl, by show 1 ≤ sizeLine; decide, fun h' e hx => ?_⟩)))
    -- the state at the raise
    have hsince := B2.since
    have N2 : At base (genv C (.ref 20) :: chain) { s2 with toks := s2.toks + 1 } ∧ (∀ b o, s.heap.get? b = some o → s2.heap.get? b = some o) ∧ s2.gens = s0.gens ∧ s2.os = s0.os := by
      obtain ⟨h2, tk2, rfl, k2⟩ := hsince
      have up : ∀ b o, s.heap.get? b = some o → h2.get? b = some o := fun b o e => k2 b o (fun q => by rw [q, nC] at e; cases e) (fun q => by rw [List.mem_singleton.mp q, nIs] at e; cases e) (kp b o e)
      refine ⟨⟨B2.bs, ⟨(by show ScopeKind.function ≠ ScopeKind.module; decide), (by obtain ⟨o, ho, h1, _⟩ := ns_not B2.ns; exact ⟨C, o, rfl, Z.bC, ho, h1⟩), funFrames_up (fun b o e hn => ⟨o, up b o e, hn⟩) N.ff⟩, fun f hf => ?_⟩, up, rfl, rfl⟩
      have hf' : f ∈ List.filterMap (·.frame) (genv C (.ref 20) :: chain) := hf
      rw [List.filterMap_cons] at hf'
      rcases List.mem_cons.mp hf' with rfl | hf'
      · exact ⟨_, B2.ns⟩
      · obtain ⟨m, y⟩ := N.fn f hf'; exact ⟨m, y.keeps up⟩
    obtain ⟨N2, up2, g2, o2⟩ := N2
    have gen2 : s2.heap.IsGen Ga s.gens.size := by
      obtain ⟨h2, tk2, rfl, k2⟩ := hsince
      exact isGen_of gen fun o e => k2 Ga o (Ne.symm ne) (fun q => nGI (List.mem_singleton.mp q)) e
    have G2 : Gr (frs chain) s { s2 with toks := s2.toks + 1 } := by
      refine ⟨.of_keeps fun b o _ e => up2 b o e, o2.trans hosf, ?_⟩
      show GG s.gens s2.gens
      rw [g2, hgs]
      refine ⟨fun hb y hy => ?_, fun i st e => ?_⟩
      · rcases Array.mem_push.mp hy with h | rfl
        · exact hb y h
        · rfl
      · rw [Array.getElem?_push]
        have : i < s.gens.size := (Array.getElem?_eq_some_iff.mp e).1
        rw [if_neg (by omega)]; exact e
    have nfr : Ga ∉ frs (genv C (.ref 20) :: chain) := by
      intro hf
      have hf' : Ga ∈ List.filterMap (·.frame) (genv C (.ref 20) :: chain) := hf
      rw [List.filterMap_cons] at hf'
      rcases List.mem_cons.mp hf' with q | hf'
      · exact ne q.symm
      · obtain ⟨_, o, ho, _⟩ := N.ff.mem hf'
        rw [nG] at ho; cases ho
    unfold Hn
    rw [Sem.bind_eq_wrap]
    refine seg_wrap (wpAny_bind (noteMade (s := { s2 with toks := s2.toks + 1 }) N2 hfr1 rfl hx fun s3 t H3 ht3 g3 => ?_))
    refine wpAny_theTreesLotGoes ?_
    refine seg_leave (.error (.ref e)) ?_
    show Seg _ A _ _ NN s0 _ (((do
      if (← field (.ref e) 1) == Value.none then unsupported "frame.own-activation:exception-without-traceback"
      setFlight (.ref e) (genv C (.ref 20)).frame : Sem Unit) >>= fun _ => (Sem.raise (.ref e) : Sem Flow)).wrap _ _ _ _) [] s3
    refine seg_bind_wrap (came' (L := C) rfl H3 fun s4 H4 up4 g4 => ?_)
    show Seg _ A _ _ NN s0 _ ((leaving (genv C (.ref 20)) (.ref e)).wrap (fun _ => .raise (.ref e)) .raise id id) [] s4
    refine seg_wrap (leaveHeld' N G2 nC rfl H4 fun s5 F5 st5 up5 => ?_)
    refine seg_end (.error (.ref e)) (.inr ⟨e, rfl, t, _, F5, (ht3.of_slots up4).of_slots up5, hra, isGen_of gen2 fun o ho => st5 Ga o ((del_out nfr).trans ho)⟩)
end
end Mine
namespace Mine
theorem outG_some : ∀ (rs : List Int) (l : Int) (i : Nat), outG (some l) rs i ≠ .raises
  | [], _, _ => by simp [outG]
  | x :: r, l, i => by
    unfold outG
    split
    · simp
    · split
      · simp
      · cases i with
        | zero => simp
        | succ i => exact outG_some r x i
theorem outG_raise {rs : List Int} {i : Nat} (h : outG none rs i = .raises) : outG none rs 0 = .raises := by
  cases rs with
  | nil => simp [outG] at h
  | cons x r =>
    unfold outG at h ⊢
    split
    · rename_i h1; rw [if_pos h1] at h; cases h
    · rename_i h1
      rw [if_neg h1] at h
      split
      · rfl
      · rename_i h2
        rw [if_neg h2] at h
        cases i with
        | zero => cases h
        | succ i => exact absurd h (outG_some r x i)
section
variable {w : World} {A : Around} {s : Shared} {mg mb : Loc} {base : Heap} {chain : List Env} {env : Env} {P : Pa} {Y : Sy} {Q : Flow → Shared → Prop} {E : Value → Shared → Prop} {rest : List Stmt}
theorem ys_forG {x : Str} {px pf pc pos : Pos} {e : Expr} {body : List Stmt} {rs : List Int} {n0 : Bool} {NN : Nat} {L : Addr} (T : Tb (KF w) mg mb P.base) (C : Cx A P.chain 1) (hch : P.chain = env :: chain) (hf : env.frame = some L) (S : St P Y s.heap s.gens s.os)
    (he : ExD prg w A env P Y e (.list (rs.map .int)) n0) (hN : 1 ≤ NN) (J : Nat → Sy → Prop) (hJ : J 0 { Y with dat := [] })
    (turn : ∀ i v t Yi s₁ s₂ E', i < NN → outG none rs i = .val v → J i Yi → Adr Y Yi → Yi.dat = [] → St P Yi s₁.heap s₁.gens s₁.os → St (P.turn Yi s₁) (Yi.set x (.int v t)) s₂.heap s₂.gens s₂.os →
      Wp (model prg w) A (execs body env) (Lp (fun s₃ => ∃ Y', Adr Yi Y' ∧ J (i + 1) { Y' with dat := [] } ∧ i + 1 < NN ∧ St (P.turn Yi s₁) Y' s₃.heap s₃.gens s₃.os) (fun s₃ => Wp (model prg w) A (execs rest env) Q E s₃) Q) E' s₂)
    (fin : ∀ i Yn s', J i Yn → Adr Y Yn → outG none rs i = .ends → St P Yn s'.heap s'.gens s'.os → Wp (model prg w) A (execs rest env) Q E s')
    (err : ∀ s₁ s₂ x t tk, outG none rs 0 = .raises → St P { Y with dat := [] } s₁.heap s₁.gens s₁.os → Held P.chain s₁ s₂ x (.type "ValueError") (.ref t) L → s₂.heap.TupAt t [.str (Str.ofString "invalid grouping") tk] → E (.ref x) s₂)
    (hL : env.locals = P.L := by rfl) (hk : env.scope.kind = .function := by rfl) (hx : env.kindOf x = some .local := by rfl)
    (hg : env.globals = mainGlobals := by rfl) (hgx : env.kindOf (Str.ofString "_grouping_intervals") = some .globalImplicit := by rfl)
    (hse : starEach [e] env = [(false, eval e env)] := by rfl) (hs : ∀ v, foldedSetIterable (.Call (.Name (Str.ofString "_grouping_intervals") pf) [e] [] pc) env v = pure v := by intro _; rfl) :
    Wp (model prg w) A (execs (.For (.Name x px) (.Call (.Name (Str.ofString "_grouping_intervals") pf) [e] [] pc) body [] pos :: rest) env) Q E s := by
  have hroom : A.depth < recursionLimit := by have := C.depth; (first | lia | omega)
  refine ⟨wpAny_execs_cons (wpAny_For ?_ hs)⟩
  refine wpAny_Call_NameR ((ExV.glob (prog := prg) (w := w) (A := A) (Y := Y) T (by rfl) hg hk hgx rfl).go s _ _ S fun v s1 G1 hv => ?_)
  subst hv
  refine callWith_K (K := KF w) (h₀ := P.base) (f := .ref 21) T.X (by rfl) ((ExL.one he hse).go s1 pc _ _ (S.grow G1) fun vs s2 G2 hvs => ⟨T.X.keeps ((S.grow G1).grow G2).bs, ?_⟩) hse rfl
  obtain ⟨v, rfl, hv⟩ := hvs
  have S2 := (S.grow G1).grow G2
  obtain ⟨a, vs, rfl, hl, hds, ha⟩ := hv.isList
  have V : IL vs rs := by
    refine ⟨fun i x hx => ?_, by rw [hds.len, List.length_map]⟩
    obtain ⟨v, hv, hd⟩ := hds.get (i := i) (d := .int x) (by rw [List.getElem?_map, hx]; rfl)
    obtain ⟨t, rfl⟩ := hd.isInt
    exact ⟨t, hv⟩
  refine (call_gen T hroom S2.bs fun C0 Ga code sf hc G => ?_).go
  refine wpAny_pyIter_gen G.gen ?_
  -- facts that stay
  have Sf0 : St P { Y with dat := [] } sf.heap sf.gens sf.os := by
    refine (S2.drop (dat' := []) (fun p hp => by cases hp)).grow ⟨.of_keeps fun b o _ e => G.kp b o e, G.os, ?_⟩
    rw [G.gens]; exact (GG.refl _).push rfl
  have hg0 : P.g₀.size ≤ s2.gens.size := S2.gs.size
  have inb : ∀ b, s2.heap.get? b = none → P.base.get? b = none ∧ P.h₀.get? b = none ∧ b ∉ P.X := fun b h => by
    refine ⟨?_, (S2.fresh h).2, fun hX => ?_⟩
    · cases q : P.base.get? b with
      | none => rfl
      | some o => have := S2.bs b o q; rw [h] at this; cases this
    · obtain ⟨o, e⟩ := S2.xi b hX; rw [h] at e; cases e
  have nI : s2.heap.get? sf.heap.objs.size = none := by
    cases q : s2.heap.get? sf.heap.objs.size with
    | none => rfl
    | some o => have := G.kp _ _ q; rw [heap_new] at this; cases this
  obtain ⟨cb, ch, cX⟩ := inb C0 G.nC
  obtain ⟨ib, ih, iX⟩ := inb _ nI
  have hCL : C0 ≠ P.L := fun q => by
    obtain ⟨o, _, _, ho, _⟩ := S2.ns
    rw [← q, G.nC] at ho; cases ho
  have hCf : C0 ∉ frs P.chain := fun q => by
    obtain ⟨m, o, _, _, ho, _⟩ := S2.fn C0 q
    rw [G.nC] at ho; cases ho
  have hin : A.in1.handled = none := C.hand
  have hgsz : s2.gens.size < sf.gens.size := by rw [G.gens]; simp
  have hgf : sf.gens[s2.gens.size]? = some (.fresh code) := by rw [G.gens]; simp
  have first := seg_first (A := A.in1) (chain := P.chain) T hin C.frames S2.at hc G V hl hN
  generalize hI : sf.heap.objs.size = I at *
  generalize hgn : s2.gens.size = g at *
  obtain ⟨Inv, hInv⟩ : ∃ Inv : Nat → Shared → Prop, Inv = fun k s' => ∃ i Yi, k = NN - i ∧ i < NN ∧ J i Yi ∧ Adr Y Yi ∧ Yi.dat = [] ∧ St P Yi s'.heap s'.gens s'.os ∧ ((i = 0 ∧ s' = sf ∧ Yi = { Y with dat := [] }) ∨ (s'.heap.IsGen Ga g ∧ ∃ gs k m, s'.gens[g]? = some gs ∧ GB P.base C0 I a vs k m s' s' ∧
      ∀ s'' : Shared, (∀ b ∈ [C0, I, a], ∀ o, s'.heap.get? b = some o → s''.heap.get? b = some o) → P.base.StaysIn s''.heap →
        gs.Goes (model prg w) A.in1 (RG C0 I (outG none rs) NN (PEr P.chain s2 Ga g (outG none rs) NN)) (YG P.base C0 I a vs (outG none rs) NN) (NN - i) (.send .none) s'')) := ⟨_, rfl⟩
  have key := codeAny_forLoopG (R := fun r s' => match r with | .ok f => (match f with | .next => wpAny (model prg w) A (execs rest env) Q E s' | f => Q f s') | .error e => cameBackBy (model prg w) A env E e s') (prog := prg) (w := w) (A := A) (target := .Name x px) (it := .ref Ga) (body := body) (orelse := []) (env := env)
    Inv ?_ NN (by rw [hInv]; exact ⟨0, { Y with dat := [] }, rfl, hN, hJ, rfl, rfl, Sf0, .inl ⟨rfl, rfl, rfl⟩⟩)
  · exact key
  intro k s' hInv'
  have hInv'' := hInv'
  rw [hInv] at hInv''
  obtain ⟨i, Yi, rfl, hi, hJi, hA, hdat, Si, hst⟩ := hInv''
  clear hInv'
  -- what a pull finds
  have pull : s'.heap.IsGen Ga g ∧ (∃ gs, s'.gens[g]? = some gs ∧ gs.Goes (model prg w) A.in1 (RG C0 I (outG none rs) NN (PEr P.chain s2 Ga g (outG none rs) NN)) (YG P.base C0 I a vs (outG none rs) NN) (NN - i) (.send .none) (s'.setGen g .running)) ∧
      (∃ m, s'.heap.Ns C0 m) ∧ (s'.heap.get? I = none ∨ ∃ o vs, s'.heap.get? I = some o ∧ o.data = .fields vs) := by
    rcases hst with ⟨rfl, rfl, rfl⟩ | ⟨h1, gs, k, m, h2, h3, h4⟩
    · exact ⟨hgn ▸ G.gen, ⟨_, hgf, rfl, first⟩, ⟨_, G.ns⟩, .inl (by rw [← hI]; exact heap_new _)⟩
    · exact ⟨h1, ⟨gs, h2, h4 _ (fun b _ o e => e) Si.bs⟩, ⟨_, h3.ns⟩, .inr (let ⟨o, ho, _, hd⟩ := h3.it; ⟨o, _, ho, hd⟩)⟩
  obtain ⟨hGa, ⟨gs, hgs, hgo⟩, ⟨mC, hCn⟩, hIo⟩ := pull
  have noti : NN - (NN - i) = i := by (first | lia | omega)
  have ggs : ∀ st : GenState, st.bare = true → ∀ st' : GenState, st'.bare = true → GG P.g₀ ((s'.gens.setIfInBounds g st).setIfInBounds g st') := fun st h1 st' h2 => (Si.gs.set hg0 h1).set hg0 h2
  refine pyNext_gen (P := PG C0 I (outG none rs) NN) (PE := PEr P.chain s2 Ga g (outG none rs) NN) C.hand (T.lim.keeps Si.bs) hroom hGa hgs hgo (fun v s₁ gs' hb hY => ?_) (fun s₁ hp h' hk => ?_) (fun ex s₁ hp => ?_)
  · obtain ⟨q, hq⟩ : ∃ q, NN - i = q + 1 := ⟨NN - i - 1, by (first | lia | omega)⟩
    rw [hq] at hY
    obtain ⟨⟨x', t, ho, rfl⟩, ⟨k, m, B⟩, hkap⟩ := hY
    rw [show NN - 1 - (q + 1 - 1) = i by (first | lia | omega)] at ho
    have hsince := B.since
    obtain ⟨h1, tk1, rfl, k1⟩ := hsince
    have S1 : St P Yi h1 ((s'.gens.setIfInBounds g .running).setIfInBounds g gs') s'.os := Si.pull (fun b o e1 e2 e => k1 b o e1 (fun z => e2 (List.mem_singleton.mp z)) e) hCn hIo (ggs _ rfl _ hb) hCL hCf cb ib ch ih cX iX hdat
    have hgT : (({ s'.setGen g .running with heap := h1, toks := tk1 } : Shared).setGen g gs').gens[g]? = some gs' := setGen_self (gs := .running) (setGen_self hgs)
    have hTh : (({ s'.setGen g .running with heap := h1, toks := tk1 } : Shared).setGen g gs').heap = h1 := rfl
    have S1' : St P Yi (({ s'.setGen g .running with heap := h1, toks := tk1 } : Shared).setGen g gs').heap (({ s'.setGen g .running with heap := h1, toks := tk1 } : Shared).setGen g gs').gens (({ s'.setGen g .running with heap := h1, toks := tk1 } : Shared).setGen g gs').os := S1
    have hGa1 : h1.IsGen Ga g := isGen_of hGa fun o e => by
      obtain ⟨og, _, _, hog, _, hdg, _⟩ := hGa
      have : s'.heap.get? Ga = some o := e
      refine k1 Ga o (fun z => ?_) (fun z => ?_) e
      · obtain ⟨oc, _, _, hoc, hdc, _⟩ := hCn
        rw [z, hoc] at hog; cases hog; rw [hdc] at hdg; cases hdg
      · have z := List.mem_singleton.mp z
        rcases hst with ⟨rfl, rfl, rfl⟩ | ⟨_, gs2, k2, m2, _, h3, _⟩
        · have := Heap.lt_size hog
          rw [z, hI] at this; exact absurd this (Nat.lt_irrefl _)
        · obtain ⟨oi, hoi, _, hdi⟩ := h3.it
          rw [z, hoi] at hog; cases hog; rw [hdi] at hdg; simp at hdg
    have Bns := B.ns
    have Bit := B.it
    have Bli := B.li
    generalize (({ s'.setGen g .running with heap := h1, toks := tk1 } : Shared).setGen g gs') = sT at *
    subst hTh
    have hold : Yi.old = Yi := by
      obtain ⟨o, d, m, c⟩ := Yi
      simp only at hdat
      subst hdat; rfl
    have ST := S1'.turn
    rw [hold] at ST
    show wpAny (model prg w) A (letOwnedTupleGo (.Name x px) (.ref Ga) (.int x' t)) _ _ sT
    refine wpAny_pure (wpAny_assign_Name (storeL ST (fun s4 S4 => ?_) hL hk hx))
    refine wpAny_mono (turn i x' t Yi sT s4 _ hi ho hJi hA hdat S1' S4).go (fun f s5 z => ?_) fun _ _ z => z
    have fin' : (∃ Y', Adr Yi Y' ∧ J (i + 1) { Y' with dat := [] } ∧ i + 1 < NN ∧ St (P.turn Yi sT) Y' s5.heap s5.gens s5.os) → ∃ k', k' < NN - i ∧ Inv k' s5 := fun ⟨Y', hA', hJ', hlt, S5⟩ => by
      rw [hInv]
      have mem : ∀ {b : Addr}, b ∉ mu P Yi → b ∉ frs P.chain → ∀ o, sT.heap.get? b = some o → s5.heap.get? b = some o := fun {b} h1 h2 o e => (S5.ch b o h1 e).1 h2
      have nfF : ∀ {b : Addr} {o : Obj}, sT.heap.get? b = some o → (∀ es n, o.data ≠ .dict es n) → b ∉ frs P.chain := fun {b o} e hn hf => by
        obtain ⟨m, o', es, n, ho', hd', _⟩ := S1'.fn b hf
        rw [e] at ho'; cases ho'; exact hn _ _ hd'
      have nmF : ∀ {b : Addr} {o : Obj} {vs : Array Value}, sT.heap.get? b = some o → o.data = .fields vs → b ∉ mu P Yi := fun {b o vs} e hd hm => by
        obtain ⟨o', ho', hn, _⟩ := S1'.mu_obj hm
        rw [e] at ho'; cases ho'; exact hn _ hd
      have kC : ∀ o, sT.heap.get? C0 = some o → s5.heap.get? C0 = some o := mem (fun hm => by
        obtain ⟨oc, ec, nc, hoc, hdc, _⟩ := Bns
        rcases List.mem_cons.mp hm with q | hm
        · exact hCL q
        · rcases List.mem_append.mp hm with hm | hm
          · obtain ⟨v, oo, hoo, hdd⟩ := S1'.oc C0 hm
            rw [hoc] at hoo; cases hoo; rw [hdc] at hdd; cases hdd
          · obtain ⟨pp, hpp, hpe⟩ := List.mem_map.mp hm
            obtain ⟨oo, n, hoo, _, _, hdd⟩ := S1'.li pp hpp
            rw [hpe, hoc] at hoo; cases hoo; rw [hdc] at hdd; cases hdd) hCf
      have kI : ∀ o, sT.heap.get? I = some o → s5.heap.get? I = some o := by
        obtain ⟨oi, hoi, _, hdi⟩ := Bit
        exact mem (nmF hoi hdi) (nfF hoi fun es n z => by rw [hdi] at z; cases z)
      have ka : ∀ o, sT.heap.get? a = some o → s5.heap.get? a = some o := by
        obtain ⟨oi, hoi, _, n, hdi⟩ := Bli
        exact mem (fun hm => ha (by rw [hA.mu] at hm; exact hm)) (nfF hoi fun es n z => by rw [hdi] at z; cases z)
      have kG : ∀ o, sT.heap.get? Ga = some o → s5.heap.get? Ga = some o := by
        obtain ⟨oi, _, _, hoi, _, hdi, _⟩ := hGa1
        exact mem (nmF hoi hdi) (nfF hoi fun es n z => by rw [hdi] at z; cases z)
      have S6 := (S1'.back S5 hA').drop (dat' := []) (fun p hp => by cases hp)
      have e1 : NN - (i + 1) = q := by (first | lia | omega)
      exact ⟨NN - (i + 1), by (first | lia | omega), i + 1, { Y' with dat := [] }, rfl, hlt, hJ', hA'.trans hA, rfl, S6, .inr ⟨isGen_of hGa1 kG, gs', k, m, S5.gs.ext g gs' hgT,
        ⟨.refl .., Bns.at' kC, Bit.at kI, Bli.at ka, S5.bs⟩, fun s'' hal hbs => by
          rw [e1]
          refine hkap (by (first | lia | omega)) s'' (fun b hb o e => hal b hb o ?_) hbs
          rcases List.mem_cons.mp hb with rfl | hb
          · exact kC o e
          · rcases List.mem_cons.mp hb with rfl | hb
            · exact kI o e
            · rcases List.mem_cons.mp hb with rfl | hb
              · exact ka o e
              · cases hb⟩⟩
    cases f with
    | next => exact fin' z.go
    | cont => exact fin' z.go
    | brk => exact z.go.go
    | ret v => exact z.go
  · obtain ⟨ho, h1, tk1, rfl, k1⟩ := hp
    rw [noti] at ho
    have S1 : St P Yi h1 ((s'.gens.setIfInBounds g .running).setIfInBounds g .finished) s'.os := Si.pull (fun b o e1 e2 e => k1 b o e1 (fun z => e2 (List.mem_singleton.mp z)) e) hCn hIo (ggs _ rfl _ rfl) hCL hCf cb ib ch ih cX iX hdat
    refine wpAny_execs_nil ?_
    exact (fin i Yi _ hJi hA ho (St.grow (s := { s'.setGen g .running with heap := h1, toks := tk1, gens := (s'.gens.setIfInBounds g .running).setIfInBounds g .finished }) (s' := { s'.setGen g .running with heap := h', toks := tk1, gens := (s'.gens.setIfInBounds g .running).setIfInBounds g .finished }) S1 ⟨.of_keeps fun b o _ e => hk b o e, rfl, .refl _⟩)).go
  · obtain ⟨t, tk, F, ht, hra, hgen⟩ := hp
    rw [noti] at hra
    refine ⟨⟨F.there, hgen⟩, ?_⟩
    have F' : Fly P.chain s2 (s₁.setGen g .finished) ex (.type "ValueError") (.ref t) := ⟨F.fl, F.up, F.os, F.gs.set (by rw [hgn]; exact Nat.le_refl _) rfl⟩
    rw [hch] at F'
    unfold notedBy
    refine noteFly' (hch ▸ C.frames) hf F' fun s5 H5 up5 => ?_
    unfold cameBackBy
    refine came' hf H5 fun s6 H6 up6 g6 => ?_
    rw [← hch] at H6
    exact err s2 s6 ex t tk (outG_raise hra) (S2.drop (dat' := []) (fun p hp => by cases hp)) H6 ((ht.of_slots up5).of_slots up6)
end
end Mine
namespace Mine
section
variable {prog : Program} {w : World} {A : Around} {env : Env} {P : Pa} {Y : Sy} {s : Shared} {Q : Flow → Shared → Prop} {E : Value → Shared → Prop} {rest : List Stmt}
/-- x, y = e, [] ; y an own list -/
theorem ys_swapL {x y : Str} {elts : List Expr} {k k' : Nat} {tpos pos vp lp : Pos} {e : Expr} {i : Int} (hs : swapsWithSole [.Tuple elts k tpos] (.Tuple [e, .List [] lp] k' vp) pos.line env = pure false) (hw : swappedStores [.Tuple elts k tpos] (.Tuple [e, .List [] lp] k' vp) env = pure (some [x, y])) (hh : A.handled = none) (S : St P Y s.heap s.gens s.os) (he : ExI prog w A env P Y e i)
    (h : ∀ t D s', St P ⟨(D, []) :: Y.own, Y.dat, (x, .int i t) :: (y, .ref D) :: Y.m, Y.cm⟩ s'.heap s'.gens s'.os → Wp (model prog w) A (execs rest env) Q E s')
    (hL : env.locals = P.L := by rfl) (hk : env.scope.kind = .function := by rfl) (hx : env.kindOf x = some .local := by rfl) (hy : env.kindOf y = some .local := by rfl)
    (hst : starEach [e, .List [] lp] env = [(false, eval e env), (false, eval (.List [] lp) env)] := by rfl) :
    Wp (model prog w) A (execs (.Assign [.Tuple elts k tpos] (.Tuple [e, .List [] lp] k' vp) pos :: rest) env) Q E s := by
  refine ⟨wpAny_execs_cons (Assign_Tuple_swapped ?_ hs hw)⟩
  refine wpAny_Tuple ?_
  rw [hst]
  refine spliced_cons (he.go s _ _ S fun v s1 G1 hv => ?_)
  obtain ⟨t, rfl⟩ := hv
  have S1 := S.grow G1
  refine spliced_cons (wpAny_List (spliced_nil ⟨by decide, ?_⟩))
  have S2 := S1.ownN (s' := { s1 with heap := s1.heap.push { cls := .type "list", data := .seq ([] : List Value).toArray } }) (a := s1.heap.objs.size) (xs := []) (Gr.push _) ⟨_, 0, Heap.get?_push_size _ rfl, rfl, rfl, rfl⟩ (heap_new _)
  refine spliced_nil ⟨by show 2 ≤ sizeLine; decide, ?_⟩
  have S3 := S2.grow (s' := { s1 with heap := (s1.heap.push { cls := .type "list", data := .seq ([] : List Value).toArray }).push { cls := .type "tuple", data := .seq [Value.int i t, Value.ref s1.heap.objs.size].toArray } }) (Gr.push (s := { s1 with heap := s1.heap.push { cls := .type "list", data := .seq ([] : List Value).toArray } }) _)
  refine unpackD (vs := [Value.int i t, Value.ref s1.heap.objs.size]) hh S3 ⟨_, Heap.get?_push_size _ rfl, rfl, 0, rfl⟩ rfl fun s4 G4 => ?_
  have S4 := S3.grow G4
  show wpAny _ A (assignInOrder [fun v => bindName env y v, fun v => bindName env x v] [Value.ref s1.heap.objs.size, Value.int i t]) _ _ _
  refine assignInOrder_cons (wpAny_bindName (storeL S4 (fun s5 S5 => ?_) hL hk hy))
  refine assignInOrder_cons (wpAny_bindName (storeL S5 (fun s6 S6 => ?_) hL hk hx))
  exact assignInOrder_nil (h t _ s6 S6).go
end
noncomputable def walkG (rs : List Int) : Nat → Nat → Int → List Int → List Int × Str
  | 0, _, _, marks => (marks, Str.ofString "fuel")
  | f + 1, i, place, marks => match outG none rs i with
    | .ends => (marks, Str.ofString "ends")
    | .raises => (marks, Str.ofString "invalid grouping")
    | .val v => if 34 < place + v then (marks, Str.ofString "goes on") else walkG rs f (i + 1) (place + v) (marks ++ [place + v])
noncomputable def walkD (r : List Int × Str) : PyData := .tuple [.list (r.1.map .int), .str r.2]
theorem isSub_ValueError : isSubtype (.type "ValueError") (.type "ValueError") = pure true := by rw [isSubtype_type]; kernel_rfl
section
variable {w : World} {A : Around} {s : Shared} {mg mb : Loc} {base : Heap} {chain : List Env} {Q E : Value → Shared → Prop}
theorem ret_str {env : Env} {P : Pa} {Q : Flow → Shared → Prop} {E : Value → Shared → Prop} {rest : List Stmt} {pm pf ps pc pt pos : Pos} {k : Nat} {D e t : Addr} {ys : List Value} {marks : List Int} {dat : List (Value × PyData × Bool)} {m cm : List (Str × Value)} {words : Str} {tk : Tok} (T : Tb (KF w) mg mb P.base) (S : St P ⟨[(D, ys)], dat, m, cm⟩ s.heap s.gens s.os) (hX : D ∉ P.X) (hu : A.units + 2 < cLine)
    (hm : m.lookup (Str.ofString "marks") = some (.ref D)) (hfa : m.lookup (Str.ofString "fault") = some (.ref e)) (hiv : IV ys marks) (hx : s.heap.ExcAt e "ValueError" (.ref t)) (ht : s.heap.TupAt t [.str words tk])
    (h : ∀ v s', St P ⟨[], (v, walkD (marks, words), true) :: (.ref D, .list (marks.map .int), true) :: dat, m, cm⟩ s'.heap s'.gens s'.os → Q (.ret v) s')
    (hL : env.locals = P.L := by rfl) (hk : env.scope.kind = .function := by rfl) (k1 : env.kindOf (Str.ofString "marks") = some .local := by rfl) (k2 : env.kindOf (Str.ofString "fault") = some .local := by rfl) (k3 : env.kindOf (Str.ofString "str") = some .globalImplicit := by rfl) (hg : env.globals = mainGlobals := by rfl) (hb : env.builtins = builtinsNs := by rfl)
    (hst : starEach [.Name (Str.ofString "marks") pm, .Call (.Name (Str.ofString "str") ps) [.Name (Str.ofString "fault") pf] [] pc] env = [(false, eval (.Name (Str.ofString "marks") pm) env), (false, eval (.Call (.Name (Str.ofString "str") ps) [.Name (Str.ofString "fault") pf] [] pc) env)] := by rfl)
    (hst2 : starEach [.Name (Str.ofString "fault") pf] env = [(false, eval (.Name (Str.ofString "fault") pf) env)] := by rfl) :
    Wp (model prg w) A (execs (.Return (some (.Tuple [.Name (Str.ofString "marks") pm, .Call (.Name (Str.ofString "str") ps) [.Name (Str.ofString "fault") pf] [] pc] k pt)) pos :: rest) env) Q E s := by
  refine ⟨wpAny_execs_cons (wpAny_Return_some (wpAny_Tuple ?_))⟩
  rw [hst]
  refine spliced_cons (wpAny_Name (wpAny_loadName_local hk k1 (hL ▸ S.ns) hm ?_) rfl)
  refine spliced_cons (wpAny_Call_NameR (ExV.bltnA T (by rfl) (v := .type "str") (by rfl) (by decide) hg hb hk k3 rfl S ?_))
  rw [hst2]
  refine PySem.callWith_type rfl (evalArgs_plain (spliced_cons (wpAny_Name (wpAny_loadName_local hk k2 (hL ▸ S.ns) hfa (spliced_nil ?_)) rfl)))
  refine _root_.PySem.P.str_of_exc_one PySem.F.excStr_ValueError hu hx ht (spliced_nil ⟨by show 2 ≤ sizeLine; decide, ?_⟩)
  have R := S.release hX hiv.dats
  have S3 := R.grow (s' := { s with heap := s.heap.push { cls := .type "tuple", data := .seq [Value.ref D, Value.str words tk].toArray } }) (Gr.push _)
  refine h _ _ (S3.know (Dat.ofTup (vs := [Value.ref D, Value.str words tk]) ⟨_, Heap.get?_push_size _ rfl, rfl, 0, rfl⟩ (Dats.cons (S3.da _ (List.Mem.head _)) (Dats.cons (Dat.str ..) Dats.nil))))
theorem ret_word {env : Env} {P : Pa} {Q : Flow → Shared → Prop} {E : Value → Shared → Prop} {rest : List Stmt} {pm pc pt pos : Pos} {k kc : Nat} {D : Addr} {ys : List Value} {marks : List Int} {dat : List (Value × PyData × Bool)} {m cm : List (Str × Value)} {words : Str} (S : St P ⟨[(D, ys)], dat, m, cm⟩ s.heap s.gens s.os) (hX : D ∉ P.X)
    (hm : m.lookup (Str.ofString "marks") = some (.ref D)) (hiv : IV ys marks)
    (h : ∀ v s', St P ⟨[], (v, walkD (marks, words), true) :: (.ref D, .list (marks.map .int), true) :: dat, m, cm⟩ s'.heap s'.gens s'.os → Q (.ret v) s')
    (hL : env.locals = P.L := by rfl) (hk : env.scope.kind = .function := by rfl) (k1 : env.kindOf (Str.ofString "marks") = some .local := by rfl)
    (hst : starEach [.Name (Str.ofString "marks") pm, .Constant (.str words) kc pc] env = [(false, eval (.Name (Str.ofString "marks") pm) env), (false, eval (.Constant (.str words) kc pc) env)] := by rfl) :
    Wp (model prg w) A (execs (.Return (some (.Tuple [.Name (Str.ofString "marks") pm, .Constant (.str words) kc pc] k pt)) pos :: rest) env) Q E s := by
  refine ⟨wpAny_execs_cons (wpAny_Return_some (wpAny_Tuple ?_))⟩
  rw [hst]
  refine spliced_cons (wpAny_Name (wpAny_loadName_local hk k1 (hL ▸ S.ns) hm ?_) rfl)
  refine spliced_cons (Constant_str (k := kc) (pos := pc) (env := env) (spliced_nil ⟨by show 2 ≤ sizeLine; decide, ?_⟩))
  have R := S.release hX hiv.dats
  have S3 := R.grow (s' := { s with heap := s.heap.push { cls := .type "tuple", data := .seq [Value.ref D, Value.str words s.toks].toArray }, toks := s.toks + 1 }) ⟨(Gr.push (fs := frs P.chain) (s := s) _).ch, rfl, .refl _⟩
  refine h _ _ (S3.know (Dat.ofTup (vs := [Value.ref D, Value.str words s.toks]) ⟨_, Heap.get?_push_size _ rfl, rfl, 0, rfl⟩ (Dats.cons (S3.da _ (List.Mem.head _)) (Dats.cons (Dat.str ..) Dats.nil))))
theorem St.last {qual : Str} {scope : Scope} {L f : Addr} {cdv : Value} {own : List (Addr × List Value)} {v : Value} {d : PyData} {dat : List (Value × PyData × Bool)} {s' : Shared} {m cm : List (Str × Value)}
    (S' : St (callPa base chain s qual scope L f cdv) ⟨own, (v, d, true) :: dat, m, cm⟩ s'.heap s'.gens s'.os) : Gr (frs chain) s s' ∧ New s s' v d := ⟨S'.done rfl, S'.res (S'.da _ (List.Mem.head _))⟩
theorem c_walk (T : Tb (KF w) mg mb base) (C : Cx A chain 2) (N : At base chain s) {v : Value} {rs : List Int} {as : List Addr} (hv : Reads s.heap v (.list (rs.map .int)) as) {NN : Nat} (hN : 1 ≤ NN) (hN' : NN ≤ 1000) {W : List Int × Str} (hW : walkG rs NN 0 0 [] = W) (hfu : W.2 ≠ Str.ofString "fuel")
    (h : ∀ u s', Gr (frs chain) s s' → New s s' u (walkD W) → Q u s') : Wp (model prg w) A (call (.ref 89) [v]) Q E s := by
  refine entw [(Str.ofString "row", v)] [(Str.ofString "row", v)] [] T C N rfl rfl rfl rfl rfl rfl rfl rfl rfl rfl fun L A' s₁ C' S => ?_
  have S := S.arg hv
  refine ys_swapL (x := Str.ofString "place") (y := Str.ofString "marks") (by kernel_rfl) (by kernel_rfl) C'.hand S ExI.const fun t D s₂ S₂ => ?_
  let Y0 : Sy := ⟨[(D, [])], [], [(Str.ofString "place", .int 0 t), (Str.ofString "marks", .ref D), (Str.ofString "row", v)], []⟩
  have hDX : ∀ {D : Addr}, D ∉ ([] : List Addr) := fun h => by cases h
  have last : ∀ {v : Value} {d : PyData} {s' : Shared}, Gr (frs chain) s s' ∧ New s s' v d → d = walkD W → Q v s' := fun {v d s'} S' e => by
    subst e
    exact h v s' S'.1 S'.2
  refine ys_tryA (K := KF w) (mg := mg) (mb := mb) (L := L) (words := fun a => ∃ tk, a = [Value.str (Str.ofString "invalid grouping") tk] ∧ outG none rs 0 = .raises) S₂ rfl T C'.frames rfl (X := "ValueError") PyProof.Rows.Boot.«ValueError» rfl (by decide) PySem.F.isExc_ValueError PySem.F.notTuple_ValueError isSub_ValueError (fun Y => Y = Y0) (fun Eb hEb => ?_) (fun s₃ e t' args Y₁ E' hY S₃ hx hw ht => ?_)
  · refine ys_forG (NN := NN) (L := L) T C' rfl rfl S₂ (ExV.toD (ExV.loc rfl) (List.Mem.head _)) hN
      (fun i Y => ∃ place t marks D ys m, Y = ⟨[(D, ys)], [], m, []⟩ ∧ m.lookup (Str.ofString "place") = some (.int place t) ∧ m.lookup (Str.ofString "marks") = some (.ref D) ∧ IV ys marks ∧ ys.length ≤ i ∧ walkG rs (NN - i) i place marks = W)
      ⟨0, t, [], D, [], _, rfl, rfl, rfl, .nil, Nat.le_refl _, hW⟩ ?_ ?_ ?_
    · rintro i x tx Yi s₃ s₄ E' hi ho ⟨place, tp, marks, D', ys, m, rfl, m1, m2, hiv, hlen, hwk⟩ hA hdat S₃ S₄
      obtain ⟨q, hq⟩ : ∃ q, NN - i = q + 1 := ⟨NN - i - 1, by (first | lia | omega)⟩
      rw [hq] at hwk
      unfold walkG at hwk
      rw [ho] at hwk
      dsimp only at hwk
      have m1' : ((Str.ofString "size", Value.int x tx) :: m).lookup (Str.ofString "place") = some (.int place tp) := m1
      have m2' : ((Str.ofString "size", Value.int x tx) :: m).lookup (Str.ofString "marks") = some (.ref D') := m2
      refine ys_I S₄ (ExI.add (ExV.toI (ExV.loc m1')) (ExV.toI (ExV.loc rfl))) fun t5 s₅ S₅ => ?_
      refine ys_if S₅ (Tr.cmpI CmpI.gt (ExV.toI (ExV.loc rfl)) ExI.const) (fun hgt s₆ S₆ => ?_) (fun hgt s₆ S₆ => ?_)
      · have hgt' := of_decide_eq_true hgt
        rw [if_pos hgt'] at hwk
        have B := S₃.back S₆ rfl
        refine ret_word (words := Str.ofString "goes on") B hDX m2' hiv fun v s' S' => ?_
        exact Nx.ret (Lp.ret (Nx.ret ⟨last S'.last (by rw [hwk])⟩))
      · have hgt' := of_decide_eq_false hgt
        rw [if_neg hgt'] at hwk
        refine ys_nil (Nx.next ?_)
        refine ys_append (pre := []) (post := []) (xs := ys) S₆ m2' rfl (by simp only [sizeLine]; (first | lia | omega)) (ExV.toI (ExV.loc rfl)) fun u s₇ s₈ hu S₈ hs₈ S₇ => ?_
        obtain ⟨tu, rfl⟩ := hu
        refine ys_nil (Lp.next ⟨⟨[(D', ys ++ [Value.int (place + x) tu])], [], (Str.ofString "place", .int (place + x) t5) :: (Str.ofString "size", .int x tx) :: m, []⟩, rfl, ⟨place + x, t5, marks ++ [place + x], D', ys ++ [Value.int (place + x) tu], (Str.ofString "place", .int (place + x) t5) :: (Str.ofString "size", .int x tx) :: m, rfl, rfl, m2, hiv.snoc _ _, by simp; (first | lia | omega), ?_⟩, ?_, S₇⟩)
        · rw [show NN - (i + 1) = q by (first | lia | omega)]; exact hwk
        · rcases Nat.lt_or_ge (i + 1) NN with h | h
          · exact h
          · exfalso
            have : q = 0 := by (first | lia | omega)
            subst this
            unfold walkG at hwk
            rw [← hwk] at hfu
            exact hfu rfl
    · rintro i Yn s' ⟨place, tp, marks, D', ys, m, rfl, m1, m2, hiv, hlen, hwk⟩ hA ho Sn
      refine ys_nil (Nx.next ?_)
      refine ret_word (words := Str.ofString "ends") Sn hDX m2 hiv fun v s' S' => ⟨last S'.last ?_⟩
      rcases Nat.eq_zero_or_pos (NN - i) with h0 | h0
      · rw [h0] at hwk
        unfold walkG at hwk
        rw [← hwk] at hfu
        exact absurd rfl hfu
      · obtain ⟨q, hq⟩ : ∃ q, NN - i = q + 1 := ⟨NN - i - 1, by (first | lia | omega)⟩
        rw [hq] at hwk
        unfold walkG at hwk
        rw [ho] at hwk
        dsimp only at hwk
        rw [hwk]
    · intro s₁ s₂ x t tk hra S₁ H ht
      exact hEb s₁ s₂ x t _ _ rfl S₁ H ⟨tk, rfl, hra⟩ ht
  · subst hY
    obtain ⟨tk, rfl, hra⟩ := hw
    refine ret_str T S₃ hDX (by have := C'.units; rw [Around.mark_units]; (first | lia | omega)) rfl rfl .nil hx ht fun v s' S' => ⟨v, _, rfl, S', fun m' s₅ S₅ => ⟨last S₅.last ?_⟩⟩
    obtain ⟨q, rfl⟩ : ∃ q, NN = q + 1 := ⟨NN - 1, by (first | lia | omega)⟩
    unfold walkG at hW
    rw [hra] at hW
    dsimp only at hW
    rw [hW]
end
end Mine
namespace Mine
open AutoSeq1 (wpAny_loadPart')
/-- enumerate of a tuple -/
theorem meets_enumT (l : Addr) (items : Array Value) (n : Nat) (dct : Option Addr) (sl : Array (Option Value)) :
    Meets (Builtin.«enumerate.__new__» ⟨[.type "enumerate", .ref l], []⟩) (fun _ R s => s.heap.get? l = some { cls := .type "tuple", dict := dct, data := .seq items n, slots := sl } ∧
      R (.ok (.ret (.ref (s.heap.push { cls := .type "tuple_iterator", data := .fields #[.ref l, .int 0 0] }).objs.size)))
        { s with heap := (s.heap.push { cls := .type "tuple_iterator", data := .fields #[.ref l, .int 0 0] }).push { cls := .type "enumerate", data := .fields #[.none, .bool false, .ref s.heap.objs.size, rawInt 0, .none, .none] } }) :=
  .of_wp fun prog w A R s h => by
    obtain ⟨hp, g, d, tk, os⟩ := s
    obtain ⟨hl, h⟩ := h
    have hsub := sub_enumerate
    have hL : Heap.IsTuple (Shared.heap ⟨hp, g, d, tk, os⟩) l items := ⟨_, hl, rfl, n, rfl⟩
    wp_walk using wpAny_loadPart' hl
    refine wpAny_stack_any fun st => wpAny_pure ?_
    split
    · rename_i c _ _ _ _ _
      cases (c == Value.type "enumerate")
      · wp_walk using wpAny_loadPart' hl, wpAny_pyIter_tuple hL
        exact ⟨_, rfl, h⟩
      · wp_walk using wpAny_loadPart' hl, wpAny_pyIter_tuple hL
        exact ⟨_, rfl, h⟩
    · wp_walk using wpAny_loadPart' hl, wpAny_pyIter_tuple hL
      exact ⟨_, rfl, h⟩
section
variable {prog : Program} {w : World} {A : Around} {E : Value → Shared → Prop} {s : Shared}
theorem call_enumT {l : Addr} {items : Array Value} {Q : Value → Shared → Prop} (hL : s.heap.IsTuple l items)
    (h : ∀ h' e it, IsEnum h' e it 0 .none → h'.IsTupleIter it l 0 → s.heap.get? e = none → s.heap.get? it = none → e ≠ it →
      (∀ b o, s.heap.get? b = some o → h'.get? b = some o) → Q (.ref e) { s with heap := h' }) :
    wpAny (model prog w) A (call (.type "enumerate") [.ref l]) Q E s := by
  obtain ⟨⟨c, dct, dt, sl⟩, hl, hc, n, hd⟩ := hL
  simp only at hc hd
  subst hc hd
  refine callType_new F.called_enumerate (by decide) (F.typeCall_enumerate_1 _) (F.newCall_enumerate_1 _) (fun obj => F.args_object_init_2 obj _) F.entry_enumerate_new
    (meets_enumT l items n dct sl) ⟨hl, ?_⟩
  have hz : (s.heap.push { cls := .type "tuple_iterator", data := .fields #[.ref l, .int 0 0] }).objs.size = s.heap.objs.size + 1 := Heap.size_push ..
  show _ ∧ _
  have he := Heap.get?_push_size (s.heap.push { cls := .type "tuple_iterator", data := .fields #[.ref l, .int 0 0] })
      (o := { cls := .type "enumerate", data := .fields #[.none, .bool false, .ref s.heap.objs.size, rawInt 0, .none, .none] }) rfl
  refine ⟨⟨_, he, rfl⟩, h _ _ s.heap.objs.size he ⟨_, Heap.get?_push_of_some _ (Heap.get?_push_size _ rfl), rfl, rfl⟩ ?_ (heap_new _) ?_ fun b o x => Heap.get?_push_of_some _ (Heap.get?_push_of_some _ x)⟩
  · rw [hz]
    cases q : s.heap.get? (s.heap.objs.size + 1) with
    | none => rfl
    | some o => exact absurd (Heap.lt_size q) (Nat.not_lt.mpr (Nat.le_succ _))
  · rw [hz]; exact Nat.succ_ne_self _
theorem nextOf_tup {it l : Addr} {i : Nat} {items : Array Value} {x : Value} {Q : Value → Shared → Prop} (hit : s.heap.IsTupleIter it l i)
    (hl : s.heap.IsTuple l items) (hx : items[i]? = some x)
    (hQ : ∀ h', h'.IsTupleIter it l (i + 1) → Heap.SameBut it s.heap h' → Q x { s with heap := h' }) :
    wpAny (model prog w) A (Builtin.SmallTypes.nextOf (.ref it)) Q E s := by
  obtain ⟨o, ho, hc, hd⟩ := id hit
  obtain ⟨ol, hol, _, nl, hdl⟩ := hl
  unfold Builtin.SmallTypes.nextOf
  refine wpAny_bind (wpAny_callSpecial?_slot (name := Str.ofString "__next__") hit.typeIs F.slot_tuple_iterator_next
    (wpAny_call_entry F.slot_tuple_iterator_next hit.typeIs F.entry_tuple_iterator_next ?_ (F.args_tuple_iterator_next_1 _)))
  show wpAny _ _ (field (.ref it) 0 >>= _) _ _ s
  refine wpAny_bind (wpAny_field ho hd (x := .ref l) rfl ?_)
  show wpAny _ _ (if (Value.ref l == Value.none) = true then _ else _) _ _ s
  rw [if_neg (show ¬ ((Value.ref l == Value.none) = true) from Bool.false_ne_true)]
  show wpAny _ _ (field (.ref it) 1 >>= _) _ _ s
  refine wpAny_bind (wpAny_field ho hd (x := .int i 0) rfl ?_)
  show wpAny _ _ (seqItems? (.ref l) >>= _) _ _ s
  refine wpAny_bind (wpAny_seqItems hol hdl ?_)
  simp only [Int.toNat_natCast, hx]
  refine wpAny_bind (wpAny_setField ho hd (by simp) (wpAny_pure ⟨x, rfl, wpAny_pure (hQ _ ?_ (Heap.SameBut.update ..))⟩))
  exact ⟨_, Heap.get?_update_self _ ho (Obj.isFreed_of_fields (Obj.data_mapFields hd _)), (Obj.cls_mapFields ..).trans hc, by
    rw [Obj.data_mapFields hd]; simp [rawInt]⟩
theorem nextOf_tupEnd {it l : Addr} {i : Nat} {items : Array Value} {Q : Value → Shared → Prop} (hh : A.handled = none)
    (hit : s.heap.IsTupleIter it l i) (hl : s.heap.IsTuple l items) (hx : items[i]? = none)
    (hE : ∀ h' e, Heap.ExtBut it s.heap h' → (∃ o, h'.get? e = some o ∧ o.cls = .type "StopIteration") → E (.ref e) { s with heap := h' }) :
    wpAny (model prog w) A (Builtin.SmallTypes.nextOf (.ref it)) Q E s := by
  obtain ⟨o, ho, hc, hd⟩ := id hit
  obtain ⟨ol, hol, _, nl, hdl⟩ := hl
  unfold Builtin.SmallTypes.nextOf
  refine wpAny_bind (wpAny_callSpecial?_slot (name := Str.ofString "__next__") hit.typeIs F.slot_tuple_iterator_next
    (wpAny_call_entry F.slot_tuple_iterator_next hit.typeIs F.entry_tuple_iterator_next ?_ (F.args_tuple_iterator_next_1 _)))
  show wpAny _ _ (field (.ref it) 0 >>= _) _ _ s
  refine wpAny_bind (wpAny_field ho hd (x := .ref l) rfl ?_)
  show wpAny _ _ (if (Value.ref l == Value.none) = true then _ else _) _ _ s
  rw [if_neg (show ¬ ((Value.ref l == Value.none) = true) from Bool.false_ne_true)]
  show wpAny _ _ (field (.ref it) 1 >>= _) _ _ s
  refine wpAny_bind (wpAny_field ho hd (x := .int i 0) rfl ?_)
  show wpAny _ _ (seqItems? (.ref l) >>= _) _ _ s
  refine wpAny_bind (wpAny_seqItems hol hdl ?_)
  simp only [Int.toNat_natCast, hx]
  refine wpAny_bind (wpAny_rule (wpAny_bind (wpAny_setField ho hd (by simp) ?_)))
  show wpAny _ _ (newExc (.type "StopIteration") [] >>= _) _ _ _
  refine wpAny_bind ?_
  simp only [newExc, newTuple]
  refine wpAny_bind (wpAny_newObj_type ?_ (by size_fits))
  refine wpAny_bind (m := firstArgMember _ _) (wpAny_of_eq (a := Value.none) (by first | rfl | (simp only [firstArgMember]; rfl)) ?_)
  refine wpAny_newObj_type ?_ (by size_fits)
  simp only [raiseNew]
  refine wpAny_bind (wpAny_handled ?_)
  first | rw [show A.in1.handled = none from hh] | rw [hh]
  refine wpAny_bind (wpAny_pure (wpAny_throw ?_))
  exact hE _ _ (((Heap.SameBut.update ..).extBut.push _).push _) ⟨_, Heap.get?_push_size _ rfl, rfl⟩
theorem enumT_item {e it l : Addr} {i : Nat} {items : Array Value} {x old : Value} {Q : Value → Shared → Prop}
    (he : IsEnum s.heap e it i old) (hit : s.heap.IsTupleIter it l i) (hl : s.heap.IsTuple l items) (hx : items[i]? = some x) (hne : e ≠ it)
    (hQ : ∀ h' a tk, IsEnumOut h' e it ((i : Int) + 1) x a → h'.IsTupleIter it l (i + 1) → s.heap.get? a = none →
      h'.get? a = some { cls := .type "tuple", data := .seq #[.int i tk, x] } →
      (∀ b o, b ≠ e → b ≠ it → s.heap.get? b = some o → h'.get? b = some o) → Q (.ref a) { s with heap := h', toks := s.toks + 1 }) :
    wpAny (model prog w) A (Builtin.«enumerate.__next__» ⟨[.ref e], []⟩) (fun fin s' => ∃ v, fin = .done (.ret v) ∧ Q v s') E s := by
  obtain ⟨hp, g, d, tk, os⟩ := s
  show wpAny _ _ (field (.ref e) 2 >>= _) _ _ _
  refine wpAny_bind (wpAny_field he rfl (x := .ref it) rfl ?_)
  refine wpAny_bind (nextOf_tup hit hl hx fun h₁ hit₁ hs₁ => ?_)
  replace hs₁ : Heap.SameBut it hp h₁ := hs₁
  have he₁ : IsEnum h₁ e it i old := (hs₁.2 e hne).trans he
  show wpAny _ _ (field (.ref e) 3 >>= _) _ _ ⟨h₁, g, d, tk, os⟩
  refine wpAny_bind (wpAny_field he₁ rfl (x := rawInt i) rfl ?_)
  show wpAny _ _ (field (.ref e) 4 >>= _) _ _ ⟨h₁, g, d, tk, os⟩
  refine wpAny_bind (wpAny_field he₁ rfl (x := .none) rfl ?_)
  show wpAny _ _ (mkInt i >>= _) _ _ ⟨h₁, g, d, tk, os⟩
  refine wpAny_bind (wpAny_mkInt ?_)
  show wpAny _ _ (setField (.ref e) 3 (rawInt ((i : Int) + 1)) >>= _) _ _ ⟨h₁, g, d, tk + 1, os⟩
  refine wpAny_bind (wpAny_setField_rec he₁ (by simp) fun h₂ he₂ hs₂ => ?_)
  replace hs₂ : Heap.SameBut e h₁ h₂ := hs₂
  replace he₂ : IsEnum h₂ e it ((i : Int) + 1) old := he₂
  show wpAny _ _ (setField (.ref e) 4 .none >>= _) _ _ ⟨h₂, g, d, tk + 1, os⟩
  refine wpAny_bind (wpAny_setField_rec he₂ (by simp) fun h₃ he₃ hs₃ => ?_)
  replace hs₃ : Heap.SameBut e h₂ h₃ := hs₃
  replace he₃ : IsEnum h₃ e it ((i : Int) + 1) old := he₃
  show wpAny _ _ (newTuple [.int i tk, x] >>= _) _ _ ⟨h₃, g, d, tk + 1, os⟩
  refine wpAny_bind (wpAny_newTuple ?_)
  have he₄ : IsEnum (h₃.push { cls := .type "tuple", data := .seq #[.int i tk, x] }) e it ((i : Int) + 1) old := Heap.get?_push_of_some _ he₃
  have nA : h₃.get? h₃.objs.size = none := heap_new _
  have hn : hp.get? h₃.objs.size = none := by
    cases q : hp.get? h₃.objs.size with
    | none => rfl
    | some o =>
      by_cases q1 : h₃.objs.size = it
      · obtain ⟨o', ho', _⟩ := (hit₁.extBut hs₂.extBut (Ne.symm hne)).extBut hs₃.extBut (Ne.symm hne)
        rw [q1] at nA; rw [nA] at ho'; cases ho'
      · by_cases q2 : h₃.objs.size = e
        · rw [q2] at nA; cases nA.symm.trans he₃
        · rw [hs₃.extBut _ o q2 (hs₂.extBut _ o q2 (hs₁.extBut _ o q1 q))] at nA; cases nA
  have hae : h₃.objs.size ≠ e := fun q => by rw [q] at nA; cases nA.symm.trans he₃
  generalize hA : h₃.objs.size = a at *
  generalize hh₄ : h₃.push { cls := .type "tuple", data := .seq #[.int i tk, x] } = h₄ at he₄
  have ht₄ : h₄.get? a = some { cls := .type "tuple", data := .seq #[.int i tk, x] } := by rw [← hh₄, ← hA]; exact Heap.get?_push_size _ rfl
  have hk₄ : ∀ b o, b ≠ e → b ≠ it → hp.get? b = some o → h₄.get? b = some o := fun b o hbe hbi hb => by
    rw [← hh₄]; exact Heap.get?_push_of_some _ (hs₃.extBut b o hbe (hs₂.extBut b o hbe (hs₁.extBut b o hbi hb)))
  have hit₄ : h₄.IsTupleIter it l (i + 1) := by
    rw [← hh₄]; obtain ⟨o, ho, r⟩ := (hit₁.extBut hs₂.extBut (Ne.symm hne)).extBut hs₃.extBut (Ne.symm hne); exact ⟨o, Heap.get?_push_of_some _ ho, r⟩
  show wpAny _ _ (Builtin.SmallTypes.ownedTupleIsFree (.ref e) >>= _) _ _ ⟨h₄, g, d, tk + 1, os⟩
  clear hh₄ he₃ hs₃ he₂ hs₂ he₁ hs₁ hit₁ nA
  refine wpAny_bind ?_
  unfold Builtin.SmallTypes.ownedTupleIsFree
  refine wpAny_bind (wpAny_field he₄ rfl (x := .none) rfl (wpAny_pure ?_))
  simp only [if_true]
  refine wpAny_bind (wpAny_rule ?_)
  refine wpAny_bind (wpAny_field he₄ rfl (x := old) rfl ?_)
  refine wpAny_bind (wpAny_setField_rec he₄ (by simp) fun h₅ he₅ hs₅ => ?_)
  replace hs₅ : Heap.SameBut e h₄ h₅ := hs₅
  replace he₅ : IsEnum h₅ e it ((i : Int) + 1) x := he₅
  show wpAny _ _ (Builtin.SmallTypes.ownedTupleHandOut (.ref e) (.ref a) >>= _) _ _ ⟨h₅, g, d, tk + 1, os⟩
  refine wpAny_bind ?_
  unfold Builtin.SmallTypes.ownedTupleHandOut
  refine wpAny_bind (wpAny_setField_rec he₅ (by simp) fun h₆ he₆ hs₆ => ?_)
  replace hs₆ : Heap.SameBut e h₅ h₆ := hs₆
  replace he₆ : IsEnumOut h₆ e it ((i : Int) + 1) x a := he₆
  refine wpAny_setField_rec he₆ (by simp) fun h₇ he₇ hs₇ => ?_
  replace hs₇ : Heap.SameBut e h₆ h₇ := hs₇
  replace he₇ : IsEnumOut h₇ e it ((i : Int) + 1) x a := he₇
  refine wpAny_bind (wpAny_letGo (wpAny_pure ⟨_, rfl, hQ h₇ a tk he₇ ?_ hn ?_ ?_⟩))
  · exact ((hit₄.extBut hs₅.extBut (Ne.symm hne)).extBut hs₆.extBut (Ne.symm hne)).extBut hs₇.extBut (Ne.symm hne)
  · exact hs₇.extBut _ _ hae (hs₆.extBut _ _ hae (hs₅.extBut _ _ hae ht₄))
  · exact fun b o hbe hbi hb => hs₇.extBut b o hbe (hs₆.extBut b o hbe (hs₅.extBut b o hbe (hk₄ b o hbe hbi hb)))
theorem pyNext_enumT {e it l : Addr} {i : Nat} {items : Array Value} {x old : Value} {Q : Option Value → Shared → Prop}
    (he : IsEnum s.heap e it i old) (hit : s.heap.IsTupleIter it l i) (hl : s.heap.IsTuple l items) (hx : items[i]? = some x) (hne : e ≠ it)
    (hQ : ∀ h' a tk, IsEnumOut h' e it ((i : Int) + 1) x a → h'.IsTupleIter it l (i + 1) → s.heap.get? a = none →
      h'.get? a = some { cls := .type "tuple", data := .seq #[.int i tk, x] } →
      (∀ b o, b ≠ e → b ≠ it → s.heap.get? b = some o → h'.get? b = some o) → Q (some (.ref a)) { s with heap := h', toks := s.toks + 1 }) :
    wpAny (model prog w) A (pyNext (.ref e)) Q E s := by
  have hT : s.TypeIs (.ref e) "enumerate" := ⟨_, he, rfl⟩
  unfold pyNext
  exact wpAny_bind (wpAny_attempt (wpAny_callSpecial?_slot (name := Str.ofString "__next__") hT F.slot_enumerate_next
    (wpAny_call_entry F.slot_enumerate_next hT F.entry_enumerate_next
      (enumT_item he hit hl hx hne fun h' a tk b c d f k => wpAny_pure (hQ h' a tk b c d f k)) (F.args_enumerate_next_1 _))))
theorem pyNext_enumTEnd {e it l : Addr} {i : Nat} {items : Array Value} {old : Value} {Q : Option Value → Shared → Prop} (hh : A.handled = none)
    (he : IsEnum s.heap e it i old) (hit : s.heap.IsTupleIter it l i) (hl : s.heap.IsTuple l items) (hx : items[i]? = none)
    (hQ : ∀ h', Heap.ExtBut it s.heap h' → Q none { s with heap := h' }) : wpAny (model prog w) A (pyNext (.ref e)) Q E s := by
  have hT : s.TypeIs (.ref e) "enumerate" := ⟨_, he, rfl⟩
  unfold pyNext
  refine wpAny_bind (wpAny_attempt (wpAny_callSpecial?_slot (name := Str.ofString "__next__") hT F.slot_enumerate_next
    (wpAny_call_entry F.slot_enumerate_next hT F.entry_enumerate_next ?_ (F.args_enumerate_next_1 _))))
  show wpAny _ _ (field (.ref e) 2 >>= _) _ _ _
  refine wpAny_bind (wpAny_field he rfl (x := .ref it) rfl ?_)
  refine wpAny_bind (nextOf_tupEnd hh hit hl hx fun h' x he' hx' => ?_)
  obtain ⟨o, ho, hc⟩ := hx'
  refine wpAny_bind (wpAny_isInstance (T := "StopIteration") (b := true) ⟨o, ho, hc⟩ isSubtype_stop ?_)
  exact wpAny_pure (hQ _ he')
end
end Mine
namespace Mine
section
variable {prog : Program} {w : World} {A : Around} {s : Shared} {mg mb : Loc} {K : Frag} {env : Env} {P : Pa} {Y : Sy} {Q : Flow → Shared → Prop} {E : Value → Shared → Prop} {rest : List Stmt}
/-- for i, x in enumerate(e), e a tuple -/
theorem ys_forE {xi xv : Str} {pi pv pt pf pc pos : Pos} {kt : Nat} {e : Expr} {body : List Stmt} {ds : List PyData} {n0 : Bool} (T : Tb K mg mb P.base) (hh : A.handled = none) (S : St P Y s.heap s.gens s.os)
    (hne : nsIn K mainGlobals (Str.ofString "enumerate") = some none) (he : ExD prog w A env P Y e (.tuple ds) n0) (J : Nat → Sy → Prop) (hJ : J 0 { Y with dat := [] })
    (turn : ∀ i d v t D Yi s₁ s₂ E', ds[i]? = some d → J i Yi → Adr Y Yi → Yi.dat = [] → St P { Yi with dat := D } s₁.heap s₁.gens s₁.os → St (P.turn { Yi with dat := D } s₁) ⟨Yi.own, [(v, d, false)], (xv, v) :: (xi, .int i t) :: Yi.m, Yi.cm⟩ s₂.heap s₂.gens s₂.os →
      Wp (model prog w) A (execs body env) (Lp (fun s₃ => ∃ Y', Adr Yi Y' ∧ J (i + 1) { Y' with dat := [] } ∧ St (P.turn { Yi with dat := D } s₁) Y' s₃.heap s₃.gens s₃.os) (fun s₃ => Wp (model prog w) A (execs rest env) Q E s₃) Q) E' s₂)
    (fin : ∀ Yn s', J ds.length Yn → Adr Y Yn → Yn.dat = [] → St P Yn s'.heap s'.gens s'.os → Wp (model prog w) A (execs rest env) Q E s')
    (hL : env.locals = P.L := by rfl) (hk : env.scope.kind = .function := by rfl) (hxi : env.kindOf xi = some .local := by rfl) (hxv : env.kindOf xv = some .local := by rfl)
    (hg : env.globals = mainGlobals := by rfl) (hb : env.builtins = builtinsNs := by rfl) (hgx : env.kindOf (Str.ofString "enumerate") = some .globalImplicit := by rfl)
    (hse : starEach [e] env = [(false, eval e env)] := by rfl) (hs : ∀ v, foldedSetIterable (.Call (.Name (Str.ofString "enumerate") pf) [e] [] pc) env v = pure v := by intro _; rfl) :
    Wp (model prog w) A (execs (.For (.Tuple [.Name xi pi, .Name xv pv] kt pt) (.Call (.Name (Str.ofString "enumerate") pf) [e] [] pc) body [] pos :: rest) env) Q E s := by
  refine ⟨wpAny_execs_cons (wpAny_For ?_ hs)⟩
  refine wpAny_Call_NameR (ExV.bltnA T hne (v := .type "enumerate") (by rfl) (by decide) hg hb hk hgx rfl S ?_)
  rw [hse]
  refine PySem.callWith_type rfl (evalArgs_plain (spliced_cons (he.go s _ _ S fun v s2 G2 hv => spliced_nil ?_)))
  have S2 := S.grow G2
  obtain ⟨l, vs, rfl, hl, hds⟩ := hv.isTup
  refine call_enumT (items := vs.toArray) (by obtain ⟨o, h1, h2, n, h3⟩ := hl; exact ⟨o, h1, h2, n, h3⟩) fun h0 en it h1 h2 h3 h4 h5 h6 => ?_
  refine wpAny_pyIter_enum h1 ?_
  have inb : ∀ b, s2.heap.get? b = none → P.base.get? b = none ∧ P.h₀.get? b = none ∧ b ∉ P.X := fun b h => by
    refine ⟨?_, (S2.fresh h).2, fun hX => ?_⟩
    · cases q : P.base.get? b with
      | none => rfl
      | some o => have := S2.bs b o q; rw [h] at this; cases this
    · obtain ⟨o, e⟩ := S2.xi b hX; rw [h] at e; cases e
  have fe := inb en h3
  have fi := inb it h4
  obtain ⟨D, hD⟩ : ∃ D, D = (vs.zip ds).map fun p => (p.1, p.2, false) := ⟨_, rfl⟩
  have S3 : St P { Y with dat := D } h0 s2.gens s2.os := by
    refine St.grow (s := s2) (s' := { s2 with heap := h0 }) (S2.ins (D := D) fun p hp => ?_) ⟨.of_keeps fun b o _ e => h6 b o e, rfl, .refl _⟩
    rw [hD] at hp
    have := hds.zip p hp
    rw [this.1]; exact this.2
  have hl0 : h0.IsTuple l vs.toArray := by
    obtain ⟨o, a1, a2, n, a3⟩ := hl
    exact ⟨o, h6 _ _ a1, a2, n, a3⟩
  obtain ⟨Inv, hInv⟩ : ∃ Inv : Nat → Shared → Prop, Inv = fun k s' => ∃ i Yi old, k = ds.length + 1 - i ∧ i ≤ ds.length ∧ J i Yi ∧ Adr Y Yi ∧ Yi.dat = [] ∧ St P { Yi with dat := D } s'.heap s'.gens s'.os ∧ IsEnum s'.heap en it ((i : Nat) : Int) old ∧ s'.heap.IsTupleIter it l i ∧ s'.heap.IsTuple l vs.toArray := ⟨_, rfl⟩
  have key := codeAny_forLoopG (R := fun r s' => match r with | .ok f => (match f with | .next => wpAny (model prog w) A (execs rest env) Q E s' | f => Q f s') | .error e => cameBackBy (model prog w) A env E e s') (prog := prog) (w := w) (A := A) (target := .Tuple [.Name xi pi, .Name xv pv] kt pt) (it := .ref en) (body := body) (orelse := []) (env := env)
    Inv ?_ (ds.length + 1) (s := { s2 with heap := h0 }) (by rw [hInv]; exact ⟨0, { Y with dat := [] }, .none, rfl, Nat.zero_le _, hJ, rfl, rfl, S3, h1, h2, hl0⟩)
  · exact key
  intro k s' hInv'
  rw [hInv] at hInv'
  obtain ⟨i, Yi, old, rfl, hi, hJi, hA, hdat, Si, he', hit', hl'⟩ := hInv'
  have wr : ∀ b ∈ [en, it], (∃ o vs, s'.heap.get? b = some o ∧ o.data = .fields vs) ∧ P.base.get? b = none ∧ P.h₀.get? b = none ∧ b ∉ P.X := fun b hb => by
    rcases List.mem_cons.mp hb with rfl | hb
    · exact ⟨⟨_, _, he', rfl⟩, fe⟩
    · rcases List.mem_cons.mp hb with rfl | hb
      · obtain ⟨o, ho, _, hd⟩ := hit'
        exact ⟨⟨o, _, ho, hd⟩, fi⟩
      · cases hb
  have hlen := hds.len
  by_cases hlt : i < ds.length
  · obtain ⟨d, hd⟩ : ∃ d, ds[i]? = some d := ⟨ds[i], by simp [hlt]⟩
    obtain ⟨v, hv, _⟩ := hds.get hd
    refine pyNext_enumT he' hit' hl' (x := v) (by simpa using hv) h5 fun h₁ a tk heo hit₁ hna hta hk₁ => ?_
    have S1 : St P { Yi with dat := D } h₁ s'.gens s'.os := Si.iter (wr := [en, it]) (fun b o hb e => hk₁ b o (fun q => hb (by simp [q])) (fun q => hb (by simp [q])) e) wr
    have hl₁ : h₁.IsTuple l vs.toArray := by
      obtain ⟨o, a1, a2, n, a3⟩ := hl'
      refine ⟨o, hk₁ l o (fun q => ?_) (fun q => ?_) a1, a2, n, a3⟩
      · rw [q, he'] at a1; cases a1; cases a3
      · obtain ⟨o', b1, _, b3⟩ := hit'
        rw [q, b1] at a1; cases a1; rw [b3] at a3; cases a3
    refine wpAny_letOwnedTupleGo_enum heo fun h₂ he₂ hs₂ => ?_
    have hae : a ≠ en := fun q => by rw [q] at hna; cases hna.symm.trans he'
    have S2' : St P { Yi with dat := D } h₂ s'.gens s'.os := St.iter (s := { s' with heap := h₁, toks := s'.toks + 1 }) (wr := [en]) S1 (fun b o hb e => (hs₂.2 b (fun q => hb (by simp [q]))).trans e) (fun b hb => by
      rw [List.mem_singleton.mp hb]; exact ⟨⟨_, _, heo, rfl⟩, fe⟩)
    have hta₂ : h₂.get? a = some { cls := .type "tuple", data := .seq #[.int i tk, v] } := (hs₂.2 a hae).trans hta
    have hit₂ : h₂.IsTupleIter it l (i + 1) := hit₁.extBut hs₂.extBut (Ne.symm h5)
    have hl₂ : h₂.IsTuple l vs.toArray := by
      obtain ⟨o, a1, a2, n, a3⟩ := hl₁
      refine ⟨o, (hs₂.2 l fun q => ?_).trans a1, a2, n, a3⟩
      rw [q, heo] at a1; cases a1; cases a3
    clear hs₂ hit₁ hl₁ S1 hk₁ hta
    -- the turn's state
    generalize hsT : ({ s' with heap := h₂, toks := s'.toks + 1 } : Shared) = sT
    have eh : sT.heap = h₂ := by rw [← hsT]
    have eg : sT.gens = s'.gens := by rw [← hsT]
    have eo : sT.os = s'.os := by rw [← hsT]
    rw [← eh] at hta₂ hit₂ hl₂ he₂
    have ST0 : St P { Yi with dat := D } sT.heap sT.gens sT.os := by rw [eh, eg, eo]; exact S2'
    have ST := ST0.turn
    have hdv : Dat (mu (P.turn { Yi with dat := D } sT) (Sy.old { Yi with dat := D })) (P.turn { Yi with dat := D } sT).h₀ sT.heap v d false := by
      have hm : (v, d, false) ∈ D := by rw [hD]; exact mem_zipD hv hd
      have := ST.da (v, d, false) (List.mem_map.mpr ⟨_, hm, rfl⟩)
      exact this
    have STk := ST.know (v := .ref a) (d := .tuple [.int i, d]) (n := false) (Dat.ofTup (vs := [.int i tk, v]) ⟨_, hta₂, rfl, 0, rfl⟩ (Dats.cons (Dat.int ..) (Dats.cons hdv Dats.nil)))
    refine assign2 hh STk (List.Mem.head _) (fun u u' s4 S4 => ?_) hL hk hxi hxv
    obtain ⟨t, rfl⟩ := (S4.da (u, .int i, false) (List.Mem.tail _ (List.Mem.head _))).isInt
    have S5 := S4.drop (dat' := [(u', d, false)]) (fun p hp => by rw [List.mem_singleton.mp hp]; exact List.Mem.head _)
    refine wpAny_mono (turn i d u' t D Yi sT s4 _ hd hJi hA hdat ST0 S5).go (fun f s5 z => ?_) fun _ _ z => z
    have fin' : (∃ Y', Adr Yi Y' ∧ J (i + 1) { Y' with dat := [] } ∧ St (P.turn { Yi with dat := D } sT) Y' s5.heap s5.gens s5.os) → ∃ k', k' < ds.length + 1 - i ∧ Inv k' s5 := fun ⟨Y', hA', hJ', S6⟩ => by
      rw [hInv]
      have mem : ∀ {b : Addr} {o : Obj}, sT.heap.get? b = some o → (∀ es n, o.data ≠ .dict es n) → b ∉ mu P Yi → s5.heap.get? b = some o := fun {b o} e hn hm => (S6.ch b o hm e).1 fun hf => by
        obtain ⟨m, o', es, n, ho', hd', _⟩ := ST0.fn b hf
        rw [e] at ho'; cases ho'; exact hn _ _ hd'
      have nmF : ∀ {b : Addr} {o : Obj} {vs : Array Value}, sT.heap.get? b = some o → o.data = .fields vs → b ∉ mu P Yi := fun {b o vs} e hd hm => by
        obtain ⟨o', ho', hn, _⟩ := ST0.mu_obj (a := b) hm
        rw [e] at ho'; cases ho'; exact hn _ hd
      have hA'' : Adr { Yi with dat := D } Y' := hA'
      have B := (ST0.back S6 hA'').ins (D := D) fun p hp => by
        have hmu : mu P Y'.old = mu P { Yi with dat := D } := by show P.L :: (P.oc ++ Y'.own.map (·.1)) = _; rw [hA'']
        rw [hmu]
        exact St.keepdat ST0 S6 (ST0.da p hp)
      refine ⟨ds.length + 1 - (i + 1), by (first | lia | omega), i + 1, { Y' with dat := [] }, v, rfl, hlt, hJ', hA'.trans hA, rfl, B, ?_, ?_, ?_⟩
      · have : ((i + 1 : Nat) : Int) = (i : Int) + 1 := by push_cast; rfl
        rw [this]; exact mem he₂ (fun es n z => by cases z) (nmF he₂ rfl)
      · obtain ⟨o, a1, a2, a3⟩ := hit₂
        exact ⟨o, mem a1 (fun es n z => by rw [a3] at z; cases z) (nmF a1 a3), a2, a3⟩
      · obtain ⟨o, a1, a2, n, a3⟩ := hl₂
        refine ⟨o, mem a1 (fun es n z => by rw [a3] at z; cases z) (fun hm => ?_), a2, n, a3⟩
        obtain ⟨o', ho', _, hn⟩ := ST0.mu_obj (a := l) hm
        rw [a1] at ho'; cases ho'; exact hn ⟨a2, _, n, a3⟩
    cases f with
    | next => exact fin' z.go
    | cont => exact fin' z.go
    | brk => exact z.go.go
    | ret v => exact z.go
  · have hin : i = ds.length := by (first | lia | omega)
    subst hin
    refine pyNext_enumTEnd hh he' hit' hl' (by simp; (first | lia | omega)) fun h₁ hk₁ => wpAny_execs_nil ?_
    have S1 : St P { Yi with dat := D } h₁ s'.gens s'.os := Si.iter (wr := [it]) (fun b o hb e => hk₁ b o (fun q => hb (by simp [q])) e) (fun b hb => wr b (List.mem_cons_of_mem _ hb))
    have S1' := S1.drop (dat' := []) (fun p hp => by cases hp)
    have e1 : ({ ({ Yi with dat := D } : Sy) with dat := [] } : Sy) = Yi := by
      obtain ⟨o, d, m, c⟩ := Yi
      simp only at hdat
      subst hdat; rfl
    rw [e1] at S1'
    exact (fin Yi { s' with heap := h₁ } hJi hA hdat S1').go
end
end Mine
namespace Mine
noncomputable def allSome (f : Value → Option PyData) : List Value → Option (List PyData)
  | [] => some []
  | v :: vs => match f v, allSome f vs with
    | some d, some ds => some (d :: ds)
    | _, _ => none
/-- data of the known part of the heap -/
noncomputable def readK (K : Frag) : Nat → Value → Option PyData
  | 0, _ => none
  | f + 1, v => match v with
    | .none => some .none
    | .int i _ => some (.int i)
    | .str x _ => some (.str x)
    | .ref a => match K.lookup a with
      | some ⟨.type "tuple", _, .seq vs _, _⟩ => (allSome (readK K f) vs.toList).map .tuple
      | _ => none
    | _ => none
theorem readK_reads {K : Frag} {h : Heap} (X : K.In h) : ∀ (f : Nat) (v : Value) (d : PyData), readK K f v = some d → Reads h v d []
  | 0, _, _, e => by simp [readK] at e
  | f + 1, v, d, e => by
    have many : ∀ (vs : List Value) (ds : List PyData), allSome (readK K f) vs = some ds → ReadsAll h vs ds [] := by
      intro vs
      induction vs with
      | nil => intro ds e; simp [allSome] at e; subst e; exact .nil
      | cons v vs ih =>
        intro ds e
        unfold allSome at e
        split at e
        · rename_i d' ds' h1 h2
          cases e
          exact .cons (as := []) (bs := []) (readK_reads X f v d' h1) (ih ds' h2)
        · cases e
    unfold readK at e
    split at e
    · cases e; exact .none
    · cases e; exact .int _ _
    · cases e; exact .str _ _
    · split at e
      · rename_i a _ _ vs n _ hl
        obtain ⟨ds, h1, rfl⟩ := Option.map_eq_some_iff.mp e
        exact .tuple (X _ _ hl) rfl rfl (many _ _ h1)
      · cases e
    · cases e
theorem joinOk_small {texts : List Str} (h1 : texts.length ≤ 1000) (h2 : ∀ t ∈ texts, t.length ≤ 1000) : JoinOk (Str.ofString "") texts = true := by
  unfold JoinOk
  rw [StrLaws.joinTotal]
  have := StrLaws.sumLen_le texts h2
  have e : (Str.ofString "").length = 0 := rfl
  rw [e, Nat.mul_zero, Nat.add_zero]
  have : (texts.map (·.length)).sum ≤ 1000 * 1000 := Nat.le_trans this (Nat.mul_le_mul_right _ h1)
  have h3 : Builtin.Str.tooLong ((texts.map (·.length)).sum) = false := by
    unfold Builtin.Str.tooLong
    have : sizeLine = 2 ^ 24 := sizeLine_eq
    rw [this]
    simp; omega
  rw [h3]; rfl
theorem Dats.strs {X : List Addr} {h₀ h : Heap} : ∀ {vs : List Value} {xs : List Str} {n : Bool}, Dats X h₀ h vs (xs.map .str) n → ∃ l : List (Str × Tok), strValues l = vs ∧ l.map (·.1) = xs
  | [], xs, _, d => by
    have := d.len
    cases xs with
    | nil => exact ⟨[], rfl, rfl⟩
    | cons => simp at this
  | v :: vs, xs, _, d => by
    cases xs with
    | nil => have := d.len; simp at this
    | cons x xs =>
      obtain ⟨as0, r0, q⟩ := d
      cases r0 with
      | cons r r' =>
        cases r with
        | str x t =>
          obtain ⟨l, h1, h2⟩ := Dats.strs (n := _) ⟨_, r', fun a ha => q a (List.mem_append_right _ ha)⟩
          exact ⟨(x, t) :: l, by rw [← h1]; rfl, by rw [← h2]; rfl⟩
theorem Dats.ints {X : List Addr} {h₀ h : Heap} : ∀ {vs : List Value} {xs : List Int} {n : Bool}, Dats X h₀ h vs (xs.map .int) n → ∃ l : List (Int × Tok), vs.toArray = intItems l.toArray ∧ l.map (·.1) = xs
  | [], xs, _, d => by
    have := d.len
    cases xs with
    | nil => exact ⟨[], by simp [intItems], rfl⟩
    | cons => simp at this
  | v :: vs, xs, _, d => by
    cases xs with
    | nil => have := d.len; simp at this
    | cons x xs =>
      obtain ⟨as0, r0, q⟩ := d
      cases r0 with
      | cons r r' =>
      cases r with
      | int x t =>
      obtain ⟨l, h1, h2⟩ := Dats.ints (n := _) ⟨_, r', fun a ha => q a (List.mem_append_right _ ha)⟩
      refine ⟨(x, t) :: l, ?_, by rw [← h2]; rfl⟩
      have : vs = (intItems l.toArray).toList := by rw [← h1]
      rw [this]
      apply Array.ext'
      simp [intItems]
section
variable {prog : Program} {w : World} {A : Around} {env : Env} {P : Pa} {Y : Sy} {s : Shared} {Q : Flow → Shared → Prop} {E : Value → Shared → Prop} {rest : List Stmt}
theorem ExI.and {l r : Expr} {pos : Pos} {a b : Int} : ExI prog w A env P Y l a → ExI prog w A env P Y r b → ExI prog w A env P Y (.BinOp l .BitAnd r pos) (Builtin.bitAnd a b) := ExI.bin fun _ _ _ _ _ k => PyProof.Rows.and_int (k _ _)
theorem ExI.pow {l r : Expr} {pos : Pos} {a b : Int} (h0 : 0 ≤ b) (h : (Builtin.Int.intBits a : Int) * b ≤ 2 ^ 27) : ExI prog w A env P Y l a → ExI prog w A env P Y r b → ExI prog w A env P Y (.BinOp l .Pow r pos) (a ^ b.toNat) := ExI.bin fun _ _ _ _ _ k => PyProof.Rows.pow_int h0 h (k _ _)
theorem ExI.sum {K : Frag} {mg mb : Loc} {p pos : Pos} {e : Expr} {is : List Int} {n : Bool} (T : Tb K mg mb P.base) (hh : A.handled = none) (hf : nsIn K mainGlobals (Str.ofString "sum") = some none) (h : ExD prog w A env P Y e (.list (is.map .int)) n)
    (hg : env.globals = mainGlobals := by rfl) (hb : env.builtins = builtinsNs := by rfl) (hkd : env.scope.kind = .function := by rfl) (hx : env.kindOf (Str.ofString "sum") = some .globalImplicit := by rfl) (he : starEach [e] env = [(false, eval e env)] := by rfl) :
    ExI prog w A env P Y (.Call (.Name (Str.ofString "sum") p) [e] [] pos) is.sum := by
  refine Ex.callB T hf (f := "sum") (by rfl) (by decide) (ExL.one h he) (fun s vs Q E S hvs q => ?_) hg hb hkd hx (by rfl) he (fun _ => rfl)
  obtain ⟨v, rfl, hv⟩ := hvs
  obtain ⟨a, us, rfl, hl, hds, _⟩ := hv.isList
  obtain ⟨l, h1, h2⟩ := hds.ints
  rw [h1] at hl
  refine sum_intListG hh hl fun h' tk t' hk => ?_
  rw [preSum_eq, List.take_of_length_le (by simp)]
  have e : ((l.toArray.toList).map (·.1)).sum = is.sum := by rw [← h2]
  rw [e]
  exact q _ _ ⟨.of_keeps fun b o _ e => hk b o e, rfl, .refl _⟩ ⟨_, rfl⟩
theorem ExS.join {apos pos cp : Pos} {k : Nat} {e : Expr} {xs : List Str} {n : Bool} (h : ExD prog w A env P Y e (.list (xs.map .str)) n) (hok : JoinOk (Str.ofString "") xs = true)
    (hbase : attributeBase (.Constant (.str (Str.ofString "")) k cp) (Str.ofString "join") env (eval (.Constant (.str (Str.ofString "")) k cp) env) = eval (.Constant (.str (Str.ofString "")) k cp) env := by rfl) (hs : starEach [e] env = [(false, eval e env)] := by rfl) (hline : (apos.endLine == pos.line) = true := by rfl) :
    ExS prog w A env P Y (.Call (.Attribute (.Constant (.str (Str.ofString "")) k cp) (Str.ofString "join") apos) [e] [] pos) (Txt.join (Str.ofString "") xs) := .mk fun s Q E S q => by
  refine Call_method1 hbase hs hline (ExS.const (prog := prog) (w := w) (A := A) (env := env) (k := k) (pos := cp) |>.go s _ _ S fun v s1 G1 hv => ?_)
  obtain ⟨t, rfl⟩ := hv
  refine ⟨"str", "str.join", F.plainAttrs_str, F.slot_str_join, F.type_str_join, typeIs_str _ _ _, (fun _ e => nomatch e), ?_⟩
  refine callWith_builtin rfl (evalArgs_plain (spliced_cons (h.go s1 _ _ (S.grow G1) fun v s2 G2 hv => spliced_nil ?_)))
  obtain ⟨a, us, rfl, hl, hds, _⟩ := hv.isList
  obtain ⟨l, rfl, h2⟩ := hds.strs
  exact SC.join hl h2 hok fun t' tk => q _ _ ((G1.trans G2).toks _) ⟨t', rfl⟩
end
end Mine
namespace Mine
theorem old_old {Y : Sy} {p : Value × PyData × Bool} (h : p ∈ Y.old.dat) : p.2.2 = false := by
  obtain ⟨q, _, rfl⟩ := List.mem_map.mp h
  rfl
theorem mem_also_old {Y : Sy} {D : List (Value × PyData × Bool)} {p : Value × PyData × Bool} (h : p ∈ D) (hf : p.2.2 = false) : p ∈ (Y.also D).old.dat := by
  refine List.mem_map.mpr ⟨p, List.mem_append_right _ h, ?_⟩
  obtain ⟨a, b, c⟩ := p
  simp only at hf
  subst hf; rfl
section
variable {prog : Program} {w : World} {A : Around} {env : Env} {P : Pa} {Y : Sy} {s : Shared} {Q : Flow → Shared → Prop} {E : Value → Shared → Prop} {rest : List Stmt}
theorem ys_for2 {x y : Str} {px py pt pos : Pos} {kt : Nat} {iter : Expr} {body orelse : List Stmt} {ds : List PyData} (hh : A.handled = none) (S : St P Y s.heap s.gens s.os) (src : Src prog w A env P Y iter ds) (hds : ∀ d ∈ ds, ∃ a b, d = .tuple [a, b])
    (J : Nat → Sy → Prop) (hJ : J 0 { Y with dat := [] })
    (turn : ∀ i a b u u' D dat' Yi (s₁ s₂ : Shared) (E' : Value → Shared → Prop), ds[i]? = some (.tuple [a, b]) → J i Yi → Adr Y Yi → (∀ p ∈ Y.old.dat, p ∈ D) → (∀ p ∈ Y.old.dat, p ∈ dat') → (u, a, false) ∈ dat' → (u', b, false) ∈ dat' → St P (Yi.also D) s₁.heap s₁.gens s₁.os →
      St (P.turn (Yi.also D) s₁) ⟨Yi.own, dat', (y, u') :: (x, u) :: Yi.m, Yi.cm⟩ s₂.heap s₂.gens s₂.os →
      Wp (model prog w) A (execs body env) (Lp (fun s₃ => ∃ Y', Adr Yi Y' ∧ J (i + 1) Y'.old ∧ St (P.turn (Yi.also D) s₁) Y' s₃.heap s₃.gens s₃.os) (fun s₃ => Wp (model prog w) A (execs rest env) Q E s₃) Q) E' s₂)
    (fin : ∀ Yn s' (E' : Value → Shared → Prop) (D : List (Value × PyData × Bool)), J ds.length Yn → Adr Y Yn → (∀ p ∈ Y.old.dat, p ∈ D) → St P (Yn.also D) s'.heap s'.gens s'.os → Wp (model prog w) A (execs orelse env) (Nx (fun s' => Wp (model prog w) A (execs rest env) Q E s') Q) E' s')
    (hL : env.locals = P.L := by rfl) (hk : env.scope.kind = .function := by rfl) (hx : env.kindOf x = some .local := by rfl) (hy : env.kindOf y = some .local := by rfl)
    (hs : ∀ x, foldedSetIterable iter env x = pure x := by intro _; rfl) : Wp (model prog w) A (execs (.For (.Tuple [.Name x px, .Name y py] kt pt) iter body orelse pos :: rest) env) Q E s := by
  refine ⟨xs_for S src J hJ (fun i v d Yi s₁ E' I D hd hJi hA hold nog Si St' => ?_) (fun Yn s' E' D hJ hA hold Sn => ?_) hs⟩
  · obtain ⟨a, b, rfl⟩ := hds d (List.mem_of_getElem? hd)
    refine nog.go (assign2 hh St' (List.Mem.head _) (fun u u' s₂ S₂ => ?_) hL hk hx hy)
    refine wpAny_mono (turn i a b u u' D _ Yi s₁ s₂ E' hd hJi hA hold (fun p hp => ?_) (List.Mem.tail _ (List.Mem.head _)) (List.Mem.head _) Si S₂).go (fun f s₃ z => ?_) fun _ _ z => z
    · exact List.mem_cons_of_mem _ (List.mem_cons_of_mem _ (List.mem_cons_of_mem _ (mem_also_old (hold p hp) (old_old hp))))
    · cases f with
      | next => exact z.go
      | cont => exact z.go
      | brk => exact z.go.go
      | ret v => exact z.go
  · refine wpAny_mono (fin Yn s' E' D hJ hA hold Sn).go (fun f s₃ z => ?_) fun _ _ z => z
    cases f with
    | next => exact z.go.go
    | _ => exact z.go
theorem ys_for1 {x : Str} {px pos : Pos} {iter : Expr} {body orelse : List Stmt} {ds : List PyData} (S : St P Y s.heap s.gens s.os) (src : Src prog w A env P Y iter ds)
    (J : Nat → Sy → Prop) (hJ : J 0 { Y with dat := [] })
    (turn : ∀ i d v D dat' Yi (s₁ s₂ : Shared) (E' : Value → Shared → Prop), ds[i]? = some d → J i Yi → Adr Y Yi → (∀ p ∈ Y.old.dat, p ∈ D) → (∀ p ∈ Y.old.dat, p ∈ dat') → (∀ p ∈ Yi.old.dat, p ∈ dat') → (v, d, false) ∈ dat' → St P (Yi.also D) s₁.heap s₁.gens s₁.os →
      St (P.turn (Yi.also D) s₁) ⟨Yi.own, dat', (x, v) :: Yi.m, Yi.cm⟩ s₂.heap s₂.gens s₂.os →
      Wp (model prog w) A (execs body env) (Lp (fun s₃ => ∃ Y', Adr Yi Y' ∧ J (i + 1) Y'.old ∧ St (P.turn (Yi.also D) s₁) Y' s₃.heap s₃.gens s₃.os) (fun s₃ => Wp (model prog w) A (execs rest env) Q E s₃) Q) E' s₂)
    (fin : ∀ Yn s' (E' : Value → Shared → Prop) (D : List (Value × PyData × Bool)), J ds.length Yn → Adr Y Yn → (∀ p ∈ Y.old.dat, p ∈ D) → St P (Yn.also D) s'.heap s'.gens s'.os → Wp (model prog w) A (execs orelse env) (Nx (fun s' => Wp (model prog w) A (execs rest env) Q E s') Q) E' s')
    (hL : env.locals = P.L := by rfl) (hk : env.scope.kind = .function := by rfl) (hx : env.kindOf x = some .local := by rfl)
    (hs : ∀ x, foldedSetIterable iter env x = pure x := by intro _; rfl) : Wp (model prog w) A (execs (.For (.Name x px) iter body orelse pos :: rest) env) Q E s := by
  refine ⟨xs_for S src J hJ (fun i v d Yi s₁ E' I D hd hJi hA hold nog Si St' => ?_) (fun Yn s' E' D hJ hA hold Sn => ?_) hs⟩
  · show wpAny _ _ (letOwnedTupleGo (.Name x px) (.ref I) v) _ _ _
    refine wpAny_pure (wpAny_assign_Name (storeL St' (fun s₂ S₂ => ?_) hL hk hx))
    refine wpAny_mono (turn i d v D _ Yi s₁ s₂ E' hd hJi hA hold (fun p hp => ?_) (fun p hp => ?_) (List.Mem.head _) Si S₂).go (fun f s₃ z => ?_) fun _ _ z => z
    · exact List.mem_cons_of_mem _ (mem_also_old (hold p hp) (old_old hp))
    · obtain ⟨q, hq, rfl⟩ := List.mem_map.mp hp
      exact List.mem_cons_of_mem _ (List.mem_map.mpr ⟨q, List.mem_append_left _ hq, rfl⟩)
    · cases f with
      | next => exact z.go
      | cont => exact z.go
      | brk => exact z.go.go
      | ret v => exact z.go
  · refine wpAny_mono (fin Yn s' E' D hJ hA hold Sn).go (fun f s₃ z => ?_) fun _ _ z => z
    cases f with
    | next => exact z.go.go
    | _ => exact z.go
theorem ys_brk {pos : Pos} (h : Q .brk s) : Wp (model prog w) A (execs (.Break pos :: rest) env) Q E s := ⟨wpAny_execs_cons (wpAny_Break h)⟩
end
end Mine
namespace Mine
noncomputable def fmTab : List (List (Int × Str)) := [[(40960, Str.ofString "l"), (49152, Str.ofString "s"), (32768, Str.ofString "-"), (24576, Str.ofString "b"), (16384, Str.ofString "d"), (8192, Str.ofString "c"), (4096, Str.ofString "p")],
  [(256, Str.ofString "r")], [(128, Str.ofString "w")], [(2112, Str.ofString "s"), (2048, Str.ofString "S"), (64, Str.ofString "x")],
  [(32, Str.ofString "r")], [(16, Str.ofString "w")], [(1032, Str.ofString "s"), (1024, Str.ofString "S"), (8, Str.ofString "x")],
  [(4, Str.ofString "r")], [(2, Str.ofString "w")], [(513, Str.ofString "t"), (512, Str.ofString "T"), (1, Str.ofString "x")]]
noncomputable def pairD (p : Int × Str) : PyData := .tuple [.int p.1, .str p.2]
noncomputable def tabD (t : List (Int × Str)) : PyData := .tuple (t.map pairD)
noncomputable def fmTest (mode : Int) (idx : Nat) (bit : Int) : Bool := if idx = 0 then Builtin.bitAnd mode 61440 == bit else Builtin.bitAnd mode bit == bit
noncomputable def fmChar (mode : Int) (idx : Nat) : List (Int × Str) → Str
  | [] => if idx = 0 then Str.ofString "?" else Str.ofString "-"
  | p :: r => if fmTest mode idx p.1 then p.2 else fmChar mode idx r
noncomputable def fmAll (mode : Int) : Nat → List (List (Int × Str)) → List Str
  | _, [] => []
  | idx, t :: r => fmChar mode idx t :: fmAll mode (idx + 1) r
theorem fmAll_snoc (mode : Int) (t : List (Int × Str)) : ∀ (l : List (List (Int × Str))) (idx : Nat), fmAll mode idx (l ++ [t]) = fmAll mode idx l ++ [fmChar mode (idx + l.length) t]
  | [], idx => by simp [fmAll]
  | x :: l, idx => by simp [fmAll, fmAll_snoc mode t l (idx + 1), Nat.add_assoc, Nat.add_comm 1]
inductive SVl : List Value → List Str → Prop
  | nil : SVl [] []
  | cons {t vs} {x : Str} {xs} : SVl vs xs → SVl (.str x t :: vs) (x :: xs)
theorem SVl.snoc {vs : List Value} {xs : List Str} (h : SVl vs xs) (x : Str) (t : Tok) : SVl (vs ++ [.str x t]) (xs ++ [x]) := by
  induction h with
  | nil => exact .cons .nil
  | cons _ ih => exact .cons ih
theorem SVl.dats {X : List Addr} {h₀ h : Heap} {vs : List Value} {xs : List Str} {n : Bool} (x : SVl vs xs) : Dats X h₀ h vs (xs.map .str) n := by
  induction x with
  | nil => exact .nil
  | cons _ ih => exact .cons (Dat.str ..) ih
theorem SVl.len {vs : List Value} {xs : List Str} (h : SVl vs xs) : vs.length = xs.length := by
  induction h with
  | nil => rfl
  | cons _ ih => simp [ih]
section
variable {prog : Program} {w : World} {A : Around} {env : Env} {P : Pa} {Y : Sy} {s : Shared} {Q : Flow → Shared → Prop} {E : Value → Shared → Prop} {rest : List Stmt}
/-- x = [], an own list -/
theorem ys_newL {x : Str} {px lp pos : Pos} (S : St P Y s.heap s.gens s.os) (h : ∀ D s', St P ⟨(D, []) :: Y.own, Y.dat, (x, .ref D) :: Y.m, Y.cm⟩ s'.heap s'.gens s'.os → Wp (model prog w) A (execs rest env) Q E s')
    (hL : env.locals = P.L := by rfl) (hk : env.scope.kind = .function := by rfl) (hx : env.kindOf x = some .local := by rfl) (hs : swapsWith (.List [] lp) (some (.Name x px)) pos.line env = pure false := by rfl) :
    Wp (model prog w) A (execs (.Assign [.Name x px] (.List [] lp) pos :: rest) env) Q E s := by
  refine ⟨wpAny_execs_cons (wpAny_Assign_Name (wpAny_List (spliced_nil ⟨by decide, ?_⟩)) hs)⟩
  have S2 := S.ownN (s' := { s with heap := s.heap.push { cls := .type "list", data := .seq ([] : List Value).toArray } }) (a := s.heap.objs.size) (xs := []) (Gr.push _) ⟨_, 0, Heap.get?_push_size _ rfl, rfl, rfl, rfl⟩ (heap_new _)
  exact storeL S2 (fun s' S' => (h _ s' S').go) hL hk hx
/-- a name of the top, its data -/
theorem ExD.ofK {K : Frag} {mg mb : Loc} {x : Str} {pos : Pos} {v : Value} {d : PyData} {n : Bool} (T : Tb K mg mb P.base) (e : nsIn K mainGlobals x = some (some v)) (f : Nat) (hr : readK K f v = some d) (hg : env.globals = mainGlobals := by rfl) (hk : env.scope.kind = .function := by rfl)
    (hx : env.kindOf x = some .globalImplicit := by rfl) (hd : (x == ("__debug__" : Str)) = false := by rfl) : ExD prog w A env P Y (.Name x pos) d n := .mk fun s Q E S q => by
  refine (ExV.glob (prog := prog) (w := w) (A := A) T e hg hk hx hd).go s Q E S fun v s' G hv => ?_
  subst hv
  exact q _ s' G ⟨[], readK_reads (T.X.keeps (S.grow G).bs) f _ _ hr, fun a h => by cases h⟩
end
section
variable {w : World} {A : Around} {s : Shared} {mg mb : Loc} {base : Heap} {chain : List Env} {Q E : Value → Shared → Prop}
theorem table_read : readK (KF w) 5 (.ref 68) = some (.tuple (fmTab.map tabD)) := by rfl
theorem c_ifmt (T : Tb (KF w) mg mb base) (C : Cx A chain 1) (N : At base chain s) {m : Int} {t : Tok}
    (h : ∀ t s', Gr (frs chain) s s' → Q (.int (Builtin.bitAnd m 61440) t) s') : Wp (model prg w) A (call (.ref 35) [.int m t]) Q E s := by
  refine entw [(Str.ofString "mode", .int m t)] [(Str.ofString "mode", .int m t)] [] T C N rfl rfl rfl rfl rfl rfl rfl rfl rfl rfl fun L A' s₁ C' S => ?_
  refine ys_ret S (ExI.and (ExV.toI (ExV.loc rfl)) ExI.const) fun v s' S' hv => ⟨?_⟩
  obtain ⟨t, rfl⟩ := hv
  exact h t s' (S'.done rfl)
end
end Mine
namespace Mine
section
variable {w : World} {A : Around} {s : Shared} {mg mb : Loc} {base : Heap} {chain : List Env} {Q E : Value → Shared → Prop}
theorem exI_ifmt {env : Env} {P : Pa} {Y : Sy} {p pos : Pos} {e : Expr} {a : Int} (T : Tb (KF w) mg mb P.base) (C : Cx A P.chain 1) (h : ExI prg w A env P Y e a)
    (hg : env.globals = mainGlobals := by rfl) (hkd : env.scope.kind = .function := by rfl) (hx : env.kindOf (Str.ofString "S_IFMT") = some .globalImplicit := by rfl) (he : starEach [e] env = [(false, eval e env)] := by rfl) :
    ExI prg w A env P Y (.Call (.Name (Str.ofString "S_IFMT") p) [e] [] pos) (Builtin.bitAnd a 61440) := by
  refine Ex.call T (f := 35) (by rfl) (by rfl) (ExL.one h he) (fun s vs Q E S hvs q => ?_) hg hkd hx (by rfl) he (fun _ => rfl)
  obtain ⟨v, rfl, t, rfl⟩ := hvs
  exact (c_ifmt T C S.at fun t s' G => q _ s' G ⟨t, rfl⟩).go
theorem beq_int0 (i : Nat) : ((i : Int) == 0) = decide (i = 0) := by
  by_cases h : i = 0
  · subst h; rfl
  · have : (i : Int) ≠ 0 := by (first | lia | omega)
    rw [beq_eq_false_iff_ne.mpr this]; simp [h]
theorem fmChar_step (mode : Int) (i : Nat) (tab : List (Int × Str)) (k : Nat) (b : Int) (c : Str) (h : tab[k]? = some (b, c)) : fmChar mode i (tab.drop k) = if fmTest mode i b then c else fmChar mode i (tab.drop (k + 1)) := by
  have hk : k < tab.length := (List.getElem?_eq_some_iff.mp h).1
  rw [List.drop_eq_getElem_cons hk]
  have : tab[k] = (b, c) := by simpa [hk] using h
  rw [this]; rfl
/-- `perm.append(..)`, as the row has it -/
theorem c_filemode (T : Tb (KF w) mg mb base) (C : Cx A chain 2) (N : At base chain s) {mode : Int} {tm : Tok}
    (h : ∀ t s', Gr (frs chain) s s' → Q (.str (Txt.join (Str.ofString "") (fmAll mode 0 fmTab)) t) s') : Wp (model prg w) A (call (.ref 75) [.int mode tm]) Q E s := by
  refine entw [(Str.ofString "mode", .int mode tm)] [(Str.ofString "mode", .int mode tm)] [] T C N rfl rfl rfl rfl rfl rfl rfl rfl rfl rfl fun L A' s₁ C' S => ?_
  refine ys_newL S fun D s₂ S₂ => ?_
  refine ys_forE (K := KF w) (mg := mg) (mb := mb) (ds := fmTab.map tabD) (n0 := false) T C'.hand S₂ (by rfl) (ExD.ofK (K := KF w) T (by rfl) 5 table_read)
    (fun i Y => ∃ D ys m, Y = ⟨[(D, ys)], [], m, []⟩ ∧ m.lookup (Str.ofString "mode") = some (.int mode tm) ∧ m.lookup (Str.ofString "perm") = some (.ref D) ∧ SVl ys (fmAll mode 0 (fmTab.take i)) ∧ i ≤ 10)
    ⟨D, [], _, rfl, rfl, rfl, .nil, by decide⟩ ?_ ?_
  · rintro i d v t' D' Yi s₃ s₄ E' hd ⟨D, ys, m, rfl, m1, m2, hys, hi10⟩ hA hdat S₃ S₄
    rw [List.getElem?_map] at hd
    obtain ⟨tab, htab, rfl⟩ := Option.map_eq_some_iff.mp hd
    have hi : i < 10 := (List.getElem?_eq_some_iff.mp htab).1
    have hlen : ys.length ≤ 10 := by
      rw [hys.len]
      have : ∀ (l : List (List (Int × Str))) j, (fmAll mode j l).length = l.length := by
        intro l; induction l with
        | nil => intro j; rfl
        | cons x l ih => intro j; simp [fmAll, ih]
      rw [this]; simp; (first | lia | omega)
    have htake : fmTab.take (i + 1) = fmTab.take i ++ [tab] := by
      rw [List.take_add_one, htab]; rfl
    have hall : fmAll mode 0 (fmTab.take (i + 1)) = fmAll mode 0 (fmTab.take i) ++ [fmChar mode i tab] := by
      rw [htake, fmAll_snoc]
      have : (fmTab.take i).length = i := by simp [fmTab]; (first | lia | omega)
      rw [this, Nat.zero_add]
    -- what an append leaves
    have out : ∀ {x : Str} {t : Tok}, fmChar mode i tab = x → SVl (ys ++ [Value.str x t]) (fmAll mode 0 (fmTab.take (i + 1))) := fun {x t} e => by
      rw [hall, e]; exact hys.snoc x t
    refine ys_for2 C'.hand S₄ (Src.tuple C'.hand (ExV.toD (d := .tuple (tab.map pairD)) (ExV.loc rfl) (List.Mem.head _))) (fun d hd => ?_)
      (fun k Y => ∃ dat m', Y = ⟨[(D, ys)], dat, m', []⟩ ∧ m'.lookup (Str.ofString "mode") = some (.int mode tm) ∧ m'.lookup (Str.ofString "perm") = some (.ref D) ∧ m'.lookup (Str.ofString "index") = some (.int i t') ∧ fmChar mode i tab = fmChar mode i (tab.drop k))
      ⟨[], _, rfl, m1, m2, rfl, rfl⟩ ?_ ?_
    · obtain ⟨p, _, rfl⟩ := List.mem_map.mp hd
      exact ⟨_, _, rfl⟩
    · rintro k a b u u' D'' dat' Yk s₅ s₆ E'' hk ⟨dat, m', rfl, m1', m2', m3', hch⟩ hA' hold hold' hu hu' S₅ S₆
      rw [List.getElem?_map] at hk
      obtain ⟨⟨bit, c⟩, hbc, hpe⟩ := Option.map_eq_some_iff.mp hk
      simp only [pairD, PyData.tuple.injEq, List.cons.injEq, and_true] at hpe
      obtain ⟨rfl, rfl⟩ := hpe
      rw [fmChar_step mode i tab k bit c hbc] at hch
      obtain ⟨tb, rfl⟩ := (S₆.da _ hu).isInt
      obtain ⟨tc, rfl⟩ := (S₆.da _ hu').isStr
      refine ys_if S₆ (Tr.cmpI CmpI.eq (ExV.toI (ExV.loc m3')) ExI.const) (fun e s₇ S₇ => ?_) (fun e s₇ S₇ => ?_)
      · have h0 : i = 0 := by rw [beq_int0] at e; exact of_decide_eq_true e
        have ht : fmTest mode i bit = (Builtin.bitAnd mode 61440 == bit) := if_pos h0
        refine ys_if S₇ (Tr.cmpI CmpI.eq (exI_ifmt T C' (ExV.toI (ExV.loc m1'))) (ExV.toI (ExV.loc rfl))) (fun e2 s₈ S₈ => ?_) (fun e2 s₈ S₈ => ?_)
        · rw [ht, if_pos e2] at hch
          refine ys_append (pre := []) (post := []) (xs := ys) S₈ m2' rfl (by simp only [sizeLine]; (first | lia | omega)) (ExV.toS (i := c) (t := tc) (ExV.loc rfl)) fun v' s₉ s₁₀ hv' _ _ S₉ => ?_
          obtain ⟨tv, rfl⟩ := hv'
          refine ys_brk (Nx.brk (Nx.brk (Lp.brk (ys_nil (Lp.next ⟨_, ?_, ⟨D, ys ++ [Value.str c tv], (Str.ofString "char", .str c tc) :: (Str.ofString "bit", .int bit tb) :: m', rfl, m1', m2', out hch, hi⟩, S₅.back S₉ rfl⟩)))))
          rfl
        · rw [ht, if_neg (by rw [e2]; decide)] at hch
          refine ys_nil (Nx.next (ys_nil (Nx.next (ys_nil (Lp.next ⟨_, ?_, ⟨_, (Str.ofString "char", .str c tc) :: (Str.ofString "bit", .int bit tb) :: m', rfl, m1', m2', m3', hch⟩, S₈⟩)))))
          rfl
      · have h0 : i ≠ 0 := by rw [beq_int0] at e; exact of_decide_eq_false e
        have ht : fmTest mode i bit = (Builtin.bitAnd mode bit == bit) := if_neg h0
        refine ys_if S₇ (Tr.cmpI CmpI.eq (ExI.and (ExV.toI (ExV.loc m1')) (ExV.toI (ExV.loc rfl))) (ExV.toI (ExV.loc rfl))) (fun e2 s₈ S₈ => ?_) (fun e2 s₈ S₈ => ?_)
        · rw [ht, if_pos e2] at hch
          refine ys_append (pre := []) (post := []) (xs := ys) S₈ m2' rfl (by simp only [sizeLine]; (first | lia | omega)) (ExV.toS (i := c) (t := tc) (ExV.loc rfl)) fun v' s₉ s₁₀ hv' _ _ S₉ => ?_
          obtain ⟨tv, rfl⟩ := hv'
          refine ys_brk (Nx.brk (Nx.brk (Lp.brk (ys_nil (Lp.next ⟨_, ?_, ⟨D, ys ++ [Value.str c tv], (Str.ofString "char", .str c tc) :: (Str.ofString "bit", .int bit tb) :: m', rfl, m1', m2', out hch, hi⟩, S₅.back S₉ rfl⟩)))))
          rfl
        · rw [ht, if_neg (by rw [e2]; decide)] at hch
          refine ys_nil (Nx.next (ys_nil (Nx.next (ys_nil (Lp.next ⟨_, ?_, ⟨_, (Str.ofString "char", .str c tc) :: (Str.ofString "bit", .int bit tb) :: m', rfl, m1', m2', m3', hch⟩, S₈⟩)))))
          rfl
    · rintro Yn s₅ E'' D'' ⟨dat, m', rfl, m1', m2', m3', hch⟩ hA' hold S₅
      have hlast : fmChar mode i tab = if i = 0 then Str.ofString "?" else Str.ofString "-" := by
        rw [hch, List.drop_of_length_le (by simp)]; rfl
      refine ys_if S₅ (Tr.cmpI CmpI.eq (ExV.toI (ExV.loc m3')) ExI.const) (fun e s₇ S₇ => ?_) (fun e s₇ S₇ => ?_)
      · have h0 : i = 0 := by rw [beq_int0] at e; exact of_decide_eq_true e
        rw [if_pos h0] at hlast
        refine ys_append (pre := []) (post := []) (xs := ys) S₇ m2' rfl (by simp only [sizeLine]; (first | lia | omega)) ExS.const fun v' s₉ s₁₀ hv' _ _ S₉ => ?_
        obtain ⟨tv, rfl⟩ := hv'
        refine ys_nil (Nx.next (ys_nil (Nx.next (ys_nil (Lp.next ⟨_, ?_, ⟨D, ys ++ [Value.str _ tv], _, rfl, m1', m2', out hlast, hi⟩, S₉⟩)))))
        rfl
      · have h0 : i ≠ 0 := by rw [beq_int0] at e; exact of_decide_eq_false e
        rw [if_neg h0] at hlast
        refine ys_append (pre := []) (post := []) (xs := ys) S₇ m2' rfl (by simp only [sizeLine]; (first | lia | omega)) ExS.const fun v' s₉ s₁₀ hv' _ _ S₉ => ?_
        obtain ⟨tv, rfl⟩ := hv'
        refine ys_nil (Nx.next (ys_nil (Nx.next (ys_nil (Lp.next ⟨_, ?_, ⟨D, ys ++ [Value.str _ tv], _, rfl, m1', m2', out hlast, hi⟩, S₉⟩)))))
        rfl
  · rintro Yn s₅ ⟨D, ys, m, rfl, m1, m2, hys, _⟩ hA hdat S₅
    have e1 : fmTab.take (fmTab.map tabD).length = fmTab := by rw [List.length_map, List.take_length]
    rw [e1] at hys
    have hD : D ∉ (callPa base chain s (Str.ofString "filemode") ⟨.function, [], false, false, []⟩ L 75 (.ref 74)).X := fun h => by cases h
    have R := S₅.release hD hys.dats
    have hok : JoinOk (Str.ofString "") (fmAll mode 0 fmTab) = true := joinOk_small (by
      have : ∀ (l : List (List (Int × Str))) j, (fmAll mode j l).length = l.length := by
        intro l; induction l with
        | nil => intro j; rfl
        | cons x l ih => intro j; simp [fmAll, ih]
      rw [this]; decide) (fun t ht => by
      have key : ∀ (l : List (List (Int × Str))) j, (∀ t ∈ l, ∀ p ∈ t, p.2.length ≤ 1000) → ∀ x ∈ fmAll mode j l, x.length ≤ 1000 := by
        intro l; induction l with
        | nil => intro j _ x hx; cases hx
        | cons t l ih =>
          intro j hl x hx
          rcases List.mem_cons.mp hx with rfl | hx
          · have : ∀ t : List (Int × Str), (∀ p ∈ t, p.2.length ≤ 1000) → (fmChar mode j t).length ≤ 1000 := by
              intro t; induction t with
              | nil => intro _; unfold fmChar; split <;> decide
              | cons p r ih =>
                intro hp
                unfold fmChar
                split
                · exact hp p List.mem_cons_self
                · exact ih fun q hq => hp q (List.mem_cons_of_mem _ hq)
            exact this t (hl t List.mem_cons_self)
          · exact ih _ (fun t ht => hl t (List.mem_cons_of_mem _ ht)) x hx
      exact key fmTab 0 (by decide) t ht)
    refine ys_ret R (ExS.join (xs := fmAll mode 0 fmTab) (n := true) (ExV.toD (ExV.loc m2) (List.Mem.head _)) hok) fun v s' S' hv => ⟨?_⟩
    obtain ⟨t, rfl⟩ := hv
    exact h t s' (S'.done rfl)
end
end Mine
namespace Mine
/-- what storing a name does to the picture -/
structure Sto (prog : Program) (w : World) (A : Around) (env : Env) (P : Pa) (x : Str) (up : Sy → Value → Sy) : Prop where
  go : ∀ (P' : Pa) (Y : Sy) (s : Shared) (v : Value) (Q : Unit → Shared → Prop) (E : Value → Shared → Prop), P'.L = P.L → P'.cs = P.cs → P'.oc = P.oc → St P' Y s.heap s.gens s.os → (∀ s', St P' (up Y v) s'.heap s'.gens s'.os → Q () s') → wpAny (model prog w) A (storeName env x v) Q E s
section
variable {prog : Program} {w : World} {A : Around} {env : Env} {P : Pa} {Y : Sy} {s : Shared} {Q : Flow → Shared → Prop} {E : Value → Shared → Prop} {rest : List Stmt}
theorem Sto.loc {x : Str} (hL : env.locals = P.L := by rfl) (hk : env.scope.kind = .function := by rfl) (hx : env.kindOf x = some .local := by rfl) : Sto prog w A env P x (fun Y v => Y.set x v) :=
  ⟨fun P' Y s v Q E e1 e2 e3 S h => storeL S h (hL.trans e1.symm) hk hx⟩
theorem Sto.cel {x : Str} {c : Addr} (hc : P.cs.lookup x = some c) (ho : c ∈ P.oc) (hL : env.cells = P.cs := by rfl) (hk : env.scope.kind = .function := by rfl) (hx : env.kindOf x = some .cell := by rfl) : Sto prog w A env P x (fun Y v => Y.setC x v) :=
  ⟨fun P' Y s v Q E e1 e2 e3 S h => storeC S (by rw [e2]; exact hc) (by rw [e3]; exact ho) h (hL.trans e2.symm) hk hx⟩
theorem ys_setI {x : Str} {px pos : Pos} {e : Expr} {i : Int} {up : Sy → Value → Sy} (H : Sto prog w A env P x up) (S : St P Y s.heap s.gens s.os) (he : ExI prog w A env P Y e i) (h : ∀ t s', St P (up Y (.int i t)) s'.heap s'.gens s'.os → Wp (model prog w) A (execs rest env) Q E s')
    (hs : swapsWith e (some (.Name x px)) pos.line env = pure false := by rfl) : Wp (model prog w) A (execs (.Assign [.Name x px] e pos :: rest) env) Q E s :=
  ys_assign S he (fun v s₁ S₁ hv => by obtain ⟨t, rfl⟩ := hv; exact ⟨H.go P Y s₁ _ _ _ rfl rfl rfl S₁ fun s' S' => h t s' S'⟩) hs
theorem ys_setS {x : Str} {px pos : Pos} {e : Expr} {i : Str} {up : Sy → Value → Sy} (H : Sto prog w A env P x up) (S : St P Y s.heap s.gens s.os) (he : ExS prog w A env P Y e i) (h : ∀ t s', St P (up Y (.str i t)) s'.heap s'.gens s'.os → Wp (model prog w) A (execs rest env) Q E s')
    (hs : swapsWith e (some (.Name x px)) pos.line env = pure false := by rfl) : Wp (model prog w) A (execs (.Assign [.Name x px] e pos :: rest) env) Q E s :=
  ys_assign S he (fun v s₁ S₁ hv => by obtain ⟨t, rfl⟩ := hv; exact ⟨H.go P Y s₁ _ _ _ rfl rfl rfl S₁ fun s' S' => h t s' S'⟩) hs
theorem ys_setD {x : Str} {px pos : Pos} {e : Expr} {d : PyData} {n : Bool} {up : Sy → Value → Sy} (H : Sto prog w A env P x up) (S : St P Y s.heap s.gens s.os) (he : ExD prog w A env P Y e d n) (h : ∀ v s', St P (up (Y.put v d n) v) s'.heap s'.gens s'.os → Wp (model prog w) A (execs rest env) Q E s')
    (hs : swapsWith e (some (.Name x px)) pos.line env = pure false := by rfl) : Wp (model prog w) A (execs (.Assign [.Name x px] e pos :: rest) env) Q E s :=
  ys_assign S he (fun v s₁ S₁ hv => ⟨H.go P _ s₁ _ _ _ rfl rfl rfl (S₁.know hv) fun s' S' => h v s' S'⟩) hs
/-- two names at once, out of a pair -/
theorem assign2S {x y : Str} {px py pt : Pos} {k : Nat} {v : Value} {d d' : PyData} {n : Bool} {Q : Unit → Shared → Prop} {E : Value → Shared → Prop} {up up' : Sy → Value → Sy} {P₀ : Pa} (H : Sto prog w A env P₀ x up) (H' : Sto prog w A env P₀ y up') (e1 : P.L = P₀.L) (e2 : P.cs = P₀.cs) (e3 : P.oc = P₀.oc) (hh : A.handled = none) (S : St P Y s.heap s.gens s.os) (hv : (v, .tuple [d, d'], n) ∈ Y.dat)
    (h : ∀ u u' s', St P (up' (up ⟨Y.own, (u', d', n) :: (u, d, n) :: Y.dat, Y.m, Y.cm⟩ u) u') s'.heap s'.gens s'.os → Q () s') :
    wpAny (model prog w) A (assign (.Tuple [.Name x px, .Name y py] k pt) env v) Q E s := by
  obtain ⟨a, vs, rfl, ht, hds⟩ := (S.da _ hv).isTup
  obtain ⟨u, hu, hud⟩ := hds.get (i := 0) rfl
  obtain ⟨u', hu', hud'⟩ := hds.get (i := 1) rfl
  have hlen := hds.len
  obtain ⟨rfl⟩ : vs = [u, u'] := by
    match vs, hlen, hu, hu' with
    | [_, _], _, h1, h2 => cases h1; cases h2; rfl
  refine assign_Tuple_tuple hh ht rfl rfl fun h' he => ?_
  have G : Gr (frs P.chain) s { s with heap := h' } := ⟨.of_keeps fun b o _ e => he b o (Nat.ne_of_lt (Heap.lt_size e)) e, rfl, .refl _⟩
  have S1 := ((S.grow G).know (hud.gr G)).know (hud'.gr G)
  refine assignInOrder_cons (wpAny_assign_Name (H.go P _ { s with heap := h' } u _ _ e1 e2 e3 S1 fun s2 S2 => ?_))
  refine assignInOrder_cons (wpAny_assign_Name (H'.go P _ s2 u' _ _ e1 e2 e3 S2 fun s3 S3 => ?_))
  exact assignInOrder_nil (h u u' s3 S3)
theorem ys_for2S {x y : Str} {px py pt pos : Pos} {kt : Nat} {iter : Expr} {body orelse : List Stmt} {ds : List PyData} {up up' : Sy → Value → Sy} (H : Sto prog w A env P x up) (H' : Sto prog w A env P y up') (hh : A.handled = none) (S : St P Y s.heap s.gens s.os) (src : Src prog w A env P Y iter ds) (hds : ∀ d ∈ ds, ∃ a b, d = .tuple [a, b])
    (J : Nat → Sy → Prop) (hJ : J 0 { Y with dat := [] })
    (turn : ∀ i a b u u' D dat' Yi (s₁ s₂ : Shared) (E' : Value → Shared → Prop), ds[i]? = some (.tuple [a, b]) → J i Yi → Adr Y Yi → (∀ p ∈ Y.old.dat, p ∈ D) → (∀ p ∈ Y.old.dat, p ∈ dat') → (u, a, false) ∈ dat' → (u', b, false) ∈ dat' → St P (Yi.also D) s₁.heap s₁.gens s₁.os →
      St (P.turn (Yi.also D) s₁) (up' (up ⟨Yi.own, dat', Yi.m, Yi.cm⟩ u) u') s₂.heap s₂.gens s₂.os →
      Wp (model prog w) A (execs body env) (Lp (fun s₃ => ∃ Y', Adr Yi Y' ∧ J (i + 1) Y'.old ∧ St (P.turn (Yi.also D) s₁) Y' s₃.heap s₃.gens s₃.os) (fun s₃ => Wp (model prog w) A (execs rest env) Q E s₃) Q) E' s₂)
    (fin : ∀ Yn s' (E' : Value → Shared → Prop) (D : List (Value × PyData × Bool)), J ds.length Yn → Adr Y Yn → (∀ p ∈ Y.old.dat, p ∈ D) → St P (Yn.also D) s'.heap s'.gens s'.os → Wp (model prog w) A (execs orelse env) (Nx (fun s' => Wp (model prog w) A (execs rest env) Q E s') Q) E' s')
    (hs : ∀ x, foldedSetIterable iter env x = pure x := by intro _; rfl) : Wp (model prog w) A (execs (.For (.Tuple [.Name x px, .Name y py] kt pt) iter body orelse pos :: rest) env) Q E s := by
  refine ⟨xs_for S src J hJ (fun i v d Yi s₁ E' I D hd hJi hA hold nog Si St' => ?_) (fun Yn s' E' D hJ hA hold Sn => ?_) hs⟩
  · obtain ⟨a, b, rfl⟩ := hds d (List.mem_of_getElem? hd)
    refine nog.go (assign2S (P := P.turn (Yi.also D) s₁) (P₀ := P) H H' rfl rfl rfl hh St' (List.Mem.head _) (fun u u' s₂ S₂ => ?_))
    refine wpAny_mono (turn i a b u u' D _ Yi s₁ s₂ E' hd hJi hA hold (fun p hp => ?_) (List.Mem.tail _ (List.Mem.head _)) (List.Mem.head _) Si S₂).go (fun f s₃ z => ?_) fun _ _ z => z
    · exact List.mem_cons_of_mem _ (List.mem_cons_of_mem _ (List.mem_cons_of_mem _ (mem_also_old (hold p hp) (old_old hp))))
    · cases f with
      | next => exact z.go
      | cont => exact z.go
      | brk => exact z.go.go
      | ret v => exact z.go
  · refine wpAny_mono (fin Yn s' E' D hJ hA hold Sn).go (fun f s₃ z => ?_) fun _ _ z => z
    cases f with
    | next => exact z.go.go
    | _ => exact z.go
theorem ys_for1S {x : Str} {px pos : Pos} {iter : Expr} {body orelse : List Stmt} {ds : List PyData} {up : Sy → Value → Sy} (H : Sto prog w A env P x up) (S : St P Y s.heap s.gens s.os) (src : Src prog w A env P Y iter ds)
    (J : Nat → Sy → Prop) (hJ : J 0 { Y with dat := [] })
    (turn : ∀ i d v D dat' Yi (s₁ s₂ : Shared) (E' : Value → Shared → Prop), ds[i]? = some d → J i Yi → Adr Y Yi → (∀ p ∈ Y.old.dat, p ∈ D) → (∀ p ∈ Y.old.dat, p ∈ dat') → (∀ p ∈ Yi.old.dat, p ∈ dat') → (v, d, false) ∈ dat' → St P (Yi.also D) s₁.heap s₁.gens s₁.os →
      St (P.turn (Yi.also D) s₁) (up ⟨Yi.own, dat', Yi.m, Yi.cm⟩ v) s₂.heap s₂.gens s₂.os →
      Wp (model prog w) A (execs body env) (Lp (fun s₃ => ∃ Y', Adr Yi Y' ∧ J (i + 1) Y'.old ∧ St (P.turn (Yi.also D) s₁) Y' s₃.heap s₃.gens s₃.os) (fun s₃ => Wp (model prog w) A (execs rest env) Q E s₃) Q) E' s₂)
    (fin : ∀ Yn s' (E' : Value → Shared → Prop) (D : List (Value × PyData × Bool)), J ds.length Yn → Adr Y Yn → (∀ p ∈ Y.old.dat, p ∈ D) → St P (Yn.also D) s'.heap s'.gens s'.os → Wp (model prog w) A (execs orelse env) (Nx (fun s' => Wp (model prog w) A (execs rest env) Q E s') Q) E' s')
    (hs : ∀ x, foldedSetIterable iter env x = pure x := by intro _; rfl) : Wp (model prog w) A (execs (.For (.Name x px) iter body orelse pos :: rest) env) Q E s := by
  refine ⟨xs_for S src J hJ (fun i v d Yi s₁ E' I D hd hJi hA hold nog Si St' => ?_) (fun Yn s' E' D hJ hA hold Sn => ?_) hs⟩
  · show wpAny _ _ (letOwnedTupleGo (.Name x px) (.ref I) v) _ _ _
    refine wpAny_pure (wpAny_assign_Name (H.go (P.turn (Yi.also D) s₁) _ s₁ v _ _ rfl rfl rfl St' fun s₂ S₂ => ?_))
    refine wpAny_mono (turn i d v D _ Yi s₁ s₂ E' hd hJi hA hold (fun p hp => ?_) (fun p hp => ?_) (List.Mem.head _) Si S₂).go (fun f s₃ z => ?_) fun _ _ z => z
    · exact List.mem_cons_of_mem _ (mem_also_old (hold p hp) (old_old hp))
    · obtain ⟨q, hq, rfl⟩ := List.mem_map.mp hp
      exact List.mem_cons_of_mem _ (List.mem_map.mpr ⟨q, List.mem_append_left _ hq, rfl⟩)
    · cases f with
      | next => exact z.go
      | cont => exact z.go
      | brk => exact z.go.go
      | ret v => exact z.go
  · refine wpAny_mono (fin Yn s' E' D hJ hA hold Sn).go (fun f s₃ z => ?_) fun _ _ z => z
    cases f with
    | next => exact z.go.go
    | _ => exact z.go
end
end Mine
namespace Mine
noncomputable def one (c : Nat) : Str := ⟨#[c]⟩
theorem joinE : ∀ (cs : List Nat), Txt.join (Str.ofString "") (cs.map one) = ⟨cs.toArray⟩ := by
  have key : ∀ (cs : List Nat) (acc : Array Nat), (cs.map one).foldl (fun acc p => acc ++ (Str.ofString "").cps ++ p.cps) acc = acc ++ cs.toArray := by
    intro cs
    induction cs with
    | nil => intro acc; simp
    | cons c cs ih =>
      intro acc
      rw [List.map_cons, List.foldl_cons, ih]
      have : (Str.ofString "").cps = #[] := rfl
      rw [this]
      apply Array.ext'
      simp [one]
  intro cs
  show Builtin.Str.glued _ _ = _
  unfold Builtin.Str.glued
  cases cs with
  | nil => rfl
  | cons c cs =>
    simp only [List.map_cons, List.drop_succ_cons, List.drop_zero, List.headD_cons]
    rw [key]
    congr 1
    apply Array.ext'
    simp [one]
noncomputable def fmTabC : List (List (Int × Nat)) := [[(40960, 108), (49152, 115), (32768, 45), (24576, 98), (16384, 100), (8192, 99), (4096, 112)],
  [(256, 114)], [(128, 119)], [(2112, 115), (2048, 83), (64, 120)], [(32, 114)], [(16, 119)], [(1032, 115), (1024, 83), (8, 120)],
  [(4, 114)], [(2, 119)], [(513, 116), (512, 84), (1, 120)]]
noncomputable def fmCode (mode : Int) (idx : Nat) : List (Int × Nat) → Nat
  | [] => if idx = 0 then 63 else 45
  | p :: r => if fmTest mode idx p.1 then p.2 else fmCode mode idx r
noncomputable def fmCodes (mode : Int) : Nat → List (List (Int × Nat)) → List Nat
  | _, [] => []
  | idx, t :: r => fmCode mode idx t :: fmCodes mode (idx + 1) r
noncomputable def toS (p : Int × Nat) : Int × Str := (p.1, one p.2)
theorem fmTab_eq : fmTab = fmTabC.map (·.map toS) := by rfl
theorem fmChar_code (mode : Int) (idx : Nat) : ∀ t : List (Int × Nat), fmChar mode idx (t.map toS) = one (fmCode mode idx t)
  | [] => by unfold fmChar fmCode; simp only [List.map_nil]; split <;> rfl
  | p :: r => by
    simp only [List.map_cons, fmChar, fmCode, toS]
    rw [show fmChar mode idx (r.map toS) = one (fmCode mode idx r) from fmChar_code mode idx r]
    split <;> rfl
theorem fmAll_codes (mode : Int) : ∀ (l : List (List (Int × Nat))) (idx : Nat), fmAll mode idx (l.map (·.map toS)) = (fmCodes mode idx l).map one
  | [], _ => rfl
  | t :: l, idx => by simp [fmAll, fmCodes, fmChar_code, fmAll_codes mode l]
noncomputable def codesF (mode : Int) : List Nat := fmCodes mode 0 fmTabC
theorem filemode_text (mode : Int) : Txt.join (Str.ofString "") (fmAll mode 0 fmTab) = ⟨(codesF mode).toArray⟩ := by
  rw [fmTab_eq, fmAll_codes, joinE]; rfl
theorem codesF_len (mode : Int) : (codesF mode).length = 10 := rfl
noncomputable def sumF (marks : List Int) (e : Int) : List Int := marks.filterMap fun p => if decide (e - 9 < p) && decide (p ≤ e) then some ((2 : Int) ^ (e - p).toNat) else none
noncomputable def modeF (marks : List Int) (bits e : Int) : Int := 512 * bits + (sumF marks e).sum
noncomputable def th1 (bits : Int) : Str := if (bits.fdiv 4).fmod 2 == 1 then Str.ofString "sS" else Str.ofString "x-"
noncomputable def th2 (bits : Int) : Str := if (bits.fdiv 2).fmod 2 == 1 then Str.ofString "sS" else Str.ofString "x-"
noncomputable def th3 (bits : Int) : Str := if bits.fmod 2 == 1 then Str.ofString "tT" else Str.ofString "x-"
noncomputable def pairsF (bits : Int) : List Str := [Str.ofString "r-", Str.ofString "w-", th1 bits, Str.ofString "r-", Str.ofString "w-", th2 bits, Str.ofString "r-", Str.ofString "w-", th3 bits]
theorem pairs_len (bits : Int) : ∀ p ∈ pairsF bits, p.cps.size = 2 := by
  have h1 : (th1 bits).cps.size = 2 := by unfold th1; split <;> rfl
  have h2 : (th2 bits).cps.size = 2 := by unfold th2; split <;> rfl
  have h3 : (th3 bits).cps.size = 2 := by unfold th3; split <;> rfl
  intro p hp
  simp only [pairsF, List.mem_cons, List.not_mem_nil, or_false] at hp
  rcases hp with rfl | rfl | rfl | rfl | rfl | rfl | rfl | rfl | rfl <;> first | rfl | assumption
noncomputable def pieceF (mode bits : Int) (k : Nat) : Nat := if (codesF mode).getD (k + 1) 0 == ((pairsF bits).getD k default).cps.getD 0 0 then 32 else if (codesF mode).getD (k + 1) 0 == ((pairsF bits).getD k default).cps.getD 1 0 then 9 else 63
noncomputable def partF (mode bits : Int) : List Nat := (List.range 9).map (pieceF mode bits)
noncomputable def kindS : Str := Str.ofString "?pc?d?b?-?l?s???"
section
variable {prog : Program} {w : World} {A : Around} {env : Env} {P : Pa} {Y : Sy} {s : Shared} {Q : Flow → Shared → Prop} {E : Value → Shared → Prop} {rest : List Stmt}
theorem CmpV.neS {x y : Str} : CmpV prog w A .NotEq (fun v _ => ∃ t, v = Value.str x t) (fun v _ => ∃ t, v = Value.str y t) (x.cps.toList != y.cps.toList) := fun s v v' Q E hv hv' q => by
  obtain ⟨t, rfl⟩ := hv
  obtain ⟨t', rfl⟩ := hv'
  exact _root_.PySem.P.ne_str q
theorem ExS.add {l r : Expr} {pos : Pos} {x y : Str} (h : ExS prog w A env P Y l x) (h' : ExS prog w A env P Y r y) (hsz : x.length + y.length ≤ sizeLine) : ExS prog w A env P Y (.BinOp l .Add r pos) (x ++ y) := .mk fun s Q E S q => by
  refine wpAny_BinOp (h.go s _ _ S fun v s1 G1 hv => ?_)
  obtain ⟨t, rfl⟩ := hv
  refine h'.go s1 _ _ (S.grow G1) fun v' s2 G2 hv' => ?_
  obtain ⟨t', rfl⟩ := hv'
  exact PyProof.Rows.add_str (fun t'' tk => q _ _ ((G1.trans G2).toks _) ⟨t'', rfl⟩) hsz
end
end Mine
namespace Mine
section
variable {w : World} {A : Around} {s : Shared} {mg mb : Loc} {base : Heap} {chain : List Env} {Q E : Value → Shared → Prop}
theorem exS_filemode {env : Env} {P : Pa} {Y : Sy} {p pos : Pos} {e : Expr} {a : Int} (T : Tb (KF w) mg mb P.base) (C : Cx A P.chain 2) (h : ExI prg w A env P Y e a)
    (hg : env.globals = mainGlobals := by rfl) (hkd : env.scope.kind = .function := by rfl) (hx : env.kindOf (Str.ofString "filemode") = some .globalImplicit := by rfl) (he : starEach [e] env = [(false, eval e env)] := by rfl) :
    ExS prg w A env P Y (.Call (.Name (Str.ofString "filemode") p) [e] [] pos) ⟨(codesF a).toArray⟩ := by
  refine Ex.call T (f := 75) (by rfl) (by rfl) (ExL.one h he) (fun s vs Q E S hvs q => ?_) hg hkd hx (by rfl) he (fun _ => rfl)
  obtain ⟨v, rfl, t, rfl⟩ := hvs
  exact (c_filemode T C S.at fun t s' G => q _ s' G ⟨t, by rw [filemode_text]⟩).go
noncomputable def sumG (e : Int) : PyData → Option PyData
  | .int p => if decide (e - 9 < p) && decide (p ≤ e) then some (.int ((2 : Int) ^ (e - p).toNat)) else none
  | _ => none
theorem sum_data (marks : List Int) (e : Int) : (marks.map PyData.int).filterMap (sumG e) = (sumF marks e).map .int := by
  unfold sumF
  rw [List.filterMap_map, List.map_filterMap]
  congr 1
  funext p
  simp only [Function.comp, sumG]
  split <;> simp
theorem pow2_ok (n : Nat) (h : n ≤ 100) : (Builtin.Int.intBits 2 : Int) * n ≤ 2 ^ 27 := by
  have : Builtin.Int.intBits 2 ≤ 64 := by decide +kernel
  have h2 : (Builtin.Int.intBits 2 : Int) * n ≤ 64 * 100 := Int.mul_le_mul (by (first | lia | omega)) (by (first | lia | omega)) (by (first | lia | omega)) (by (first | lia | omega))
  (first | lia | omega)
theorem mul512 (a : Int) : IntMulOk 512 a := IntMulOk.of_left (by decide +kernel)
theorem kind_get {b : Int} (h0 : 0 ≤ b) (h : b < 16) : kindS.cps[b.toNat]? = some (kindS.cps.getD b.toNat 0) := by
  obtain ⟨j, rfl⟩ := Int.eq_ofNat_of_zero_le h0
  have hj : j < 16 := by (first | lia | omega)
  match j, hj with
  | 0, _ | 1, _ | 2, _ | 3, _ | 4, _ | 5, _ | 6, _ | 7, _ | 8, _ | 9, _ | 10, _ | 11, _ | 12, _ | 13, _ | 14, _ | 15, _ => rfl
theorem code_get (mode : Int) {k : Nat} (h : k < 10) : (⟨(codesF mode).toArray⟩ : Str).cps[k]? = some ((codesF mode).getD k 0) := by
  have : k < (codesF mode).length := h
  simp [this]
theorem pair_get (bits : Int) {k : Nat} (h : k < 9) : (pairsF bits)[k]? = some ((pairsF bits).getD k default) := by
  have : k < (pairsF bits).length := h
  simp [this]
theorem two_get {x : Str} (h : x.cps.size = 2) {k : Nat} (hk : k < 2) : x.cps[k]? = some (x.cps.getD k 0) := by
  have : k < x.cps.size := by (first | lia | omega)
  simp [this]
noncomputable def pieceG (mode bits : Int) : PyData → Option PyData
  | .int k => some (.str (one (pieceF mode bits k.toNat)))
  | _ => none
theorem piece_data (mode bits : Int) : ((List.range (9 - 0 : Int).toNat).map fun i : Nat => PyData.int (0 + i)).filterMap (pieceG mode bits) = ((partF mode bits).map one).map .str := by
  rw [List.filterMap_map]
  unfold partF
  rw [List.map_map, List.map_map, ← List.filterMap_eq_map]
  congr 1
  funext k
  simp [Function.comp, pieceG]
/-- the text of the two files -/
noncomputable def shownF (marks : List Int) (others : Int) : Nat → List Nat
  | 0 => []
  | 1 => partF (modeF marks others 25) others
  | _ => partF (modeF marks others 25) others ++ partF (modeF marks (255 - others) 34) (255 - others)
theorem part_len (mode bits : Int) : (partF mode bits).length = 9 := by simp [partF]

theorem ExS.ite {prog : Program} {env : Env} {P : Pa} {Y : Sy} {t b o : Expr} {pos : Pos} {c : Bool} {x y : Str} (ht : Tr prog w A env P Y t c) (hb : ExS prog w A env P Y b x) (ho : ExS prog w A env P Y o y) : ExS prog w A env P Y (.IfExp t b o pos) (if c = true then x else y) := by
  cases c with
  | true => exact Ex.ifexp ht (fun _ => hb) (fun z => by cases z)
  | false => exact Ex.ifexp ht (fun z => by cases z) (fun _ => ho)
theorem c_shown (T : Tb (KF w) mg mb base) (C : Cx A chain 3) (N : At base chain s) {v : Value} {marks : List Int} {as : List Addr} {others : Int} {to : Tok} (hv : Reads s.heap v (.list (marks.map .int)) as)
    (hm : ∀ p ∈ marks, -60 ≤ p ∧ p ≤ 60) (hl : marks.length ≤ 100)
    (hk1 : (codesF (modeF marks others 25)).getD 0 0 = kindS.cps.getD ((others.fdiv 8).fmod 16).toNat 0) (hk2 : (codesF (modeF marks (255 - others) 34)).getD 0 0 = kindS.cps.getD (((255 - others).fdiv 8).fmod 16).toNat 0)
    (h : ∀ t s', Gr (frs chain) s s' → Q (.str ⟨(shownF marks others 2).toArray⟩ t) s') : Wp (model prg w) A (call (.ref 94) [v, .int others to]) Q E s := by
  refine entw [(Str.ofString "marks", v), (Str.ofString "others", .int others to)] [(Str.ofString "others", .int others to), (Str.ofString "marks", v)] [] T C N rfl rfl rfl rfl rfl rfl rfl rfl rfl rfl fun L A' s₁ C' S => ?_
  have S := S.arg hv
  refine ys_S S ExS.const fun t0 s₂ S₂ => ?_
  refine ys_for2S (x := Str.ofString "bits") (y := Str.ofString "end") Sto.loc (Sto.cel (c := L + 1) rfl (List.Mem.tail _ (List.Mem.tail _ (List.Mem.head _)))) C'.hand S₂ (Src.list (n := true) C'.hand (ExD.list (ExLD.cons (ExD.tuple (ExLD.cons (ExI.toD (ExV.toI (ExV.loc rfl))) (ExLD.cons (ExI.toD ExI.const) ExLD.nil))) (ExLD.cons (ExD.tuple (ExLD.cons (ExI.toD (ExI.sub ExI.const (ExV.toI (ExV.loc rfl)))) (ExLD.cons (ExI.toD ExI.const) ExLD.nil))) ExLD.nil))))
    (fun d hd => ?_)
    (fun i Y => ∃ dat m cm t, Y = ⟨[], dat, m, cm⟩ ∧ m.lookup (Str.ofString "text") = some (.str ⟨(shownF marks others i).toArray⟩ t) ∧ m.lookup (Str.ofString "marks") = some v ∧ i ≤ 2)
    ⟨_, _, _, t0, rfl, rfl, rfl, by decide⟩ ?_ ?_
  · simp only [List.mem_cons, List.not_mem_nil, or_false] at hd
    rcases hd with rfl | rfl <;> exact ⟨_, _, rfl⟩
  · rintro i a b u u' D dat' Yi s₃ s₄ E' hd ⟨dat, m, cm, t, rfl, m1, m2, hi⟩ hA hold hold' hu hu' S₃ S₄
    have hvd : (v, PyData.list (marks.map .int), false) ∈ dat' := hold' _ (List.Mem.head _)
    have key : ∃ bits e : Int, a = .int bits ∧ b = .int e ∧ i < 2 ∧ (codesF (modeF marks bits e)).getD 0 0 = kindS.cps.getD ((bits.fdiv 8).fmod 16).toNat 0 ∧ shownF marks others (i + 1) = shownF marks others i ++ partF (modeF marks bits e) bits ∧ (e = 25 ∨ e = 34) := by
      match i, hd with
      | 0, hd =>
        simp only [List.getElem?_cons_zero, Option.some.injEq, PyData.tuple.injEq, List.cons.injEq, and_true] at hd
        exact ⟨others, 25, hd.1.symm, hd.2.symm, by decide, hk1, by simp [shownF], .inl rfl⟩
      | 1, hd =>
        simp only [List.getElem?_cons_succ, List.getElem?_cons_zero, Option.some.injEq, PyData.tuple.injEq, List.cons.injEq, and_true] at hd
        exact ⟨255 - others, 34, hd.1.symm, hd.2.symm, by decide, hk2, by simp [shownF], .inr rfl⟩
      | i + 2, hd => simp at hd
    obtain ⟨bits, e, rfl, rfl, hi2, hkind, hnext, he⟩ := key
    obtain ⟨tb, rfl⟩ := (S₄.da _ hu).isInt
    obtain ⟨te, rfl⟩ := (S₄.da _ hu').isInt
    have hlen : (shownF marks others i).length ≤ 18 := by
      match i, hi2 with
      | 0, _ => simp [shownF]
      | 1, _ => simp [shownF, part_len]
    have m2' : ((Str.ofString "bits", Value.int bits tb) :: m).lookup (Str.ofString "marks") = some v := m2
    have m1' : ((Str.ofString "bits", Value.int bits tb) :: m).lookup (Str.ofString "text") = some (.str ⟨(shownF marks others i).toArray⟩ t) := m1
    have k0 : 0 ≤ (bits.fdiv 8).fmod 16 := Int.fmod_nonneg_of_pos _ (by decide)
    have k1 : (bits.fdiv 8).fmod 16 < 16 := Int.fmod_lt_of_pos _ (by decide)
    refine ys_setS (x := Str.ofString "signs") (Sto.cel (c := L + 1 + 1) rfl (List.Mem.tail _ (List.Mem.head _))) S₄ (exS_filemode (a := modeF marks bits e) T C' (ExI.add (ExI.mul (mul512 _) ExI.const (ExV.toI (ExV.loc rfl))) (ExI.sum (is := sumF marks e) (n := true) T C'.hand (by rfl)
      (Ex.mono (ExD.comp (x := Str.ofString "place") (sumG e) (Src.list C'.hand (ExV.toD (ExV.loc m2') hvd)) (Cl.of (cl := [(Str.ofString "end", L + 1)]) S₄.ap (List.forall_mem_cons.mpr ⟨rfl, List.forall_mem_nil _⟩) (by with_unfolding_all rfl) [Str.ofString "end"]) ?hsz ?turn) fun v h x => by rw [sum_data] at x; exact x)))) fun ts s₅ S₅ => ?_
    case hsz => rw [List.length_map]; simp only [sizeLine]; (first | lia | omega)
    case turn =>
      intro d hd X' h' g' o' C D ys dat'' m' vv hold2 hvv
      obtain ⟨p, hp, rfl⟩ := List.mem_map.mp hd
      have hpm := hm p hp
      refine ⟨decide (e - 9 < p) && decide (p ≤ e), Ts.one (Tr.cmpI2 CmpI.lt CmpI.le (ExI.sub (ExV.toI (ExV.cel rfl rfl)) ExI.const) (ExD.toI (ExV.toD (ExV.loc rfl) hvv)) (ExV.toI (ExV.cel rfl rfl))), fun hb => ?_, fun hb => if_neg (by rw [hb]; decide)⟩
      have hb2 := Bool.and_eq_true_iff.mp hb
      have hle := of_decide_eq_true hb2.2
      have hb3 : (Builtin.Int.intBits 2 : Int) * (e - p) ≤ 2 ^ 27 := by
        have := pow2_ok (e - p).toNat (by (first | lia | omega))
        rw [Int.toNat_of_nonneg (by (first | lia | omega))] at this
        exact this
      exact ⟨_, if_pos hb, ExI.toD (ExI.pow (by (first | lia | omega)) hb3 ExI.const (ExI.sub (ExV.toI (ExV.cel rfl rfl)) (ExD.toI (ExV.toD (ExV.loc rfl) hvv))))⟩
    refine ys_D S₅ (d := .list [.str (th1 bits), .str (th2 bits), .str (th3 bits)]) (n := false) (ExD.list (ExLD.cons (ExS.toD (ExS.ite (Tr.cmpI CmpI.eq (ExI.mod (by decide) (ExI.fdiv (by decide) (PyProof.noPylong_small (by decide)) (ExV.toI (ExV.loc rfl)) ExI.const) ExI.const) ExI.const) ExS.const ExS.const))
      (ExLD.cons (ExS.toD (ExS.ite (Tr.cmpI CmpI.eq (ExI.mod (by decide) (ExI.fdiv (by decide) (PyProof.noPylong_small (by decide)) (ExV.toI (ExV.loc rfl)) ExI.const) ExI.const) ExI.const) ExS.const ExS.const))
      (ExLD.cons (ExS.toD (ExS.ite (Tr.cmpI CmpI.eq (ExI.mod (by decide) (ExV.toI (ExV.loc rfl)) ExI.const) ExI.const) ExS.const ExS.const)) ExLD.nil)))) fun vt s₆ S₆ => ?_
    have at3 : ∀ {k : Nat} {pp p1 p2 : Pos} {kk : Nat} {x : PyData}, ([PyData.str (th1 bits), .str (th2 bits), .str (th3 bits)])[k]? = some x → True := fun _ => trivial
    refine ys_setD (x := Str.ofString "pairs") (Sto.cel (c := L + 1 + 1 + 1) rfl (List.Mem.head _)) S₆ (d := .list ((pairsF bits).map .str)) (n := false) (ExD.list (ExLD.cons (ExS.toD ExS.const) (ExLD.cons (ExS.toD ExS.const) (ExLD.cons (ExD.atL (ExV.toD (ExV.loc rfl) (List.Mem.head _)) ExI.const (by decide) (by decide) rfl)
      (ExLD.cons (ExS.toD ExS.const) (ExLD.cons (ExS.toD ExS.const) (ExLD.cons (ExD.atL (ExV.toD (ExV.loc rfl) (List.Mem.head _)) ExI.const (by decide) (by decide) rfl)
      (ExLD.cons (ExS.toD ExS.const) (ExLD.cons (ExS.toD ExS.const) (ExLD.cons (ExD.atL (ExV.toD (ExV.loc rfl) (List.Mem.head _)) ExI.const (by decide) (by decide) rfl) ExLD.nil))))))))) (by show 9 ≤ sizeLine; decide)) fun vp s₇ S₇ => ?_
    refine ys_if S₇ (Tr.cmp CmpV.neS (ExS.at (ExV.toS (ExV.cel rfl rfl)) ExI.const (by decide) (by decide) (code_get (modeF marks bits e) (k := 0) (by decide))) (ExS.at (ExS.const (i := kindS)) (ExI.mod (by decide) (ExI.fdiv (by decide) (PyProof.noPylong_small (by decide)) (ExV.toI (ExV.loc rfl)) ExI.const) ExI.const) k0 (by (first | lia | omega)) (kind_get k0 k1)) keepS)
      (fun z => by rw [hkind] at z; simp at z) (fun _ s₈ S₈ => ys_nil (Nx.next ?_))
    refine ys_S S₈ (i := ⟨(shownF marks others (i + 1)).toArray⟩) (Ex.mono (ExS.add (ExV.toS (ExV.loc m1')) (ExS.join (xs := (partF (modeF marks bits e) bits).map one) (n := true) (Ex.mono (ExD.comp (x := Str.ofString "k") (pieceG (modeF marks bits e) bits) (Src.range_of C'.hand (a := 0) (b := 9) (by decide) (by decide) (by decide) (by decide) (Ex.range1 T (by rfl) ExI.const)) (Cl.of (cl := [(Str.ofString "signs", L + 1 + 1), (Str.ofString "pairs", L + 1 + 1 + 1)]) S₈.ap (List.forall_mem_cons.mpr ⟨rfl, List.forall_mem_cons.mpr ⟨rfl, List.forall_mem_nil _⟩⟩) (by with_unfolding_all rfl) [Str.ofString "signs", Str.ofString "pairs"]) ?hsz2 ?turn2) fun v h x => by rw [piece_data] at x; exact x) ?hok) ?hsz3) ?fin2) fun t9 s₉ S₉ => ?_
    case hsz2 => simp only [List.length_map, List.length_range, sizeLine]; decide
    case hok => exact joinOk_small (by rw [List.length_map, part_len]; decide) (fun t ht => by obtain ⟨c, _, rfl⟩ := List.mem_map.mp ht; show 1 ≤ 1000; decide)
    case hsz3 =>
      rw [joinE]
      have : (partF (modeF marks bits e) bits).length = 9 := part_len _ _
      show (shownF marks others i).toArray.size + (partF (modeF marks bits e) bits).toArray.size ≤ sizeLine
      rw [List.size_toArray, List.size_toArray, this]
      simp only [sizeLine]; (first | lia | omega)
    case fin2 =>
      rintro v' h' ⟨t', rfl⟩
      refine ⟨t', ?_⟩
      rw [joinE, hnext]
      congr 1
      show (⟨(shownF marks others i).toArray ++ (partF (modeF marks bits e) bits).toArray⟩ : Str) = _
      congr 1
      simp
    case turn2 =>
      intro d hd X' h' g' o' C D ys dat'' m' vv hold2 hvv
      obtain ⟨k, hk, rfl⟩ := List.mem_map.mp hd
      have hk9 : k < 9 := by simpa using hk
      rw [Int.zero_add] at hvv ⊢
      have hpd : (vp, PyData.list ((pairsF bits).map .str), false) ∈ dat'' := hold2 _ (List.Mem.head _)
      have hp2 : ((pairsF bits).getD k default).cps.size = 2 := pairs_len bits _ (List.mem_of_getElem? (pair_get bits hk9))
      have i1 : ((k : Int) + 1).toNat = k + 1 := by (first | lia | omega)
      have i2 : (k : Int).toNat = k := by (first | lia | omega)
      have g1 : (⟨(codesF (modeF marks bits e)).toArray⟩ : Str).cps[((k : Int) + 1).toNat]? = some ((codesF (modeF marks bits e)).getD (k + 1) 0) := by rw [i1]; exact code_get _ (by (first | lia | omega))
      have g2 : ((pairsF bits).map PyData.str)[(k : Int).toNat]? = some (.str ((pairsF bits).getD k default)) := by rw [i2, List.getElem?_map, pair_get bits hk9]; rfl
      have b1 : (0 : Int) ≤ (k : Int) + 1 := by (first | lia | omega)
      have b2 : (k : Int) + 1 < 2 ^ 63 := by (first | lia | omega)
      have b3 : (0 : Int) ≤ (k : Int) := by (first | lia | omega)
      have b4 : (k : Int) < 2 ^ 63 := by (first | lia | omega)
      refine ⟨true, Ts.nil, fun _ => ⟨.str (one (pieceF (modeF marks bits e) bits k)), by simp only [pieceG, i2], ExS.toD (Ex.mono (ExS.ite (Tr.cmp CmpV.eqS (ExS.at (ExV.toS (ExV.cel rfl rfl)) (ExI.add (ExD.toI (ExV.toD (ExV.loc rfl) hvv)) ExI.const) b1 b2 g1) (ExS.at (ExD.toS (ExD.atL (ExV.toD (ExV.cel rfl rfl) hpd) (ExD.toI (ExV.toD (ExV.loc rfl) hvv)) b3 b4 g2)) ExI.const (by decide) (by decide) (two_get hp2 (k := 0) (by decide))) keepS) ExS.const
        (ExS.ite (Tr.cmp CmpV.eqS (ExS.at (ExV.toS (ExV.cel rfl rfl)) (ExI.add (ExD.toI (ExV.toD (ExV.loc rfl) hvv)) ExI.const) b1 b2 g1) (ExS.at (ExD.toS (ExD.atL (ExV.toD (ExV.cel rfl rfl) hpd) (ExD.toI (ExV.toD (ExV.loc rfl) hvv)) b3 b4 g2)) ExI.const (by decide) (by decide) (two_get hp2 (k := 1) (by decide))) keepS) ExS.const ExS.const)) fun v h x => ?_)⟩, fun z => by cases z⟩
      obtain ⟨t', rfl⟩ := x
      refine ⟨t', ?_⟩
      congr 1
      rw [one_eq, one_eq]
      unfold pieceF
      split
      · rfl
      · split <;> rfl
    refine ys_nil (Lp.next ⟨_, ?_, ⟨_, (Str.ofString "text", .str ⟨(shownF marks others (i + 1)).toArray⟩ t9) :: (Str.ofString "thirds", vt) :: (Str.ofString "bits", Value.int bits tb) :: m, _, t9, rfl, rfl, m2, by (first | lia | omega)⟩, S₉⟩)
    rfl
  · rintro Yn s₃ E' D ⟨dat, m, cm, t, rfl, m1, m2, _⟩ hA hold S₃
    refine ys_nil (Nx.next (ys_ret S₃ (ExV.toS (ExV.loc m1)) fun v' s' S' hv' => ⟨?_⟩))
    obtain ⟨t', rfl⟩ := hv'
    exact h t' s' (S'.done rfl)
end
end Mine
namespace Mine
section
variable {prog : Program} {w : World} {A : Around} {env : Env} {P : Pa} {Y : Sy} {s : Shared} {Q : Flow → Shared → Prop} {E : Value → Shared → Prop} {rest : List Stmt}
/-- x, y = .. by a tuple -/
theorem ys_tupS {x y : Str} {px py tpos pos : Pos} {k : Nat} {value : Expr} {d d' : PyData} {n : Bool} {up up' : Sy → Value → Sy} (hs : swapsWithSole [.Tuple [.Name x px, .Name y py] k tpos] value pos.line env = pure false) (hw : swappedStores [.Tuple [.Name x px, .Name y py] k tpos] value env = pure none) (H : Sto prog w A env P x up) (H' : Sto prog w A env P y up') (hh : A.handled = none) (S : St P Y s.heap s.gens s.os) (he : ExD prog w A env P Y value (.tuple [d, d']) n)
    (h : ∀ v u u' s', St P (up' (up ⟨Y.own, (u', d', n) :: (u, d, n) :: (v, .tuple [d, d'], n) :: Y.dat, Y.m, Y.cm⟩ u) u') s'.heap s'.gens s'.os → Wp (model prog w) A (execs rest env) Q E s') :
    Wp (model prog w) A (execs (.Assign [.Tuple [.Name x px, .Name y py] k tpos] value pos :: rest) env) Q E s := by
  refine ⟨wpAny_execs_cons (Assign_Tuple (he.go s _ _ S fun v s1 G1 hv => ?_) hs hw)⟩
  exact assign2S H H' rfl rfl rfl hh ((S.grow G1).know hv) (List.Mem.head _) fun u u' s2 S2 => (h v u u' s2 S2).go
theorem ExI.min {K : Frag} {mg mb : Loc} {p pos : Pos} {e e' : Expr} {a b : Int} (T : Tb K mg mb P.base) (hh : A.handled = none) (hf : nsIn K mainGlobals (Str.ofString "min") = some none) (h : ExI prog w A env P Y e a) (h' : ExI prog w A env P Y e' b)
    (hg : env.globals = mainGlobals := by rfl) (hb : env.builtins = builtinsNs := by rfl) (hkd : env.scope.kind = .function := by rfl) (hx : env.kindOf (Str.ofString "min") = some .globalImplicit := by rfl) (he : starEach [e, e'] env = [(false, eval e env), (false, eval e' env)] := by rfl) (he' : starEach [e'] env = [(false, eval e' env)] := by rfl) :
    ExI prog w A env P Y (.Call (.Name (Str.ofString "min") p) [e, e'] [] pos) (if b < a then b else a) := by
  refine Ex.callB T hf (f := "min") (by rfl) (by decide) (ExL.two h h' keepI he) (fun s vs Q E S hvs q => ?_) hg hb hkd hx (by rfl) (by rw [he, he']) (fun _ => by rw [he']; rfl)
  obtain ⟨v, v', rfl, ⟨t, rfl⟩, t', rfl⟩ := hvs
  refine min_two_ints hh fun h' tk hk => ?_
  refine q _ _ ⟨.of_keeps fun b o _ e => hk b o e, rfl, .refl _⟩ ?_
  split
  · exact ⟨_, rfl⟩
  · exact ⟨_, rfl⟩
theorem ExS.mul {l r : Expr} {pos : Pos} {x : Str} {n : Int} (hok : MulOk x n) (h : ExS prog w A env P Y l x) (h' : ExI prog w A env P Y r n) : ExS prog w A env P Y (.BinOp l .Mult r pos) (Txt.mul x n) := .mk fun s Q E S q => by
  refine wpAny_BinOp (h.go s _ _ S fun v s1 G1 hv => ?_)
  obtain ⟨t, rfl⟩ := hv
  refine h'.go s1 _ _ (S.grow G1) fun v' s2 G2 hv' => ?_
  obtain ⟨t', rfl⟩ := hv'
  exact SB.mul hok fun t'' tk => q _ _ ((G1.trans G2).toks _) ⟨t'', rfl⟩
end
section
variable {w : World} {A : Around} {s : Shared} {mg mb : Loc} {base : Heap} {chain : List Env} {Q E : Value → Shared → Prop}
theorem exV_bare {env : Env} {P : Pa} {Y : Sy} {p pos : Pos} {e e' : Expr} {ts : List (Int × Int)} {n : Bool} {i : Int} (T : Tb (KF w) mg mb P.base) (C : Cx A P.chain 1) (h : ExD prg w A env P Y e (.list (ts.map tupI)) n) (h' : ExI prg w A env P Y e' i)
    (hts : ∀ p ∈ ts, p.2 ≠ 0) (hlen : ts.length ≤ 100)
    (hg : env.globals = mainGlobals := by rfl) (hkd : env.scope.kind = .function := by rfl) (hx : env.kindOf (Str.ofString "_law_bare") = some .globalImplicit := by rfl)
    (he : starEach [e, e'] env = [(false, eval e env), (false, eval e' env)] := by rfl) (he' : starEach [e'] env = [(false, eval e' env)] := by rfl) :
    ExV prg w A env P Y (.Call (.Name (Str.ofString "_law_bare") p) [e, e'] [] pos) (.bool (bareB ts i)) := by
  refine Ex.call T (f := 118) (by rfl) (by rfl) (ExL.two h h' keepD he) (fun s vs Q E S hvs q => ?_) hg hkd hx (by rfl) (by rw [he, he']) (fun _ => by rw [he']; rfl)
  obtain ⟨v, v', rfl, ⟨as, r, _⟩, t', rfl⟩ := hvs
  exact c_bare T C S.at r hts hlen fun s' G => q _ s' G rfl
theorem exD_meet {env : Env} {P : Pa} {Y : Sy} {p pos : Pos} {e e' : Expr} {one : Option (Int × Int)} {two : Int × Int} {n n' : Bool} (T : Tb (KF w) mg mb P.base) (C : Cx A P.chain 1) (h : ExD prg w A env P Y e (optT one) n) (h' : ExD prg w A env P Y e' (tupI two) n')
    (h1 : 1 ≤ two.2) (h8 : two.2 ≤ 8) (hone : ∀ p, one = some p → 0 ≤ p.2 ∧ p.2 < 2 ^ 60)
    (hg : env.globals = mainGlobals := by rfl) (hkd : env.scope.kind = .function := by rfl) (hx : env.kindOf (Str.ofString "_law_meet") = some .globalImplicit := by rfl)
    (he : starEach [e, e'] env = [(false, eval e env), (false, eval e' env)] := by rfl) (he' : starEach [e'] env = [(false, eval e' env)] := by rfl) :
    ExD prg w A env P Y (.Call (.Name (Str.ofString "_law_meet") p) [e, e'] [] pos) (optT (meetF one two)) true := by
  refine Ex.call T (f := 113) (by rfl) (by rfl) (ExL.two h h' keepD he) (fun s vs Q E S hvs q => ?_) hg hkd hx (by rfl) (by rw [he, he']) (fun _ => by rw [he']; rfl)
  obtain ⟨v, v', rfl, ⟨as, r, _⟩, as', r', _⟩ := hvs
  exact c_meet T C S.at r r' h1 h8 hone fun u s' G N => q u s' G (S.dat_of N)
end
end Mine
namespace Mine
noncomputable def mtD (p : Int × Option (Int × Int)) : PyData := .tuple [.int p.1, optT p.2]
noncomputable def stepM (ms : List (Int × Option (Int × Int))) (t : Int × Int) : List (Int × Option (Int × Int)) := ms ++ ms.map fun p => (-p.1, meetF p.2 t)
noncomputable def meetsF (ts : List (Int × Int)) : List (Int × Option (Int × Int)) := ts.foldl stepM [(1, some (0, 1))]
noncomputable def periodF (ts : List (Int × Int)) : Int := ts.foldl (fun p t => p * t.2) 1
noncomputable def termsF (per : Int) (ms : List (Int × Option (Int × Int))) : List Int := ms.filterMap fun p => p.2.map fun q => p.1 * per.fdiv q.2
structure GoodM (k : Nat) (ms : List (Int × Option (Int × Int))) : Prop where
  len : ms.length = 2 ^ k
  sg : ∀ p ∈ ms, p.1 = 1 ∨ p.1 = -1
  md : ∀ p ∈ ms, ∀ q, p.2 = some q → 1 ≤ q.2 ∧ q.2 ≤ 8 ^ k
theorem hits_len (h q a m : Int) (hm : 0 ≤ m) : ((hits h q a m).length : Int) ≤ m := by
  unfold hits
  have : ((List.range m.toNat).filterMap fun t : Nat => if (h + q * t - a).fmod m == 0 then some (h + q * t) else none).length ≤ (List.range m.toNat).length := List.length_filterMap_le _ _
  rw [List.length_range] at this
  (first | lia | omega)
theorem meetF_md {o : Option (Int × Int)} {t : Int × Int} {k : Nat} (ho : ∀ q, o = some q → 1 ≤ q.2 ∧ q.2 ≤ 8 ^ k) (h1 : 1 ≤ t.2) (h8 : t.2 ≤ 8) : ∀ q, meetF o t = some q → 1 ≤ q.2 ∧ q.2 ≤ 8 ^ (k + 1) := by
  intro q hq
  cases o with
  | none => cases hq
  | some p =>
    obtain ⟨h, r⟩ := p
    obtain ⟨a, m⟩ := t
    obtain ⟨r1, r2⟩ := ho _ rfl
    simp only at r1 r2 h1 h8
    have hl := hits_len h r a m (by (first | lia | omega))
    simp only [meetF] at hq
    revert hq hl
    generalize hits h r a m = l
    intro hq hl
    cases l with
    | nil => cases hq
    | cons x xs =>
      simp only [meetL, Option.some.injEq] at hq
      subst hq
      simp only
      have hpos : (0 : Int) < ((x :: xs).length : Int) := by simp only [List.length_cons]; (first | lia | omega)
      have hrm : m ≤ r * m := by
        have := Int.mul_le_mul_of_nonneg_right r1 (show (0 : Int) ≤ m by (first | lia | omega))
        (first | lia | omega)
      rw [Int.fdiv_eq_ediv_of_nonneg _ (Int.le_of_lt hpos)]
      constructor
      · have := Int.le_ediv_of_mul_le hpos (show 1 * ((x :: xs).length : Int) ≤ r * m by (first | lia | omega))
        exact this
      · have h2 : r * m / ((x :: xs).length : Int) ≤ r * m := Int.ediv_le_self _ (by (first | lia | omega))
        have h3 : r * m ≤ 8 ^ k * 8 := Int.mul_le_mul r2 h8 (by (first | lia | omega)) (by (first | lia | omega))
        rw [Int.pow_succ]; (first | lia | omega)
theorem GoodM.zero : GoodM 0 [(1, some (0, 1))] := ⟨rfl, (by simp), (by simp)⟩
theorem GoodM.step {k : Nat} {ms : List (Int × Option (Int × Int))} (G : GoodM k ms) {t : Int × Int} (h1 : 1 ≤ t.2) (h8 : t.2 ≤ 8) : GoodM (k + 1) (stepM ms t) := by
  have mono : (8 : Int) ^ k ≤ 8 ^ (k + 1) := by
    rw [Int.pow_succ]
    have : (0 : Int) ≤ 8 ^ k := Int.pow_nonneg (by decide)
    (first | lia | omega)
  refine ⟨?_, fun p hp => ?_, fun p hp q hq => ?_⟩
  · simp only [stepM, List.length_append, List.length_map, G.len]; rw [Nat.pow_succ]; (first | lia | omega)
  · rcases List.mem_append.mp hp with h | h
    · exact G.sg p h
    · obtain ⟨r, hr, rfl⟩ := List.mem_map.mp h
      rcases G.sg r hr with e | e <;> simp [e]
  · rcases List.mem_append.mp hp with h | h
    · have := G.md p h q hq
      exact ⟨this.1, Int.le_trans this.2 mono⟩
    · obtain ⟨r, hr, rfl⟩ := List.mem_map.mp h
      exact meetF_md (G.md r hr) h1 h8 q hq
theorem meets_good : ∀ (ts : List (Int × Int)), (∀ t ∈ ts, 1 ≤ t.2 ∧ t.2 ≤ 8) → ∀ (k : Nat) (ms : List (Int × Option (Int × Int))), GoodM k ms → GoodM (k + ts.length) (ts.foldl stepM ms)
  | [], _, k, ms, G => by simpa using G
  | t :: ts, h, k, ms, G => by
    have := meets_good ts (fun t ht => h t (List.mem_cons_of_mem _ ht)) (k + 1) _ (G.step (h t List.mem_cons_self).1 (h t List.mem_cons_self).2)
    simp only [List.foldl_cons, List.length_cons]
    rw [show k + (ts.length + 1) = k + 1 + ts.length by (first | lia | omega)]
    exact this
theorem period_bd : ∀ (ts : List (Int × Int)), (∀ t ∈ ts, 1 ≤ t.2 ∧ t.2 ≤ 8) → ∀ (k : Nat) (p : Int), 1 ≤ p → p ≤ 8 ^ k → 1 ≤ ts.foldl (fun p t => p * t.2) p ∧ ts.foldl (fun p t => p * t.2) p ≤ 8 ^ (k + ts.length)
  | [], _, k, p, h1, h2 => by simpa using ⟨h1, h2⟩
  | t :: ts, h, k, p, h1, h2 => by
    have ht := h t List.mem_cons_self
    have a1 : 1 ≤ p * t.2 := by
      have := Int.mul_le_mul h1 ht.1 (by (first | lia | omega)) (by (first | lia | omega))
      (first | lia | omega)
    have a2 : p * t.2 ≤ 8 ^ (k + 1) := by
      rw [Int.pow_succ]
      exact Int.mul_le_mul h2 ht.2 (by (first | lia | omega)) (Int.pow_nonneg (by decide))
    have := period_bd ts (fun t ht => h t (List.mem_cons_of_mem _ ht)) (k + 1) _ a1 a2
    simp only [List.foldl_cons, List.length_cons]
    rw [show k + (ts.length + 1) = k + 1 + ts.length by (first | lia | omega)]
    exact this
theorem take_snoc {α : Type} {l : List α} {i : Nat} {x : α} (h : l[i]? = some x) : l.take (i + 1) = l.take i ++ [x] := by rw [List.take_add_one, h]; rfl
end Mine
namespace Mine
noncomputable def rowF (ts : List (Int × Int)) (n : Nat) : List Nat := (List.range n).map fun j : Nat => if bareB ts (17 + j) then 9 else 32
noncomputable def rowS (ts : List (Int × Int)) (n : Nat) : Str := ⟨(rowF ts n).toArray⟩
noncomputable def aheadF (few f : Int) : Int := if (17 + f - 17) < few then (17 + f - 17) else few
noncomputable def behindF (few f g : Int) (n : Nat) : Int := if (16 + (n : Int) - (16 + n - g)) < few - aheadF few f then (16 + (n : Int) - (16 + n - g)) else few - aheadF few f
noncomputable def dueD (ts : List (Int × Int)) (n : Nat) (few : Int) (f g : Nat) : List PyData :=
  [.str (Txt.slice (rowS ts n) (some (17 + (f : Int) - 17)) (some (16 + (n : Int) - g - 16))), .str (Txt.slice (rowS ts n) (some (aheadF few f)) (some ((n : Int) - behindF few f g n))), .int (17 + (f : Int) - 17), .int (16 + (n : Int) - g - (17 + f) + 1)]
noncomputable def meetG (t : Int × Int) : PyData → Option PyData
  | .tuple [.int s, .none] => some (mtD (-s, none))
  | .tuple [.int s, .tuple [.int h, .int q]] => some (mtD (-s, meetF (some (h, q)) t))
  | _ => none
theorem meetG_mt (t : Int × Int) (p : Int × Option (Int × Int)) : meetG t (mtD p) = some (mtD (-p.1, meetF p.2 t)) := by
  obtain ⟨s, o⟩ := p
  cases o with
  | none => rfl
  | some q => rfl
theorem meet_data (t : Int × Int) (ms : List (Int × Option (Int × Int))) : (ms.map mtD).filterMap (meetG t) = (ms.map fun p => (-p.1, meetF p.2 t)).map mtD := by
  rw [List.filterMap_map, List.map_map, ← List.filterMap_eq_map]
  congr 1
  funext p
  simp [Function.comp, meetG_mt]
noncomputable def termG (per : Int) : PyData → Option PyData
  | .tuple [.int s, .tuple [.int _, .int q]] => some (.int (s * per.fdiv q))
  | _ => none
theorem term_data (per : Int) (ms : List (Int × Option (Int × Int))) : (ms.map mtD).filterMap (termG per) = (termsF per ms).map .int := by
  unfold termsF
  rw [List.filterMap_map, List.map_filterMap]
  congr 1
  funext p
  obtain ⟨s, o⟩ := p
  cases o with
  | none => rfl
  | some q => rfl
theorem mt_shape (p : Int × Option (Int × Int)) : mtD p = .tuple [.int p.1, optT p.2] := rfl
theorem sign_mul {s : Int} (h : s = 1 ∨ s = -1) (a : Int) : IntMulOk s a := IntMulOk.of_left (by rcases h with rfl | rfl <;> decide +kernel)
noncomputable def rowG (ts : List (Int × Int)) : PyData → Option PyData
  | .int p => some (.str (one (if bareB ts p then 9 else 32)))
  | _ => none
theorem row_data (ts : List (Int × Int)) (n : Nat) : ((List.range (17 + (n : Int) - 17).toNat).map fun i : Nat => PyData.int (17 + i)).filterMap (rowG ts) = ((rowF ts n).map one).map .str := by
  rw [List.filterMap_map]
  unfold rowF
  rw [show (17 + (n : Int) - 17).toNat = n by omega, List.map_map, List.map_map, ← List.filterMap_eq_map]
  congr 1
theorem blank_ok {k : Int} (h : k ≤ 100) (h' : -100 ≤ k) : MulOk (Str.ofString " ") k := by
  have e : (Str.ofString " ").length = 1 := rfl
  refine ⟨by simp; omega, fun h1 h2 => ?_, fun h1 h2 => ?_⟩
  · rw [e]
    have : (1 : Int) ≤ (2 ^ 63 - 1) / k := Int.le_ediv_of_mul_le (by omega) (by omega)
    have e1 : ((1 : Nat) : Int) = 1 := rfl
    omega
  · unfold Builtin.Str.tooLong
    rw [e, sizeLine_eq]
    simp; omega
section
variable {prog : Program} {w : World} {A : Around} {env : Env} {P : Pa} {Y : Sy}
theorem Tr.notNoneD {l : Expr} {k : Nat} {pos pos' : Pos} {o : Option (Int × Int)} {n : Bool} (h : ExD prog w A env P Y l (optT o) n) : Tr prog w A env P Y (.Compare l [.IsNot] [.Constant .none k pos'] pos) o.isSome :=
  Tr.cmp (V := fun v h => Dat (mu P Y) P.h₀ h v (optT o) n) (V' := fun v _ => v = .none) (fun s v v' Q E hv hv' q => by
    subst hv'
    cases o with
    | none => have := hv.isNone; subst this; exact isNot_none q
    | some p => obtain ⟨a, vs, rfl, _⟩ := hv.isTup; exact isNot_none q) h ExV.noneC keepD
end
section
variable {w : World} {A : Around} {s : Shared} {mg mb : Loc} {base : Heap} {chain : List Env} {Q E : Value → Shared → Prop}
theorem c_due (T : Tb (KF w) mg mb base) (C : Cx A chain 2) (N : At base chain s) {v : Value} {ts : List (Int × Int)} {as : List Addr} {n : Nat} {few : Int} {tn tf : Tok} (hv : Reads s.heap v (.list (ts.map tupI)) as) (hts : ∀ t ∈ ts, 1 ≤ t.2 ∧ t.2 ≤ 8) (hn : ts.length ≤ 4) (hn16 : n ≤ 16) (d : List PyData)
    (hd : ((termsF (periodF ts) (meetsF ts)).sum = 0 ∧ d = [.str (Str.ofString ""), .str (Txt.mul (Str.ofString " ") ((n : Int) - few.fmod ((n : Int) + 1)))]) ∨
      ((termsF (periodF ts) (meetsF ts)).sum ≠ 0 ∧ ∃ f g : Nat, f ≤ n ∧ g ≤ n ∧ (∀ k : Nat, k < f → bareB ts (17 + k) = false) ∧ bareB ts (17 + f) = true ∧ (∀ k : Nat, k < g → bareB ts (16 + n - k) = false) ∧ bareB ts (16 + n - g) = true ∧ d = dueD ts n (few.fmod ((n : Int) + 1)) f g))
    (h : ∀ u s', Gr (frs chain) s s' → New s s' u (.list d) → Q u s') : Wp (model prg w) A (call (.ref 123) [v, .int n tn, .int few tf]) Q E s := by
  refine entw [(Str.ofString "tails", v), (Str.ofString "size", .int n tn), (Str.ofString "few", .int few tf)] [(Str.ofString "few", .int few tf), (Str.ofString "size", .int n tn)] [(Str.ofString "tails", v)] T C N rfl rfl rfl rfl rfl rfl rfl rfl rfl rfl fun L A' s₁ C' S => ?_
  have S := S.arg hv
  have hp0 : ∀ i, 1 ≤ periodF (ts.take i) ∧ periodF (ts.take i) ≤ 8 ^ 4 := fun i => by
    have := period_bd (ts.take i) (fun t ht => hts t (List.mem_of_mem_take ht)) 0 1 (by decide) (by decide)
    refine ⟨this.1, Int.le_trans this.2 ?_⟩
    have hl : (ts.take i).length ≤ 4 := by rw [List.length_take]; omega
    have : 0 + (ts.take i).length = (ts.take i).length := by omega
    rw [this]
    generalize (ts.take i).length = k at hl
    match k, hl with
    | 0, _ | 1, _ | 2, _ | 3, _ | 4, _ => decide
  have hg : ∀ i, i ≤ ts.length → GoodM i (meetsF (ts.take i)) := fun i hi => by
    have := meets_good (ts.take i) (fun t ht => hts t (List.mem_of_mem_take ht)) 0 _ GoodM.zero
    rw [show 0 + (ts.take i).length = i by rw [List.length_take]; omega] at this
    exact this
  refine ys_tupS (x := Str.ofString "meets") (y := Str.ofString "period") (d := .list ([(1, some (0, 1))].map mtD)) (d' := .int 1) (n := true) (by kernel_rfl) (by kernel_rfl) Sto.loc (Sto.cel (c := L + 1 + 1) rfl (List.Mem.tail _ (List.Mem.head _))) C'.hand S
    (ExD.tuple (ExLD.cons (ExD.list (ExLD.cons (ExD.tuple (ExLD.cons (ExI.toD ExI.const) (ExLD.cons (ExD.tuple (ExLD.cons (ExI.toD ExI.const) (ExLD.cons (ExI.toD ExI.const) ExLD.nil))) ExLD.nil))) ExLD.nil)) (ExLD.cons (ExI.toD ExI.const) ExLD.nil))) fun vt vm0 u' s₂ S₂ => ?_
  obtain ⟨tp0, rfl⟩ := (S₂.da (u', _, _) (List.Mem.head _)).isInt
  refine ys_for1S (x := Str.ofString "tail") (Sto.cel (c := L + 1 + 1 + 1) rfl (List.Mem.head _)) S₂ (Src.list C'.hand (ExV.toD (ExV.cel rfl rfl) (List.Mem.tail _ (List.Mem.tail _ (List.Mem.tail _ (List.Mem.head _))))))
    (fun i Y => ∃ dat m cm vm tp, Y = ⟨[], dat, m, cm⟩ ∧ m.lookup (Str.ofString "meets") = some vm ∧ ((vm, .list ((meetsF (ts.take i)).map mtD), false) ∈ dat ∨ (i = 0 ∧ vm = vm0)) ∧ cm.lookup (Str.ofString "period") = some (.int (periodF (ts.take i)) tp) ∧ cm.lookup (Str.ofString "tails") = some v ∧ m.lookup (Str.ofString "size") = some (.int n tn) ∧ m.lookup (Str.ofString "few") = some (.int few tf))
    ⟨_, _, _, vm0, tp0, rfl, rfl, .inr ⟨rfl, rfl⟩, rfl, rfl, rfl, rfl⟩ ?_ ?_
  · rintro i d0 vt0 D dat' Yi s₃ s₄ E' hdi ⟨dat, m, cm, vm, tp, rfl, m1, hvm, c1, c2, m2, m3⟩ hA hold hold' hold'' hvt S₃ S₄
    rw [List.getElem?_map] at hdi
    obtain ⟨t, hti, rfl⟩ := Option.map_eq_some_iff.mp hdi
    have hi : i < ts.length := (List.getElem?_eq_some_iff.mp hti).1
    have htm := hts t (List.mem_of_getElem? hti)
    have hG := hg i (by omega)
    have hvm' : (vm, PyData.list ((meetsF (ts.take i)).map mtD), false) ∈ dat' := by
      rcases hvm with h | ⟨rfl, rfl⟩
      · exact hold'' _ (List.mem_map.mpr ⟨_, h, rfl⟩)
      · exact hold' _ (List.Mem.tail _ (List.Mem.head _))
    have hnext : meetsF (ts.take (i + 1)) = stepM (meetsF (ts.take i)) t := by
      unfold meetsF; rw [take_snoc hti, List.foldl_append]; rfl
    have hper : periodF (ts.take (i + 1)) = periodF (ts.take i) * t.2 := by
      unfold periodF; rw [take_snoc hti, List.foldl_append]; rfl
    have hlen : (meetsF (ts.take i)).length ≤ 16 := by
      rw [hG.len]
      have : i ≤ 3 := by omega
      match i, this with
      | 0, _ | 1, _ | 2, _ | 3, _ => decide
    refine ys_D S₄ (d := .list ((meetsF (ts.take (i + 1))).map mtD)) (n := false) (Ex.mono (ExD.addL (n := false) (ExV.toD (ExV.loc m1) hvm') (ExD.weak (n := true) (ExD.comp2 (x := Str.ofString "sign") (y := Str.ofString "meet") C'.hand (meetG t) (Src.list C'.hand (ExV.toD (ExV.loc m1) hvm')) (Cl.of (cl := [(Str.ofString "tail", L + 1 + 1 + 1)]) S₄.ap (List.forall_mem_cons.mpr ⟨rfl, List.forall_mem_nil _⟩) (by with_unfolding_all rfl) [Str.ofString "tail"]) ?hsz ?turn)) ?hsz2) fun v h x => by
        rw [meet_data, ← List.map_append] at x; rw [hnext]; exact x) fun vn s₅ S₅ => ?_
    case hsz => rw [List.length_map]; simp only [sizeLine]; omega
    case hsz2 => rw [meet_data, List.length_map, List.length_map, List.length_map]; simp only [sizeLine]; omega
    case turn =>
      intro d hd
      obtain ⟨p, hp, rfl⟩ := List.mem_map.mp hd
      refine ⟨.int p.1, optT p.2, rfl, fun X' h' g' o' C D ys dat'' m' u1 u2 hold2 h1 h2 => ⟨true, Ts.nil, fun _ => ⟨mtD (-p.1, meetF p.2 t), meetG_mt t p, ?_⟩, fun z => by cases z⟩⟩
      have ht' : (vt0, tupI t, false) ∈ dat'' := hold2 _ (List.mem_map.mpr ⟨_, hvt, rfl⟩)
      refine ExD.tuple (ExLD.cons (ExI.toD (ExI.neg (ExD.toI (ExV.toD (ExV.loc rfl) h1)))) (ExLD.cons (exD_meet T C' (ExV.toD (ExV.loc rfl) h2) (ExV.toD (ExV.cel rfl rfl) ht') htm.1 htm.2 fun q hq => ?_) ExLD.nil))
      have := hG.md p hp q hq
      have hb : (8 : Int) ^ i ≤ 2 ^ 50 := by
        have : i ≤ 3 := by omega
        match i, this with
        | 0, _ | 1, _ | 2, _ | 3, _ => decide
      omega
    refine ys_setI (x := Str.ofString "period") (i := periodF (ts.take (i + 1))) (Sto.cel (c := L + 1 + 1) rfl (List.Mem.tail _ (List.Mem.head _))) S₅ (hper ▸ ExI.mul (IntMulOk.of_left (natAbs_bits (by have := hp0 i; omega) (by have := hp0 i; omega))) (ExV.toI (ExV.cel rfl c1)) (ExD.toI (ExD.atT (ds := [.int t.1, .int t.2]) (ExV.toD (ExV.cel rfl rfl) (List.Mem.tail _ hvt)) ExI.const (by decide) (by decide) rfl))) fun tq s₆ S₆ => ?_
    refine ys_nil (Lp.next ⟨_, ?_, ⟨_, (Str.ofString "meets", vn) :: m, (Str.ofString "period", .int (periodF (ts.take (i + 1))) tq) :: (Str.ofString "tail", vt0) :: cm, vn, tq, rfl, rfl, .inl (List.Mem.head _), rfl, c2, m2, m3⟩, S₆⟩)
    rfl
  · rintro Yn s₃ E' D ⟨dat, m, cm, vm, tp, rfl, m1, hvm, c1, c2, m2, m3⟩ hA hold S₃
    rw [List.length_map, List.take_length] at hvm c1
    have hvm' : (vm, PyData.list ((meetsF ts).map mtD), false) ∈ dat ++ D := by
      rcases hvm with h | ⟨h0, rfl⟩
      · exact List.mem_append_left _ h
      · refine List.mem_append_right _ (hold _ ?_)
        have : ts = [] := by
          exact List.eq_nil_of_length_eq_zero h0
        subst this
        exact List.Mem.tail _ (List.Mem.head _)
    have htd : (v, PyData.list (ts.map tupI), false) ∈ dat ++ D := List.mem_append_right _ (hold _ (List.Mem.tail _ (List.Mem.tail _ (List.Mem.tail _ (List.Mem.head _)))))
    have hG := hg ts.length (Nat.le_refl _)
    rw [List.take_length] at hG
    have hP := hp0 ts.length
    rw [List.take_length] at hP
    have hlen : (meetsF ts).length ≤ 16 := by
      rw [hG.len]
      generalize ts.length = k at hn
      match k, hn with
      | 0, _ | 1, _ | 2, _ | 3, _ | 4, _ => decide
    have h84 : (8 : Int) ^ ts.length ≤ 8 ^ 4 := by
      generalize ts.length = k at hn
      match k, hn with
      | 0, _ | 1, _ | 2, _ | 3, _ | 4, _ => decide
    have hn1 : (n : Int) + 1 ≠ 0 := by omega
    have f0 : 0 ≤ few.fmod ((n : Int) + 1) := Int.fmod_nonneg_of_pos _ (by omega)
    have f1 : few.fmod ((n : Int) + 1) < (n : Int) + 1 := Int.fmod_lt_of_pos _ (by omega)
    refine ys_nil (Nx.next ?_)
    refine ys_I S₃ (ExI.mod hn1 (ExV.toI (ExV.loc m3)) (ExI.add (ExV.toI (ExV.loc m2)) ExI.const)) fun t4 s₄ S₄ => ?_
    generalize few.fmod ((n : Int) + 1) = fw at *
    have m1' : ((Str.ofString "few", Value.int fw t4) :: m).lookup (Str.ofString "meets") = some vm := m1
    have m2' : ((Str.ofString "few", Value.int fw t4) :: m).lookup (Str.ofString "size") = some (.int n tn) := m2
    refine ys_if S₄ (c := (termsF (periodF ts) (meetsF ts)).sum == 0) (Tr.cmpI CmpI.eq (ExI.sum (is := termsF (periodF ts) (meetsF ts)) (n := true) T C'.hand (by rfl) (Ex.mono (ExD.comp2 (x := Str.ofString "sign") (y := Str.ofString "meet") C'.hand (termG (periodF ts)) (Src.list C'.hand (ExV.toD (ExV.loc m1') hvm')) (Cl.of (cl := [(Str.ofString "period", L + 1 + 1)]) S₄.ap (List.forall_mem_cons.mpr ⟨rfl, List.forall_mem_nil _⟩) (by with_unfolding_all rfl) [Str.ofString "period"]) ?hsz ?turn) fun v h x => by rw [term_data] at x; exact x)) ExI.const) (fun hz s₅ S₅ => ?_) (fun hz s₅ S₅ => ?_)
    case hsz => rw [List.length_map]; simp only [sizeLine]; omega
    case turn =>
      intro d hd
      obtain ⟨p, hp, rfl⟩ := List.mem_map.mp hd
      refine ⟨.int p.1, optT p.2, rfl, fun X' h' g' o' C D ys dat'' m' u1 u2 hold2 h1 h2 => ⟨p.2.isSome, Ts.one (Tr.notNoneD (ExV.toD (ExV.loc rfl) h2)), fun hb => ?_, fun hb => ?_⟩⟩
      · obtain ⟨sg, o⟩ := p
        cases o with
        | none => cases hb
        | some q =>
          have hq := hG.md _ hp q rfl
          refine ⟨.int (sg * (periodF ts).fdiv q.2), rfl, ExI.toD (ExI.mul (sign_mul (hG.sg _ hp) _) (ExD.toI (ExV.toD (ExV.loc rfl) h1)) (ExI.fdiv (by omega) (PyProof.noPylong_small (by omega)) (ExV.toI (ExV.cel rfl c1)) (ExD.toI (ExD.atT (ds := [.int q.1, .int q.2]) (ExV.toD (ExV.loc rfl) h2) ExI.const (by decide) (by decide) rfl))))⟩
      · obtain ⟨sg, o⟩ := p
        cases o with
        | none => rfl
        | some q => cases hb
    · have hz' : (termsF (periodF ts) (meetsF ts)).sum = 0 := by simpa using hz
      rcases hd with ⟨_, rfl⟩ | ⟨hne, _⟩
      · refine ys_ret S₅ (ExD.list (n := true) (ExLD.cons (ExS.toD ExS.const) (ExLD.cons (ExS.toD (ExS.mul (blank_ok (by omega) (by omega)) ExS.const (ExI.sub (ExV.toI (ExV.loc m2')) (ExV.toI (ExV.loc rfl))))) ExLD.nil))) fun u s' S' hu => Nx.ret ⟨h u s' (S'.done rfl) (S'.res hu)⟩
      · exact absurd hz' hne
    · have hz' : (termsF (periodF ts) (meetsF ts)).sum ≠ 0 := by simpa using hz
      rcases hd with ⟨h0, _⟩ | ⟨_, f, g, hf, hgn, b1, b2, b3, b4, rfl⟩
      · exact absurd h0 hz'
      refine ys_nil (Nx.next ?_)
      have hts' : ∀ p ∈ ts, p.2 ≠ 0 := fun p hp => by have := hts p hp; omega
      have hl100 : ts.length ≤ 100 := by omega
      refine ys_swap2 (x := Str.ofString "first") (y := Str.ofString "last") (d := .int 17) (d' := .int (16 + n)) (n := false) (by kernel_rfl) (by kernel_rfl) C'.hand S₅ (ExD.tuple (ExLD.cons (ExI.toD ExI.const) (ExLD.cons (ExI.toD (ExI.add ExI.const (ExV.toI (ExV.loc m2')))) ExLD.nil))) fun u1 u2 s₆ S₆ => ?_
      obtain ⟨ta, rfl⟩ := (S₆.da (u1, _, _) (List.Mem.head _)).isInt
      obtain ⟨tb, rfl⟩ := (S₆.da (u2, _, _) (List.Mem.tail _ (List.Mem.head _))).isInt
      refine ys_while S₆ (fun q Y => ∃ k : Nat, ∃ dat m tk, k ≤ f ∧ q = f - k ∧ Y = ⟨[], dat, m, cm⟩ ∧ m.lookup (Str.ofString "first") = some (.int (17 + k) tk) ∧ m.lookup (Str.ofString "last") = some (.int (16 + n) tb) ∧ m.lookup (Str.ofString "size") = some (.int n tn) ∧ m.lookup (Str.ofString "few") = some (.int fw t4) ∧ (v, PyData.list (ts.map tupI), false) ∈ dat) f
        ⟨0, _, _, ta, Nat.zero_le _, rfl, rfl, rfl, rfl, m2', rfl, List.Mem.tail _ (List.Mem.tail _ htd)⟩ ?_
      rintro q Yi s₇ E' hE ⟨k, dat2, m5, tk, hk, rfl, rfl, w1, w2, w3, w4, wd⟩ S₇
      refine ⟨(Tr.not (Tr.ofV (exV_bare (i := 17 + k) T C' (ExV.toD (ExV.cel rfl c2) wd) (ExV.toI (ExV.loc w1)) hts' hl100))).go s₇ _ _ S₇ fun s₈ G₈ => ?_⟩
      have S₈ := S₇.grow G₈
      by_cases hlt : k < f
      · rw [b1 k hlt]
        rw [if_pos (by decide)]
        refine ys_I S₈ (ExI.add (ExV.toI (ExV.loc w1)) ExI.const) fun t9 s₉ S₉ => ?_
        refine ys_nil (Lp.next ⟨f - (k + 1), _, by omega, ⟨k + 1, dat2, (Str.ofString "first", .int (17 + k + 1) t9) :: m5, t9, hlt, rfl, rfl, ?_, w2, w3, w4, wd⟩, S₉⟩)
        show some (Value.int (17 + (k : Int) + 1) t9) = some (Value.int (17 + ((k + 1 : Nat) : Int)) t9)
        rw [show (17 + (k : Int) + 1) = (17 + ((k + 1 : Nat) : Int)) by omega]
      obtain rfl : k = f := by omega
      rw [b2]
      rw [if_neg (by decide)]
      refine ys_while S₈ (fun q Y => ∃ l : Nat, ∃ dat m tk', l ≤ g ∧ q = g - l ∧ Y = ⟨[], dat, m, cm⟩ ∧ m.lookup (Str.ofString "first") = some (.int (17 + k) tk) ∧ m.lookup (Str.ofString "last") = some (.int (16 + n - l) tk') ∧ m.lookup (Str.ofString "size") = some (.int n tn) ∧ m.lookup (Str.ofString "few") = some (.int fw t4) ∧ (v, PyData.list (ts.map tupI), false) ∈ dat) g
        ⟨0, _, _, tb, Nat.zero_le _, rfl, rfl, w1, by rw [w2]; simp, w3, w4, wd⟩ ?_
      rintro q Yi s₇ E' hE ⟨l, dat2, m5, tk', hl, rfl, rfl, w1, w2, w3, w4, wd⟩ S₇
      refine ⟨(Tr.not (Tr.ofV (exV_bare (i := 16 + n - l) T C' (ExV.toD (ExV.cel rfl c2) wd) (ExV.toI (ExV.loc w2)) hts' hl100))).go s₇ _ _ S₇ fun s₈ G₈ => ?_⟩
      have S₈ := S₇.grow G₈
      by_cases hlt : l < g
      · rw [b3 l hlt]
        rw [if_pos (by decide)]
        refine ys_I S₈ (ExI.sub (ExV.toI (ExV.loc w2)) ExI.const) fun t9 s₉ S₉ => ?_
        refine ys_nil (Lp.next ⟨g - (l + 1), _, by omega, ⟨l + 1, dat2, (Str.ofString "last", .int (16 + n - l - 1) t9) :: m5, t9, hlt, rfl, rfl, w1, ?_, w3, w4, wd⟩, S₉⟩)
        show some (Value.int (16 + (n : Int) - l - 1) t9) = some (Value.int (16 + (n : Int) - ((l + 1 : Nat) : Int)) t9)
        rw [show (16 + (n : Int) - l - 1) = (16 + (n : Int) - ((l + 1 : Nat) : Int)) by omega]
      obtain rfl : l = g := by omega
      rw [b4]
      rw [if_neg (by decide)]
      refine ys_I S₈ (ExI.min T C'.hand (by rfl) (ExV.toI (ExV.loc w4)) (ExI.sub (ExV.toI (ExV.loc w1)) ExI.const)) fun t9 s₉ S₉ => ?_
      refine ys_I S₉ (ExI.min T C'.hand (by rfl) (ExI.sub (ExV.toI (ExV.loc w4)) (ExV.toI (ExV.loc rfl))) (ExI.sub (ExI.add ExI.const (ExV.toI (ExV.loc w3))) (ExV.toI (ExV.loc w2)))) fun t10 s₁₀ S₁₀ => ?_
      refine ys_S S₁₀ (i := rowS ts n) (Ex.mono (ExS.join (xs := (rowF ts n).map one) (n := true) (Ex.mono (ExD.comp (x := Str.ofString "place") (rowG ts) (Src.range_of C'.hand (a := 17) (b := 17 + n) (by decide) (by decide) (by omega) (by omega) (Ex.range2 T (by rfl) ExI.const (ExI.add ExI.const (ExV.toI (ExV.loc w3))))) (Cl.of (cl := [(Str.ofString "tails", L + 1)]) S₁₀.ap (List.forall_mem_cons.mpr ⟨rfl, List.forall_mem_nil _⟩) (by with_unfolding_all rfl) [Str.ofString "tails"]) ?hsz2 ?turn2) fun v h x => by rw [row_data] at x; exact x) ?hok) ?hj) fun t11 s₁₁ S₁₁ => ?_
      case hsz2 => simp only [List.length_map, List.length_range, sizeLine]; omega
      case hok => exact joinOk_small (by simp [rowF]; omega) (fun t ht => by obtain ⟨c, _, rfl⟩ := List.mem_map.mp ht; show 1 ≤ 1000; decide)
      case hj =>
        rintro v' h' ⟨t', rfl⟩
        exact ⟨t', by rw [joinE]; rfl⟩
      case turn2 =>
        intro d hd X' h' g' o' C D ys dat'' m' vv hold2 hvv
        obtain ⟨i, hi, rfl⟩ := List.mem_map.mp hd
        have wd' : (v, PyData.list (ts.map tupI), false) ∈ dat'' := hold2 _ (List.mem_map.mpr ⟨_, wd, rfl⟩)
        refine ⟨true, Ts.nil, fun _ => ⟨.str (one (if bareB ts (17 + i) then 9 else 32)), rfl, ExS.toD (Ex.mono (ExS.ite (Tr.ofV (exV_bare T C' (ExV.toD (ExV.cel rfl c2) wd') (ExD.toI (ExV.toD (ExV.loc rfl) hvv)) hts' hl100)) ExS.const ExS.const) fun v h x => ?_)⟩, fun z => by cases z⟩
        obtain ⟨t', rfl⟩ := x
        refine ⟨t', ?_⟩
        congr 1
        split <;> rfl
      have hsz : (rowS ts n).length ≤ sizeLine := by
        show (rowF ts n).toArray.size ≤ sizeLine
        simp [rowF, sizeLine]; omega
      refine ys_ret S₁₁ (show ExD prg w A' _ _ _ _ (.list (dueD ts n fw k l)) true from ExD.list (ExLD.cons (ExS.toD (ExS.slice hsz (ExV.toS (ExV.loc rfl)) (ExI.sub (ExV.toI (ExV.loc w1)) ExI.const) (ExI.sub (ExV.toI (ExV.loc w2)) ExI.const))) (ExLD.cons (ExS.toD (ExS.slice hsz (ExV.toS (ExV.loc rfl)) (ExV.toI (ExV.loc rfl)) (ExI.sub (ExV.toI (ExV.loc w3)) (ExV.toI (ExV.loc rfl)))))
        (ExLD.cons (ExI.toD (ExI.sub (ExV.toI (ExV.loc w1)) ExI.const)) (ExLD.cons (ExI.toD (ExI.add (ExI.sub (ExV.toI (ExV.loc w2)) (ExV.toI (ExV.loc w1))) ExI.const)) ExLD.nil)))) (by show 4 ≤ sizeLine; decide)) fun u s' S' hu => ⟨h u s' (S'.done rfl) (S'.res hu)⟩
end
end Mine
namespace Mine
section
variable {prog : Program} {w : World} {A : Around} {env : Env} {P : Pa} {Y : Sy} {s : Shared}
/-- the walk of a comprehension, its block's picture told by the list it fills -/
theorem comp_wC {R : Result → Shared → Prop} {elt target iter : Expr} {ifs : List Expr} {scope : Scope} {pos : Pos} {I D : Addr} {fp wr : List Addr} {n : Nat} {Pv : Nat → Value → Prop} {Ws : Nat → Heap → Prop} {D0 : List (Value × PyData × Bool)} {cm0 m0 : List (Str × Value)} (CM : List (Str × Value) → Prop) (hCM : CM cm0)
    (g : Nat → Option PyData) (hn : n ≤ sizeLine) (K : Wk prog w A P ⟨[(D, [])], [], m0, cm0⟩ I fp wr n Pv Ws) (S : St P ⟨[(D, [])], D0, m0, cm0⟩ s.heap s.gens s.os) (h0 : Ws 0 s.heap)
    (turn : ∀ i v ys m cm s₁ (E : Value → Shared → Prop) (Q : Unit → Shared → Prop), i < n → Pv i v → CM cm → Ws (i + 1) s₁.heap → St P ⟨[(D, ys)], D0, m, cm⟩ s₁.heap s₁.gens s₁.os →
      (∀ s₂ dat' m' cm', CM cm' → St (P.turn ⟨[(D, ys)], D0, m, cm⟩ s₁) ⟨[(D, ys)], dat', m', cm'⟩ s₂.heap s₂.gens s₂.os →
        (∃ b, Ts prog w A env (P.turn ⟨[(D, ys)], D0, m, cm⟩ s₁) ⟨[(D, ys)], dat', m', cm'⟩ ifs b ∧ (b = true → ∃ r, g i = some r ∧ ExD prog w A env (P.turn ⟨[(D, ys)], D0, m, cm⟩ s₁) ⟨[(D, ys)], dat', m', cm'⟩ elt r true) ∧ (b = false → g i = none)) → Q () s₂) →
      wpAny (model prog w) A (letOwnedTupleGo target (.ref I) v) (fun _ s₁' => wpAny (model prog w) A (assign target env v) Q E s₁') E s₁)
    (fin : ∀ ys m cm s', St P ⟨[(D, ys)], D0, m, cm⟩ s'.heap s'.gens s'.os → Dats (mu P ⟨[(D, ys)], D0, m, cm⟩) P.h₀ s'.heap ys ((List.range n).filterMap g) true → R (.ok .next) s') :
    codeAny (model prog w) A (.compLoop (.ListComp elt [⟨target, iter, ifs, 0⟩] scope pos) 0 (.ref I) (.ref D) env) R s := by
  refine codeAny_compLoopG (fun k s' => ∃ i ys m cm, CM cm ∧ i ≤ n ∧ k = n + 1 - i ∧ ys.length ≤ i ∧ Ws i s'.heap ∧ St P ⟨[(D, ys)], D0, m, cm⟩ s'.heap s'.gens s'.os ∧ Dats (mu P ⟨[(D, ys)], D0, m, cm⟩) P.h₀ s'.heap ys ((List.range i).filterMap g) true) ?_ (n + 1)
    ⟨0, [], m0, cm0, hCM, Nat.zero_le _, rfl, Nat.le_refl _, h0, S, Dats.nil⟩
  rintro k s' ⟨i, ys, m, cm, hcm, hi, rfl, hys, hWi, Si, hDs⟩
  have hw : ∀ b ∈ wr, (∃ o vs, s'.heap.get? b = some o ∧ o.data = .fields vs) ∧ P.base.get? b = none ∧ P.h₀.get? b = none ∧ b ∉ P.X := fun b hb => ⟨K.fields i _ hWi b hb, K.new b hb⟩
  -- data stand an iterator's step
  have step : ∀ {h₁ : Heap}, (∀ b o, b ∉ wr → s'.heap.get? b = some o → h₁.get? b = some o) → Dats (mu P ⟨[(D, ys)], D0, m, cm⟩) P.h₀ h₁ ys ((List.range i).filterMap g) true := fun {h₁} hk => by
    obtain ⟨as, r, q⟩ := hDs
    have off : ∀ b o, s'.heap.get? b = some o → (∀ vs, o.data ≠ .fields vs) → b ∉ wr := fun b o e hn hb => by
      obtain ⟨⟨o', vs, e', hd⟩, _⟩ := hw b hb
      rw [e] at e'; cases e'; exact hn vs hd
    refine ⟨as, readsAll_up (S := fun b => b ∉ wr) (fun b o hb e => ⟨o.slots, hk b o hb e⟩) (fun b o vs n e _ hd => off b o e fun vs' z => by rw [hd] at z; cases z) r ?_, q⟩
    intro a ha
    obtain ⟨o, ho, hn⟩ := comp_w.readsAll_not r a ha
    exact off a o ho hn
  by_cases hlt : i < n
  · refine K.W.item i s' _ _ hlt hWi fun v h₁ tk hPv hW₁ hk₁ => ?_
    have S₁ : St P ⟨[(D, ys)], D0, m, cm⟩ h₁ s'.gens s'.os := Si.iter hk₁ hw
    have hDs₁ := step hk₁
    refine turn i v ys m cm { s' with heap := h₁, toks := tk } _ _ hlt hPv hcm hW₁ S₁ fun s₂ dat' m' cm' hcm' S₂ hb => ?_
    obtain ⟨b, hT, hE, hN⟩ := hb
    refine hT.go s₂ _ _ S₂ fun s₃ G₃ => ?_
    have S₃ := S₂.grow G₃
    -- what a turn leaves
    have back : ∀ {Y' : Sy} {s₄ : Shared}, St (P.turn ⟨[(D, ys)], D0, m, cm⟩ { s' with heap := h₁, toks := tk }) Y' s₄.heap s₄.gens s₄.os → Y'.own.map (·.1) = [D] → Ws (i + 1) s₄.heap ∧ St P ⟨Y'.own, D0, Y'.m, Y'.cm⟩ s₄.heap s₄.gens s₄.os ∧
        Dats (mu P ⟨[(D, ys)], D0, m, cm⟩) P.h₀ s₄.heap ys ((List.range i).filterMap g) true := fun {Y' s₄} S' ha => by
      have ha' : Y'.own.map (·.1) = ([(D, ys)] : List (Addr × List Value)).map (·.1) := ha
      refine ⟨K.turn (s₁ := { s' with heap := h₁, toks := tk }) (Yi := ⟨[(D, ys)], D0, m, cm⟩) rfl S₁ S' hW₁, ?_, ?_⟩
      · have B := St.back (s₁ := { s' with heap := h₁, toks := tk }) S₁ S' ha'
        have e : mu P Y'.old = mu P ⟨[(D, ys)], D0, m, cm⟩ := by show P.L :: (P.oc ++ Y'.own.map (·.1)) = _; rw [ha']
        have B' := B.ins (D := D0) fun p hp => by
          rw [e]; exact St.keepdat (s₁ := { s' with heap := h₁, toks := tk }) S₁ S' (S₁.da p hp)
        exact B'
      · obtain ⟨as, r, q⟩ := hDs₁
        refine ⟨as, readsAll_up (S := fun b => b ∉ mu P ⟨[(D, ys)], D0, m, cm⟩) (fun b o hb e => (S'.ch b o hb e).2) ?_ r fun a ha => (q a ha).1, q⟩
        intro b o vs n e hc hd hm
        obtain ⟨o', ho', _, hn⟩ := S₁.mu_obj hm
        have e' : h₁.get? b = some o := e
        rw [e'] at ho'; cases ho'
        exact hn ⟨hc, vs, n, hd⟩
    have rng : (List.range (i + 1)).filterMap g = (List.range i).filterMap g ++ (g i).toList := by
      rw [List.range_succ, List.filterMap_append]
      cases q : g i <;> simp [q]
    cases b with
    | false =>
      simp only [Bool.false_eq_true, if_false]
      obtain ⟨b1, b2, b3⟩ := back S₃ rfl
      refine ⟨n + 1 - (i + 1), by omega, i + 1, ys, m', cm', hcm', hlt, rfl, by omega, b1, b2, ?_⟩
      rw [rng, hN rfl]
      simpa using b3
    | true =>
      simp only [if_true]
      obtain ⟨r, hr, he⟩ := hE rfl
      refine he.go s₃ _ _ S₃ fun y s₄ G₄ hy => ?_
      have S₄ := S₃.grow G₄
      have hl := S₄.li (D, ys) (by simp)
      refine list_append_plainL hl (fun h₅ hl₅ hs₅ => ?_) (by simp; omega)
      have hl₅' : PlainL h₅ D (ys ++ [y]).toArray := by simpa using hl₅
      have S₅ := S₄.setO (pre := []) (post := []) (ys := ys ++ [y]) rfl hl₅' hs₅
      obtain ⟨b1, b2, b3⟩ := back (s₄ := { s₄ with heap := h₅ }) S₅ rfl
      refine ⟨n + 1 - (i + 1), by omega, i + 1, ys ++ [y], m', cm', hcm', hlt, rfl, by simp; omega, b1, b2, ?_⟩
      rw [rng, hr]
      -- the new item's data
      have hy₅ : Dat (mu P ⟨[(D, ys)], D0, m, cm⟩) P.h₀ h₅ y r true := by
        obtain ⟨as, r', q⟩ := hy
        refine ⟨as, reads_up (S := fun b => b ≠ D) (fun b o hb e => ⟨o.slots, by rw [hs₅.2 b hb]; exact e⟩) ?_ r' ?_, fun a ha => ⟨(q a ha).1, fun _ => ?_⟩⟩
        · rintro b o vs n e hc hd rfl
          obtain ⟨o', ho', _, _, _, hn⟩ := list_not hl.isList
          rw [e] at ho'; cases ho'
          exact hn ⟨hc, vs, n, hd⟩
        · rintro a ha rfl
          exact (q a ha).1 (by simp [mu])
        · have hq : h₁.get? a = none := (q a ha).2 rfl
          exact (St.fresh (s := { s' with heap := h₁, toks := tk }) S₁ hq).2
      obtain ⟨as, r1, q1⟩ := b3
      obtain ⟨bs, r2, q2⟩ := hy₅
      exact ⟨as ++ (bs ++ []), comp_w.readsAll_append r1 (.cons r2 .nil), fun a ha => by
        rcases List.mem_append.mp ha with h | h
        · exact q1 a h
        · exact q2 a (by simpa using h)⟩
  · have hin : i = n := by omega
    subst hin
    refine K.W.done s' _ _ hWi fun h₁ tk hk₁ => ?_
    exact fin ys m cm { s' with heap := h₁, toks := tk } (Si.iter hk₁ hw) (step hk₁)
end
end Mine
namespace Mine
/-- the block of a comprehension with one cell of its own -/
noncomputable abbrev compPaC (P : Pa) (X : List Addr) (h : Heap) (g : Array GenState) (o : OsState) (C J : Addr) (x : Str) (cl : List (Str × Addr)) : Pa := ⟨P.base, P.chain, X, h, g, o, C, (x, J) :: cl, [J]⟩
theorem mem_mu3 {P : Pa} {X : List Addr} {h : Heap} {g : Array GenState} {o : OsState} {C J D a : Addr} {x : Str} {cl : List (Str × Addr)} {ys : List Value} {dat : List (Value × PyData × Bool)} {m cm : List (Str × Value)} (ha : a ∈ mu (compPaC P X h g o C J x cl) ⟨[(D, ys)], dat, m, cm⟩) : a = C ∨ a = J ∨ a = D := by
  simpa [mu] using ha
theorem newEnvC1 {M : Model} {A : Around} {E : Value → Shared → Prop} {s : Shared} {scope : Scope} {globals : Addr} {cl : List (Str × Addr)} {qual : Str} {env : Env} {x : Str} {Q : Env → Shared → Prop}
    (hcf : ∀ n acc, cellsFrom n scope.names acc = (x, n) :: acc) (hpc : ∀ h, pushCells h scope.names = h.push { cls := .type "cell", data := .cell none })
    (h : Q (newEnv scope s.heap.objs.size globals ((x, s.heap.objs.size + 1) :: cl) qual none .none (some env) builtinsNs) { s with heap := (s.heap.push { cls := .type "dict", data := .dict #[] }).push { cls := .type "cell", data := .cell none } }) :
    wpAny M A (newFunctionEnv scope globals cl [] qual none .none (some env)) Q E s := by
  simp only [newFunctionEnv, Option.isSome_some, if_true]
  refine wpAny_bind (wpAny_alloc ?_)
  refine wpAny_bind (wpAny_layCells _ (fun name kind cells => by cases hkc : kind == NameKind.cell <;> simp [hkc]) _ _ _ _ ?_)
  rw [hcf, hpc]
  rw [show ({ s with heap := s.heap.push { cls := .type "dict", data := .dict #[] } } : Shared).heap.objs.size = s.heap.objs.size + 1 from Heap.size_push ..]
  exact wpAny_bind (by rw [List.forIn_nil]; exact wpAny_pure (wpAny_pure h))
section
variable {prog : Program} {w : World} {A : Around} {env : Env} {P : Pa} {Y : Sy} {s : Shared}
theorem comp_blockC {E : Value → Shared → Prop} {RR : Value → Addr → Result → Shared → Prop} {elt target iter : Expr} {ifs : List Expr} {scope : Scope} {pos : Pos} {cl : List (Str × Addr)} {I : Addr} {fp wr : List Addr} {n : Nat} {Pv : Nat → Value → Prop} {Ws : Nat → Heap → Prop} {D0 : List (Value × PyData × Bool)} {s1 s2 : Shared} {x : Str}
    (g : Nat → Option PyData) (hn : n ≤ sizeLine) (S1 : St P Y s1.heap s1.gens s1.os) (G2 : Gr (frs P.chain) s1 s2) (W : Walks prog w A I fp wr n Pv Ws) (h0 : Ws 0 s2.heap)
    (fields : ∀ i h, Ws i h → ∀ b ∈ wr, ∃ o vs, h.get? b = some o ∧ o.data = .fields vs) (seqs : ∀ i h, Ws i h → ∀ b ∈ fp, b ∈ wr ∨ ∃ o xs k, h.get? b = some o ∧ o.data = .seq xs k)
    (hwr : ∀ b ∈ wr, s1.heap.get? b = none) (hD0 : ∀ p ∈ D0, p.2.2 = false ∧ ∃ as, Reads s2.heap p.1 p.2.1 as)
    (hcf : ∀ n acc, cellsFrom n scope.names acc = (x, n) :: acc) (hpc : ∀ h, pushCells h scope.names = h.push { cls := .type "cell", data := .cell none }) (hxn : Y.cm.lookup x = none) (hkind : scope.kind = .function)
    (hcl : ∀ n c, cl.lookup n = some c → P.cs.lookup n = some c) (hclm : ∀ p ∈ cl, P.cs.lookup p.1 = some p.2) (hap : cl.Pairwise fun x y => x.2 ≠ y.2)
    (turn : ∀ i v ys m cm C J D X' h' g' o' s₁ (E : Value → Shared → Prop) (Q : Unit → Shared → Prop), i < n → Pv i v → (∀ n, n ≠ x → cm.lookup n = Y.cm.lookup n) → Ws (i + 1) s₁.heap → ((x, J) :: cl).Pairwise (fun x y => x.2 ≠ y.2) → St (compPaC P X' h' g' o' C J x cl) ⟨[(D, ys)], D0, m, cm⟩ s₁.heap s₁.gens s₁.os →
      (∀ s₂ dat' m' cm', (∀ n, n ≠ x → cm'.lookup n = Y.cm.lookup n) → St (compPaC P X' h' g' o' C J x cl) ⟨[(D, ys)], dat', m', cm'⟩ s₂.heap s₂.gens s₂.os →
        (∃ b, Ts prog w A (compEnvC scope ((x, J) :: cl) C env) (compPaC P X' h' g' o' C J x cl) ⟨[(D, ys)], dat', m', cm'⟩ ifs b ∧
          (b = true → ∃ r, g i = some r ∧ ExD prog w A (compEnvC scope ((x, J) :: cl) C env) (compPaC P X' h' g' o' C J x cl) ⟨[(D, ys)], dat', m', cm'⟩ elt r true) ∧ (b = false → g i = none)) → Q () s₂) →
      wpAny (model prog w) A (letOwnedTupleGo target (.ref I) v) (fun _ s₁' => wpAny (model prog w) A (assign target (compEnvC scope ((x, J) :: cl) C env) v) Q E s₁') E s₁)
    (q : ∀ v C s', s1.heap.get? C = none → Gr (frs P.chain) s1 s' → (∃ m, s'.heap.Ns C m) → Dat (C :: mu P Y) P.h₀ s'.heap v (.list ((List.range n).filterMap g)) true → RR v C (.ok .next) s') :
    wpAny (model prog w) A (newList []) (fun acc s₃ => wpAny (model prog w) A (newFunctionEnv scope env.globals cl [] env.qual none .none (some env)) (fun cenv s₄ =>
      codeAny (model prog w) A (.compStart (.ListComp elt [⟨target, iter, ifs, 0⟩] scope pos) 0 (.ref I) acc { cenv with scope := relabel scope env }) (RR acc cenv.locals) s₄) E s₃) E s2 := by
  refine wpAny_newObj_type (newEnvC1 hcf hpc ?_)
  dsimp only
  generalize hH2 : s2.heap.push { cls := .type "list", dict := none, data := .seq ([] : List Value).toArray } = H2
  have hC : H2.objs.size = s2.heap.objs.size + 1 := by rw [← hH2, Heap.size_push]
  have hDC : s2.heap.objs.size ≠ H2.objs.size := by rw [hC]; exact Nat.ne_of_lt (Nat.lt_succ_self _)
  have hJC : H2.objs.size + 1 ≠ H2.objs.size := Nat.succ_ne_self _
  have hJD : H2.objs.size + 1 ≠ s2.heap.objs.size := by rw [hC]; exact Nat.ne_of_gt (Nat.lt_succ_of_lt (Nat.lt_succ_self _))
  have szd : (H2.push { cls := .type "dict", data := .dict #[] }).objs.size = H2.objs.size + 1 := Heap.size_push ..
  generalize hh1 : (H2.push { cls := .type "dict", data := .dict #[] }).push { cls := .type "cell", data := .cell none } = h₁
  have old2 : ∀ b o, H2.get? b = some o → h₁.get? b = some o := fun b o e => by rw [← hh1]; exact Heap.get?_push_of_some _ (Heap.get?_push_of_some _ e)
  have old : ∀ b o, s2.heap.get? b = some o → h₁.get? b = some o := fun b o e => old2 b o (hH2 ▸ Heap.get?_push_of_some _ e)
  have none_of : ∀ k, s2.heap.objs.size ≤ k → s2.heap.get? k = none := fun k hk => by
    cases z : s2.heap.get? k with
    | none => rfl
    | some o => exact absurd (Heap.lt_size z) (Nat.not_lt.mpr hk)
  have newD : s2.heap.get? s2.heap.objs.size = none := heap_new _
  have newC : s2.heap.get? H2.objs.size = none := none_of _ (by rw [hC]; exact Nat.le_succ _)
  have newJ : s2.heap.get? (H2.objs.size + 1) = none := none_of _ (by rw [hC]; exact Nat.le_succ_of_le (Nat.le_succ _))
  have hacc : PlainL h₁ s2.heap.objs.size ([] : List Value).toArray := ⟨_, 0, old2 _ _ (hH2 ▸ Heap.get?_push_size _ rfl), rfl, rfl, rfl⟩
  have hns₁ : h₁.Ns H2.objs.size (fun y => ([] : List (Str × Value)).lookup y) := by
    rw [← hh1]
    exact (Heap.Ns.new H2 (.type "dict")).push _
  have hcell₁ : h₁.IsCell (H2.objs.size + 1) none := by
    refine ⟨{ cls := .type "cell", data := .cell none }, ?_, rfl⟩
    rw [← hh1, ← szd]; exact Heap.get?_push_size _ rfl
  clear none_of szd hC old2
  revert hns₁ hcell₁ hDC hJC hJD newD newC newJ hacc
  generalize s2.heap.objs.size = D
  generalize H2.objs.size = C
  generalize C + 1 = J
  intro hDC hJC hJD newD newC newJ hacc hns₁ hcell₁
  have hst₁ : Ws 0 h₁ := W.frame _ _ _ h0 fun b _ o e => old b o e
  have S2 := S1.grow G2
  let Pc : Pa := compPaC P [] s1.heap s1.gens s1.os C J x cl
  have n1 : ∀ a, s2.heap.get? a = none → s1.heap.get? a = none := fun a h => G2.none h
  have nb : ∀ a, s2.heap.get? a = none → P.base.get? a = none := fun a h => by
    cases z : P.base.get? a with
    | none => rfl
    | some o => have := S2.bs a o z; rw [h] at this; cases this
  have hapC : ((x, J) :: cl).Pairwise (fun x y => x.2 ≠ y.2) := by
    refine List.pairwise_cons.mpr ⟨fun q hq e => ?_, hap⟩
    obtain ⟨o, ho, _⟩ := S2.ce q.1 q.2 (hclm q hq)
    have e' : J = q.2 := e
    rw [← e', newJ] at ho; cases ho
  have S4 : St Pc ⟨[(D, [])], D0, [], Y.cm⟩ h₁ s2.gens s2.os := by
    refine { ch := ?_, bs := (fun b o e => old b o (S2.bs b o e)), ff := (funFrames_up (fun b o e hn => ⟨o, old b o e, hn⟩) S2.ff), fn := (fun f hf => let ⟨m, y⟩ := S2.fn f hf; ⟨m, y.keeps old⟩), ns := hns₁, ce := ?_, ap := hapC, oc := (fun c hc => ⟨none, by rw [List.mem_singleton.mp hc]; exact hcell₁⟩), li := ?_, nd := (by simp), nf := ?_, nb := ?_, nx := ?_, xi := (fun a ha => by cases ha), da := ?_, gs := G2.gs, os := G2.os }
    · intro b o _ e
      obtain ⟨k, sl, e'⟩ := G2.ch b o (by simp) e
      exact ⟨fun hf => old b o (k hf), sl, old b _ e'⟩
    · intro n c hc
      have hc' : ((x, J) :: cl).lookup n = some c := hc
      rw [List.lookup_cons] at hc'
      by_cases q : n = x
      · subst q
        simp only [beq_self_eq_true] at hc'
        cases hc'
        show h₁.IsCell J (Y.cm.lookup n)
        rw [hxn]; exact hcell₁
      · have hne : (n == x) = false := beq_eq_false_iff_ne.mpr q
        rw [hne] at hc'
        exact (S2.ce n c (hcl n c hc')).keeps old
    · intro p hp
      rcases List.mem_singleton.mp hp with rfl
      exact hacc
    · intro a ha hf
      have ha' : a = J ∨ a = D := by
        have ha' : a ∈ [J] ++ [D] := ha
        simpa using ha'
      obtain ⟨_, o, ho, _⟩ := S2.ff.mem hf
      rcases ha' with rfl | rfl
      · rw [newJ] at ho; cases ho
      · rw [newD] at ho; cases ho
    · intro a ha
      rcases mem_mu3 ha with rfl | rfl | rfl
      · exact nb _ newC
      · exact nb _ newJ
      · exact nb _ newD
    · intro a ha
      rcases mem_mu3 ha with rfl | rfl | rfl
      · exact .inr (n1 _ newC)
      · exact .inr (n1 _ newJ)
      · exact .inr (n1 _ newD)
    · intro p hp
      obtain ⟨hf, as, r⟩ := hD0 p hp
      rw [hf]
      refine ⟨as, PyProof.Rows.Reads.keeps old r, fun a ha => ⟨fun hm => ?_, fun z => by cases z⟩⟩
      obtain ⟨o, ho⟩ := reads_in r a ha
      rcases mem_mu3 hm with rfl | rfl | rfl
      · rw [newC] at ho; cases ho
      · rw [newJ] at ho; cases ho
      · rw [newD] at ho; cases ho
  have wr2 : ∀ b ∈ wr, ∃ o, s2.heap.get? b = some o := fun b hb => let ⟨o, vs, e, _⟩ := fields 0 _ h0 b hb; ⟨o, e⟩
  have K : Wk prog w A Pc ⟨[(D, [])], [], [], Y.cm⟩ I fp wr n Pv Ws := by
    refine ⟨W, fields, seqs, fun b hb => ?_, fun b hb => ⟨?_, hwr b hb, by simp [Pc]⟩⟩
    · by_cases hbw : b ∈ wr
      · exact .inl hbw
      · refine .inr fun hm => ?_
        have hin : ∃ o, s2.heap.get? b = some o := by
          rcases seqs 0 _ h0 b hb with h | ⟨o, xs, k, e, _⟩
          · exact wr2 b h
          · exact ⟨o, e⟩
        obtain ⟨o, ho⟩ := hin
        rcases mem_mu3 hm with rfl | rfl | rfl
        · rw [newC] at ho; cases ho
        · rw [newJ] at ho; cases ho
        · rw [newD] at ho; cases ho
    · cases z : P.base.get? b with
      | none => rfl
      | some o => have := S1.bs b o z; rw [hwr b hb] at this; cases this
  have loop : ∀ s₃ : Shared, s₃ = { s2 with heap := h₁ } →
      codeAny (model prog w) A (.compLoop (.ListComp elt [⟨target, iter, ifs, 0⟩] scope pos) 0 (.ref I) (.ref D) (compEnvC scope ((x, J) :: cl) C env)) (RR (.ref D) C) s₃ := by
    rintro s₃ rfl
    refine comp_wC (P := Pc) (s := { s2 with heap := h₁ }) (fun cm => ∀ n, n ≠ x → cm.lookup n = Y.cm.lookup n) (fun _ _ => rfl) g hn K S4 hst₁ ?_ ?_
    · intro i v ys m cm s₁ E' Q' hi hv hcm hWs Sx k
      exact turn i v ys m cm C J D (mu Pc ⟨[(D, ys)], D0, m, cm⟩) s₁.heap s₁.gens s₁.os s₁ E' Q' hi hv hcm hWs hapC (comp_blockG.St.same_dat D0 hD0 Sx) k
    · intro ys m cm s' Sx hDs
      refine q _ _ _ (n1 _ newC) ⟨fun b o _ e => Sx.ch b o (by simp [Pc]) e, Sx.os, Sx.gs⟩ ⟨_, Sx.ns⟩ ?_
      have hDs' : Dats (C :: mu P Y) P.h₀ s'.heap ys ((List.range n).filterMap g) true := by
        obtain ⟨as, r, z⟩ := hDs
        refine ⟨as, r, fun a ha => ?_⟩
        have hf := S1.fresh ((z a ha).2 rfl)
        refine ⟨fun hm => ?_, fun _ => hf.2⟩
        rcases List.mem_cons.mp hm with rfl | hm
        · exact (z a ha).1 (by simp [mu, Pc])
        · exact hf.1 hm
      have hf := S1.fresh (n1 _ newD)
      refine Dat.ofList (Sx.li (D, ys) (by simp)).isList hDs' (fun hm => ?_) fun _ => hf.2
      rcases List.mem_cons.mp hm with e | hm
      · exact hDC e
      · exact hf.1 hm
  exact codeAny_compStart_list (loop _ rfl) (W.self 0 _ _ _ hst₁ (loop _ rfl))
end
end Mine
namespace Mine
section
variable {prog : Program} {w : World} {A : Around} {env : Env} {P : Pa} {Y : Sy} {s : Shared} {Q : Flow → Shared → Prop} {E : Value → Shared → Prop} {rest : List Stmt}
/-- a comprehension whose target is a cell of its own -/
theorem ExD.compC {x : Str} {px : Pos} {iter elt : Expr} {ifs : List Expr} {scope : Scope} {pos : Pos} {cl : List (Str × Addr)} {ds : List PyData} (g : PyData → Option PyData) (src : Src prog w A env P Y iter ds) (C : Cl env P scope cl) (hclm : ∀ p ∈ cl, P.cs.lookup p.1 = some p.2) (hxn : Y.cm.lookup x = none) (hsz : ds.length ≤ sizeLine)
    (turn : ∀ d ∈ ds, ∀ X' h' g' o' C J D ys dat' m cm v, ((x, J) :: cl).Pairwise (fun x y => x.2 ≠ y.2) → (∀ p ∈ Y.old.dat, p ∈ dat') → (v, d, false) ∈ dat' → (∀ n, n ≠ x → cm.lookup n = Y.cm.lookup n) →
      ∃ b, Ts prog w A (compEnvC scope ((x, J) :: cl) C env) (compPaC P X' h' g' o' C J x cl) ⟨[(D, ys)], dat', m, (x, v) :: cm⟩ ifs b ∧
        (b = true → ∃ r, g d = some r ∧ ExD prog w A (compEnvC scope ((x, J) :: cl) C env) (compPaC P X' h' g' o' C J x cl) ⟨[(D, ys)], dat', m, (x, v) :: cm⟩ elt r true) ∧ (b = false → g d = none))
    (hcf : ∀ n acc, cellsFrom n scope.names acc = (x, n) :: acc := by intros; rfl) (hpc : ∀ h, pushCells h scope.names = h.push { cls := .type "cell", data := .cell none } := by intros; rfl)
    (hkind : scope.kind = .function := by rfl) (hnames : ∀ y ∈ scope.names, y.2 = .local → scope.names.lookup y.1 = some .local := by decide) (hx : ∀ C J, (compEnvC scope ((x, J) :: cl) C env).kindOf x = some .cell := by intros; rfl)
    (hs : ∀ x, foldedSetIterable iter env x = pure x := by intro _; rfl) : ExD prog w A env P Y (.ListComp elt [⟨.Name x px, iter, ifs, 0⟩] scope pos) (.list (ds.filterMap g)) true := .mk fun s Q E S q => by
  rw [eval_ListComp]
  refine wpAny_comprehension_free (use := none) rfl hs C.clos hkind hnames ?_
  refine src.go s _ _ S fun I fp wr Pv Ws D0 s1 s2 G1 G2 W h0 fields seqs hwr off hD0 kn nog => ?_
  have S1 := S.grow G1
  have S2 := S1.grow G2
  have key := comp_blockC (RR := fun acc C => compPost (model prog w) A E none Q acc C) (E := E) (elt := elt) (target := .Name x px) (iter := iter) (ifs := ifs) (scope := scope) (pos := pos) (cl := cl) (D0 := D0 ++ Y.old.dat) (env := env) (x := x) (fun i => (ds[i]?).bind g) hsz S1 G2 W h0 fields seqs hwr ?_ hcf hpc hxn hkind C.sub hclm C.ap ?_ ?_
  · exact key
  · intro p hp
    rcases List.mem_append.mp hp with hp | hp
    · obtain ⟨h1, as, r, _⟩ := hD0 p hp
      exact ⟨h1, as, r⟩
    · obtain ⟨p', hp', rfl⟩ := List.mem_map.mp hp
      obtain ⟨as, r, _⟩ := S2.da p' hp'
      exact ⟨rfl, as, r⟩
  · intro i v ys m cm C' J D X' h' g' o' s₁ E' Q' hi hv hcm hWs hap Sx k
    obtain ⟨d, hd, hkn⟩ := kn i v hi hv
    have Sy : St (compPaC P X' h' g' o' C' J x cl) ⟨[(D, ys)], (v, d, false) :: (D0 ++ Y.old.dat), m, cm⟩ s₁.heap s₁.gens s₁.os := by
      refine Sx.know ?_
      rcases hkn with h | ⟨k, t, rfl, rfl⟩
      · exact Sx.da (v, d, false) (List.mem_append_left _ h)
      · exact Dat.int ..
    show wpAny _ _ (letOwnedTupleGo (.Name x px) (.ref I) v) _ _ _
    refine wpAny_pure (wpAny_assign_Name (storeC Sy (c := J) (by show ((x, J) :: cl).lookup x = some J; rw [List.lookup_cons]; simp) (List.Mem.head _) (fun s₂ S₂ => k s₂ _ _ _ ?_ S₂ ?_) rfl (by show (relabel scope env).kind = _; exact hkind) (hx C' J)))
    · intro n hn
      show ((x, v) :: cm).lookup n = _
      rw [List.lookup_cons, beq_eq_false_iff_ne.mpr hn]
      exact hcm n hn
    obtain ⟨b, hT, hE, hN⟩ := turn d (List.mem_of_getElem? hd) X' h' g' o' C' J D ys ((v, d, false) :: (D0 ++ Y.old.dat)) m cm v hap (fun p hp => List.mem_cons_of_mem _ (List.mem_append_right _ hp)) List.mem_cons_self hcm
    refine ⟨b, hT, fun e => ?_, fun e => ?_⟩
    · obtain ⟨r, hr, he⟩ := hE e
      exact ⟨r, by rw [hd]; exact hr, he⟩
    · rw [hd]; exact hN e
  · intro v C' s' hC G ⟨m, hm⟩ hv
    refine ⟨m, hm, fun h' hs => ?_⟩
    have hv' := hv.but hm hs
    rw [filterMap_range g ds] at hv'
    exact q v _ (G1.trans (G.but hC hs)) hv'

theorem Dats.take {X : List Addr} {h₀ h : Heap} : ∀ {vs : List Value} {ds : List PyData} {n : Bool} (k : Nat), Dats X h₀ h vs ds n → Dats X h₀ h (vs.take k) (ds.take k) n
  | _, _, _, 0, _ => by simpa using Dats.nil
  | [], ds, n, k + 1, x => by
    have := x.len
    have : ds = [] := by cases ds with | nil => rfl | cons => simp at this
    subst this; simpa using Dats.nil
  | v :: vs, ds, n, k + 1, x => by
    cases ds with
    | nil => have := x.len; simp at this
    | cons d ds =>
      obtain ⟨as, r, q⟩ := x
      cases r with
      | cons r r' =>
        exact Dats.cons ⟨_, r, fun a ha => q a (List.mem_append_left _ ha)⟩ (Dats.take k ⟨_, r', fun a ha => q a (List.mem_append_right _ ha)⟩)
theorem Dats.drop {X : List Addr} {h₀ h : Heap} : ∀ {vs : List Value} {ds : List PyData} {n : Bool} (k : Nat), Dats X h₀ h vs ds n → Dats X h₀ h (vs.drop k) (ds.drop k) n
  | _, _, _, 0, x => by simpa using x
  | [], ds, n, k + 1, x => by
    have := x.len
    have : ds = [] := by cases ds with | nil => rfl | cons => simp at this
    subst this; simpa using Dats.nil
  | v :: vs, ds, n, k + 1, x => by
    cases ds with
    | nil => have := x.len; simp at this
    | cons d ds =>
      obtain ⟨as, r, q⟩ := x
      cases r with
      | cons r r' => exact Dats.drop k ⟨_, r', fun a ha => q a (List.mem_append_right _ ha)⟩
theorem sliceUp {items : Array Value} {b : Nat} : slicePick items none (some (b : Int)) none = (items.toList.take b).toArray := by
  by_cases h : b ≤ items.size
  · exact slicePick_upto items b h
  · have e : sliceBounds none (some (b : Int)) none items.size = sliceBounds none (some (items.size : Int)) none items.size := by
      simp only [sliceBounds, Option.getD_none]
      have h2 : ¬ ((b : Int) < 0) := by (first | lia | omega)
      have h3 : ¬ ((items.size : Int) < 0) := by (first | lia | omega)
      simp only [h2, h3, if_false, show (1 : Int) > 0 by decide, if_true]
      congr 1
      congr 1; (first | lia | omega)
    have : slicePick items none (some (b : Int)) none = slicePick items none (some (items.size : Int)) none := by unfold slicePick; rw [e]
    rw [this, slicePick_upto items items.size (Nat.le_refl _), List.take_of_length_le (by simp), List.take_of_length_le (by simp; (first | lia | omega))]
/-- x[:b] of a list -/
theorem ExD.upto {value hi : Expr} {p pos : Pos} {ds : List PyData} {n : Bool} {b : Nat} (hsz : ds.length ≤ sizeLine) (hv : ExD prog w A env P Y value (.list ds) n) (hh : ExI prog w A env P Y hi b)
    (ht : ∀ o r, letTemporaryGo value o r = pure () := by intro _ _; rfl) : ExD prog w A env P Y (.Subscript value (.Slice none (some hi) none p) pos) (.list (ds.take b)) n := .mk fun s Q E S q => by
  refine wpAny_Subscript_list_slice (hv.go s _ _ S fun v s1 G1 hv => ?_) ht
  rw [evalPart_none]
  refine wpAny_pure ?_
  show wpAny _ A (eval hi env) _ _ s1
  refine hh.go s1 _ _ (S.grow G1) fun u s2 G2 hu => ?_
  obtain ⟨t, rfl⟩ := hu
  have hv2 := hv.gr G2
  obtain ⟨a, vs, rfl, hl, hds, _⟩ := hv2.isList
  have hlen := hds.len
  refine ⟨a, vs.toArray, none, some b, rfl, hl, by simp; (first | lia | omega), .none, .int _ _, ?_⟩
  rw [sliceUp]
  have G3 : Gr (frs P.chain) s2 { s2 with heap := s2.heap.push { cls := .type "slice", data := .fields #[.none, .int b t, .none] } } := Gr.push _
  have S3 := (((S.grow G1).grow G2).grow G3)
  obtain ⟨f1, f2⟩ := S3.fresh (heap_new _)
  have G4 : Gr (frs P.chain) { s2 with heap := s2.heap.push { cls := .type "slice", data := .fields #[.none, .int b t, .none] } } { s2 with heap := (s2.heap.push { cls := .type "slice", data := .fields #[.none, .int b t, .none] }).push { cls := .type "list", data := .seq (vs.take b).toArray } } := Gr.push (s := { s2 with heap := s2.heap.push { cls := .type "slice", data := .fields #[.none, .int b t, .none] } }) _
  have sz : (s2.heap.push { cls := .type "slice", data := .fields #[.none, .int b t, .none] }).objs.size = s2.heap.objs.size + 1 := Heap.size_push ..
  rw [← sz]
  exact q _ _ (((G1.trans G2).trans G3).trans G4) (Dat.ofList (vs := vs.take b) ⟨_, Heap.get?_push_size _ rfl, rfl, 0, rfl⟩ (((hds.take b).gr G3).gr G4) f1 fun _ => f2)
/-- x[a:] of a list -/
theorem ExD.from {value lo : Expr} {p pos : Pos} {ds : List PyData} {n : Bool} {b : Nat} (hsz : ds.length ≤ sizeLine) (hb : b ≤ ds.length) (hv : ExD prog w A env P Y value (.list ds) n) (hh : ExI prog w A env P Y lo b)
    (ht : ∀ o r, letTemporaryGo value o r = pure () := by intro _ _; rfl) : ExD prog w A env P Y (.Subscript value (.Slice (some lo) none none p) pos) (.list (ds.drop b)) n := .mk fun s Q E S q => by
  refine wpAny_Subscript_list_slice (hv.go s _ _ S fun v s1 G1 hv => ?_) ht
  show wpAny _ A (eval lo env) _ _ s1
  refine hh.go s1 _ _ (S.grow G1) fun u s2 G2 hu => ?_
  obtain ⟨t, rfl⟩ := hu
  rw [evalPart_none]
  refine wpAny_pure ?_
  have hv2 := hv.gr G2
  obtain ⟨a, vs, rfl, hl, hds, _⟩ := hv2.isList
  have hlen := hds.len
  refine ⟨a, vs.toArray, some b, none, rfl, hl, by simp; (first | lia | omega), .int _ _, .none, ?_⟩
  rw [slicePick_from vs.toArray b (by simp; (first | lia | omega))]
  have G3 : Gr (frs P.chain) s2 { s2 with heap := s2.heap.push { cls := .type "slice", data := .fields #[.int b t, .none, .none] } } := Gr.push _
  have S3 := (((S.grow G1).grow G2).grow G3)
  obtain ⟨f1, f2⟩ := S3.fresh (heap_new _)
  have G4 : Gr (frs P.chain) { s2 with heap := s2.heap.push { cls := .type "slice", data := .fields #[.int b t, .none, .none] } } { s2 with heap := (s2.heap.push { cls := .type "slice", data := .fields #[.int b t, .none, .none] }).push { cls := .type "list", data := .seq (vs.drop b).toArray } } := Gr.push (s := { s2 with heap := s2.heap.push { cls := .type "slice", data := .fields #[.int b t, .none, .none] } }) _
  have sz : (s2.heap.push { cls := .type "slice", data := .fields #[.int b t, .none, .none] }).objs.size = s2.heap.objs.size + 1 := Heap.size_push ..
  rw [← sz]
  exact q _ _ (((G1.trans G2).trans G3).trans G4) (Dat.ofList (vs := vs.drop b) ⟨_, Heap.get?_push_size _ rfl, rfl, 0, rfl⟩ (((hds.drop b).gr G3).gr G4) f1 fun _ => f2)
/-- a and b, as a value -/
theorem ExV.and2 {e e' : Expr} {pos : Pos} {b b' : Bool} (h : ExV prog w A env P Y e (.bool b)) (h' : ExV prog w A env P Y e' (.bool b')) : ExV prog w A env P Y (.BoolOp .And [e, e'] pos) (.bool (b && b')) := .mk fun s Q E S q => by
  refine BoolOp_and (h.go s _ _ S fun v s1 G1 hv => ?_)
  subst hv
  refine wpAny_truthy_bool ?_
  cases b with
  | false => exact q _ _ G1 rfl
  | true => exact BoolOp_one (h'.go s1 _ _ (S.grow G1) fun v s2 G2 hv => q v s2 (G1.trans G2) hv)
/-- x, y = [], [] ; both own lists -/
theorem ys_swapLL {x y : Str} {elts : List Expr} {k k' : Nat} {tpos pos vp lp lp' : Pos} (hs : swapsWithSole [.Tuple elts k tpos] (.Tuple [.List [] lp, .List [] lp'] k' vp) pos.line env = pure false) (hw : swappedStores [.Tuple elts k tpos] (.Tuple [.List [] lp, .List [] lp'] k' vp) env = pure (some [x, y])) (hh : A.handled = none) (S : St P Y s.heap s.gens s.os)
    (h : ∀ D D' s', St P ⟨(D', []) :: (D, []) :: Y.own, Y.dat, (x, .ref D) :: (y, .ref D') :: Y.m, Y.cm⟩ s'.heap s'.gens s'.os → Wp (model prog w) A (execs rest env) Q E s')
    (hL : env.locals = P.L := by rfl) (hk : env.scope.kind = .function := by rfl) (hx : env.kindOf x = some .local := by rfl) (hy : env.kindOf y = some .local := by rfl)
    (hst : starEach [.List [] lp, .List [] lp'] env = [(false, eval (.List [] lp) env), (false, eval (.List [] lp') env)] := by rfl) :
    Wp (model prog w) A (execs (.Assign [.Tuple elts k tpos] (.Tuple [.List [] lp, .List [] lp'] k' vp) pos :: rest) env) Q E s := by
  refine ⟨wpAny_execs_cons (Assign_Tuple_swapped ?_ hs hw)⟩
  refine wpAny_Tuple ?_
  rw [hst]
  refine spliced_cons (wpAny_List (spliced_nil ⟨by decide, ?_⟩))
  have S2 := S.ownN (s' := { s with heap := s.heap.push { cls := .type "list", data := .seq ([] : List Value).toArray } }) (a := s.heap.objs.size) (xs := []) (Gr.push _) ⟨_, 0, Heap.get?_push_size _ rfl, rfl, rfl, rfl⟩ (heap_new _)
  generalize hs1 : ({ s with heap := s.heap.push { cls := .type "list", data := .seq ([] : List Value).toArray } } : Shared) = s1 at S2 ⊢
  refine spliced_cons (wpAny_List (spliced_nil ⟨by decide, ?_⟩))
  have S3 := S2.ownN (s' := { s1 with heap := s1.heap.push { cls := .type "list", data := .seq ([] : List Value).toArray } }) (a := s1.heap.objs.size) (xs := []) (Gr.push _) ⟨_, 0, Heap.get?_push_size _ rfl, rfl, rfl, rfl⟩ (heap_new _)
  generalize hs2 : ({ s1 with heap := s1.heap.push { cls := .type "list", data := .seq ([] : List Value).toArray } } : Shared) = s2 at S3 ⊢
  generalize s1.heap.objs.size = D' at S3 ⊢
  generalize s.heap.objs.size = D at S3 ⊢
  refine spliced_nil ⟨by show 2 ≤ sizeLine; decide, ?_⟩
  have S4 := S3.grow (s' := { s2 with heap := s2.heap.push { cls := .type "tuple", data := .seq [Value.ref D, Value.ref D'].toArray } }) (Gr.push _)
  refine unpackD (vs := [Value.ref D, Value.ref D']) hh S4 ⟨_, Heap.get?_push_size _ rfl, rfl, 0, rfl⟩ rfl fun s4 G4 => ?_
  have S5 := S4.grow G4
  show wpAny _ A (assignInOrder [fun v => bindName env y v, fun v => bindName env x v] [Value.ref D', Value.ref D]) _ _ _
  refine assignInOrder_cons (wpAny_bindName (storeL S5 (fun s5 S5 => ?_) hL hk hy))
  refine assignInOrder_cons (wpAny_bindName (storeL S5 (fun s6 S6 => ?_) hL hk hx))
  exact assignInOrder_nil (h D D' s6 S6).go
end
end Mine
namespace Mine
noncomputable def spareF : List Int := [45440, 21201, 54003, 144675]
noncomputable def rawF (script : List Int) : List Int := script.take 4 ++ spareF.drop (script.take 4).length
noncomputable def numbersF (script : List Int) : List Int := (rawF script).map fun n => n.fmod (2 ^ 24)
theorem numbers_len (script : List Int) : (numbersF script).length = 4 := by
  unfold numbersF rawF
  have : (script.take 4).length ≤ 4 := by simp; (first | lia | omega)
  simp only [List.length_map, List.length_append, List.length_drop]
  have e : spareF.length = 4 := rfl
  rw [e]; (first | lia | omega)
noncomputable def fewF (script : List Int) : Int := (1 + (numbersF script).sum).fmod 17
noncomputable def rowI (n : Int) : List Int := rowOf (formOf n) (leadOf n) (stepOf n)
noncomputable def wF (n : Int) : List Int × Str := walkG (rowI n) 40 0 0 []
noncomputable def othF (n : Int) : Int := (n.fdiv 640).fmod 256
noncomputable def textF (n : Int) : List Nat := shownF (wF n).1 (othF n) 2
noncomputable def tailP (form lead step : Int) : Option (Int × Int) := [some (lead, step), some (lead, step), some (lead, step), some (2 * lead, step), some (0, step), none, none, none, none, none].getD form.toNat none
noncomputable def tailT (n : Int) : Option (Int × Int) := tailP (formOf n) (leadOf n) (stepOf n)
theorem form_bd (n : Int) : 0 ≤ formOf n ∧ formOf n < 10 := ⟨Int.fmod_nonneg_of_pos _ (by decide), Int.fmod_lt_of_pos _ (by decide)⟩
theorem lead_bd (n : Int) : 1 ≤ leadOf n ∧ leadOf n ≤ 8 := by
  have h1 : 0 ≤ (n.fdiv 80).fmod 8 := Int.fmod_nonneg_of_pos _ (by decide)
  have h2 : (n.fdiv 80).fmod 8 < 8 := Int.fmod_lt_of_pos _ (by decide)
  unfold leadOf; (first | lia | omega)
theorem step_bd (n : Int) : 1 ≤ stepOf n ∧ stepOf n ≤ 8 := by
  have h1 : 0 ≤ n.fmod 8 := Int.fmod_nonneg_of_pos n (by decide)
  have h2 : n.fmod 8 < 8 := Int.fmod_lt_of_pos n (by decide)
  unfold stepOf
  generalize n.fmod 8 = k at *
  obtain ⟨j, rfl⟩ := Int.eq_ofNat_of_zero_le h1
  have hj : j < 8 := by (first | lia | omega)
  match j, hj with
  | 0, _ | 1, _ | 2, _ | 3, _ | 4, _ | 5, _ | 6, _ | 7, _ => decide
theorem tail_opt {f : Int} (a b : Int) (h1 : 0 ≤ f) (h2 : f < 10) : tailOf f a b = optT (tailP f a b) := by
  obtain ⟨j, rfl⟩ := Int.eq_ofNat_of_zero_le h1
  have hj : j < 10 := by (first | lia | omega)
  match j, hj with
  | 0, _ | 1, _ | 2, _ | 3, _ | 4, _ | 5, _ | 6, _ | 7, _ | 8, _ | 9, _ => rfl
theorem rulerD_eq (n : Int) : rulerD n = .tuple [.list ((rowI n).map .int), optT (tailT n), .str (wordOf (formOf n))] := by
  unfold rulerD tailT
  rw [tail_opt _ _ (form_bd n).1 (form_bd n).2]
  rfl
/-- who is chosen -/
noncomputable def bitF (c : Int) (k : Nat) : Bool := (c.fdiv (2 ^ k)).fmod 2 == 1
noncomputable def ksF (c : Int) : List Nat := (List.range 4).filter (bitF c)
noncomputable def nthF (script : List Int) (k : Nat) : Int := (numbersF script).getD k 0
noncomputable def tsF (script : List Int) (c : Int) : List (Int × Int) := (ksF c).filterMap fun k => tailT (nthF script k)
/-- a text by its tail -/
noncomputable def txF (t : Option (Int × Int)) : List Nat := (List.range 18).map fun j : Nat => match t with
  | none => 9
  | some p => if (17 + (j : Int) - p.1).fmod p.2 == 0 then 32 else 9
theorem tx_get (t : Option (Int × Int)) {j : Nat} (h : j < 18) : (txF t).getD j 0 = match t with
  | none => 9
  | some p => if (17 + (j : Int) - p.1).fmod p.2 == 0 then 32 else 9 := by
  unfold txF
  rw [List.getD_eq_getElem?_getD, List.getElem?_map, List.getElem?_range h]
  rfl
theorem eqv_str (x y : Str) : PyData.eqv (.str x) (.str y) = (x == y) := by simp [PyData.eqv]
theorem overlaid_one (cs : List Nat) (h : ∀ c ∈ cs, c = 32 ∨ c = 9) : overlaid (cs.map one) = one (if cs.any (· == 32) then 32 else 9) := by
  have e : ∀ d : Nat, ((cs.map one).map PyData.str).any (fun y => PyData.eqv y (.str (one d))) = cs.any (· == d) := by
    intro d
    rw [List.map_map, List.any_map]
    congr 1
    funext c
    show PyData.eqv (.str (one c)) (.str (one d)) = _
    rw [eqv_str]
    exact one_eq c d
  unfold overlaid
  rw [show Str.ofString "?" = one 63 from rfl, show Str.ofString " " = one 32 from rfl, show Str.ofString "\t" = one 9 from rfl, e, e]
  have : cs.any (· == 63) = false := by
    rw [List.any_eq_false]
    intro c hc
    rcases h c hc with rfl | rfl <;> decide
  rw [this]
  simp only [Bool.false_eq_true, if_false]
  split <;> rfl
/-- the codes of a row -/
noncomputable def rowcF (script : List Int) (c : Int) : List Nat := (List.range (2 ^ (ksF c).length)).map fun j => if ((ksF c).map fun k => (txF (tailT (nthF script k))).getD j 0).any (· == 32) then 32 else 9
theorem ks_len (c : Int) : (ksF c).length ≤ 4 := Nat.le_trans (List.length_filter_le _ _) (by simp)
theorem pow4 {k : Nat} (h : k ≤ 4) : 2 ^ k ≤ 16 := by
  match k, h with
  | 0, _ | 1, _ | 2, _ | 3, _ | 4, _ => decide
theorem rowc_eq (script : List Int) (c : Int) : rowcF script c = rowF (tsF script c) (2 ^ (ksF c).length) := by
  unfold rowcF rowF
  apply List.map_congr_left
  intro j hj
  have hj18 : j < 18 := by
    have := List.mem_range.mp hj
    have := pow4 (ks_len c)
    (first | lia | omega)
  have e : ((ksF c).map fun k => (txF (tailT (nthF script k))).getD j 0).any (· == 32) = (tsF script c).any fun p => (17 + (j : Int) - p.1).fmod p.2 == 0 := by
    unfold tsF
    induction ksF c with
    | nil => rfl
    | cons k ks ih =>
      rw [List.map_cons, List.any_cons, ih, List.filterMap_cons, tx_get _ hj18]
      cases tailT (nthF script k) with
      | none => simp
      | some p =>
        simp only [List.any_cons]
        congr 1
        split
        · rename_i h; rw [h]; rfl
        · rename_i h; simp at h ⊢; exact h
  rw [e]
  unfold bareB
  cases (tsF script c).any fun p => (17 + (j : Int) - p.1).fmod p.2 == 0 <;> rfl
theorem ts_good (script : List Int) (c : Int) : ∀ t ∈ tsF script c, 1 ≤ t.2 ∧ t.2 ≤ 8 ∧ 0 ≤ t.1 ∧ t.1 ≤ 16 := by
  intro t ht
  obtain ⟨k, _, hk⟩ := List.mem_filterMap.mp ht
  generalize nthF script k = n at hk
  have hf := form_bd n
  have hl := lead_bd n
  have hs := step_bd n
  unfold tailT at hk
  revert hk hf
  generalize formOf n = f
  intro hk hf
  obtain ⟨j, rfl⟩ := Int.eq_ofNat_of_zero_le hf.1
  have hj : j < 10 := by (first | lia | omega)
  match j, hj with
  | 0, _ | 1, _ | 2, _ => injection hk with hk; subst hk; simp only; (first | lia | omega)
  | 3, _ => injection hk with hk; subst hk; simp only; (first | lia | omega)
  | 4, _ => injection hk with hk; subst hk; simp only; (first | lia | omega)
  | 5, _ | 6, _ | 7, _ | 8, _ | 9, _ => cases hk
end Mine
namespace Mine
section
variable {w : World} {A : Around} {s : Shared} {mg mb : Loc} {base : Heap} {chain : List Env} {Q E : Value → Shared → Prop}
theorem exD_ruler {env : Env} {P : Pa} {Y : Sy} {p pos : Pos} {e : Expr} {a : Int} (T : Tb (KF w) mg mb P.base) (C : Cx A P.chain 1) (h : ExI prg w A env P Y e a)
    (hg : env.globals = mainGlobals := by rfl) (hkd : env.scope.kind = .function := by rfl) (hx : env.kindOf (Str.ofString "_law_ruler") = some .globalImplicit := by rfl) (he : starEach [e] env = [(false, eval e env)] := by rfl) :
    ExD prg w A env P Y (.Call (.Name (Str.ofString "_law_ruler") p) [e] [] pos) (rulerD a) true := by
  refine Ex.call T (f := 82) (by rfl) (by rfl) (ExL.one h he) (fun s vs Q E S hvs q => ?_) hg hkd hx (by rfl) he (fun _ => rfl)
  obtain ⟨v, rfl, t, rfl⟩ := hvs
  exact (c_ruler T C S.at fun u s' G N => q u s' G (S.dat_of N)).go
theorem exD_walk {env : Env} {P : Pa} {Y : Sy} {p pos : Pos} {e : Expr} {rs : List Int} {n : Bool} {W : List Int × Str} (T : Tb (KF w) mg mb P.base) (C : Cx A P.chain 2) (h : ExD prg w A env P Y e (.list (rs.map .int)) n) (hW : walkG rs 40 0 0 [] = W) (hfu : W.2 ≠ Str.ofString "fuel")
    (hg : env.globals = mainGlobals := by rfl) (hkd : env.scope.kind = .function := by rfl) (hx : env.kindOf (Str.ofString "_law_walk") = some .globalImplicit := by rfl) (he : starEach [e] env = [(false, eval e env)] := by rfl) :
    ExD prg w A env P Y (.Call (.Name (Str.ofString "_law_walk") p) [e] [] pos) (walkD W) true := by
  refine Ex.call T (f := 89) (by rfl) (by rfl) (ExL.one h he) (fun s vs Q E S hvs q => ?_) hg hkd hx (by rfl) he (fun _ => rfl)
  obtain ⟨v, rfl, as, r, _⟩ := hvs
  exact (c_walk T C S.at r (by decide) (by decide) hW hfu fun u s' G N => q u s' G (S.dat_of N)).go
theorem exS_shown {env : Env} {P : Pa} {Y : Sy} {p pos : Pos} {e e' : Expr} {marks : List Int} {others : Int} {n : Bool} (T : Tb (KF w) mg mb P.base) (C : Cx A P.chain 3) (h : ExD prg w A env P Y e (.list (marks.map .int)) n) (h' : ExI prg w A env P Y e' others)
    (hm : ∀ p ∈ marks, -60 ≤ p ∧ p ≤ 60) (hl : marks.length ≤ 100)
    (hk1 : (codesF (modeF marks others 25)).getD 0 0 = kindS.cps.getD ((others.fdiv 8).fmod 16).toNat 0) (hk2 : (codesF (modeF marks (255 - others) 34)).getD 0 0 = kindS.cps.getD (((255 - others).fdiv 8).fmod 16).toNat 0)
    (hg : env.globals = mainGlobals := by rfl) (hkd : env.scope.kind = .function := by rfl) (hx : env.kindOf (Str.ofString "_law_shown") = some .globalImplicit := by rfl)
    (he : starEach [e, e'] env = [(false, eval e env), (false, eval e' env)] := by rfl) (he' : starEach [e'] env = [(false, eval e' env)] := by rfl) :
    ExS prg w A env P Y (.Call (.Name (Str.ofString "_law_shown") p) [e, e'] [] pos) ⟨(shownF marks others 2).toArray⟩ := by
  refine Ex.call T (f := 94) (by rfl) (by rfl) (ExL.two h h' keepD he) (fun s vs Q E S hvs q => ?_) hg hkd hx (by rfl) (by rw [he, he']) (fun _ => by rw [he']; rfl)
  obtain ⟨v, v', rfl, ⟨as, r, _⟩, t', rfl⟩ := hvs
  exact (c_shown T C S.at r hm hl hk1 hk2 fun t s' G => q _ s' G ⟨t, rfl⟩).go
theorem exS_overlaid {env : Env} {P : Pa} {Y : Sy} {p pos : Pos} {e : Expr} {xs : List Str} {n : Bool} (T : Tb (KF w) mg mb P.base) (C : Cx A P.chain 1) (h : ExD prg w A env P Y e (.list (xs.map .str)) n) (hok : PyData.canLayAll0 (xs.map .str) = true)
    (hg : env.globals = mainGlobals := by rfl) (hkd : env.scope.kind = .function := by rfl) (hx : env.kindOf (Str.ofString "_law_overlaid") = some .globalImplicit := by rfl) (he : starEach [e] env = [(false, eval e env)] := by rfl) :
    ExS prg w A env P Y (.Call (.Name (Str.ofString "_law_overlaid") p) [e] [] pos) (overlaid xs) := by
  refine Ex.call T (f := 101) (by rfl) (by rfl) (ExL.one h he) (fun s vs Q E S hvs q => ?_) hg hkd hx (by rfl) he (fun _ => rfl)
  obtain ⟨v, rfl, as, r, _⟩ := hvs
  exact c_overlaid T C S.at r hok fun t s' G => q _ s' G ⟨t, rfl⟩
noncomputable def ToldOk (x : Str) (few : Int) (d : List PyData) : Prop :=
  x.length ≤ 64 ∧ ∃ i1 j1 i2 j2, SOk x x.length i1 j1 ∧ SOk x (few.fmod ((x.length : Int) + 1)) i2 j2 ∧ ((∃ i3 j3, SOk x (-1) i3 j3 ∧ (cut x i3 j3).length < 2 ^ 60 ∧ d = [.str (cut x i1 j1), .str (cut x i2 j2), .int (Txt.find x (cut x i3 j3)), .int (cut x i3 j3).length]) ∨ ((∀ k < x.length, x.cps[k]? = some 32) ∧ d = [.str (cut x i1 j1), .str (cut x i2 j2)]))
noncomputable def DueOk (ts : List (Int × Int)) (n : Nat) (few : Int) (d : List PyData) : Prop :=
  ((termsF (periodF ts) (meetsF ts)).sum = 0 ∧ d = [.str (Str.ofString ""), .str (Txt.mul (Str.ofString " ") ((n : Int) - few.fmod ((n : Int) + 1)))]) ∨
      ((termsF (periodF ts) (meetsF ts)).sum ≠ 0 ∧ ∃ f g : Nat, f ≤ n ∧ g ≤ n ∧ (∀ k : Nat, k < f → bareB ts (17 + k) = false) ∧ bareB ts (17 + f) = true ∧ (∀ k : Nat, k < g → bareB ts (16 + n - k) = false) ∧ bareB ts (16 + n - g) = true ∧ d = dueD ts n (few.fmod ((n : Int) + 1)) f g)
theorem exD_told {env : Env} {P : Pa} {Y : Sy} {p pos : Pos} {e e' : Expr} {x : Str} {few : Int} {d : List PyData} (T : Tb (KF w) mg mb P.base) (C : Cx A P.chain 2) (h : ExS prg w A env P Y e x) (h' : ExI prg w A env P Y e' few) (hd : ToldOk x few d)
    (hg : env.globals = mainGlobals := by rfl) (hkd : env.scope.kind = .function := by rfl) (hx : env.kindOf (Str.ofString "_law_told") = some .globalImplicit := by rfl)
    (he : starEach [e, e'] env = [(false, eval e env), (false, eval e' env)] := by rfl) (he' : starEach [e'] env = [(false, eval e' env)] := by rfl) :
    ExD prg w A env P Y (.Call (.Name (Str.ofString "_law_told") p) [e, e'] [] pos) (.list d) true := by
  refine Ex.call T (f := 108) (by rfl) (by rfl) (ExL.two h h' keepS he) (fun s vs Q E S hvs q => ?_) hg hkd hx (by rfl) (by rw [he, he']) (fun _ => by rw [he']; rfl)
  obtain ⟨v, v', rfl, ⟨t, rfl⟩, t', rfl⟩ := hvs
  obtain ⟨hl, i1, j1, i2, j2, O1, O2, hd⟩ := hd
  exact (c_told T C S.at hl O1 O2 d hd fun u s' G N => q u s' G (S.dat_of N)).go
theorem exD_due {env : Env} {P : Pa} {Y : Sy} {p pos : Pos} {e e' e'' : Expr} {ts : List (Int × Int)} {k : Nat} {few : Int} {n : Bool} {d : List PyData} (T : Tb (KF w) mg mb P.base) (C : Cx A P.chain 2) (h : ExD prg w A env P Y e (.list (ts.map tupI)) n) (h' : ExI prg w A env P Y e' k) (h'' : ExI prg w A env P Y e'' few)
    (hts : ∀ t ∈ ts, 1 ≤ t.2 ∧ t.2 ≤ 8) (hn : ts.length ≤ 4) (hn16 : k ≤ 16) (hd : DueOk ts k few d)
    (hg : env.globals = mainGlobals := by rfl) (hkd : env.scope.kind = .function := by rfl) (hx : env.kindOf (Str.ofString "_law_due") = some .globalImplicit := by rfl)
    (he : starEach [e, e', e''] env = [(false, eval e env), (false, eval e' env), (false, eval e'' env)] := by rfl) (he' : starEach [e', e''] env = [(false, eval e' env), (false, eval e'' env)] := by rfl) :
    ExD prg w A env P Y (.Call (.Name (Str.ofString "_law_due") p) [e, e', e''] [] pos) (.list d) true := by
  refine Ex.call T (f := 123) (by rfl) (by rfl) (ExL.three h h' h'' keepD keepI he) (fun s vs Q E S hvs q => ?_) hg hkd hx (by rfl) (by rw [he, he']) (fun _ => by rw [he']; rfl)
  obtain ⟨v, v', v'', rfl, ⟨as, r, _⟩, ⟨t', rfl⟩, t'', rfl⟩ := hvs
  exact (c_due T C S.at r hts hn hn16 d hd fun u s' G N => q u s' G (S.dat_of N)).go
end
section
variable {P : Pa}
/-- an own list becomes data, with this mark -/
theorem St.release' {D : Addr} {ys : List Value} {own : List (Addr × List Value)} {dat : List (Value × PyData × Bool)} {m cm : List (Str × Value)} {ds : List PyData} {h : Heap} {g : Array GenState} {o : OsState} {n : Bool} (S : St P ⟨(D, ys) :: own, dat, m, cm⟩ h g o) (hX : D ∉ P.X)
    (hd : Dats (mu P ⟨own, dat, m, cm⟩) P.h₀ h ys ds n) : St P ⟨own, (.ref D, .list ds, n) :: dat, m, cm⟩ h g o := by
  have sub : ∀ a ∈ mu P ⟨own, dat, m, cm⟩, a ∈ mu P ⟨(D, ys) :: own, dat, m, cm⟩ := fun a ha => by
    simp only [mu, List.mem_cons, List.mem_append, List.map_cons] at ha ⊢
    rcases ha with h | h | h <;> simp [h]
  have hnd := List.nodup_cons.mp S.nd
  have hD0 : P.h₀.get? D = none := (S.nx D (by simp [mu])).elim (fun q => absurd q hX) id
  have hl := (S.li (D, ys) (by simp)).isList
  have hDm : D ∉ mu P ⟨own, dat, m, cm⟩ := by
    intro hm
    rcases List.mem_cons.mp hm with q | hm
    · exact S.L_ne_list (p := (D, ys)) (by simp) q
    · rcases List.mem_append.mp hm with hm | hm
      · obtain ⟨v, y⟩ := S.oc D hm
        exact S.list_ne_cell hl y rfl
      · exact hnd.1 hm
  exact
  { ch := S.ch, bs := S.bs, ff := S.ff, fn := S.fn, ns := S.ns, ce := S.ce, ap := S.ap, oc := S.oc, gs := S.gs, os := S.os, xi := S.xi
    li := fun p hp => S.li p (List.mem_cons_of_mem _ hp)
    nd := hnd.2
    nf := fun a ha => S.nf a (by
      rcases List.mem_append.mp ha with h | h
      · exact List.mem_append_left _ h
      · exact List.mem_append_right _ (List.mem_cons_of_mem _ h))
    nb := fun a ha => S.nb a (sub a ha)
    nx := fun a ha => S.nx a (sub a ha)
    da := fun p hp => by
      rcases List.mem_cons.mp hp with rfl | hp
      · exact Dat.ofList hl hd hDm fun _ => hD0
      · obtain ⟨as, r, q⟩ := S.da p hp
        exact ⟨as, r, fun a ha => ⟨fun hm => (q a ha).1 (sub a hm), (q a ha).2⟩⟩ }
theorem dats_zip {X : List Addr} {h₀ h : Heap} {n : Bool} : ∀ {vs : List Value} {ds : List PyData}, vs.length = ds.length → (∀ p ∈ vs.zip ds, Dat X h₀ h p.1 p.2 n) → Dats X h₀ h vs ds n
  | [], [], _, _ => .nil
  | [], _ :: _, e, _ => by simp at e
  | _ :: _, [], e, _ => by simp at e
  | v :: vs, d :: ds, e, H => .cons (H (v, d) (by simp)) (dats_zip (by simpa using e) fun p hp => H p (by simp [hp]))
end
end Mine
namespace Mine
section
variable {prog : Program} {w : World} {A : Around} {env : Env} {P : Pa} {Y : Sy} {s : Shared} {Q : Flow → Shared → Prop} {E : Value → Shared → Prop} {rest : List Stmt}
/-- x.append(e), x an own list, with what is known of the item -/
theorem ys_appendD {x : Str} {px ap cp pos : Pos} {e : Expr} {D : Addr} {xs : List Value} {pre post : List (Addr × List Value)} {d : PyData} {n : Bool} (S : St P Y s.heap s.gens s.os) (hm : Y.m.lookup x = some (.ref D)) (ho : Y.own = pre ++ (D, xs) :: post) (hsz : xs.length ≤ sizeLine) (he : ExD prog w A env P Y e d n)
    (h : ∀ v (s' : Shared), St P { Y with own := pre ++ (D, xs ++ [v]) :: post, dat := (v, d, n) :: Y.dat } s'.heap s'.gens s'.os → Wp (model prog w) A (execs rest env) Q E s')
    (hL : env.locals = P.L := by rfl) (hk : env.scope.kind = .function := by rfl) (hx : env.kindOf x = some .local := by rfl) (hd : (x == ("__debug__" : Str)) = false := by rfl)
    (hbase : attributeBase (.Name x px) "append" env (eval (.Name x px) env) = eval (.Name x px) env := by rfl) (htrees : backTo cp (starEach [e] env) = [(false, eval e env)] := by rfl) (hstar : starEach [e] env = [(false, eval e env)] := by rfl) (hline : (ap.endLine == cp.line) = true := by rfl)
    (hi : interactive env = false := by rfl) (hs : swapsWith (.Call (.Attribute (.Name x px) "append" ap) [e] [] cp) none pos.line env = pure false := by rfl) :
    Wp (model prog w) A (execs (.Expr (.Call (.Attribute (.Name x px) "append" ap) [e] [] cp) pos :: rest) env) Q E s := by
  refine ⟨wpAny_execs_cons (wpAny_Expr_any (wpAny_Call_append hbase (by rw [hstar]; rfl) hline htrees ?_) hi hs)⟩
  refine (ExV.loc (prog := prog) (w := w) (A := A) (pos := px) hm hL hk hx hd).go s _ _ S fun v s1 G1 hv => ?_
  subst hv
  have S1 := S.grow G1
  refine ⟨D, xs.toArray, rfl, S1.li (D, xs) (by rw [ho]; simp), he.go s1 _ _ S1 fun v s2 G2 hv => ?_⟩
  have S2 := (S1.grow G2).know hv
  refine list_append_plainL (S2.li (D, xs) (by rw [show (⟨Y.own, (v, d, n) :: Y.dat, Y.m, Y.cm⟩ : Sy).own = Y.own from rfl, ho]; simp)) (fun h' hl' hs' => ?_) (by simpa using hsz)
  have hl'' : PlainL h' D (xs ++ [v]).toArray := by simpa using hl'
  exact (h v { s2 with heap := h' } (S2.setO (ys := xs ++ [v]) ho hl'' hs')).go
end
/-- data and values side by side -/
noncomputable def Known (dat : List (Value × PyData × Bool)) : List Value → List PyData → Prop
  | [], [] => True
  | v :: vs, d :: ds => (v, d, false) ∈ dat ∧ Known dat vs ds
  | _, _ => False
theorem Known.mono {dat dat' : List (Value × PyData × Bool)} (h : ∀ p ∈ dat, p.2.2 = false → p ∈ dat') : ∀ {vs : List Value} {ds : List PyData}, Known dat vs ds → Known dat' vs ds
  | [], [], _ => trivial
  | _ :: _, _ :: _, ⟨a, b⟩ => ⟨h _ a rfl, b.mono h⟩
  | [], _ :: _, z => z
  | _ :: _, [], z => z
theorem Known.snoc {dat : List (Value × PyData × Bool)} {v : Value} {d : PyData} (h : (v, d, false) ∈ dat) : ∀ {vs : List Value} {ds : List PyData}, Known dat vs ds → Known dat (vs ++ [v]) (ds ++ [d])
  | [], [], _ => ⟨h, trivial⟩
  | _ :: _, _ :: _, ⟨a, b⟩ => ⟨a, b.snoc h⟩
  | [], _ :: _, z => z.elim
  | _ :: _, [], z => z.elim
theorem Known.len {dat : List (Value × PyData × Bool)} : ∀ {vs : List Value} {ds : List PyData}, Known dat vs ds → vs.length = ds.length
  | [], [], _ => rfl
  | _ :: _, _ :: _, ⟨_, b⟩ => by simp [b.len]
  | [], _ :: _, z => z.elim
  | _ :: _, [], z => z.elim
theorem Known.dats {dat : List (Value × PyData × Bool)} {X : List Addr} {h₀ h : Heap} (H : ∀ p ∈ dat, Dat X h₀ h p.1 p.2.1 p.2.2) : ∀ {vs : List Value} {ds : List PyData}, Known dat vs ds → Dats X h₀ h vs ds false
  | [], [], _ => .nil
  | _ :: _, _ :: _, ⟨a, b⟩ => .cons (H _ a) (b.dats H)
  | [], _ :: _, z => z.elim
  | _ :: _, [], z => z.elim
noncomputable def numG : PyData → Option PyData
  | .int i => some (.int (i.fmod (2 ^ 24)))
  | _ => none
theorem num_data (script : List Int) : ((rawF script).map PyData.int).filterMap numG = (numbersF script).map .int := by
  unfold numbersF
  rw [List.filterMap_map, List.map_map, ← List.filterMap_eq_map]
  congr 1
noncomputable def rulG : PyData → Option PyData
  | .int i => some (rulerD i)
  | _ => none
theorem rul_data (l : List Int) : (l.map PyData.int).filterMap rulG = l.map rulerD := by
  rw [List.filterMap_map, ← List.filterMap_eq_map]
  congr 1
noncomputable def intsOf (l : List PyData) : List Int := l.filterMap fun | .int i => some i | _ => none
theorem ints_of (l : List Int) : intsOf (l.map .int) = l := by
  unfold intsOf
  rw [List.filterMap_map]
  show l.filterMap (fun x => some x) = l
  exact List.filterMap_some
noncomputable def walG : PyData → Option PyData
  | .tuple [.list l, _, _] => some (walkD (walkG (intsOf l) 40 0 0 []))
  | _ => none
theorem walG_eq (n : Int) : walG (rulerD n) = some (walkD (wF n)) := by
  rw [rulerD_eq]
  show some (walkD (walkG (intsOf ((rowI n).map .int)) 40 0 0 [])) = _
  rw [ints_of]; rfl
theorem wal_data (l : List Int) : (l.map rulerD).filterMap walG = l.map fun n => walkD (wF n) := by
  rw [List.filterMap_map, ← List.filterMap_eq_map]
  congr 1
  funext n
  exact walG_eq n
noncomputable def txtG (script : List Int) : PyData → Option PyData
  | .int k => some (.str ⟨(textF (nthF script k.toNat)).toArray⟩)
  | _ => none
theorem txt_data (script : List Int) : ((List.range (4 - 0 : Int).toNat).map fun i : Nat => PyData.int (0 + i)).filterMap (txtG script) = (List.range 4).map fun k => .str ⟨(textF (nthF script k)).toArray⟩ := by
  rw [List.filterMap_map, ← List.filterMap_eq_map]
  congr 1
  funext k
  simp [Function.comp, txtG]
noncomputable def choG (c : Int) : PyData → Option PyData
  | .int k => if bitF c k.toNat then some (.int k) else none
  | _ => none
theorem cho_data (c : Int) : ((List.range (4 - 0 : Int).toNat).map fun i : Nat => PyData.int (0 + i)).filterMap (choG c) = (ksF c).map fun k : Nat => .int k := by
  unfold ksF
  rw [List.filterMap_map, ← List.filterMap_eq_map, List.filterMap_filter]
  congr 1
  funext k
  simp only [Function.comp, choG, Int.zero_add, Int.toNat_natCast]
noncomputable def sgnG (script : List Int) (j : Nat) : PyData → Option PyData
  | .int k => some (.str (one ((txF (tailT (nthF script k.toNat))).getD j 0)))
  | _ => none
theorem sgn_data (script : List Int) (j : Nat) (l : List Nat) : (l.map fun k : Nat => PyData.int k).filterMap (sgnG script j) = ((l.map fun k => (txF (tailT (nthF script k))).getD j 0).map one).map .str := by
  rw [List.filterMap_map, List.map_map, List.map_map, ← List.filterMap_eq_map]
  congr 1
noncomputable def ovlG (script : List Int) (c : Int) : PyData → Option PyData
  | .int j => some (.str (overlaid (((ksF c).map fun k => (txF (tailT (nthF script k))).getD j.toNat 0).map one)))
  | _ => none
theorem tx_sgn (t : Option (Int × Int)) (j : Nat) : (txF t).getD j 0 = 32 ∨ (txF t).getD j 0 = 9 ∨ 18 ≤ j := by
  by_cases h : j < 18
  · rw [tx_get t h]
    cases t with
    | none => exact .inr (.inl rfl)
    | some p =>
      dsimp only
      split
      · exact .inl rfl
      · exact .inr (.inl rfl)
  · exact .inr (.inr (by (first | lia | omega)))
theorem ovl_data (script : List Int) (c : Int) : ((List.range (((2 ^ (ksF c).length : Nat) : Int) - 0).toNat).map fun i : Nat => PyData.int (0 + i)).filterMap (ovlG script c) = ((rowcF script c).map one).map .str := by
  have e : (((2 ^ (ksF c).length : Nat) : Int) - 0).toNat = 2 ^ (ksF c).length := by
    generalize 2 ^ (ksF c).length = m
    (first | lia | omega)
  rw [e]
  have h16 := pow4 (ks_len c)
  unfold rowcF
  generalize 2 ^ (ksF c).length = m at h16
  rw [List.filterMap_map, List.map_map, List.map_map, ← List.filterMap_eq_map]
  have : ∀ l : List Nat, (∀ j ∈ l, j < 16) → l.filterMap (ovlG script c ∘ fun i : Nat => PyData.int (0 + i)) = l.filterMap (some ∘ (PyData.str ∘ one ∘ fun j => if ((ksF c).map fun k => (txF (tailT (nthF script k))).getD j 0).any (· == 32) then 32 else 9)) := by
    intro l
    induction l with
    | nil => intro _; rfl
    | cons j l ih =>
      intro hl
      have hj := hl j List.mem_cons_self
      rw [List.filterMap_cons, List.filterMap_cons, ih fun x hx => hl x (List.mem_cons_of_mem _ hx)]
      have : (ovlG script c ∘ fun i : Nat => PyData.int (0 + i)) j = (some ∘ (PyData.str ∘ one ∘ fun j => if ((ksF c).map fun k => (txF (tailT (nthF script k))).getD j 0).any (· == 32) then 32 else 9)) j := by
        simp only [Function.comp, ovlG, Int.zero_add, Int.toNat_natCast]
        rw [overlaid_one _ (fun x hx => by
          obtain ⟨k, _, rfl⟩ := List.mem_map.mp hx
          rcases tx_sgn (tailT (nthF script k)) j with h | h | h
          · exact .inl h
          · exact .inr h
          · (first | lia | omega))]
      rw [this]
  exact this _ fun j hj => by have := List.mem_range.mp hj; (first | lia | omega)
noncomputable def taiG (script : List Int) : PyData → Option PyData
  | .int k => (tailT (nthF script k.toNat)).map tupI
  | _ => none
theorem tai_data (script : List Int) (c : Int) : ((ksF c).map fun k : Nat => PyData.int k).filterMap (taiG script) = (tsF script c).map tupI := by
  unfold tsF
  rw [List.filterMap_map, List.map_filterMap]
  congr 1
noncomputable def wlkG : PyData → Option PyData
  | .tuple [_, x] => some x
  | _ => none
noncomputable def rlrG : PyData → Option PyData
  | .tuple [_, _, x] => some x
  | _ => none
theorem wlk_data (l : List Int) : (l.map fun n => walkD (wF n)).filterMap wlkG = l.map fun n => .str (wF n).2 := by
  rw [List.filterMap_map, ← List.filterMap_eq_map]
  congr 1
theorem rlr_data (l : List Int) : (l.map rulerD).filterMap rlrG = l.map fun n => .str (wordOf (formOf n)) := by
  rw [List.filterMap_map, ← List.filterMap_eq_map]
  congr 1
theorem pow_nat (k : Nat) : (2 : Int) ^ ((k : Int).toNat) = ((2 ^ k : Nat) : Int) := by
  rw [Int.toNat_natCast]; simp
theorem word_ok (f : Int) : PyData.strOk (wordOf f) = true := by
  unfold wordOf
  split
  · decide +kernel
  · split <;> decide +kernel
theorem ruler_shp (n : Int) : Shp 2 (rulerD n) := by
  rw [rulerD_eq]
  have h1 : Shp 1 (.list ((rowI n).map .int)) := Shp.list (k := 0) fun d hd => by obtain ⟨i, _, rfl⟩ := List.mem_map.mp hd; exact Shp.int
  have h2 : Shp 1 (optT (tailT n)) := by
    cases tailT n with
    | none => exact Shp.none
    | some p =>
      refine Shp.tuple (k := 0) fun d hd => ?_
      simp only [List.mem_cons, List.not_mem_nil, or_false] at hd
      rcases hd with rfl | rfl <;> exact Shp.int
  have h3 : Shp 1 (.str (wordOf (formOf n))) := Shp.str (word_ok _)
  refine Shp.tuple fun d hd => ?_
  simp only [List.mem_cons, List.not_mem_nil, or_false] at hd
  rcases hd with rfl | rfl | rfl
  · exact h1
  · exact h2
  · exact h3
theorem one_ok {c : Nat} (h : c = 32 ∨ c = 9) : PyData.strOk (one c) = true := by
  rcases h with rfl | rfl <;> decide +kernel
end Mine
namespace Mine
theorem Dats.sub {X X' : List Addr} {h₀ h : Heap} {n : Bool} (hs : ∀ a ∈ X', a ∈ X) : ∀ {vs : List Value} {ds : List PyData}, Dats X h₀ h vs ds n → Dats X' h₀ h vs ds n
  | vs, ds, ⟨as, r, q⟩ => ⟨as, r, fun a ha => ⟨fun hm => (q a ha).1 (hs a hm), (q a ha).2⟩⟩
theorem nth_get (script : List Int) {k : Nat} (h : k < 4) : (numbersF script)[k]? = some (nthF script k) := by
  have hl : k < (numbersF script).length := by rw [numbers_len]; exact h
  unfold nthF
  rw [List.getD_eq_getElem?_getD, List.getElem?_eq_getElem hl]
  rfl
theorem nth_map {α : Type} (script : List Int) (f : Int → α) {k : Nat} (h : k < 4) : ((numbersF script).map f)[k]? = some (f (nthF script k)) := by
  rw [List.getElem?_map, nth_get script h]; rfl
theorem ks_lt {c : Int} {k : Nat} (h : k ∈ ksF c) : k < 4 := List.mem_range.mp (List.mem_filter.mp h).1
theorem pow_bd {k : Nat} (h : k < 4) : 1 ≤ (2 : Int) ^ k ∧ (2 : Int) ^ k ≤ 8 := by
  match k, h with
  | 0, _ | 1, _ | 2, _ | 3, _ => decide
theorem raw_data (script : List Int) : (script.map PyData.int).take 4 ++ [PyData.int 45440, .int 21201, .int 54003, .int 144675].drop (script.take 4).length = (rawF script).map .int := by
  unfold rawF
  rw [List.map_append, List.map_take, List.map_drop]
  rfl
theorem tx_len (t : Option (Int × Int)) : (txF t).length = 18 := by simp [txF]
theorem tx_at (t : Option (Int × Int)) {j : Nat} (h : j < 18) : (⟨(txF t).toArray⟩ : Str).cps[j]? = some ((txF t).getD j 0) := by
  have : j < (txF t).length := by rw [tx_len]; exact h
  simp [this]
theorem range4_get {α : Type} (f : Nat → α) {k : Nat} (h : k < 4) : ((List.range 4).map f)[k]? = some (f k) := by
  rw [List.getElem?_map, List.getElem?_range h]; rfl
section
variable {w : World} {A : Around} {s : Shared} {mg mb : Loc} {base : Heap} {chain : List Env} {Q E : Value → Shared → Prop}
theorem c_law (T : Tb (KF w) mg mb base) (C : Cx A chain 4) (N : At base chain s) {v : Value} {script : List Int} {as : List Addr} (hv : Reads s.heap v (.list (script.map .int)) as) (hlen : script.length ≤ 100)
    (F1 : ∀ n, (wF n).2 = wordOf (formOf n)) (F2 : ∀ n, (∀ p ∈ (wF n).1, -60 ≤ p ∧ p ≤ 60) ∧ (wF n).1.length ≤ 100)
    (F3 : ∀ n, (codesF (modeF (wF n).1 (othF n) 25)).getD 0 0 = kindS.cps.getD (((othF n).fdiv 8).fmod 16).toNat 0 ∧ (codesF (modeF (wF n).1 (255 - othF n) 34)).getD 0 0 = kindS.cps.getD (((255 - othF n).fdiv 8).fmod 16).toNat 0)
    (F4 : ∀ n, textF n = txF (tailT n)) (dF : Int → List PyData)
    (F5 : ∀ c : Int, 1 ≤ c → c ≤ 15 → ToldOk ⟨(rowcF script c).toArray⟩ (fewF script) (dF c) ∧ DueOk (tsF script c) (2 ^ (ksF c).length) (fewF script) (dF c) ∧ ∀ x ∈ dF c, Shp 1 x)
    (h : ∀ s', Gr (frs chain) s s' → Q (.bool true) s') : Wp (model prg w) A (call (.ref 128) [v]) Q E s := by
  refine entw [(Str.ofString "script", v)] [(Str.ofString "script", v)] [] T C N rfl rfl rfl rfl rfl rfl rfl rfl rfl rfl fun L A' s₁ C' S => ?_
  have S := S.arg hv
  have hfu : ∀ n, (wF n).2 ≠ Str.ofString "fuel" := fun n => by
    rw [F1]; unfold wordOf
    split
    · decide +kernel
    · split <;> decide +kernel
  have C1 := C'.le (k' := 1) (by decide)
  have C2 := C'.le (k' := 2) (by decide)
  have hs100 : (script.map PyData.int).length ≤ sizeLine := by rw [List.length_map]; simp only [sizeLine]; omega
  refine ys_D S (d := .list [.int 45440, .int 21201, .int 54003, .int 144675]) (n := false) (ExD.list (ExLD.cons (ExI.toD ExI.const) (ExLD.cons (ExI.toD ExI.const) (ExLD.cons (ExI.toD ExI.const) (ExLD.cons (ExI.toD ExI.const) ExLD.nil))))) fun vs s₂ S₂ => ?_
  have l4 : (script.take 4).length ≤ 4 := by rw [List.length_take]; omega
  refine ys_setD (x := Str.ofString "numbers") (Sto.cel (c := L + 1) rfl (List.Mem.tail _ (List.Mem.tail _ (List.Mem.tail _ (List.Mem.tail _ (List.Mem.tail _ (List.Mem.head _))))))) S₂ (d := .list ((numbersF script).map .int)) (n := true)
    (Ex.mono (ExD.comp (x := Str.ofString "number") (ds := (rawF script).map .int) numG (Src.list (n := false) C'.hand (Ex.mono (ExD.addL (n := false) (ExD.weak (ExD.upto (b := 4) hs100 (ExV.toD (ExV.loc rfl) (List.Mem.tail _ (List.Mem.head _))) ExI.const)) (ExD.weak (ExD.from (b := (script.take 4).length) (by show 4 ≤ sizeLine; decide) (by show _ ≤ 4; exact l4) (ExV.toD (ExV.loc rfl) (List.Mem.head _)) (ExI.len T rfl (ExD.upto (b := 4) hs100 (ExV.toD (ExV.loc rfl) (List.Mem.tail _ (List.Mem.head _))) ExI.const) (by rw [← List.map_take, List.length_map]) (by omega)))) ?hsz1) fun v h x => by rw [raw_data] at x; exact x)) Cl.nil ?hsz2 ?turn1) fun v h x => by rw [num_data] at x; exact x) fun vn s₃ S₃ => ?_
  case hsz1 =>
    have : ([PyData.int 45440, .int 21201, .int 54003, .int 144675].drop (script.take 4).length).length ≤ 4 := by rw [List.length_drop]; exact Nat.sub_le _ _
    rw [List.length_take]; simp only [sizeLine]; omega
  case hsz2 =>
    have e := numbers_len script
    unfold numbersF at e
    rw [List.length_map] at e ⊢
    rw [e]; decide
  case turn1 =>
    intro d hd X' h' g' o' C D ys dat' m vv hold hvv
    obtain ⟨i, hi, rfl⟩ := List.mem_map.mp hd
    exact ⟨true, Ts.nil, fun _ => ⟨.int (i.fmod (2 ^ 24)), rfl, ExI.toD (ExI.mod (by decide) (ExD.toI (ExV.toD (ExV.loc rfl) hvv)) (ExI.pow (by decide) (by decide +kernel) ExI.const ExI.const))⟩, fun z => by cases z⟩
  refine ys_I S₃ (ExI.mod (by decide) (ExI.add ExI.const (ExI.sum (is := numbersF script) (n := true) T C'.hand (by rfl) (ExV.toD (ExV.cel rfl rfl) (List.Mem.head _)))) ExI.const) fun tf s₄ S₄ => ?_
  refine ys_setD (x := Str.ofString "rulers") (Sto.cel (c := L + 1 + 1) rfl (List.Mem.tail _ (List.Mem.tail _ (List.Mem.tail _ (List.Mem.tail _ (List.Mem.head _)))))) S₄ (d := .list ((numbersF script).map rulerD)) (n := true)
    (Ex.mono (ExD.comp (x := Str.ofString "number") (ds := (numbersF script).map .int) rulG (Src.list (n := true) C'.hand (ExV.toD (ExV.cel rfl rfl) (List.Mem.head _))) Cl.nil ?hsz3 ?turn3) fun v h x => by rw [rul_data] at x; exact x) fun vr s₅ S₅ => ?_
  case hsz3 => rw [List.length_map, numbers_len]; decide
  case turn3 =>
    intro d hd X' h' g' o' C D ys dat' m vv hold hvv
    obtain ⟨i, hi, rfl⟩ := List.mem_map.mp hd
    exact ⟨true, Ts.nil, fun _ => ⟨rulerD i, rfl, exD_ruler T C1 (ExD.toI (ExV.toD (ExV.loc rfl) hvv))⟩, fun z => by cases z⟩
  refine ys_setD (x := Str.ofString "walks") (Sto.cel (c := L + 1 + 1 + 1) rfl (List.Mem.tail _ (List.Mem.tail _ (List.Mem.tail _ (List.Mem.head _))))) S₅ (d := .list ((numbersF script).map fun n => walkD (wF n))) (n := true)
    (Ex.mono (ExD.comp (x := Str.ofString "ruler") (ds := (numbersF script).map rulerD) walG (Src.list (n := true) C'.hand (ExV.toD (ExV.cel rfl rfl) (List.Mem.head _))) Cl.nil ?hsz4 ?turn4) fun v h x => by rw [wal_data] at x; exact x) fun vw s₆ S₆ => ?_
  case hsz4 => rw [List.length_map, numbers_len]; decide
  case turn4 =>
    intro d hd X' h' g' o' C D ys dat' m vv hold hvv
    obtain ⟨i, hi, rfl⟩ := List.mem_map.mp hd
    have hvv' : (vv, PyData.tuple [.list ((rowI i).map .int), optT (tailT i), .str (wordOf (formOf i))], false) ∈ dat' := by rw [← rulerD_eq]; exact hvv
    exact ⟨true, Ts.nil, fun _ => ⟨walkD (wF i), walG_eq i, exD_walk T C2 (ExD.atT (ExV.toD (ExV.loc rfl) hvv') ExI.const (by decide) (by decide) rfl) rfl (hfu i)⟩, fun z => by cases z⟩
  refine ys_setD (x := Str.ofString "texts") (Sto.cel (c := L + 1 + 1 + 1 + 1) rfl (List.Mem.tail _ (List.Mem.tail _ (List.Mem.head _)))) S₆ (d := .list ((List.range 4).map fun k => .str ⟨(textF (nthF script k)).toArray⟩)) (n := true)
    (Ex.mono (ExD.comp (x := Str.ofString "k") (txtG script) (Src.range_of C'.hand (a := 0) (b := 4) (by decide) (by decide) (by decide) (by decide) (Ex.range1 T (by rfl) ExI.const)) (Cl.of (cl := [(Str.ofString "walks", L + 1 + 1 + 1), (Str.ofString "numbers", L + 1)]) S₆.ap (List.forall_mem_cons.mpr ⟨rfl, List.forall_mem_cons.mpr ⟨rfl, List.forall_mem_nil _⟩⟩) (by with_unfolding_all rfl) [Str.ofString "walks", Str.ofString "numbers"]) ?hsz5 ?turn5) fun v h x => by rw [txt_data] at x; exact x) fun vt s₇ S₇ => ?_
  case hsz5 => simp only [List.length_map, List.length_range, sizeLine]; decide
  case turn5 =>
    intro d hd
    obtain ⟨i, hi, rfl⟩ := List.mem_map.mp hd
    rw [Int.zero_add]
    have hi4 : i < 4 := List.mem_range.mp hi
    intro X' h' g' o' C D ys dat' m vv hold hvv
    have d1 : (vw, PyData.list ((numbersF script).map fun n => walkD (wF n)), false) ∈ dat' := hold _ (List.Mem.head _)
    have d2 : (vn, PyData.list ((numbersF script).map .int), false) ∈ dat' := hold _ (List.Mem.tail _ (List.Mem.tail _ (List.Mem.head _)))
    have hb := F2 (nthF script i)
    have hk := F3 (nthF script i)
    exact ⟨true, Ts.nil, fun _ => ⟨.str ⟨(textF (nthF script i)).toArray⟩, rfl, ExS.toD (exS_shown T C' (ExD.atT (ds := [.list ((wF (nthF script i)).1.map .int), .str (wF (nthF script i)).2]) (ExD.atL (ExV.toD (ExV.cel rfl rfl) d1) (ExD.toI (ExV.toD (ExV.loc rfl) hvv)) (by omega) (by omega) (nth_map script _ hi4)) ExI.const (by decide) (by decide) rfl)
      (ExI.mod (by decide) (ExI.fdiv (by decide) (PyProof.noPylong_small (by decide)) (ExD.toI (ExD.atL (ExV.toD (ExV.cel rfl rfl) d2) (ExD.toI (ExV.toD (ExV.loc rfl) hvv)) (by omega) (by omega) (nth_map script _ hi4))) ExI.const) ExI.const) hb.1 hb.2 hk.1 hk.2)⟩, fun z => by cases z⟩
  have htx : ((List.range 4).map fun k => PyData.str ⟨(textF (nthF script k)).toArray⟩) = (List.range 4).map fun k => PyData.str ⟨(txF (tailT (nthF script k))).toArray⟩ := by
    apply List.map_congr_left; intro k _; rw [F4]
  rw [htx] at S₇
  clear htx
  refine ys_swapLL (x := Str.ofString "told") (y := Str.ofString "due") (by kernel_rfl) (by kernel_rfl) C'.hand S₇ fun D D' s₈ S₈ => ?_
  refine ys_for1S (x := Str.ofString "choice") (Sto.cel (c := L + 1 + 1 + 1 + 1 + 1) rfl (List.Mem.tail _ (List.Mem.head _))) S₈ (Src.range_of C'.hand (a := 1) (b := 16) (by decide) (by decide) (by decide) (by decide) (Ex.range2 T (by rfl) ExI.const ExI.const))
    (fun i Y => ∃ dat m cm zs ys, Y = ⟨[(D', zs), (D, ys)], dat, m, cm⟩ ∧ Known dat ys ((List.range i).map fun j : Nat => .list (dF (1 + j))) ∧ Known dat zs ((List.range i).map fun j : Nat => .list (dF (1 + j))) ∧ m.lookup (Str.ofString "told") = some (.ref D) ∧ m.lookup (Str.ofString "due") = some (.ref D') ∧ m.lookup (Str.ofString "few") = some (.int (fewF script) tf) ∧
      cm.lookup (Str.ofString "numbers") = some vn ∧ cm.lookup (Str.ofString "rulers") = some vr ∧ cm.lookup (Str.ofString "walks") = some vw ∧ cm.lookup (Str.ofString "texts") = some vt ∧ cm.lookup (Str.ofString "j") = none)
    ⟨[], _, _, [], [], rfl, trivial, trivial, rfl, rfl, rfl, rfl, rfl, rfl, rfl, rfl⟩ ?_ ?_
  · rintro i d vc D0 dat' Yi s₉ s₁₀ E' hdi ⟨dat, m, cm, zs, ys, rfl, k1, k2, m1, m2, m3, c1, c2, c3, c4, c5⟩ hA hold hold' hold'' hvc S₉ S₁₀
    rw [List.getElem?_map] at hdi
    obtain ⟨i', hi', rfl⟩ := Option.map_eq_some_iff.mp hdi
    have hlt : i < 15 := by
      have := (List.getElem?_eq_some_iff.mp hi').1
      rw [List.length_range] at this
      exact this
    have e0 : i' = i := by
      rw [List.getElem?_range (show i < (16 - 1 : Int).toNat from hlt)] at hi'
      exact (Option.some.inj hi').symm
    subst e0
    obtain ⟨tc, rfl⟩ := (S₁₀.da _ hvc).isInt
    obtain ⟨f1, f2, f3⟩ := F5 (1 + (i' : Int)) (by omega) (by omega)
    generalize hc : 1 + (i' : Int) = c at f1 f2 f3 S₁₀ hvc
    have hc0 : 1 ≤ c ∧ c ≤ 15 := by omega
    have dn : (vn, PyData.list ((numbersF script).map .int), false) ∈ dat' := hold' _ (List.Mem.tail _ (List.Mem.tail _ (List.Mem.tail _ (List.Mem.head _))))
    have dr : (vr, PyData.list ((numbersF script).map rulerD), false) ∈ dat' := hold' _ (List.Mem.tail _ (List.Mem.tail _ (List.Mem.head _)))
    have dt : (vt, PyData.list ((List.range 4).map fun k => .str ⟨(txF (tailT (nthF script k))).toArray⟩), false) ∈ dat' := hold' _ (List.Mem.head _)
    have hks := ks_len c
    have h16 := pow4 hks
    have p16 : -(2 ^ 62) ≤ ((2 ^ (ksF c).length : Nat) : Int) ∧ ((2 ^ (ksF c).length : Nat) : Int) < 2 ^ 62 := by
      generalize 2 ^ (ksF c).length = M at h16
      omega
    refine ys_setD (x := Str.ofString "chosen") (Sto.cel (c := L + 1 + 1 + 1 + 1 + 1 + 1) rfl (List.Mem.head _)) S₁₀ (d := .list ((ksF c).map fun k : Nat => .int k)) (n := true)
      (Ex.mono (ExD.comp (x := Str.ofString "k") (choG c) (Src.range_of C'.hand (a := 0) (b := 4) (by decide) (by decide) (by decide) (by decide) (Ex.range1 T (by rfl) ExI.const)) (Cl.of (cl := [(Str.ofString "choice", L + 1 + 1 + 1 + 1 + 1)]) S₁₀.ap (List.forall_mem_cons.mpr ⟨rfl, List.forall_mem_nil _⟩) (by with_unfolding_all rfl) [Str.ofString "choice"]) ?hsz6 ?turn6) fun v h x => by rw [cho_data] at x; exact x) fun vk s₁₁ S₁₁ => ?_
    case hsz6 => simp only [List.length_map, List.length_range, sizeLine]; decide
    case turn6 =>
      intro d hd
      obtain ⟨k, hk, rfl⟩ := List.mem_map.mp hd
      rw [Int.zero_add]
      have hk4 : k < 4 := List.mem_range.mp hk
      have hp := pow_bd hk4
      intro X' h' g' o' C D1 ys1 dat1 m' vv hold2 hvv
      refine ⟨bitF c k, Ts.one (Tr.cmpI CmpI.eq (ExI.mod (by decide) (ExI.fdiv (by show (2 : Int) ^ k ≠ 0; omega) (PyProof.noPylong_small (by show ((2 : Int) ^ k).natAbs < _; omega)) (ExV.toI (ExV.cel rfl rfl)) (ExI.pow (a := 2) (b := k) (by omega) (pow2_ok k (by omega)) ExI.const (ExD.toI (ExV.toD (ExV.loc rfl) hvv)))) ExI.const) ExI.const), fun hb => ⟨.int k, if_pos hb, ExI.toD (ExD.toI (ExV.toD (ExV.loc rfl) hvv))⟩, fun hb => if_neg (by show ¬ bitF c k = true; rw [hb]; decide)⟩
    have hkl : ((ksF c).map fun k : Nat => PyData.int k).length ≤ sizeLine := by rw [List.length_map]; simp only [sizeLine]; omega
    have m3' : ∀ Y : Sy, Y.m = m → Y.m.lookup (Str.ofString "few") = some (.int (fewF script) tf) := fun Y e => by rw [e]; exact m3
    have hz := k2.len
    have hy := k1.len
    rw [List.length_map, List.length_range] at hz hy
    refine ys_appendD (pre := [(D', zs)]) (post := []) S₁₁ m1 rfl (by simp only [sizeLine]; omega) (n := true) (exD_told T C2 (x := ⟨(rowcF script c).toArray⟩) (Ex.mono (ExS.join (xs := (rowcF script c).map one) (n := true) (Ex.mono (ExD.compC (x := Str.ofString "j") (ovlG script c) (Src.range_of C'.hand (a := 0) (b := ((2 ^ (ksF c).length : Nat) : Int)) (by decide) (by decide) p16.1 p16.2 (Ex.range1 T (by rfl) (Ex.mono (ExI.pow (a := 2) (b := ((ksF c).length : Int)) (by omega) (pow2_ok _ (by omega)) ExI.const (ExI.len T rfl (ExV.toD (ExV.cel rfl rfl) (List.Mem.head _)) (List.length_map _) (by omega))) fun v h x => by rw [pow_nat] at x; exact x)))
      (Cl.of (cl := [(Str.ofString "texts", L + 1 + 1 + 1 + 1), (Str.ofString "chosen", L + 1 + 1 + 1 + 1 + 1 + 1)]) S₁₁.ap (List.forall_mem_cons.mpr ⟨rfl, List.forall_mem_cons.mpr ⟨rfl, List.forall_mem_nil _⟩⟩) (by with_unfolding_all rfl) [Str.ofString "texts", Str.ofString "chosen"])
      (List.forall_mem_cons.mpr ⟨rfl, List.forall_mem_cons.mpr ⟨rfl, List.forall_mem_nil _⟩⟩) ?hxn ?hsz7 ?turn7) fun v h x => by rw [ovl_data] at x; exact x) ?hok) fun v h x => by rw [joinE] at x; exact x) (ExV.toI (ExV.loc (m3' _ rfl))) f1) fun vd s₁₂ S₁₂ => ?_
    case hxn => exact c5
    case hsz7 =>
      rw [List.length_map, List.length_range]
      generalize 2 ^ (ksF c).length = M at h16
      simp only [sizeLine]; omega
    case hok => exact joinOk_small (by rw [List.length_map]; unfold rowcF; rw [List.length_map, List.length_range]; omega) (fun t ht => by obtain ⟨c, _, rfl⟩ := List.mem_map.mp ht; show 1 ≤ 1000; decide)
    case turn7 =>
      intro d hd
      obtain ⟨j, hj, rfl⟩ := List.mem_map.mp hd
      rw [Int.zero_add]
      have hj16 : j < 16 := by
        have h1 := List.mem_range.mp hj
        generalize 2 ^ (ksF c).length = m at h1 h16
        omega
      intro X' h' g' o' CC J D1 ys1 dat1 m' cm' vv hap hold2 hvv hcm
      have dk : (vk, PyData.list ((ksF c).map fun k : Nat => .int k), false) ∈ dat1 := hold2 _ (List.Mem.head _)
      have dt1 : (vt, PyData.list ((List.range 4).map fun k => .str ⟨(txF (tailT (nthF script k))).toArray⟩), false) ∈ dat1 := hold2 _ (List.Mem.tail _ (List.mem_map.mpr ⟨_, dt, rfl⟩))
      have e1 : cm'.lookup (Str.ofString "chosen") = some vk := (hcm _ (by decide)).trans rfl
      have e2 : cm'.lookup (Str.ofString "texts") = some vt := (hcm _ (by decide)).trans c4
      refine ⟨true, Ts.nil, fun _ => ⟨.str (overlaid (((ksF c).map fun k => (txF (tailT (nthF script k))).getD j 0).map one)), rfl, ExS.toD (exS_overlaid T C1 (n := true) (Ex.mono (ExD.comp (x := Str.ofString "k") (sgnG script j) (Src.list (n := false) C'.hand (ExV.toD (ExV.cel rfl e1) dk)) (Cl.of (cl := [(Str.ofString "texts", L + 1 + 1 + 1 + 1), (Str.ofString "j", J)]) hap (List.forall_mem_cons.mpr ⟨rfl, List.forall_mem_cons.mpr ⟨rfl, List.forall_mem_nil _⟩⟩) (by with_unfolding_all rfl) [Str.ofString "texts", Str.ofString "j"]) ?hsz8 ?turn8) fun v h x => by rw [sgn_data] at x; exact x) ?hok8)⟩, fun z => by cases z⟩
      case hsz8 => exact hkl
      case hok8 =>
        refine (Shp.all (k := 0) fun d hd => ?_).1
        obtain ⟨x, hx, rfl⟩ := List.mem_map.mp hd
        obtain ⟨y, hy, rfl⟩ := List.mem_map.mp hx
        obtain ⟨k, hk, rfl⟩ := List.mem_map.mp hy
        refine Shp.str (one_ok ?_)
        rcases tx_sgn (tailT (nthF script k)) j with h | h | h
        · exact .inl h
        · exact .inr h
        · omega
      case turn8 =>
        intro d hd
        obtain ⟨k, hk, rfl⟩ := List.mem_map.mp hd
        have hk4 := ks_lt hk
        intro X'' h'' g'' o'' CC2 D2 ys2 dat2 m2' v2 hold3 hv2
        have dt2 : (vt, PyData.list ((List.range 4).map fun k => .str ⟨(txF (tailT (nthF script k))).toArray⟩), false) ∈ dat2 := hold3 _ (List.mem_map.mpr ⟨_, dt1, rfl⟩)
        have dj2 : (vv, PyData.int j, false) ∈ dat2 := hold3 _ (List.mem_map.mpr ⟨_, hvv, rfl⟩)
        exact ⟨true, Ts.nil, fun _ => ⟨.str (one ((txF (tailT (nthF script k))).getD j 0)), rfl, ExS.toD (ExS.at (ExD.toS (ExD.atL (ExV.toD (ExV.cel rfl e2) dt2) (ExD.toI (ExV.toD (ExV.loc rfl) hv2)) (by omega) (by omega) (range4_get _ hk4))) (ExD.toI (ExV.toD (ExV.cel rfl rfl) dj2)) (by omega) (by omega) (tx_at _ (by omega)))⟩, fun z => by cases z⟩
    refine ys_appendD (pre := []) (post := [(D, ys ++ [vd])]) S₁₂ m2 rfl (by simp only [sizeLine]; omega) (n := true) (exD_due (n := true) T C2 (Ex.mono (ExD.comp (x := Str.ofString "k") (taiG script) (Src.list (n := true) C'.hand (ExV.toD (ExV.cel rfl rfl) (List.Mem.tail _ (List.Mem.head _)))) (Cl.of (cl := [(Str.ofString "rulers", L + 1 + 1)]) S₁₂.ap (List.forall_mem_cons.mpr ⟨rfl, List.forall_mem_nil _⟩) (by with_unfolding_all rfl) [Str.ofString "rulers"]) ?hsz9 ?turn9) fun v h x => by rw [tai_data] at x; exact x)
      (Ex.mono (ExI.pow (a := 2) (b := ((ksF c).length : Int)) (by omega) (pow2_ok _ (by omega)) ExI.const (ExI.len T rfl (ExV.toD (ExV.cel rfl rfl) (List.Mem.tail _ (List.Mem.head _))) (List.length_map _) (by omega))) fun v h x => by rw [pow_nat] at x; exact x) (ExV.toI (ExV.loc (m3' _ rfl))) (fun t ht => ⟨(ts_good script c t ht).1, (ts_good script c t ht).2.1⟩) (Nat.le_trans (List.length_filterMap_le _ _) hks) h16 f2) fun ve s₁₃ S₁₃ => ?_
    case hsz9 => exact hkl
    case turn9 =>
      intro d hd
      obtain ⟨k, hk, rfl⟩ := List.mem_map.mp hd
      have hk4 := ks_lt hk
      intro X'' h'' g'' o'' CC2 D2 ys2 dat2 m2' v2 hold3 hv2
      have dr2 : (vr, PyData.list ((numbersF script).map fun n => PyData.tuple [.list ((rowI n).map .int), optT (tailT n), .str (wordOf (formOf n))]), false) ∈ dat2 := by
        have e : (numbersF script).map rulerD = (numbersF script).map fun n => PyData.tuple [.list ((rowI n).map .int), optT (tailT n), .str (wordOf (formOf n))] := List.map_congr_left fun n _ => rulerD_eq n
        rw [← e]
        exact hold3 _ (List.Mem.tail _ (List.Mem.tail _ (List.mem_map.mpr ⟨_, dr, rfl⟩)))
      refine ⟨(tailT (nthF script k)).isSome, Ts.one (Tr.notNoneD (o := tailT (nthF script k)) (n := false) (ExD.atT (ExD.atL (ExV.toD (ExV.cel rfl c2) dr2) (ExD.toI (ExV.toD (ExV.loc rfl) hv2)) (by omega) (by omega) (nth_map script _ hk4)) ExI.const (by decide) (by decide) rfl)), fun hb => ?_, fun hb => ?_⟩
      · obtain ⟨p, hp⟩ := Option.isSome_iff_exists.mp hb
        refine ⟨tupI p, ?_, Ex.mono (ExD.atT (ExD.atL (ExV.toD (ExV.cel rfl c2) dr2) (ExD.toI (ExV.toD (ExV.loc rfl) hv2)) (by omega) (by omega) (nth_map script _ hk4)) ExI.const (by decide) (by decide) rfl) fun v h x => ?_⟩
        · show (tailT (nthF script k)).map tupI = _
          rw [hp]; rfl
        · have x' : Dat _ _ h v (optT (tailT (nthF script k))) false := x
          rw [hp] at x'
          exact Dat.flat x' rfl
      · show (tailT (nthF script k)).map tupI = none
        cases ht : tailT (nthF script k) with
        | none => rfl
        | some p => rw [ht] at hb; cases hb
    have e3 : ((List.range (i' + 1)).map fun j : Nat => PyData.list (dF (1 + j))) = ((List.range i').map fun j : Nat => PyData.list (dF (1 + j))) ++ [.list (dF c)] := by
      rw [List.range_succ, List.map_append, ← hc]; rfl
    have up : ∀ p ∈ dat, p.2.2 = false → p ∈ dat' := fun p hp hf => by
      have := hold'' p (List.mem_map.mpr ⟨p, hp, by rw [← hf]⟩)
      exact this
    refine ys_nil (Lp.next ⟨_, ?_, ⟨_, m, (Str.ofString "chosen", vk) :: (Str.ofString "choice", Value.int c tc) :: cm, zs ++ [ve], ys ++ [vd], rfl, ?_, ?_, m1, m2, m3, c1, c2, c3, c4, c5⟩, S₁₃⟩)
    · rfl
    · rw [e3]
      refine Known.snoc (List.Mem.tail _ (List.Mem.head _)) (k1.mono fun p hp hf => ?_)
      exact List.Mem.tail _ (List.Mem.tail _ (List.Mem.tail _ (List.mem_map.mpr ⟨p, up p hp hf, by rw [← hf]⟩)))
    · rw [e3]
      refine Known.snoc (List.Mem.head _) (k2.mono fun p hp hf => ?_)
      exact List.Mem.tail _ (List.Mem.tail _ (List.Mem.tail _ (List.mem_map.mpr ⟨p, up p hp hf, by rw [← hf]⟩)))
  · rintro Yn s₉ E' D0 ⟨dat, m, cm, zs, ys, rfl, k1, k2, m1, m2, m3, c1, c2, c3, c4, c5⟩ hA hold S₉
    have e15 : ((List.range (16 - 1 : Int).toNat).map fun i : Nat => PyData.int (1 + i)).length = 15 := by rw [List.length_map, List.length_range]; rfl
    rw [e15] at k1 k2
    refine ys_nil (Nx.next ?_)
    have dn : (vn, PyData.list ((numbersF script).map .int), false) ∈ dat ++ D0 := List.mem_append_right _ (hold _ (List.Mem.tail _ (List.Mem.tail _ (List.Mem.tail _ (List.Mem.head _)))))
    have dr : (vr, PyData.list ((numbersF script).map rulerD), false) ∈ dat ++ D0 := List.mem_append_right _ (hold _ (List.Mem.tail _ (List.Mem.tail _ (List.Mem.head _))))
    have dw : (vw, PyData.list ((numbersF script).map fun n => walkD (wF n)), false) ∈ dat ++ D0 := List.mem_append_right _ (hold _ (List.Mem.tail _ (List.Mem.head _)))
    have S₉' : St (callPa base chain s (Str.ofString "law") _ L 128 (Value.ref 127)) ⟨[(D', zs), (D, ys)], dat ++ D0, m, cm⟩ s₉.heap s₉.gens s₉.os := S₉
    have R1 := S₉'.release' (n := false) (fun h => by cases h) (Dats.sub (fun a ha => by
      simp only [mu, List.mem_cons, List.mem_append, List.map_cons, List.map_nil, List.not_mem_nil, or_false] at ha ⊢
      rcases ha with h | h | h <;> simp [h]) (Known.dats S₉'.da (k2.mono fun p hp _ => List.mem_append_left _ hp)))
    have R2 := R1.release' (n := false) (fun h => by cases h) (Dats.sub (fun a ha => by
      simp only [mu, List.mem_cons, List.mem_append, List.map_cons, List.map_nil, List.not_mem_nil, or_false] at ha ⊢
      rcases ha with h | h <;> simp [h]) (Known.dats R1.da (k1.mono fun p hp _ => List.mem_cons_of_mem _ (List.mem_append_left _ hp))))
    generalize hT : ((List.range 15).map fun j : Nat => PyData.list (dF (1 + j))) = TT at R1 R2
    have hTs : Shp 3 (.list TT) := by
      rw [← hT]
      refine Shp.list fun d hd => ?_
      obtain ⟨j, hj, rfl⟩ := List.mem_map.mp hd
      have := List.mem_range.mp hj
      exact Shp.list fun x hx => (F5 (1 + j) (by omega) (by omega)).2.2 x hx
    have hRs : Shp 3 (.list ((numbersF script).map rulerD)) := by
      refine Shp.list fun d hd => ?_
      obtain ⟨j, hj, rfl⟩ := List.mem_map.mp hd
      exact ruler_shp j
    have hWs : Shp 1 (.list ((numbersF script).map fun n => .str (wordOf (formOf n)))) := by
      refine Shp.list fun d hd => ?_
      obtain ⟨j, hj, rfl⟩ := List.mem_map.mp hd
      exact Shp.str (word_ok _)
    have hu : A'.units + 64 < cLine := by have := C'.units; omega
    have sk : ∀ {p : Value × PyData × Bool}, p ∈ dat ++ D0 → p ∈ (Value.ref D, PyData.list TT, false) :: (Value.ref D', PyData.list TT, false) :: (dat ++ D0) := fun h => List.Mem.tail _ (List.Mem.tail _ h)
    refine ys_if R2 (Tr.cmp (CmpV.neD (n := true) (n' := true) (hWs.shaped (by decide)) (hWs.shaped (by decide)) hu)
      (Ex.mono (ExD.comp (x := Str.ofString "walk") (ds := (numbersF script).map fun n => walkD (wF n)) wlkG (Src.list (n := false) C'.hand (ExV.toD (ExV.cel rfl c3) (sk dw))) Cl.nil ?hsz10 ?turn10) fun v h x => by rw [wlk_data, show ((numbersF script).map fun n => PyData.str (wF n).2) = (numbersF script).map fun n => PyData.str (wordOf (formOf n)) from List.map_congr_left fun n _ => by rw [F1]] at x; exact x)
      (Ex.mono (ExD.comp (x := Str.ofString "ruler") (ds := (numbersF script).map rulerD) rlrG (Src.list (n := false) C'.hand (ExV.toD (ExV.cel rfl c2) (sk dr))) Cl.nil ?hsz11 ?turn11) fun v h x => by rw [rlr_data] at x; exact x) keepD) (fun z => ?_) (fun _ s₁₀ S₁₀ => ys_nil (Nx.next ?_))
    case hsz10 => rw [List.length_map, numbers_len]; decide
    case hsz11 => rw [List.length_map, numbers_len]; decide
    case turn10 =>
      intro d hd X' h' g' o' CC D1 ys1 dat1 m' vv hold2 hvv
      obtain ⟨i, hi, rfl⟩ := List.mem_map.mp hd
      have hvv' : (vv, PyData.tuple [.list ((wF i).1.map .int), .str (wF i).2], false) ∈ dat1 := hvv
      exact ⟨true, Ts.nil, fun _ => ⟨.str (wF i).2, rfl, ExS.toD (ExD.toS (ExD.atT (ExV.toD (ExV.loc rfl) hvv') ExI.const (by decide) (by decide) rfl))⟩, fun z => by cases z⟩
    case turn11 =>
      intro d hd X' h' g' o' CC D1 ys1 dat1 m' vv hold2 hvv
      obtain ⟨i, hi, rfl⟩ := List.mem_map.mp hd
      have hvv' : (vv, PyData.tuple [.list ((rowI i).map .int), optT (tailT i), .str (wordOf (formOf i))], false) ∈ dat1 := by rw [← rulerD_eq]; exact hvv
      exact ⟨true, Ts.nil, fun _ => ⟨.str (wordOf (formOf i)), by rw [rulerD_eq]; rfl, ExS.toD (ExD.toS (ExD.atT (ExV.toD (ExV.loc rfl) hvv') ExI.const (by decide) (by decide) rfl))⟩, fun z => by cases z⟩
    · rw [eqv_refl _ hWs.1] at z; cases z
    refine ys_ret S₁₀ (V := fun v _ => v = Value.bool true) (Ex.mono (ExV.and2 (ExV.cmp (CmpV.eqD (n := false) (n' := false) (hTs.shaped (by decide)) (hTs.shaped (by decide)) hu) (ExV.toD (ExV.loc m1) (List.Mem.head _)) (ExV.toD (ExV.loc m2) (List.Mem.tail _ (List.Mem.head _))) keepD)
      (ExV.cmp (CmpV.eqD (n := false) (n' := true) (hRs.shaped (by decide)) (hRs.shaped (by decide)) hu) (ExV.toD (ExV.cel rfl c2) (sk dr)) (Ex.mono (ExD.comp (x := Str.ofString "number") (ds := (numbersF script).map .int) rulG (Src.list (n := false) C'.hand (ExV.toD (ExV.cel rfl c1) (sk dn))) Cl.nil ?hsz12 ?turn12) fun v h x => by rw [rul_data] at x; exact x) keepD)) fun v h x => ?_) fun v s' S' hv => ⟨?_⟩
    case hsz12 => rw [List.length_map, numbers_len]; decide
    case turn12 =>
      intro d hd X' h' g' o' CC D1 ys1 dat1 m' vv hold2 hvv
      obtain ⟨i, hi, rfl⟩ := List.mem_map.mp hd
      exact ⟨true, Ts.nil, fun _ => ⟨rulerD i, rfl, exD_ruler T C1 (ExD.toI (ExV.toD (ExV.loc rfl) hvv))⟩, fun z => by cases z⟩
    · rw [eqv_refl _ hTs.1, eqv_refl _ hRs.1] at x; exact x
    · subst hv
      exact h s' (S'.done rfl)
end
end Mine
namespace Mine
/-- nine signs of a sum -/
noncomputable def nine (S : Nat) : List Nat := (List.range 9).map fun k => if S.testBit (8 - k) then 32 else 9
noncomputable def chk (f a b : Int) : Bool :=
  let W := walkG (rowOf f a b) 40 0 0 []
  let x := (sumF W.1 25).sum
  let y := (sumF W.1 34).sum
  W.2 == wordOf f && W.1.all (fun p => decide (-60 ≤ p) && decide (p ≤ 60)) && decide (W.1.length ≤ 100) && decide (0 ≤ x) && decide (x < 512) && decide (0 ≤ y) && decide (y < 512) && (nine x.toNat ++ nine y.toNat == txF (tailP f a b))
noncomputable def chkF (f : Nat) : Bool := (List.range 8).all fun a => (List.range 8).all fun b => chk f ((a + 1 : Nat) : Int) ((b + 1 : Nat) : Int)
theorem chk0 : chkF 0 = true := by decide +kernel
theorem chk1 : chkF 1 = true := by decide +kernel
theorem chk2 : chkF 2 = true := by decide +kernel
theorem chk3 : chkF 3 = true := by decide +kernel
theorem chk4 : chkF 4 = true := by decide +kernel
theorem chk5 : chkF 5 = true := by decide +kernel
theorem chk6 : chkF 6 = true := by decide +kernel
theorem chk7 : chkF 7 = true := by decide +kernel
theorem chk8 : chkF 8 = true := by decide +kernel
theorem chk9 : chkF 9 = true := by decide +kernel
theorem chk_all (n : Int) : chk (formOf n) (leadOf n) (stepOf n) = true := by
  have hf := form_bd n
  have hl := lead_bd n
  have hs := step_bd n
  generalize formOf n = f at *
  generalize leadOf n = a at *
  generalize stepOf n = b at *
  obtain ⟨f, rfl⟩ := Int.eq_ofNat_of_zero_le hf.1
  obtain ⟨a, ha⟩ : ∃ k : Nat, a = ((k + 1 : Nat) : Int) := ⟨(a - 1).toNat, by (first | lia | omega)⟩
  obtain ⟨b, hb⟩ : ∃ k : Nat, b = ((k + 1 : Nat) : Int) := ⟨(b - 1).toNat, by (first | lia | omega)⟩
  subst ha hb
  have key : chkF f = true := by
    have : f < 10 := by (first | lia | omega)
    match f, this with
    | 0, _ => exact chk0
    | 1, _ => exact chk1
    | 2, _ => exact chk2
    | 3, _ => exact chk3
    | 4, _ => exact chk4
    | 5, _ => exact chk5
    | 6, _ => exact chk6
    | 7, _ => exact chk7
    | 8, _ => exact chk8
    | 9, _ => exact chk9
  unfold chkF at key
  exact List.all_eq_true.mp (List.all_eq_true.mp key a (List.mem_range.mpr (by (first | lia | omega)))) b (List.mem_range.mpr (by (first | lia | omega)))
end Mine
namespace Mine
theorem bitAnd_nat (m p : Nat) : Builtin.bitAnd (m : Int) (p : Int) = ((m &&& p : Nat) : Int) := by
  unfold Builtin.bitAnd
  have h1 : decide (0 ≤ (m : Int)) = true := decide_eq_true (by omega)
  have h2 : decide (0 ≤ (p : Int)) = true := decide_eq_true (by omega)
  rw [h1, h2]
  simp
theorem and_low {m p : Nat} (h : p < 4096) : m &&& p = (m % 4096) &&& p := by
  apply Nat.eq_of_testBit_eq
  intro i
  rw [Nat.testBit_and, Nat.testBit_and, show (4096 : Nat) = 2 ^ 12 from rfl, Nat.testBit_mod_two_pow]
  by_cases hi : i < 12
  · simp [hi]
  · have : p.testBit i = false := Nat.testBit_lt_two_pow (Nat.lt_of_lt_of_le h (by
      have : 12 ≤ i := by omega
      exact Nat.pow_le_pow_right (n := 2) (by decide) this))
    rw [this]; simp
theorem and_high (m : Nat) : m &&& 61440 = 4096 * ((m / 4096) % 16) := by
  apply Nat.eq_of_testBit_eq
  intro i
  rw [Nat.testBit_and, show (61440 : Nat) = 2 ^ 12 * (2 ^ 4 - 1) from rfl, show (4096 : Nat) = 2 ^ 12 from rfl, show (16 : Nat) = 2 ^ 4 from rfl, Nat.testBit_two_pow_mul, Nat.testBit_two_pow_mul, Nat.testBit_two_pow_sub_one, Nat.testBit_mod_two_pow, Nat.testBit_div_two_pow]
  by_cases hi : 12 ≤ i
  · rw [show i - 12 + 12 = i by omega]
    simp [hi, Bool.and_comm]
  · simp [hi]
/-- the table, in Nat -/
theorem code_low {idx : Nat} (hi : idx ≠ 0) {m m' : Nat} (hm : m % 4096 = m' % 4096) : ∀ l : List (Int × Nat), (∀ p ∈ l, ∃ q : Nat, p.1 = q ∧ q < 4096) → fmCode m idx l = fmCode m' idx l
  | [], _ => rfl
  | p :: r, h => by
    obtain ⟨q, hq, hlt⟩ := h p List.mem_cons_self
    have ih := code_low hi hm r fun x hx => h x (List.mem_cons_of_mem _ hx)
    unfold fmCode
    rw [ih]
    have : fmTest m idx p.1 = fmTest m' idx p.1 := by
      unfold fmTest
      rw [if_neg hi, if_neg hi, hq, bitAnd_nat, bitAnd_nat, and_low hlt, hm, ← and_low hlt]
    rw [this]
theorem codes_low {m m' : Nat} (hm : m % 4096 = m' % 4096) : ∀ (ls : List (List (Int × Nat))) (idx : Nat), idx ≠ 0 → (∀ l ∈ ls, ∀ p ∈ l, ∃ q : Nat, p.1 = q ∧ q < 4096) → fmCodes m idx ls = fmCodes m' idx ls
  | [], _, _, _ => rfl
  | l :: ls, idx, hi, h => by
    unfold fmCodes
    rw [code_low hi hm l (h l List.mem_cons_self), codes_low hm ls (idx + 1) (by omega) fun l hl => h l (List.mem_cons_of_mem _ hl)]
theorem tab_low : ∀ l ∈ fmTabC.drop 1, ∀ p ∈ l, ∃ q : Nat, p.1 = q ∧ q < 4096 := by
  intro l hl p hp
  refine ⟨p.1.toNat, ?_⟩
  have : ∀ l ∈ fmTabC.drop 1, ∀ p ∈ l, 0 ≤ p.1 ∧ p.1 < 4096 := by decide
  have := this l hl p hp
  omega
theorem codesF_low {m m' : Nat} (hm : m % 4096 = m' % 4096) {k : Nat} : (codesF m).getD (k + 1) 0 = (codesF m').getD (k + 1) 0 := by
  have e : ∀ m : Nat, (codesF m).getD (k + 1) 0 = (fmCodes m 1 (fmTabC.drop 1)).getD k 0 := fun m => rfl
  rw [e, e, codes_low hm _ 1 (by decide) tab_low]
theorem pairs_low (b : Nat) : pairsF (b : Int) = pairsF ((b % 8 : Nat) : Int) := by
  have h1 : ((b : Int).fdiv 4).fmod 2 = (((b % 8 : Nat) : Int).fdiv 4).fmod 2 := by
    rw [Int.fdiv_eq_ediv_of_nonneg _ (by decide), Int.fdiv_eq_ediv_of_nonneg _ (by decide), Int.fmod_eq_emod_of_nonneg _ (by decide), Int.fmod_eq_emod_of_nonneg _ (by decide)]
    omega
  have h2 : ((b : Int).fdiv 2).fmod 2 = (((b % 8 : Nat) : Int).fdiv 2).fmod 2 := by
    rw [Int.fdiv_eq_ediv_of_nonneg _ (by decide), Int.fdiv_eq_ediv_of_nonneg _ (by decide), Int.fmod_eq_emod_of_nonneg _ (by decide), Int.fmod_eq_emod_of_nonneg _ (by decide)]
    omega
  have h3 : (b : Int).fmod 2 = ((b % 8 : Nat) : Int).fmod 2 := by
    rw [Int.fmod_eq_emod_of_nonneg _ (by decide), Int.fmod_eq_emod_of_nonneg _ (by decide)]
    omega
  unfold pairsF th1 th2 th3
  rw [h1, h2, h3]
noncomputable def codeN (m : Nat) : List (Nat × Nat) → Nat
  | [] => 45
  | p :: r => bif (m &&& p.1).beq p.1 then p.2 else codeN m r
noncomputable def toI (p : Nat × Nat) : Int × Nat := ((p.1 : Int), p.2)
theorem codeN_eq {idx : Nat} (hi : idx ≠ 0) (m : Nat) : ∀ l : List (Nat × Nat), fmCode (m : Int) idx (l.map toI) = codeN m l
  | [] => by unfold fmCode codeN; simp [hi]
  | p :: r => by
    have ih := codeN_eq hi m r
    simp only [List.map_cons]
    unfold fmCode codeN
    rw [ih]
    have e : fmTest (m : Int) idx (toI p).1 = (m &&& p.1).beq p.1 := by
      unfold fmTest toI
      rw [if_neg hi, bitAnd_nat, Bool.eq_iff_iff, beq_iff_eq, Nat.beq_eq]
      exact Int.ofNat_inj
    rw [e]
    cases (m &&& p.1).beq p.1 <;> rfl
noncomputable def tabN : List (List (Nat × Nat)) := [[(256, 114)], [(128, 119)], [(2112, 115), (2048, 83), (64, 120)], [(32, 114)], [(16, 119)], [(1032, 115), (1024, 83), (8, 120)], [(4, 114)], [(2, 119)], [(513, 116), (512, 84), (1, 120)]]
theorem codes_N (m : Nat) {k : Nat} (hk : k < 9) : (codesF (m : Int)).getD (k + 1) 0 = codeN m (tabN.getD k []) := by
  match k, hk with
  | 0, _ => exact codeN_eq (idx := 1) (by decide) m [(256, 114)]
  | 1, _ => exact codeN_eq (idx := 2) (by decide) m [(128, 119)]
  | 2, _ => exact codeN_eq (idx := 3) (by decide) m [(2112, 115), (2048, 83), (64, 120)]
  | 3, _ => exact codeN_eq (idx := 4) (by decide) m [(32, 114)]
  | 4, _ => exact codeN_eq (idx := 5) (by decide) m [(16, 119)]
  | 5, _ => exact codeN_eq (idx := 6) (by decide) m [(1032, 115), (1024, 83), (8, 120)]
  | 6, _ => exact codeN_eq (idx := 7) (by decide) m [(4, 114)]
  | 7, _ => exact codeN_eq (idx := 8) (by decide) m [(2, 119)]
  | 8, _ => exact codeN_eq (idx := 9) (by decide) m [(513, 116), (512, 84), (1, 120)]
noncomputable def prN (c : Nat) : List (Nat × Nat) := [(114, 45), (119, 45), bif c.testBit 2 then (115, 83) else (120, 45), (114, 45), (119, 45), bif c.testBit 1 then (115, 83) else (120, 45), (114, 45), (119, 45), bif c.testBit 0 then (116, 84) else (120, 45)]
theorem pairs_N : ∀ c < 8, ∀ k < 9, ((pairsF (c : Nat)).getD k default).cps.getD 0 0 = ((prN c).getD k (0, 0)).1 ∧ ((pairsF (c : Nat)).getD k default).cps.getD 1 0 = ((prN c).getD k (0, 0)).2 := by decide +kernel
/-- the sign at a place, by its table and its pair -/
noncomputable def signN (m : Nat) (t : List (Nat × Nat)) (p : Nat × Nat) : Nat := bif (codeN m t).beq p.1 then 32 else bif (codeN m t).beq p.2 then 9 else 63
noncomputable def rowN (m S : Nat) : Nat → List (List (Nat × Nat)) → List (Nat × Nat) → Bool
  | i + 1, t :: ts, p :: ps => (signN m t p).beq (bif S.testBit i then 32 else 9) && rowN m S i ts ps
  | 0, [], [] => true
  | _, _, _ => false
noncomputable def pchk (c : Nat) : Bool := (List.range 512).all fun S => rowN (512 * c + S) S 9 tabN (prN c)
theorem pchk0 : pchk 0 = true := by decide +kernel
theorem pchk1 : pchk 1 = true := by decide +kernel
theorem pchk2 : pchk 2 = true := by decide +kernel
theorem pchk3 : pchk 3 = true := by decide +kernel
theorem pchk4 : pchk 4 = true := by decide +kernel
theorem pchk5 : pchk 5 = true := by decide +kernel
theorem pchk6 : pchk 6 = true := by decide +kernel
theorem pchk7 : pchk 7 = true := by decide +kernel
theorem row_N (m S : Nat) : ∀ (i : Nat) (ts : List (List (Nat × Nat))) (ps : List (Nat × Nat)), rowN m S i ts ps = true → ∀ k < i, signN m (ts.getD k []) (ps.getD k (0, 0)) = if S.testBit (i - 1 - k) = true then 32 else 9
  | 0, _, _, _, k, hk => by omega
  | i + 1, t :: ts, p :: ps, h, k, hk => by
    unfold rowN at h
    obtain ⟨h1, h2⟩ := Bool.and_eq_true_iff.mp h
    cases k with
    | zero =>
      have := Nat.eq_of_beq_eq_true h1
      rw [show i + 1 - 1 - 0 = i by omega]
      show signN m t p = _
      rw [this]
      cases S.testBit i <;> rfl
    | succ k =>
      have := row_N m S i ts ps h2 k (by omega)
      rw [show i + 1 - 1 - (k + 1) = i - 1 - k by omega]
      exact this
  | i + 1, [], _, h, _, _ => by simp [rowN] at h
  | i + 1, _ :: _, [], h, _, _ => by simp [rowN] at h
theorem part_all (b S : Nat) (hS : S < 512) : partF ((512 * b + S : Nat) : Int) b = nine S := by
  have hc : b % 8 < 8 := by omega
  have key : pchk (b % 8) = true := by
    generalize b % 8 = c at hc
    match c, hc with
    | 0, _ => exact pchk0
    | 1, _ => exact pchk1
    | 2, _ => exact pchk2
    | 3, _ => exact pchk3
    | 4, _ => exact pchk4
    | 5, _ => exact pchk5
    | 6, _ => exact pchk6
    | 7, _ => exact pchk7
  unfold pchk at key
  have key := row_N _ _ _ _ _ (List.all_eq_true.mp key S (List.mem_range.mpr hS))
  unfold partF nine
  apply List.map_congr_left
  intro k hk
  have hk := List.mem_range.mp hk
  unfold pieceF
  rw [codesF_low (m := 512 * b + S) (m' := 512 * (b % 8) + S) (by omega), pairs_low b, codes_N _ hk, (pairs_N _ hc k hk).1, (pairs_N _ hc k hk).2]
  have := key k hk
  unfold signN at this
  rw [show 9 - 1 - k = 8 - k by omega] at this
  rw [← this]
  generalize codeN (512 * (b % 8) + S) (tabN.getD k []) = x
  generalize (prN (b % 8)).getD k (0, 0) = p
  have e : ∀ a b : Nat, (a == b) = a.beq b := fun a b => by
    rw [Bool.eq_iff_iff, beq_iff_eq, Nat.beq_eq]
  rw [e, e]
  cases x.beq p.1 <;> cases x.beq p.2 <;> rfl
theorem kind_all (m : Nat) : (codesF (m : Int)).getD 0 0 = kindS.cps.getD ((m / 4096) % 16) 0 := by
  have e : ∀ m : Int, (codesF m).getD 0 0 = fmCode m 0 (fmTabC.headD []) := fun m => rfl
  have e2 : ∀ (l : List (Int × Nat)), fmCode (m : Int) 0 l = fmCode ((4096 * ((m / 4096) % 16) : Nat) : Int) 0 l := by
    intro l
    induction l with
    | nil => rfl
    | cons p r ih =>
      unfold fmCode
      rw [ih]
      have : fmTest m 0 p.1 = fmTest ((4096 * ((m / 4096) % 16) : Nat) : Int) 0 p.1 := by
        unfold fmTest
        rw [if_pos rfl, if_pos rfl, show (61440 : Int) = ((61440 : Nat) : Int) from rfl, bitAnd_nat, bitAnd_nat, and_high, and_high]
        congr 2
        omega
      rw [this]
  rw [e, e2]
  have : (m / 4096) % 16 < 16 := by omega
  generalize (m / 4096) % 16 = k at this
  have key : ∀ k < 16, fmCode ((4096 * k : Nat) : Int) 0 (fmTabC.headD []) = kindS.cps.getD k 0 := by decide +kernel
  exact key k this
theorem F12 (n : Int) : (wF n).2 = wordOf (formOf n) ∧ (∀ p ∈ (wF n).1, -60 ≤ p ∧ p ≤ 60) ∧ (wF n).1.length ≤ 100 ∧ ∃ x y : Nat, x < 512 ∧ y < 512 ∧ (sumF (wF n).1 25).sum = x ∧ (sumF (wF n).1 34).sum = y ∧ nine x ++ nine y = txF (tailT n) := by
  have h := chk_all n
  unfold chk at h
  simp only [Bool.and_eq_true, decide_eq_true_eq, List.all_eq_true, beq_iff_eq] at h
  obtain ⟨⟨⟨⟨⟨⟨⟨h1, h2⟩, h3⟩, h4⟩, h5⟩, h6⟩, h7⟩, h8⟩ := h
  exact ⟨h1, h2, h3, _, _, by show _ < 512; omega, by show _ < 512; omega, (Int.toNat_of_nonneg h4).symm, (Int.toNat_of_nonneg h6).symm, h8⟩
theorem oth_bd (n : Int) : ∃ b : Nat, b < 256 ∧ othF n = b := by
  have h1 : 0 ≤ (n.fdiv 640).fmod 256 := Int.fmod_nonneg_of_pos _ (by decide)
  have h2 : (n.fdiv 640).fmod 256 < 256 := Int.fmod_lt_of_pos _ (by decide)
  exact ⟨(othF n).toNat, by unfold othF; omega, by unfold othF; omega⟩
theorem kind_of (b S : Nat) (hS : S < 512) : (codesF ((512 * b + S : Nat) : Int)).getD 0 0 = kindS.cps.getD (((b : Int).fdiv 8).fmod 16).toNat 0 := by
  rw [kind_all]
  congr 1
  rw [Int.fdiv_eq_ediv_of_nonneg _ (by decide), Int.fmod_eq_emod_of_nonneg _ (by decide)]
  omega
theorem law_F3 (n : Int) : (codesF (modeF (wF n).1 (othF n) 25)).getD 0 0 = kindS.cps.getD (((othF n).fdiv 8).fmod 16).toNat 0 ∧ (codesF (modeF (wF n).1 (255 - othF n) 34)).getD 0 0 = kindS.cps.getD (((255 - othF n).fdiv 8).fmod 16).toNat 0 := by
  obtain ⟨_, _, _, x, y, hx, hy, e1, e2, _⟩ := F12 n
  obtain ⟨b, hb, hb'⟩ := oth_bd n
  rw [hb']
  have e3 : (255 - (b : Int)) = ((255 - b : Nat) : Int) := by omega
  unfold modeF
  rw [e1, e2, e3]
  constructor
  · have := kind_of b x hx
    push_cast at this
    exact this
  · have := kind_of (255 - b) y hy
    rw [show (512 * ((255 - b : Nat) : Int) + (y : Int)) = ((512 * (255 - b) + y : Nat) : Int) by push_cast; rfl]
    exact this
theorem law_F4 (n : Int) : textF n = txF (tailT n) := by
  obtain ⟨_, _, _, x, y, hx, hy, e1, e2, e⟩ := F12 n
  obtain ⟨b, hb, hb'⟩ := oth_bd n
  have e3 : (255 - (b : Int)) = ((255 - b : Nat) : Int) := by omega
  unfold textF shownF modeF
  rw [e1, e2, hb', e3, ← e]
  rw [show (512 * (b : Int) + (x : Int)) = ((512 * b + x : Nat) : Int) by push_cast; rfl, show (512 * ((255 - b : Nat) : Int) + (y : Int)) = ((512 * (255 - b) + y : Nat) : Int) by push_cast; rfl]
  rw [part_all b x hx, part_all (255 - b) y hy]
  rfl
end Mine
namespace Mine
/-- some class of these holds the place -/
noncomputable def cov (C : List (Nat × Nat)) (j : Nat) : Bool := C.any fun c => j % c.2 == c.1 % c.2
noncomputable def lcmOf (C : List (Nat × Nat)) : Nat := C.foldr (fun c l => Nat.lcm c.2 l) 1
noncomputable def full (C : List (Nat × Nat)) : Bool := (C.any fun c => c.2.beq 1) || (List.range (lcmOf C)).all (cov C)
noncomputable def srch : Nat → List Nat → List (Nat × Nat) → Bool
  | _, [], C => full C
  | 0, _ :: _, _ => true
  | k + 1, p :: U, C => (List.range 8).all fun m => srch k (U.filter fun x => !((x % (m + 1)).beq (p % (m + 1)))) ((p, m + 1) :: C)
theorem srch0 : srch 0 (List.range 1) [] = true := by decide +kernel
theorem srch1 : srch 1 (List.range 2) [] = true := by decide +kernel
theorem srch2 : srch 2 (List.range 4) [] = true := by decide +kernel
theorem srch3 : srch 3 (List.range 8) [] = true := by decide +kernel
theorem srch4 : srch 4 (List.range 16) [] = true := by decide +kernel
theorem lcm_dvd : ∀ {C : List (Nat × Nat)} {c : Nat × Nat}, c ∈ C → c.2 ∣ lcmOf C
  | d :: C, c, h => by
    show c.2 ∣ Nat.lcm d.2 (lcmOf C)
    rcases List.mem_cons.mp h with rfl | h
    · exact Nat.dvd_lcm_left _ _
    · exact Nat.dvd_trans (lcm_dvd h) (Nat.dvd_lcm_right _ _)
theorem lcm_pos : ∀ {C : List (Nat × Nat)}, (∀ c ∈ C, 0 < c.2) → 0 < lcmOf C
  | [], _ => Nat.one_pos
  | d :: C, h => Nat.lcm_pos (h d List.mem_cons_self) (lcm_pos fun c hc => h c (List.mem_cons_of_mem _ hc))
theorem full_cov {C : List (Nat × Nat)} (hp : ∀ c ∈ C, 0 < c.2) (h : full C = true) (j : Nat) : cov C j = true := by
  unfold full at h
  rcases Bool.or_eq_true_iff.mp h with h | h
  · obtain ⟨c, hc, he⟩ := List.any_eq_true.mp h
    refine List.any_eq_true.mpr ⟨c, hc, ?_⟩
    have he := Nat.eq_of_beq_eq_true he
    rw [beq_iff_eq]
    rw [he, Nat.mod_one, Nat.mod_one]
  · have := List.all_eq_true.mp h (j % lcmOf C) (List.mem_range.mpr (Nat.mod_lt _ (lcm_pos hp)))
    obtain ⟨c, hc, he⟩ := List.any_eq_true.mp this
    refine List.any_eq_true.mpr ⟨c, hc, ?_⟩
    rw [Nat.mod_mod_of_dvd _ (lcm_dvd hc)] at he
    exact he
end Mine
namespace Mine
noncomputable def tcov (t : Int × Int) (j : Nat) : Prop := t.2 ∣ 17 + (j : Int) - t.1
theorem tcov_iff {t : Int × Int} {p : Nat} {m : Nat} (hm : t.2 = (m : Int)) (hp : tcov t p) (j : Nat) : tcov t j ↔ j % m = p % m := by
  unfold tcov at *
  rw [hm] at *
  have e : 17 + (j : Int) - t.1 = (17 + (p : Int) - t.1) + ((j : Int) - p) := by (first | lia | omega)
  rw [e, Int.dvd_add_right hp]
  constructor
  · intro h
    have h2 : (j : Int) % m = (p : Int) % m := Int.emod_eq_emod_iff_emod_sub_eq_zero.mpr (Int.emod_eq_zero_of_dvd h)
    exact_mod_cast h2
  · intro h
    have h2 : (j : Int) % m = (p : Int) % m := by exact_mod_cast h
    exact Int.dvd_of_emod_eq_zero (Int.emod_eq_emod_iff_emod_sub_eq_zero.mp h2)
theorem srch_law : ∀ (k : Nat) (U : List Nat) (C : List (Nat × Nat)) (ts : List (Int × Int)), srch k U C = true → ts.length ≤ k → (∀ t ∈ ts, 1 ≤ t.2 ∧ t.2 ≤ 8) → (∀ c ∈ C, 0 < c.2) → (∀ j ∈ U, ∃ t ∈ ts, tcov t j) → ∀ j, cov C j = true ∨ ∃ t ∈ ts, tcov t j := by
  intro k
  induction k with
  | zero =>
    intro U C ts hs hl ht hp hw j
    cases U with
    | nil =>
      unfold srch at hs
      exact .inl (full_cov hp hs j)
    | cons p U =>
      obtain rfl := List.eq_nil_of_length_eq_zero (Nat.le_zero.mp hl)
      obtain ⟨t, h, _⟩ := hw p List.mem_cons_self
      cases h
  | succ k ih =>
    intro U C ts hs hl ht hp hw j
    cases U with
    | nil =>
      unfold srch at hs
      exact .inl (full_cov hp hs j)
    | cons p U =>
      unfold srch at hs
      obtain ⟨t, htm, htp⟩ := hw p List.mem_cons_self
      have hb := ht t htm
      obtain ⟨m, hm⟩ : ∃ m : Nat, t.2 = ((m + 1 : Nat) : Int) := ⟨(t.2 - 1).toNat, by (first | lia | omega)⟩
      obtain ⟨l1, l2, rfl⟩ := List.append_of_mem htm
      have hs' := List.all_eq_true.mp hs m (List.mem_range.mpr (by (first | lia | omega)))
      have cv : ∀ j, cov ((p, m + 1) :: C) j = true ↔ (tcov t j ∨ cov C j = true) := fun j => by
        rw [tcov_iff hm htp]
        unfold cov
        rw [List.any_cons, Bool.or_eq_true, beq_iff_eq]
      have key := ih _ ((p, m + 1) :: C) (l1 ++ l2) hs' (by simp at hl ⊢; (first | lia | omega)) (fun t' h' => ht t' (by
        rcases List.mem_append.mp h' with h | h
        · exact List.mem_append_left _ h
        · exact List.mem_append_right _ (List.mem_cons_of_mem _ h))) (fun c hc => by
        rcases List.mem_cons.mp hc with rfl | hc
        · exact Nat.succ_pos m
        · exact hp c hc) (fun j hj => by
        obtain ⟨h1, h2⟩ := List.mem_filter.mp hj
        have h2 : ¬ tcov t j := fun hc => by
          rw [(tcov_iff hm htp j).mp hc] at h2
          simp at h2
        obtain ⟨t', h', hc⟩ := hw j (List.mem_cons_of_mem _ h1)
        rcases List.mem_append.mp h' with h | h
        · exact ⟨t', List.mem_append_left _ h, hc⟩
        · rcases List.mem_cons.mp h with rfl | h
          · exact absurd hc h2
          · exact ⟨t', List.mem_append_right _ h, hc⟩) j
      rcases key with h | ⟨t', h', hc⟩
      · rcases (cv j).mp h with h | h
        · exact .inr ⟨t, htm, h⟩
        · exact .inl h
      · refine .inr ⟨t', ?_, hc⟩
        rcases List.mem_append.mp h' with h | h
        · exact List.mem_append_left _ h
        · exact List.mem_append_right _ (List.mem_cons_of_mem _ h)
theorem bare_iff (ts : List (Int × Int)) (x : Int) : bareB ts x = true ↔ ∀ t ∈ ts, ¬ t.2 ∣ x - t.1 := by
  unfold bareB
  rw [Bool.not_eq_true', List.any_eq_false]
  simp only [beq_iff_eq]
  exact ⟨fun h t ht hd => h t ht (Int.fmod_eq_zero_of_dvd hd), fun h t ht hd => h t ht (Int.dvd_of_fmod_eq_zero hd)⟩
theorem bare_iff' (ts : List (Int × Int)) (x : Int) : bareB ts x = false ↔ ∃ t ∈ ts, t.2 ∣ x - t.1 := by
  rw [← Bool.not_eq_true, bare_iff]
  constructor
  · intro h
    refine Classical.byContradiction fun hn => h fun t ht hd => hn ⟨t, ht, hd⟩
  · rintro ⟨t, ht, hd⟩ h
    exact h t ht hd
/-- n progressions that hold 2 ^ n neighbours hold all -/
theorem cve (ts : List (Int × Int)) (ht : ∀ t ∈ ts, 1 ≤ t.2 ∧ t.2 ≤ 8) (hl : ts.length ≤ 4) (n : Nat) (hn : 2 ^ ts.length ≤ n) (hw : ∀ k < n, bareB ts (17 + (k : Int)) = false) : ∀ x, bareB ts x = false := by
  have hs : srch ts.length (List.range (2 ^ ts.length)) [] = true := by
    generalize ts.length = k at hl
    match k, hl with
    | 0, _ => exact srch0
    | 1, _ => exact srch1
    | 2, _ => exact srch2
    | 3, _ => exact srch3
    | 4, _ => exact srch4
  have key := srch_law _ _ [] ts hs (Nat.le_refl _) ht (fun c hc => by cases hc) fun j hj => (bare_iff' _ _).mp (hw j (Nat.lt_of_lt_of_le (List.mem_range.mp hj) hn))
  intro x
  have h0 : 0 ≤ (x - 17) % 840 := Int.emod_nonneg _ (by decide)
  have h1 : (x - 17) % 840 < 840 := Int.emod_lt_of_pos _ (by decide)
  rcases key ((x - 17) % 840).toNat with h | ⟨t, htm, h⟩
  · cases h
  · refine (bare_iff' _ _).mpr ⟨t, htm, ?_⟩
    unfold tcov at h
    rw [Int.toNat_of_nonneg h0] at h
    have h840 : t.2 ∣ 840 := by
      have hb := ht t htm
      obtain ⟨m, hm⟩ : ∃ m : Nat, t.2 = ((m + 1 : Nat) : Int) := ⟨(t.2 - 1).toNat, by (first | lia | omega)⟩
      rw [hm]
      have : m < 8 := by (first | lia | omega)
      match m, this with
      | 0, _ | 1, _ | 2, _ | 3, _ | 4, _ | 5, _ | 6, _ | 7, _ => decide
    have e : x - t.1 = (17 + (x - 17) % 840 - t.1) + 840 * ((x - 17) / 840) := by
      have := Int.emod_add_mul_ediv (x - 17) 840
      (first | lia | omega)
    rw [e]
    exact Int.dvd_add h (Int.dvd_trans h840 (Int.dvd_mul_right _ _))
end Mine
namespace Mine
noncomputable def ind (o : Option (Int × Int)) (x : Int) : Int := match o with
  | none => 0
  | some p => if (x - p.1) % p.2 = 0 then 1 else 0
noncomputable def hitT (m r s : Nat) : List Nat := (List.range m).filter fun t => (r + s * t) % m == 0
noncomputable def hitOk (m r s : Nat) : Bool := match hitT m r s with
  | [] => true
  | t0 :: ts => decide (m / (t0 :: ts).length * (t0 :: ts).length = m) && (List.range m).all fun u => ((r + s * u) % m == 0) == ((u + m - t0) % (m / (t0 :: ts).length) == 0)
theorem hit_all : ∀ m < 9, ∀ r < m, ∀ s < m, hitOk m r s = true := by decide +kernel
theorem filterMap_ite {α β : Type} (p : α → Bool) (f : α → β) : ∀ l : List α, l.filterMap (fun t => if p t = true then some (f t) else none) = (l.filter p).map f
  | [] => rfl
  | x :: l => by
    rw [List.filterMap_cons, List.filter_cons, filterMap_ite p f l]
    cases h : p x <;> simp
/-- places of a progression, by the turn -/
theorem turn_iff (h q a : Int) {M : Nat} (hM : 0 < M) (u : Int) : (M : Int) ∣ h + q * u - a ↔ (((h - a) % M).toNat + (q % M).toNat * (u % M).toNat) % M = 0 := by
  have hM' : (M : Int) ≠ 0 := by (first | lia | omega)
  have e1 := Int.emod_add_mul_ediv (h - a) M
  have e2 := Int.emod_add_mul_ediv q M
  have e3 := Int.emod_add_mul_ediv u M
  have n1 := Int.emod_nonneg (h - a) hM'
  have n2 := Int.emod_nonneg q hM'
  have n3 := Int.emod_nonneg u hM'
  generalize (h - a) % (M : Int) = r at *
  generalize q % (M : Int) = s at *
  generalize u % (M : Int) = v at *
  obtain ⟨r, rfl⟩ := Int.eq_ofNat_of_zero_le n1
  obtain ⟨s, rfl⟩ := Int.eq_ofNat_of_zero_le n2
  obtain ⟨v, rfl⟩ := Int.eq_ofNat_of_zero_le n3
  generalize (h - a) / (M : Int) = d1 at *
  generalize q / (M : Int) = d2 at *
  generalize u / (M : Int) = d3 at *
  have e : h + q * u - a = ((r + s * v : Nat) : Int) + M * (s * d3 + d1 + d2 * u) := by
    have : h = a + (r + M * d1) := by (first | lia | omega)
    subst this
    subst e2
    push_cast
    grind
  rw [e, Int.dvd_add_left (Int.dvd_mul_right _ _), Int.toNat_natCast, Int.toNat_natCast, Int.toNat_natCast, ← Nat.dvd_iff_mod_eq_zero]
  exact Int.natCast_dvd_natCast
theorem hits_eq (h q a : Int) {M : Nat} (hM : 0 < M) : hits h q a M = (hitT M ((h - a) % M).toNat (q % M).toNat).map fun t : Nat => h + q * t := by
  unfold hits hitT
  rw [Int.toNat_natCast, ← filterMap_ite]
  have : ∀ l : List Nat, (∀ t ∈ l, t < M) → l.filterMap (fun t : Nat => if ((h + q * (t : Int) - a).fmod (M : Int) == 0) = true then some (h + q * (t : Int)) else none) = l.filterMap (fun t : Nat => if ((((h - a) % M).toNat + (q % M).toNat * t) % M == 0) = true then some (h + q * (t : Int)) else none) := by
    intro l
    induction l with
    | nil => intro _; rfl
    | cons t l ih =>
      intro hl
      have ht := hl t List.mem_cons_self
      rw [List.filterMap_cons, List.filterMap_cons, ih fun x hx => hl x (List.mem_cons_of_mem _ hx)]
      have : ((h + q * (t : Int) - a).fmod (M : Int) == 0) = ((((h - a) % M).toNat + (q % M).toNat * t) % M == 0) := by
        have k := turn_iff h q a hM (t : Int)
        have e : ((t : Int) % (M : Int)).toNat = t := by
          rw [Int.emod_eq_of_lt (by (first | lia | omega)) (by (first | lia | omega))]; rfl
        rw [e] at k
        rw [Bool.eq_iff_iff, beq_iff_eq, beq_iff_eq, ← k]
        exact ⟨Int.dvd_of_fmod_eq_zero, Int.fmod_eq_zero_of_dvd⟩
      rw [this]
  exact this _ fun t ht => List.mem_range.mp ht
/-- where two progressions meet -/
theorem meet_law (h q a m : Int) (hq : 1 ≤ q) (h1 : 1 ≤ m) (h8 : m ≤ 8) : (∀ x, ind (meetF (some (h, q)) (a, m)) x = ind (some (h, q)) x * ind (some (a, m)) x) ∧ ∀ p, meetF (some (h, q)) (a, m) = some p → 1 ≤ p.2 ∧ p.2 ∣ q * m := by
  obtain ⟨M, rfl⟩ : ∃ M : Nat, m = (M : Int) := ⟨m.toNat, by (first | lia | omega)⟩
  have hM : 0 < M := by (first | lia | omega)
  have r1 : ((h - a) % M).toNat < M := by
    have := Int.emod_nonneg (h - a) (show (M : Int) ≠ 0 by (first | lia | omega))
    have := Int.emod_lt_of_pos (h - a) (show (0 : Int) < M by (first | lia | omega))
    (first | lia | omega)
  have r2 : (q % M).toNat < M := by
    have := Int.emod_nonneg q (show (M : Int) ≠ 0 by (first | lia | omega))
    have := Int.emod_lt_of_pos q (show (0 : Int) < M by (first | lia | omega))
    (first | lia | omega)
  have ok := hit_all M (by (first | lia | omega)) _ r1 _ r2
  have tu := fun u => turn_iff h q a hM u
  simp only [meetF, hits_eq h q a hM]
  have hmem : ∀ u, u ∈ hitT M ((h - a) % M).toNat (q % M).toNat ↔ u < M ∧ (((h - a) % M).toNat + (q % M).toNat * u) % M = 0 := fun u => by
    unfold hitT; rw [List.mem_filter, List.mem_range, beq_iff_eq]
  unfold hitOk at ok
  generalize hitT M ((h - a) % M).toNat (q % M).toNat = T at *
  generalize ((h - a) % M).toNat = r at *
  generalize (q % M).toNat = s at *
  have both : ∀ x, (x - h) % q = 0 → ∃ u, x = h + q * u := fun x hx => ⟨(x - h) / q, by
    have := Int.emod_add_mul_ediv (x - h) q
    (first | lia | omega)⟩
  have um : ∀ u : Int, (u % M).toNat < M := fun u => by
    have := Int.emod_nonneg u (show (M : Int) ≠ 0 by (first | lia | omega))
    have := Int.emod_lt_of_pos u (show (0 : Int) < M by (first | lia | omega))
    (first | lia | omega)
  cases T with
  | nil =>
    refine ⟨fun x => ?_, fun p hp => by cases hp⟩
    show (0 : Int) = ind (some (h, q)) x * ind (some (a, (M : Int))) x
    unfold ind
    by_cases c1 : (x - h) % q = 0
    · by_cases c2 : (x - a) % M = 0
      · exfalso
        obtain ⟨u, rfl⟩ := both x c1
        have := (tu u).mp (by
          have := Int.dvd_of_emod_eq_zero c2
          exact this)
        have := (hmem (u % M).toNat).mpr ⟨um u, this⟩
        cases this
      · simp [c2]
    · simp [c1]
  | cons t0 ts =>
    simp only at ok
    rw [Bool.and_eq_true, decide_eq_true_eq, List.all_eq_true] at ok
    obtain ⟨ok1, ok2⟩ := ok
    have hN : 0 < (t0 :: ts).length := by simp
    have ht0 := (hmem t0).mp List.mem_cons_self
    simp only [List.map_cons, meetL, List.length_cons, List.length_map]
    rw [List.length_cons] at ok1 ok2 hN
    generalize ts.length + 1 = N at *
    generalize hE : M / N = e at *
    have he : 0 < e := by
      rcases Nat.eq_zero_or_pos e with h | h
      · subst h; (first | lia | omega)
      · exact h
    have hdiv : (q * (M : Int)).fdiv (N : Int) = q * e := by
      rw [← ok1]; push_cast
      rw [← Int.mul_assoc, Int.fdiv_eq_ediv_of_nonneg _ (by (first | lia | omega))]
      exact Int.mul_ediv_cancel _ (by (first | lia | omega))
    rw [hdiv]
    have hqe : 1 ≤ q * (e : Int) := by
      have := Int.mul_le_mul hq (show (1 : Int) ≤ e by (first | lia | omega)) (by decide) (by (first | lia | omega))
      (first | lia | omega)
    refine ⟨fun x => ?_, fun p hp => ?_⟩
    · have key : (x - (h + q * t0)) % (q * e) = 0 ↔ (x - h) % q = 0 ∧ (x - a) % M = 0 := by
        have eM : (e : Int) ∣ M := ⟨N, by rw [← ok1]; push_cast; rfl⟩
        have ue : ∀ u : Int, (M : Int) ∣ h + q * u - a ↔ (e : Int) ∣ u - t0 := fun u => by
          have k := ok2 (u % M).toNat (List.mem_range.mpr (um u))
          rw [beq_iff_eq, Bool.eq_iff_iff, beq_iff_eq, beq_iff_eq] at k
          rw [tu u, k]
          have um0 := Int.emod_nonneg u (show (M : Int) ≠ 0 by (first | lia | omega))
          have d3 := Int.emod_add_mul_ediv u M
          generalize hv : (u % (M : Int)).toNat = v at *
          have hv' : u % (M : Int) = v := by (first | lia | omega)
          rw [hv'] at d3
          generalize u / (M : Int) = d at *
          rw [← Nat.dvd_iff_mod_eq_zero, ← Int.natCast_dvd_natCast]
          have e4 : ((v + M - t0 : Nat) : Int) = (u - t0) + M * (1 - d) := by
            rw [Int.mul_sub, Int.mul_one]
            (first | lia | omega)
          rw [e4, Int.dvd_add_left (Int.dvd_trans eM (Int.dvd_mul_right _ _))]
        constructor
        · intro hx
          obtain ⟨w, hw⟩ := Int.dvd_of_emod_eq_zero hx
          have ex : x = h + q * (t0 + e * w) := by
            have : x = h + q * t0 + q * e * w := by (first | lia | omega)
            rw [this]; grind
          constructor
          · rw [ex]
            refine Int.emod_eq_zero_of_dvd ⟨t0 + e * w, by (first | lia | omega)⟩
          · rw [ex]
            refine Int.emod_eq_zero_of_dvd ((ue _).mpr ⟨w, by (first | lia | omega)⟩)
        · rintro ⟨c1, c2⟩
          obtain ⟨u, rfl⟩ := both x c1
          obtain ⟨w, hw⟩ := (ue u).mp (Int.dvd_of_emod_eq_zero c2)
          refine Int.emod_eq_zero_of_dvd ⟨w, ?_⟩
          have : u = t0 + e * w := by (first | lia | omega)
          rw [this]; grind
      unfold ind
      simp only [key]
      by_cases c1 : (x - h) % q = 0 <;> by_cases c2 : (x - a) % M = 0 <;> simp [c1, c2]
    · simp only [Option.some.injEq] at hp
      subst hp
      refine ⟨hqe, ?_⟩
      exact ⟨N, by rw [← ok1]; push_cast; grind⟩
end Mine
namespace Mine
noncomputable def Wt (ms : List (Int × Option (Int × Int))) (x : Int) : Int := (ms.map fun p => p.1 * ind p.2 x).sum
noncomputable def GoodP (P : Int) (ms : List (Int × Option (Int × Int))) : Prop := ∀ p ∈ ms, ∀ q, p.2 = some q → 1 ≤ q.2 ∧ q.2 ∣ P
theorem wt_cons (p : Int × Option (Int × Int)) (ms : List (Int × Option (Int × Int))) (x : Int) : Wt (p :: ms) x = p.1 * ind p.2 x + Wt ms x := by
  unfold Wt; rw [List.map_cons, List.sum_cons]
theorem wt_app (ms ms' : List (Int × Option (Int × Int))) (x : Int) : Wt (ms ++ ms') x = Wt ms x + Wt ms' x := by
  induction ms with
  | nil => simp [Wt]
  | cons p ms ih => rw [List.cons_append, wt_cons, wt_cons, ih, Int.add_assoc]
theorem wt_neg {P : Int} {t : Int × Int} (h1 : 1 ≤ t.2) (h8 : t.2 ≤ 8) (x : Int) : ∀ (ms : List (Int × Option (Int × Int))), GoodP P ms → Wt (ms.map fun p => (-p.1, meetF p.2 t)) x = -(Wt ms x * ind (some t) x)
  | [], _ => by simp [Wt]
  | p :: ms, G => by
    rw [List.map_cons, wt_cons, wt_cons, wt_neg h1 h8 x ms fun p hp => G p (List.mem_cons_of_mem _ hp)]
    have : ind (meetF p.2 t) x = ind p.2 x * ind (some t) x := by
      obtain ⟨s, o⟩ := p
      cases o with
      | none => simp [meetF, ind]
      | some q => exact (meet_law q.1 q.2 t.1 t.2 (G _ List.mem_cons_self q rfl).1 h1 h8).1 x
    rw [this]
    grind
theorem wt_step {P : Int} {t : Int × Int} (h1 : 1 ≤ t.2) (h8 : t.2 ≤ 8) (x : Int) {ms : List (Int × Option (Int × Int))} (G : GoodP P ms) : Wt (stepM ms t) x = Wt ms x * (1 - ind (some t) x) := by
  unfold stepM
  rw [wt_app, wt_neg h1 h8 x ms G]
  grind
theorem good_step {P : Int} {t : Int × Int} (h1 : 1 ≤ t.2) (h8 : t.2 ≤ 8) {ms : List (Int × Option (Int × Int))} (G : GoodP P ms) : GoodP (P * t.2) (stepM ms t) := by
  intro p hp q hq
  rcases List.mem_append.mp hp with h | h
  · exact ⟨(G p h q hq).1, Int.dvd_trans (G p h q hq).2 (Int.dvd_mul_right _ _)⟩
  · obtain ⟨r, hr, rfl⟩ := List.mem_map.mp h
    obtain ⟨s, o⟩ := r
    cases o with
    | none => cases hq
    | some q0 =>
      have g := G _ hr q0 rfl
      have := (meet_law q0.1 q0.2 t.1 t.2 g.1 h1 h8).2 q hq
      exact ⟨this.1, Int.dvd_trans this.2 (Int.mul_dvd_mul g.2 (Int.dvd_refl _))⟩
theorem ind_01 (t : Int × Int) (x : Int) : 1 - ind (some t) x = if t.2 ∣ x - t.1 then 0 else 1 := by
  unfold ind
  by_cases h : (x - t.1) % t.2 = 0
  · simp [h, Int.dvd_of_emod_eq_zero h]
  · have : ¬ t.2 ∣ x - t.1 := fun hd => h (Int.emod_eq_zero_of_dvd hd)
    simp [h, this]
theorem bare_cons (t : Int × Int) (ts : List (Int × Int)) (x : Int) : bareB (t :: ts) x = true ↔ ¬ t.2 ∣ x - t.1 ∧ bareB ts x = true := by
  rw [bare_iff, bare_iff]
  simp
theorem wt_fold : ∀ (ts : List (Int × Int)) (ms : List (Int × Option (Int × Int))) (P : Int), (∀ t ∈ ts, 1 ≤ t.2 ∧ t.2 ≤ 8) → GoodP P ms → (∀ x, Wt (ts.foldl stepM ms) x = if bareB ts x = true then Wt ms x else 0) ∧ GoodP (ts.foldl (fun p t => p * t.2) P) (ts.foldl stepM ms)
  | [], ms, P, _, G => ⟨fun x => by simp [bareB], G⟩
  | t :: ts, ms, P, h, G => by
    have ht := h t List.mem_cons_self
    obtain ⟨k1, k2⟩ := wt_fold ts (stepM ms t) (P * t.2) (fun t ht => h t (List.mem_cons_of_mem _ ht)) (good_step ht.1 ht.2 G)
    refine ⟨fun x => ?_, k2⟩
    rw [List.foldl_cons, k1, wt_step ht.1 ht.2 x G, ind_01]
    by_cases c1 : t.2 ∣ x - t.1
    · have : ¬ bareB (t :: ts) x = true := fun hb => ((bare_cons t ts x).mp hb).1 c1
      simp [c1, this]
    · by_cases c2 : bareB ts x = true
      · have : bareB (t :: ts) x = true := (bare_cons t ts x).mpr ⟨c1, c2⟩
        simp [c1, c2, this]
      · have : ¬ bareB (t :: ts) x = true := fun hb => c2 ((bare_cons t ts x).mp hb).2
        simp [c2, this]
noncomputable def sumTo (f : Int → Int) : Nat → Int
  | 0 => 0
  | n + 1 => sumTo f n + f n
theorem sumTo_congr {f g : Int → Int} : ∀ {n : Nat}, (∀ i : Nat, i < n → f i = g i) → sumTo f n = sumTo g n
  | 0, _ => rfl
  | n + 1, h => by rw [sumTo, sumTo, sumTo_congr fun i hi => h i (by (first | lia | omega)), h n (by (first | lia | omega))]
theorem sumTo_lin (c : Int) (f g : Int → Int) : ∀ n : Nat, sumTo (fun x => c * f x + g x) n = c * sumTo f n + sumTo g n
  | 0 => by simp [sumTo]
  | n + 1 => by rw [sumTo, sumTo, sumTo, sumTo_lin c f g n]; grind
theorem sumTo_zero : ∀ n : Nat, sumTo (fun _ => 0) n = 0
  | 0 => rfl
  | n + 1 => by rw [sumTo, sumTo_zero n]; rfl
theorem sumTo_add (f : Int → Int) (a : Nat) : ∀ b : Nat, sumTo f (a + b) = sumTo f a + sumTo (fun i => f (a + i)) b
  | 0 => by simp [sumTo]
  | b + 1 => by
    rw [← Nat.add_assoc, sumTo, sumTo, sumTo_add f a b]
    push_cast
    (first | lia | omega)
theorem sumTo_one (r : Nat) : ∀ n : Nat, sumTo (fun i => if i = (r : Int) then 1 else 0) n = if r < n then 1 else 0
  | 0 => by simp [sumTo]
  | n + 1 => by
    rw [sumTo, sumTo_one r n]
    by_cases h : r < n
    · have h1 : ¬ ((n : Int) = r) := by (first | lia | omega)
      have h2 : r < n + 1 := by (first | lia | omega)
      simp [h, h1, h2]
    · by_cases h' : r = n
      · subst h'; simp
      · have h1 : ¬ ((n : Int) = r) := by (first | lia | omega)
        have h2 : ¬ r < n + 1 := by (first | lia | omega)
        simp [h, h1, h2]
theorem ind_block (h b : Int) {Q : Nat} (hQ : 0 < Q) : sumTo (fun i => ind (some (h, (Q : Int))) (b + i)) Q = 1 := by
  have n1 := Int.emod_nonneg (h - b) (show (Q : Int) ≠ 0 by (first | lia | omega))
  have n2 := Int.emod_lt_of_pos (h - b) (show (0 : Int) < Q by (first | lia | omega))
  have e := Int.emod_add_mul_ediv (h - b) Q
  generalize (h - b) % (Q : Int) = r at *
  generalize (h - b) / (Q : Int) = d at *
  obtain ⟨r, rfl⟩ := Int.eq_ofNat_of_zero_le n1
  rw [sumTo_congr (g := fun i => if i = (r : Int) then 1 else 0), sumTo_one, if_pos (by (first | lia | omega))]
  intro i hi
  unfold ind
  simp only
  have : (b + (i : Int) - h) % Q = 0 ↔ (i : Int) = r := by
    have e2 : b + (i : Int) - h = ((i : Int) - r) + Q * (-d) := by
      rw [Int.mul_neg]; (first | lia | omega)
    rw [e2, Int.add_mul_emod_self_left]
    constructor
    · intro hz
      obtain ⟨k, hk⟩ := Int.dvd_of_emod_eq_zero hz
      have hk0 : k = 0 := by
        rcases Int.lt_trichotomy k 0 with h | h | h
        · exfalso
          have : (Q : Int) * k ≤ Q * (-1) := Int.mul_le_mul_of_nonneg_left (by (first | lia | omega)) (by (first | lia | omega))
          (first | lia | omega)
        · exact h
        · exfalso
          have : (Q : Int) * 1 ≤ Q * k := Int.mul_le_mul_of_nonneg_left (by (first | lia | omega)) (by (first | lia | omega))
          (first | lia | omega)
      subst hk0
      (first | lia | omega)
    · intro hz
      rw [hz]; simp
  simp only [this]
theorem ind_sum (h : Int) {Q : Nat} (hQ : 0 < Q) : ∀ c : Nat, sumTo (ind (some (h, (Q : Int)))) (Q * c) = c
  | 0 => by simp [sumTo]
  | c + 1 => by
    rw [Nat.mul_succ, sumTo_add, ind_sum h hQ c, ind_block h _ hQ]
    push_cast; rfl
theorem terms_sum (P : Nat) (hP : 0 < P) : ∀ ms : List (Int × Option (Int × Int)), GoodP P ms → (termsF P ms).sum = sumTo (Wt ms) P
  | [], _ => by
    show (0 : Int) = _
    exact (sumTo_zero P).symm
  | (s, o) :: ms, G => by
    have ih := terms_sum P hP ms fun p hp => G p (List.mem_cons_of_mem _ hp)
    rw [sumTo_congr (g := fun x => s * ind o x + Wt ms x) fun i _ => wt_cons (s, o) ms i, sumTo_lin, ← ih]
    cases o with
    | none =>
      have e : sumTo (ind none) P = 0 := sumTo_zero P
      rw [e]
      simp [termsF]
    | some q =>
      obtain ⟨h, q⟩ := q
      obtain ⟨g1, g2⟩ := G _ List.mem_cons_self _ rfl
      simp only at g1 g2
      obtain ⟨Q, rfl⟩ : ∃ Q : Nat, q = (Q : Int) := ⟨q.toNat, by (first | lia | omega)⟩
      obtain ⟨c, rfl⟩ := Int.natCast_dvd_natCast.mp g2
      rw [ind_sum h (by (first | lia | omega)) c]
      show (s * (((Q * c : Nat) : Int)).fdiv (Q : Int) :: termsF _ ms).sum = _
      rw [List.sum_cons, Int.fdiv_eq_ediv_of_nonneg _ (by (first | lia | omega))]
      congr 2
      push_cast
      exact Int.mul_ediv_cancel_left _ (by (first | lia | omega))
theorem period_dvd : ∀ (ts : List (Int × Int)) (P : Int), (P ∣ ts.foldl (fun p t => p * t.2) P) ∧ ∀ t ∈ ts, t.2 ∣ ts.foldl (fun p t => p * t.2) P
  | [], P => ⟨Int.dvd_refl _, fun t ht => by cases ht⟩
  | t :: ts, P => by
    obtain ⟨k1, k2⟩ := period_dvd ts (P * t.2)
    refine ⟨Int.dvd_trans (Int.dvd_mul_right _ _) k1, fun t' ht' => ?_⟩
    rcases List.mem_cons.mp ht' with rfl | h
    · exact Int.dvd_trans (Int.dvd_mul_left _ _) k1
    · exact k2 t' h
theorem sumTo_bare (ts : List (Int × Int)) : ∀ n : Nat, 0 ≤ sumTo (fun x => if bareB ts x = true then 1 else 0) n ∧ ((∃ i : Nat, i < n ∧ bareB ts i = true) → 0 < sumTo (fun x => if bareB ts x = true then 1 else 0) n)
  | 0 => ⟨by simp [sumTo], fun ⟨i, hi, _⟩ => by (first | lia | omega)⟩
  | n + 1 => by
    obtain ⟨k1, k2⟩ := sumTo_bare ts n
    rw [sumTo]
    refine ⟨by split <;> (first | lia | omega), fun ⟨i, hi, hb⟩ => ?_⟩
    by_cases h : i = n
    · subst h; rw [if_pos hb]; (first | lia | omega)
    · have := k2 ⟨i, by (first | lia | omega), hb⟩
      split <;> (first | lia | omega)
/-- the signed sum tells whether all is marked -/
theorem sum_law (ts : List (Int × Int)) (ht : ∀ t ∈ ts, 1 ≤ t.2 ∧ t.2 ≤ 8) : ((∀ x, bareB ts x = false) → (termsF (periodF ts) (meetsF ts)).sum = 0) ∧ ((∃ x, bareB ts x = true) → (termsF (periodF ts) (meetsF ts)).sum ≠ 0) := by
  have hp := period_bd ts ht 0 1 (by decide) (by decide)
  have hp1 : 1 ≤ periodF ts := hp.1
  obtain ⟨k1, k2⟩ := wt_fold ts [(1, some (0, 1))] 1 ht (fun p hp q hq => by
    rcases List.mem_singleton.mp hp with rfl
    cases hq
    exact ⟨Int.le_refl _, Int.dvd_refl _⟩)
  obtain ⟨_, hd⟩ := period_dvd ts 1
  have hd : ∀ t ∈ ts, t.2 ∣ periodF ts := hd
  have k2 : GoodP (periodF ts) (meetsF ts) := k2
  have k1 : ∀ x, Wt (meetsF ts) x = if bareB ts x = true then 1 else 0 := fun x => by
    have := k1 x
    have e : Wt [(1, some (0, 1))] x = 1 := by simp [Wt, ind]
    rw [e] at this
    exact this
  obtain ⟨P, hP⟩ : ∃ P : Nat, periodF ts = (P : Int) := ⟨(periodF ts).toNat, by (first | lia | omega)⟩
  rw [hP] at k2 hd hp1 ⊢
  have hP0 : 0 < P := by (first | lia | omega)
  rw [terms_sum P hP0 _ k2, sumTo_congr (g := fun x => if bareB ts x = true then 1 else 0) fun i _ => k1 i]
  refine ⟨fun h => ?_, fun ⟨x, hx⟩ => ?_⟩
  · rw [sumTo_congr (g := fun _ => 0) fun i _ => by simp [h], sumTo_zero]
  · have n1 := Int.emod_nonneg x (show (P : Int) ≠ 0 by (first | lia | omega))
    have n2 := Int.emod_lt_of_pos x (show (0 : Int) < P by (first | lia | omega))
    have := (sumTo_bare ts P).2 ⟨(x % P).toNat, by (first | lia | omega), by
      rw [Int.toNat_of_nonneg n1, bare_iff]
      intro t htm hdv
      refine (bare_iff ts x).mp hx t htm ?_
      have e := Int.emod_add_mul_ediv x P
      have : x - t.1 = (x % P - t.1) + P * (x / P) := by (first | lia | omega)
      rw [this]
      exact Int.dvd_add hdv (Int.dvd_trans (hd t htm) (Int.dvd_mul_right _ _))⟩
    (first | lia | omega)
end Mine
namespace Mine
theorem least (p : Nat → Bool) : ∀ n : Nat, (∃ k, k < n ∧ p k = true) → ∃ f, f < n ∧ p f = true ∧ ∀ k, k < f → p k = false
  | 0, ⟨k, hk, _⟩ => by (first | lia | omega)
  | n + 1, ⟨k, hk, hp⟩ => by
    by_cases h : ∃ k, k < n ∧ p k = true
    · obtain ⟨f, h1, h2, h3⟩ := least p n h
      exact ⟨f, by (first | lia | omega), h2, h3⟩
    · have : k = n := by
        rcases Nat.lt_or_ge k n with h' | h'
        · exact absurd ⟨k, h', hp⟩ h
        · (first | lia | omega)
      subst this
      refine ⟨k, by (first | lia | omega), hp, fun j hj => ?_⟩
      cases hq : p j with
      | false => rfl
      | true => exact absurd ⟨j, hj, hq⟩ h
theorem row_len (ts : List (Int × Int)) (n : Nat) : (rowS ts n).length = n := by
  show (rowF ts n).toArray.size = n
  simp [rowF]
theorem row_at (ts : List (Int × Int)) {n k : Nat} (h : k < n) : (rowS ts n).cps[k]? = some (if bareB ts (17 + k) then 9 else 32) := by
  show (rowF ts n).toArray[k]? = _
  rw [List.getElem?_toArray]
  unfold rowF
  rw [List.getElem?_map, List.getElem?_range h]
  rfl
theorem slice_eq (x : Str) {i j : Nat} (h : i ≤ j) (hj : j ≤ x.length) : Txt.slice x (some (i : Int)) (some (j : Int)) = ⟨((x.cps.toList.drop i).take (j - i)).toArray⟩ := by
  have hl : x.cps.toList.length = x.length := by simp [Str.length]
  have := eq_of_beq (slice_closes (x := x) (i := i) (j := j) ⟨by (first | lia | omega), by (first | lia | omega), by (first | lia | omega)⟩)
  rw [this]
  congr 3
  (first | lia | omega)
theorem cut_eq (ts : List (Int × Int)) {n i j : Nat} (h : i + j ≤ n) : cut (rowS ts n) i j = ⟨(((rowF ts n).drop i).take (n - j - i)).toArray⟩ := by
  unfold cut
  rw [row_len, show ((n : Int) - (j : Int)) = ((n - j : Nat) : Int) by (first | lia | omega), slice_eq _ (by (first | lia | omega)) (by rw [row_len]; (first | lia | omega))]
  rfl
theorem row_mem (ts : List (Int × Int)) (n : Nat) : ∀ c ∈ rowF ts n, c = 9 ∨ c = 32 := by
  intro c hc
  unfold rowF at hc
  obtain ⟨j, _, rfl⟩ := List.mem_map.mp hc
  split
  · exact .inl rfl
  · exact .inr rfl
theorem cut_shp (ts : List (Int × Int)) {n i j : Nat} (h : i + j ≤ n) : Shp 1 (.str (cut (rowS ts n) i j)) := by
  refine Shp.str ?_
  rw [cut_eq ts h]
  unfold PyData.strOk
  rw [List.all_toArray, List.all_eq_true]
  intro c hc
  have := row_mem ts n c (List.mem_of_mem_drop (List.mem_of_mem_take hc))
  rcases this with rfl | rfl <;> decide
theorem blanks : ∀ m < 17, Txt.mul (Str.ofString " ") ((m : Nat) : Int) = ⟨(List.replicate m 32).toArray⟩ := by decide +kernel
theorem cut_len (ts : List (Int × Int)) {n i j : Nat} (h : i + j ≤ n) : (cut (rowS ts n) i j).length = n - j - i := by
  rw [cut_eq ts h]
  show (List.toArray _).size = _
  have : (rowF ts n).length = n := by simp [rowF]
  simp [this]
  (first | lia | omega)
end Mine
namespace Mine
theorem find_eq (ts : List (Int × Int)) {n f g : Nat} (hfg : f + g < n) (hb : ∀ k : Nat, k < f → bareB ts (17 + k) = false) (hf : bareB ts (17 + f) = true) : Txt.find (rowS ts n) (cut (rowS ts n) f g) = f := by
  have hlen := cut_len ts (show f + g ≤ n by (first | lia | omega))
  have hl : (rowF ts n).length = n := by simp [rowF]
  have atf : StrLaws.At (rowS ts n) (cut (rowS ts n) f g) (rowS ts n).length f := by
    refine ⟨by rw [hlen, row_len]; (first | lia | omega), ?_⟩
    rw [StrLaws.subAt_eq, hlen, cut_eq ts (by (first | lia | omega))]
    show ((((rowF ts n).drop f).take (n - g - f)) == _) = true
    simp
  rcases find_whole (rowS ts n) (cut (rowS ts n) f g) with ⟨_, h⟩ | ⟨i, hi, hat, hn⟩
  · exact absurd atf (h f)
  · rw [hi]
    have hle : i ≤ f := by
      rcases Nat.lt_or_ge f i with h | h
      · exact absurd atf (hn f h)
      · exact h
    rcases Nat.lt_or_ge i f with h | h
    · exfalso
      obtain ⟨h1, h2⟩ := hat
      rw [StrLaws.subAt_eq, hlen, cut_eq ts (by (first | lia | omega))] at h2
      have h3 : ((rowF ts n).drop i).take (n - g - f) = ((rowF ts n).drop f).take (n - g - f) := by
        have := eq_of_beq h2
        simpa [rowS] using this
      have h4 : (((rowF ts n).drop i).take (n - g - f))[0]? = (((rowF ts n).drop f).take (n - g - f))[0]? := by rw [h3]
      rw [List.getElem?_take_of_lt (by (first | lia | omega)), List.getElem?_take_of_lt (by (first | lia | omega)), List.getElem?_drop, List.getElem?_drop] at h4
      have e : ∀ k, k < n → (rowF ts n)[k]? = some (if bareB ts (17 + (k : Int)) then 9 else 32) := fun k hk => by
        unfold rowF
        rw [List.getElem?_map, List.getElem?_range hk]; rfl
      rw [Nat.add_zero, Nat.add_zero, e i (by (first | lia | omega)), e f (by (first | lia | omega)), hb i h, hf] at h4
      cases h4
    · rw [show i = f by (first | lia | omega)]
theorem told_due (ts : List (Int × Int)) (n : Nat) (few : Int) (hts : ∀ t ∈ ts, 1 ≤ t.2 ∧ t.2 ≤ 8) (hl : ts.length ≤ 4) (hn : 2 ^ ts.length ≤ n) (hn16 : n ≤ 16) : ∃ d, ToldOk (rowS ts n) few d ∧ DueOk ts n few d ∧ ∀ x ∈ d, Shp 1 x := by
  obtain ⟨sum1, sum2⟩ := sum_law ts hts
  have len := row_len ts n
  unfold ToldOk DueOk
  rw [len]
  have f0 : 0 ≤ few.fmod ((n : Int) + 1) := Int.fmod_nonneg_of_pos _ (by (first | lia | omega))
  have f1 : few.fmod ((n : Int) + 1) < (n : Int) + 1 := Int.fmod_lt_of_pos _ (by (first | lia | omega))
  generalize few.fmod ((n : Int) + 1) = F at *
  obtain ⟨F, rfl⟩ := Int.eq_ofNat_of_zero_le f0
  have hF : F ≤ n := by (first | lia | omega)
  by_cases hex : ∃ k, k < n ∧ bareB ts (17 + (k : Int)) = true
  · obtain ⟨f, hf, hfb, hfn⟩ := least (fun k => bareB ts (17 + (k : Int))) n hex
    obtain ⟨g, hg, hgb, hgn⟩ := least (fun k => bareB ts (16 + (n : Int) - k)) n ⟨n - 1 - f, by (first | lia | omega), by
      show bareB ts (16 + (n : Int) - ((n - 1 - f : Nat) : Int)) = true
      rw [show 16 + (n : Int) - ((n - 1 - f : Nat) : Int) = 17 + (f : Int) by (first | lia | omega)]
      exact hfb⟩
    have hfg : f + g < n := by
      rcases Nat.lt_or_ge (n - 1 - f) g with h | h
      · have := hgn _ h
        rw [show 16 + (n : Int) - ((n - 1 - f : Nat) : Int) = 17 + (f : Int) by (first | lia | omega)] at this
        rw [hfb] at this; cases this
      · (first | lia | omega)
    have c1 : ∀ k, k < f → (rowS ts n).cps[k]? = some 32 := fun k hk => by rw [row_at ts (by (first | lia | omega)), hfn k hk]; rfl
    have c2 : (rowS ts n).cps[f]? = some 9 := by rw [row_at ts (by (first | lia | omega)), hfb]; rfl
    have e0 : ∀ k, k < n → (17 : Int) + ((n - 1 - k : Nat) : Int) = 16 + (n : Int) - k := fun k hk => by (first | lia | omega)
    have c3 : ∀ k, k < g → (rowS ts n).cps[n - 1 - k]? = some 32 := fun k hk => by rw [row_at ts (by (first | lia | omega)), e0 k (by (first | lia | omega)), hgn k hk]; rfl
    have c4 : (rowS ts n).cps[n - 1 - g]? = some 9 := by rw [row_at ts (by (first | lia | omega)), e0 g (by (first | lia | omega)), hgb]; rfl
    have sok : ∀ a : Int, (∀ k : Nat, k < f → a ≠ k) → (∀ k : Nat, k < g → a - f ≠ k) → SOk (rowS ts n) a f g := fun a h h' =>
      { hi := by rw [len]; (first | lia | omega)
        hj := by rw [len]; (first | lia | omega)
        h1 := fun k hk => ⟨c1 k hk, h k hk⟩
        h2 := .inr ⟨9, c2, by decide⟩
        h3 := fun k hk => ⟨by rw [len]; exact c3 k hk, h' k hk⟩
        h4 := .inr ⟨by rw [len]; exact hfg, 9, by rw [len]; exact c4, by decide⟩ }
    have sokF : SOk (rowS ts n) (F : Int) (min f F) (min g (F - min f F)) :=
      { hi := by rw [len]; (first | lia | omega)
        hj := by rw [len]; (first | lia | omega)
        h1 := fun k hk => ⟨c1 k (by (first | lia | omega)), by (first | lia | omega)⟩
        h2 := by
          by_cases h : F ≤ f
          · left; (first | lia | omega)
          · right; rw [show min f F = f by (first | lia | omega)]; exact ⟨9, c2, by decide⟩
        h3 := fun k hk => ⟨by rw [len]; exact c3 k (by (first | lia | omega)), by (first | lia | omega)⟩
        h4 := by
          by_cases h : F - min f F ≤ g
          · left; (first | lia | omega)
          · right
            rw [len, show min f F = f by (first | lia | omega), show min g (F - f) = g by (first | lia | omega)]
            exact ⟨hfg, 9, c4, by decide⟩ }
    have clen := cut_len ts (show f + g ≤ n by (first | lia | omega))
    have hfind := find_eq ts hfg (fun k hk => hfn k hk) hfb
    have hA : aheadF (F : Int) (f : Int) = ((min f F : Nat) : Int) := by
      unfold aheadF; split <;> (first | lia | omega)
    have hB : behindF (F : Int) (f : Int) (g : Int) n = ((min g (F - min f F) : Nat) : Int) := by
      unfold behindF; rw [hA]; split <;> (first | lia | omega)
    have hd : dueD ts n F f g = [.str (cut (rowS ts n) f g), .str (cut (rowS ts n) (min f F) (min g (F - min f F))), .int (Txt.find (rowS ts n) (cut (rowS ts n) f g)), .int (cut (rowS ts n) f g).length] := by
      rw [hfind, clen]
      unfold dueD
      rw [hA, hB]
      unfold cut
      rw [len, show (17 : Int) + (f : Int) - 17 = f by (first | lia | omega), show (16 : Int) + (n : Int) - (g : Int) - 16 = (n : Int) - g by (first | lia | omega), show (16 : Int) + (n : Int) - (g : Int) - (17 + (f : Int)) + 1 = ((n - g - f : Nat) : Int) by (first | lia | omega)]
    refine ⟨dueD ts n F f g, ⟨by (first | lia | omega), f, g, _, _, sok _ (fun k hk => by (first | lia | omega)) (fun k hk => by (first | lia | omega)), sokF, .inl ⟨f, g, sok _ (fun k hk => by (first | lia | omega)) (fun k hk => by (first | lia | omega)), by rw [clen]; (first | lia | omega), hd⟩⟩, .inr ⟨sum2 ⟨_, hfb⟩, f, g, by (first | lia | omega), by (first | lia | omega), fun k hk => hfn k hk, hfb, fun k hk => hgn k hk, hgb, rfl⟩, ?_⟩
    rw [hd]
    intro x hx
    simp only [List.mem_cons, List.not_mem_nil, or_false] at hx
    rcases hx with rfl | rfl | rfl | rfl
    · exact cut_shp ts (by (first | lia | omega))
    · exact cut_shp ts (by (first | lia | omega))
    · exact Shp.int
    · exact Shp.int
  · have hall : ∀ k : Nat, k < n → bareB ts (17 + (k : Int)) = false := fun k hk => by
      cases h : bareB ts (17 + (k : Int)) with
      | false => rfl
      | true => exact absurd ⟨k, hk, h⟩ hex
    have hz := sum1 (cve ts hts hl n hn hall)
    have c1 : ∀ k, k < n → (rowS ts n).cps[k]? = some 32 := fun k hk => by rw [row_at ts hk, hall k hk]; rfl
    have rep : rowF ts n = List.replicate n 32 := by
      unfold rowF
      apply List.ext_getElem
      · simp
      · intro i h1 h2
        simp only [List.length_map, List.length_range] at h1
        rw [List.getElem_map, List.getElem_range, hall i h1, List.getElem_replicate]
        rfl
    have sok : ∀ F : Nat, F ≤ n → SOk (rowS ts n) (F : Int) F 0 := fun F hF =>
      { hi := by rw [len]; (first | lia | omega)
        hj := by rw [len]; (first | lia | omega)
        h1 := fun k hk => ⟨c1 k (by (first | lia | omega)), by (first | lia | omega)⟩
        h2 := .inl rfl
        h3 := fun k hk => by (first | lia | omega)
        h4 := .inl (by (first | lia | omega)) }
    have hc : ∀ F : Nat, F ≤ n → cut (rowS ts n) F 0 = Txt.mul (Str.ofString " ") ((n : Int) - F) := fun F hF => by
      rw [cut_eq ts (by (first | lia | omega)), rep, List.drop_replicate, List.take_replicate, show (n : Int) - (F : Int) = ((n - F : Nat) : Int) by (first | lia | omega), blanks _ (by (first | lia | omega))]
      congr 3
      (first | lia | omega)
    have hc0 : cut (rowS ts n) n 0 = Str.ofString "" := by
      rw [hc n (Nat.le_refl _), Int.sub_self]; decide +kernel
    have hd : [PyData.str (Str.ofString ""), .str (Txt.mul (Str.ofString " ") ((n : Int) - F))] = [.str (cut (rowS ts n) n 0), .str (cut (rowS ts n) F 0)] := by rw [hc0, hc F hF]
    refine ⟨[.str (Str.ofString ""), .str (Txt.mul (Str.ofString " ") ((n : Int) - F))], ⟨by (first | lia | omega), n, 0, F, 0, sok n (Nat.le_refl _), sok F hF, .inr ⟨fun k hk => c1 k hk, hd⟩⟩, .inl ⟨hz, rfl⟩, ?_⟩
    rw [hd]
    intro x hx
    simp only [List.mem_cons, List.not_mem_nil, or_false] at hx
    rcases hx with rfl | rfl
    · exact cut_shp ts (by (first | lia | omega))
    · exact cut_shp ts (by (first | lia | omega))
theorem law_F5 (script : List Int) (c : Int) : ∃ d, ToldOk ⟨(rowcF script c).toArray⟩ (fewF script) d ∧ DueOk (tsF script c) (2 ^ (ksF c).length) (fewF script) d ∧ ∀ x ∈ d, Shp 1 x := by
  rw [rowc_eq]
  have hlk : (tsF script c).length ≤ (ksF c).length := List.length_filterMap_le _ _
  have hk := ks_len c
  exact told_due _ _ _ (fun t ht => ⟨(ts_good script c t ht).1, (ts_good script c t ht).2.1⟩) (by (first | lia | omega)) (Nat.pow_le_pow_right (by decide) hlk) (pow4 hk)
end Mine
namespace Mine
theorem caller_cx : Cx callerA [] 4 := ⟨rfl, rfl, by decide, by decide⟩
theorem caller_at (s : Shared) : At s.heap [] s := ⟨fun _ _ e => e, by
  first
  | exact trivial
  | exact .nil
  | constructor, fun f hf => by cases hf⟩
theorem law_walks {w : World} {s₁ : Shared} {mg mb : Loc} (T : Tb (KF w) mg mb s₁.heap) {v : Value} {script : List Int} {as : List Addr} (hv : Reads s₁.heap v (.list (script.map .int)) as) (hlen : script.length ≤ 63) {Q E : Value → Shared → Prop}
    (h : ∀ s', (∀ b o, s₁.heap.get? b = some o → s'.heap.get? b = some o) → s'.os = s₁.os → (AllBare s₁.gens → AllBare s'.gens) → Q (.bool true) s') : wpAny (model prg w) callerA (call (.ref 128) [v]) Q E s₁ := by
  refine (c_law (dF := fun c => (law_F5 script c).choose) T caller_cx (caller_at s₁) hv (by omega) (fun n => (F12 n).1) (fun n => ⟨(F12 n).2.1, (F12 n).2.2.1⟩) law_F3 law_F4 (fun c _ _ => (law_F5 script c).choose_spec) fun s' G => ?_).go
  exact h s' (fun b o e => (G.ch b o (by simp) e).1 (by simp [frs])) G.os G.gs.bare
end Mine
set_option maxHeartbeats 8000000
theorem PySem.Challenge.cw_pk0054_01_holds : PySem.Challenge.rw_pk0054_01.Holds :=
  Mine.hd (by
  k_fill
  intro w s₀ s₁ mg mb G Y fa o pm cd doc dV kV ho hd hcd hD hmg hg args vals as hpre hlay hrd hwl hlo
  have KX := kIn_of Y
  refine Ground.open G ?_
  intro T B D TE TW
  wrow_args hpre hlay hrd hwl hlo
  rename_i script _ _ _ _ _ _ _ _ _ _ _ _ r0 _ _ hc _
  have TT : Mine.Tb (Mine.KF w) mg mb s₁.heap := ⟨KX, T.g, T.b, T.nolimit, T.builtins⟩
  have e := mg_of (n := PySem.Str.ofString "law") KX T.g (v := .ref 128) (by rfl)
  have e2 : fa = 128 := by
    have h2 : some (Value.ref fa) = some (Value.ref 128) := hmg.symm.trans e
    injection h2 with h2
    injection h2
  subst e2
  refine Mine.law_walks TT r0 (by omega) fun s' hk ho' hb => ?_
  refine ⟨.inl ⟨.bool true, .bool true, [], rfl, fun _ => rfl, .bool _, ?_, fun _ => ⟨List.nodup_nil, fun a ha => by cases ha⟩⟩, OldK.of_keep hk, ho', hb ?_⟩
  · exact postW_of (by first | rfl | decide | simp [WShape.has]) (w_eq (w_res rfl) w_lit) (by first | rfl | decide | simp [PySem.W.same])
  · exact .of_eq hg)
