import PyProof.Rows.All
import Wide.All
import OpenK.AllK
import Wide.FinOn
import PySem.Challenge.RW_st0022_01
set_option Elab.async false
set_option maxRecDepth 100000
set_option maxHeartbeats 8000000
set_option linter.unusedVariables false
namespace Mine
local macro_rules
  | `(tactic| walk_at "r") => `(tactic| with_unfolding_all rfl)
section
open PySem PySem.W PyProof.Rows
set_option maxRecDepth 100000 in
set_option maxHeartbeats 8000000 in
open_top hd for PySem.Challenge.rw_st0022_01
end
section
open PySem PySem.W PySem.Calls PyProof.Rows
noncomputable abbrev PG : Program := PySem.Challenge.rw_st0022_01.row.prog
noncomputable abbrev Kf (w : World) : Frag := Mine.hd.heap_39 w.params
noncomputable abbrev LO : List Str := looseW Mine.hd.view_39
      [Str.ofString "tspecials", Str.ofString "_name_disallowed_re", Str.ofString "_value_disallowed_re",
        Str.ofString "_formatparam", Str.ofString "_twin_re_1", Str.ofString "_twin_re_2"]
structure Stat (w : World) (mg mb : Str → Option Value) (h : Heap) : Prop where
  K : (Kf w).In h
  T : TopRead Mine.hd.view_39 LO mg mb h
theorem Stat.keeps {w mg mb} {h h' : Heap} (S : Stat w mg mb h) (k : ∀ b o, h.get? b = some o → h'.get? b = some o) : Stat w mg mb h' :=
  ⟨Frag.In.keeps S.K k, S.T.keeps k⟩
noncomputable def HC : Addr := 182
inductive V where
  | none
  | bool (b : Bool)
  | int (i : Int)
  | str (s : Str)
  | lit (s : Str)
  | list (xs : List V)
  | tup (xs : List V)
  | hdr (xs : List V)
  | hdrP (xs : List V)
  | rng (a b c : Int)
  | mu (a : Addr)
  | mh (a : Addr)
  | stat (v : Value)
  | edict
  | any
noncomputable def HdrAt (w : World) (W : List Addr) (h : Heap) (x l : Addr) : Prop :=
  x ∉ W ∧ ∃ dx n t, dx ∉ W ∧ h.get? x = some (instObj HC dx) ∧
    h.get? dx = some (dictOf [⟨PyData.keyHash w.params (Str.ofString "_headers"), .str (Str.ofString "_headers") t, .ref l⟩] n)
mutual
noncomputable def VR (w : World) (W : List Addr) (s : Shared) : V → Value → Prop
  | .none, v => v = .none
  | .bool b, v => v = .bool b
  | .int i, v => ∃ t, v = .int i t
  | .str x, v => ∃ t, v = .str x t
  | .lit x, v => ∃ t, v = .str x t ∧ t ≠ 0 ∧ @LT.lt Nat _ t s.toks
  | .list xs, v => ∃ a vs, v = .ref a ∧ a ∉ W ∧ s.heap.IsList a (List.toArray vs) ∧ VRs w W s xs vs
  | .tup xs, v => ∃ a vs, v = .ref a ∧ a ∉ W ∧ IsTup s.heap a (List.toArray vs) ∧ VRs w W s xs vs
  | .hdr xs, v => ∃ x l vs, v = .ref x ∧ HdrAt w W s.heap x l ∧ l ∉ W ∧ s.heap.IsList l (List.toArray vs) ∧ VRs w W s xs vs
  | .hdrP xs, v => ∃ x l vs, v = .ref x ∧ HdrAt w W s.heap x l ∧ l ∉ W ∧ s.heap.PlainList l (List.toArray vs) ∧ VRs w W s xs vs
  | .rng a b c, v => ∃ r t u x, v = .ref r ∧ r ∉ W ∧ IsRange s.heap r a b c t u x
  | .mu a, v => v = .ref a
  | .mh a, v => ∃ x, v = .ref x ∧ HdrAt w W s.heap x a
  | .stat u, v => v = u
  | .edict, v => ∃ a, v = .ref a ∧ a ∉ W ∧ (a == sysModules) = false ∧ s.heap.get? a = some { cls := .type "dict", data := .dict #[] }
  | .any, _ => True
noncomputable def VRs (w : World) (W : List Addr) (s : Shared) : List V → List Value → Prop
  | [], vs => vs = []
  | x :: xs, vs => ∃ v r, vs = v :: r ∧ VR w W s x v ∧ VRs w W s xs r
end
noncomputable def KeepW (W : List Addr) (s s' : Shared) : Prop := (∀ b o, b ∉ W → s.heap.get? b = some o → s'.heap.get? b = some o) ∧ @LE.le Nat _ s.toks s'.toks
noncomputable def StaysIn (h h' : Heap) : Prop := ∀ b o, h.get? b = some o → h'.get? b = some o
theorem StaysIn.refl (h : Heap) : StaysIn h h := fun uu uu e => e
theorem StaysIn.trans {a b c : Heap} (x : StaysIn a b) (y : StaysIn b c) : StaysIn a c := fun uu uu e => y _ _ (x _ _ e)
theorem KeepW.refl (W s) : KeepW W s s := ⟨fun uu uu uu e => e, Nat.le_refl _⟩
theorem StaysIn.keepW {s s' : Shared} {W} (x : StaysIn s.heap s'.heap) (t : @LE.le Nat _ s.toks s'.toks) : KeepW W s s' := ⟨fun uu uu uu e => x _ _ e, t⟩
theorem KeepW.of_sameBut {L : Addr} {W : List Addr} {s s' : Shared} (hs : Heap.SameBut L s.heap s'.heap) (hL : L ∈ W) (t : @LE.le Nat _ s.toks s'.toks) : KeepW W s s' :=
  ⟨fun b uu hb e => (hs.2 b (fun q => hb (q ▸ hL))).trans e, t⟩
theorem isRange_at {h h' : Heap} {r a b c t u x} (z : IsRange h r a b c t u x) (k : ∀ o, h.get? r = some o → h'.get? r = some o) : IsRange h' r a b c t u x := k _ z
theorem HdrAt.keep {w W W' s s' x l} (z : HdrAt w W (Shared.heap s) x l) (k : KeepW W s s') (hW : ∀ a, a ∉ W → (∃ o, s.heap.get? a = some o) → a ∉ W') : HdrAt w W' s'.heap x l := by
  obtain ⟨a, dx, n, t, b, c, d⟩ := z
  exact ⟨hW _ a ⟨_, c⟩, dx, n, t, hW _ b ⟨_, d⟩, k.1 _ _ a c, k.1 _ _ b d⟩
mutual
theorem VR.keep {w : World} {W W' : List Addr} {h h' : Shared} (k : KeepW W h h') (hW : ∀ a, a ∉ W → (∃ o, h.heap.get? a = some o) → a ∉ W') :
    ∀ {x : V} {v : Value}, VR w W h x v → VR w W' h' x v
  | .none, _, z => z
  | .bool _, _, z => z
  | .int _, _, z => z
  | .str _, _, z => z
  | .lit _, _, z => by
    obtain ⟨t, e, a, b⟩ := z
    exact ⟨t, e, a, Nat.lt_of_lt_of_le b k.2⟩
  | .list _, _, z => by
    obtain ⟨a, vs, e, hn, hl, hs⟩ := z
    exact ⟨a, vs, e, hW _ hn (let ⟨o, ho, _⟩ := hl; ⟨o, ho⟩), hl.at (fun o e => k.1 _ o hn e), VRs.keep k hW hs⟩
  | .tup _, _, z => by
    obtain ⟨a, vs, e, hn, hl, hs⟩ := z
    exact ⟨a, vs, e, hW _ hn (let ⟨o, ho, _⟩ := hl; ⟨o, ho⟩), (let ⟨o, ho, r⟩ := hl; ⟨o, k.1 _ o hn ho, r⟩), VRs.keep k hW hs⟩
  | .hdr _, _, z => by
    obtain ⟨x, l, vs, e, hx, hn, hl, hs⟩ := z
    exact ⟨x, l, vs, e, hx.keep k hW, hW _ hn (let ⟨o, ho, _⟩ := hl; ⟨o, ho⟩), hl.at (fun o e => k.1 _ o hn e), VRs.keep k hW hs⟩
  | .hdrP _, _, z => by
    obtain ⟨x, l, vs, e, hx, hn, hl, hs⟩ := z
    exact ⟨x, l, vs, e, hx.keep k hW, hW _ hn (let ⟨n, ho⟩ := hl; ⟨_, ho⟩), hl.at (fun o e => k.1 _ o hn e), VRs.keep k hW hs⟩
  | .rng _ _ _, _, z => by
    obtain ⟨r, t, u, x, e, hn, hr⟩ := z
    exact ⟨r, t, u, x, e, hW _ hn ⟨_, hr⟩, isRange_at hr (fun o e => k.1 _ o hn e)⟩
  | .mu _, _, z => z
  | .mh _, _, z => by
    obtain ⟨x, e, hx⟩ := z
    exact ⟨x, e, hx.keep k hW⟩
  | .stat _, _, z => z
  | .edict, _, z => by
    obtain ⟨a, e, hn, hs, ho⟩ := z
    exact ⟨a, e, hW _ hn ⟨_, ho⟩, hs, k.1 _ _ hn ho⟩
  | .any, _, _ => trivial
theorem VRs.keep {w : World} {W W' : List Addr} {h h' : Shared} (k : KeepW W h h') (hW : ∀ a, a ∉ W → (∃ o, h.heap.get? a = some o) → a ∉ W') :
    ∀ {xs : List V} {vs : List Value}, VRs w W h xs vs → VRs w W' h' xs vs
  | [], _, z => z
  | _ :: _, _, ⟨v, r, e, a, b⟩ => ⟨v, r, e, VR.keep k hW a, VRs.keep k hW b⟩
end
theorem VR.keeps {w : World} {W : List Addr} {h h' : Shared} (k : KeepW W h h') {x : V} {v : Value} (z : VR w W h x v) : VR w W h' x v := z.keep k fun uu a uu => a
theorem VRs.keeps {w : World} {W : List Addr} {h h' : Shared} (k : KeepW W h h') {x : List V} {v : List Value} (z : VRs w W h x v) : VRs w W h' x v := z.keep k fun uu a uu => a
theorem VR.less {w : World} {W W' : List Addr} {h : Shared} {x : V} {v : Value} (z : VR w W h x v) (s : ∀ a, a ∈ W' → a ∈ W) : VR w W' h x v := z.keep (.refl _ _) fun uu a uu b => a (s _ b)
theorem VRs.less {w : World} {W W' : List Addr} {h : Shared} {x : List V} {v : List Value} (z : VRs w W h x v) (s : ∀ a, a ∈ W' → a ∈ W) : VRs w W' h x v := z.keep (.refl _ _) fun uu a uu b => a (s _ b)
theorem VR.fresh {w : World} {W : List Addr} {h : Shared} {x : V} {v : Value} (z : VR w W h x v) {F : List Addr} (f : ∀ a ∈ F, h.heap.get? a = none) : VR w (F ++ W) h x v :=
  z.keep (.refl _ _) fun a ha ⟨o, ho⟩ hm => by
    rcases List.mem_append.mp hm with q | q
    · rw [f a q] at ho; cases ho
    · exact ha q
theorem VRs.fresh {w : World} {W : List Addr} {h : Shared} {x : List V} {v : List Value} (z : VRs w W h x v) {F : List Addr} (f : ∀ a ∈ F, h.heap.get? a = none) : VRs w (F ++ W) h x v :=
  z.keep (.refl _ _) fun a ha ⟨o, ho⟩ hm => by
    rcases List.mem_append.mp hm with q | q
    · rw [f a q] at ho; cases ho
    · exact ha q
theorem VR.ofLit {w W s x v} (z : VR w W s (.lit x) v) : VR w W s (.str x) v := let ⟨t, e, _⟩ := z; ⟨t, e⟩
theorem VRs.length {w W h} : ∀ {xs : List V} {vs : List Value}, VRs w W h xs vs → vs.length = xs.length
  | [], _, z => by cases z; rfl
  | _ :: xs, _, ⟨v, r, e, _, b⟩ => by cases e; simp [VRs.length b]
theorem VRs.get {w W h} : ∀ {xs : List V} {vs : List Value}, VRs w W h xs vs → ∀ {i : Nat} {x : V}, xs[i]? = some x → ∃ v, vs[i]? = some v ∧ VR w W h x v
  | [], _, _, _, _, e => by cases e
  | x :: xs, _, ⟨v, r, e, a, b⟩, 0, y, q => by cases e; cases q; exact ⟨v, rfl, a⟩
  | x :: xs, _, ⟨v, r, e, a, b⟩, i + 1, y, q => by cases e; exact VRs.get b (by simpa using q)
theorem VRs.get' {w W h} : ∀ {xs : List V} {vs : List Value}, VRs w W h xs vs → ∀ {i : Nat} {v : Value}, vs[i]? = some v → ∃ x, xs[i]? = some x ∧ VR w W h x v
  | [], _, z, _, _, e => by cases z; cases e
  | x :: xs, _, ⟨v, r, e, a, b⟩, 0, y, q => by cases e; cases q; exact ⟨x, rfl, a⟩
  | x :: xs, _, ⟨v, r, e, a, b⟩, i + 1, y, q => by cases e; exact VRs.get' b (by simpa using q)
theorem VRs.append {w W h} : ∀ {xs ys : List V} {vs us : List Value}, VRs w W h xs vs → VRs w W h ys us → VRs w W h (xs ++ ys) (vs ++ us)
  | [], _, _, _, z, y => by cases z; exact y
  | x :: xs, _, _, _, ⟨v, r, e, a, b⟩, y => by cases e; exact ⟨v, _, rfl, a, VRs.append b y⟩
theorem VRs.one {w W h} {x : V} {v : Value} (z : VR w W h x v) : VRs w W h [x] [v] := ⟨v, [], rfl, z, rfl⟩
theorem VRs.take {w W h} : ∀ {xs : List V} {vs : List Value} (n : Nat), VRs w W h xs vs → VRs w W h (xs.take n) (vs.take n)
  | [], _, n, z => by cases z; simp [VRs]
  | x :: xs, _, 0, z => by simp [VRs]
  | x :: xs, _, n + 1, ⟨v, r, e, a, b⟩ => by cases e; exact ⟨v, _, rfl, a, VRs.take n b⟩
theorem VRs.drop {w W h} : ∀ {xs : List V} {vs : List Value} (n : Nat), VRs w W h xs vs → VRs w W h (xs.drop n) (vs.drop n)
  | [], _, n, z => by cases z; simp [VRs]
  | x :: xs, _, 0, z => z
  | x :: xs, _, n + 1, ⟨v, r, e, a, b⟩ => by cases e; exact VRs.drop n b
theorem VRs.set {w W h} : ∀ {xs : List V} {vs : List Value} (n : Nat) {x : V} {v : Value}, VRs w W h xs vs → VR w W h x v → VRs w W h (xs.set n x) (vs.set n v)
  | [], _, n, _, _, z, _ => by cases z; simp [VRs]
  | x :: xs, _, 0, _, _, ⟨v, r, e, a, b⟩, y => by cases e; exact ⟨_, _, rfl, y, b⟩
  | x :: xs, _, n + 1, _, _, ⟨v, r, e, a, b⟩, y => by cases e; exact ⟨_, _, rfl, a, VRs.set n b y⟩
end
section
open PySem PySem.W PySem.Calls PyProof.Rows
structure Cx where
  w : World
  mg : Str → Option Value
  mb : Str → Option Value
  A : Around
  env : Env
  h₀ : Heap
  own : List Addr
  out : List Addr
  k : Nat
noncomputable abbrev Rho := List (Str × V)
noncomputable abbrev Sig := List (Addr × List V)
structure Cx.Ok (c : Cx) : Prop where
  kind : c.env.scope.kind = .function
  glob : c.env.globals = mainGlobals
  blt : c.env.builtins = builtinsNs
  hand : c.A.handled = none
  depth : c.A.depth + 20 * c.k ≤ 600
  units : c.A.units + 100 * c.k ≤ 9000
  stat : Stat c.w c.mg c.mb c.h₀
  lown : c.env.locals ∈ c.own
  ownh : ∀ a ∈ c.own, c.h₀.get? a = none
  cdist : (c.env.cells.map (·.2)).Nodup
  cloc : c.env.locals ∉ c.env.cells.map (·.2)
  cin : ∀ p ∈ c.env.cells, p.2 ∈ c.own ∨ p.2 ∈ c.out
noncomputable abbrev wof (c : Cx) (σ : Sig) : List Addr := σ.map (·.1) ++ (c.own ++ c.out)
noncomputable def Loc (c : Cx) (σ : Sig) (h : Shared) (m : Str → Option Value) (x : Str) (X : V) : Prop :=
  (c.env.kindOf x = some .local → ∃ v, m x = some v ∧ VR c.w (wof c σ) h X v) ∧
  ((c.env.kindOf x = some .cell ∨ c.env.kindOf x = some .free) → ∃ a v, c.env.cells.lookup x = some a ∧ h.heap.IsCell a (some v) ∧ VR c.w (wof c σ) h X v)
noncomputable def Mut (c : Cx) (σ : Sig) (h : Shared) (a : Addr) (xs : List V) : Prop :=
  c.h₀.get? a = none ∧ a ∉ c.own ++ c.out ∧ ∃ vs, h.heap.PlainList a (List.toArray vs) ∧ VRs c.w (wof c σ) h xs vs
structure Rel (c : Cx) (ρ : Rho) (σ : Sig) (s : Shared) : Prop where
  ok : c.Ok
  base : StaysIn c.h₀ s.heap
  al : ∀ a ∈ wof c σ, ∃ o, s.heap.get? a = some o
  loc : ∃ m, s.heap.Ns c.env.locals m ∧ ∀ x X, ρ.lookup x = some X → Loc c σ s m x X
  cel : ∀ p ∈ c.env.cells, ∃ v, s.heap.IsCell p.2 v
  muts : ∀ p ∈ σ, Mut c σ s p.1 p.2
  nd : (σ.map (·.1)).Nodup
  tk : s.toks ≠ 0
noncomputable def GOk (a b : Array GenState) : Prop := (AllBare a → AllBare b) ∧ ∀ (i : Nat) x, a[i]? = some x → b[i]? = some x
theorem GOk.refl (a : Array GenState) : GOk a a := ⟨id, fun uu uu e => e⟩
noncomputable def Stp (s s' : Shared) : Prop := ∃ h' tk gs, s' = { s with heap := h', toks := tk, gens := gs } ∧ GOk s.gens gs ∧ @LE.le Nat _ s.toks tk
theorem Stp.refl (s : Shared) : Stp s s := ⟨s.heap, s.toks, s.gens, rfl, .refl _, Nat.le_refl _⟩
theorem Stp.trans {a b c : Shared} (x : Stp a b) (y : Stp b c) : Stp a c := by
  obtain ⟨h1, t1, g1, rfl, k1, l1⟩ := x
  obtain ⟨h2, t2, g2, rfl, k2, l2⟩ := y
  exact ⟨h2, t2, g2, rfl, ⟨fun z => k2.1 (k1.1 z), fun i x e => k2.2 i x (k1.2 i x e)⟩, Nat.le_trans l1 l2⟩
theorem Stp.gens {s s' : Shared} (x : Stp s s') : GOk s.gens s'.gens := by obtain ⟨_, _, _, rfl, k, _⟩ := x; exact k
theorem Stp.toks_le {s s' : Shared} (x : Stp s s') : @LE.le Nat _ s.toks s'.toks := by obtain ⟨_, _, _, rfl, _, l⟩ := x; exact l
theorem Stp.mk' {s : Shared} (h : Heap) (t : Nat) (l : @LE.le Nat _ s.toks t) : Stp s { s with heap := h, toks := t } := ⟨h, t, s.gens, rfl, .refl _, l⟩
noncomputable def KeepE (s s' : Shared) : Prop := Stp s s' ∧ StaysIn s.heap s'.heap
theorem KeepE.refl (s : Shared) : KeepE s s := ⟨.refl s, .refl _⟩
theorem KeepE.trans {a b c : Shared} (x : KeepE a b) (y : KeepE b c) : KeepE a c := ⟨x.1.trans y.1, x.2.trans y.2⟩
theorem KeepE.mk' {s : Shared} {h : Heap} {t : Nat} (k : StaysIn s.heap h) (l : @LE.le Nat _ s.toks t) : KeepE s { s with heap := h, toks := t } := ⟨.mk' h t l, k⟩
theorem KeepE.keepW {s s' : Shared} (x : KeepE s s') (W) : KeepW W s s' := x.2.keepW x.1.toks_le
theorem isCell_at {h h' : Heap} {a : Addr} {v} (x : h.IsCell a v) (k : ∀ o, h.get? a = some o → h'.get? a = some o) : h'.IsCell a v := let ⟨o, ho, r⟩ := x; ⟨o, k o ho, r⟩
theorem Ns_at {h h' : Heap} {a : Addr} {m} (x : h.Ns a m) (k : ∀ o, h.get? a = some o → h'.get? a = some o) : h'.Ns a m := let ⟨o, es, ep, ho, r⟩ := x; ⟨o, es, ep, k o ho, r⟩
theorem Rel.keepE {c ρ σ s s'} (R : Rel c ρ σ s) (K : KeepE s s') : Rel c ρ σ s' where
  ok := R.ok
  base := R.base.trans K.2
  al := fun a ha => let ⟨o, e⟩ := R.al a ha; ⟨o, K.2 _ _ e⟩
  loc := let ⟨m, hn, h⟩ := R.loc; ⟨m, hn.keeps K.2, fun x X e => ⟨fun q => let ⟨v, a, b⟩ := (h x X e).1 q; ⟨v, a, b.keeps (K.keepW _)⟩, fun q => let ⟨a, v, d, f, b⟩ := (h x X e).2 q; ⟨a, v, d, isCell_at f (fun o => K.2 _ o), b.keeps (K.keepW _)⟩⟩⟩
  cel := fun p hp => let ⟨v, e⟩ := R.cel p hp; ⟨v, isCell_at e (fun o => K.2 _ o)⟩
  muts := fun p hp => let ⟨a, b, vs, l, r⟩ := R.muts p hp; ⟨a, b, vs, l.at (fun o => K.2 _ o), r.keeps (K.keepW _)⟩
  nd := R.nd
  tk := fun e => R.tk (Nat.le_zero.mp (e ▸ K.1.toks_le))
noncomputable abbrev vol (c : Cx) (σ : Sig) : List Addr := σ.map (·.1) ++ c.own
theorem vol_wof {c : Cx} {σ : Sig} {a : Addr} (h : a ∈ vol c σ) : a ∈ wof c σ :=
  (List.mem_append.mp h).elim (fun q => List.mem_append_left _ q) fun q => List.mem_append_right _ (List.mem_append_left _ q)
noncomputable def KS (c : Cx) (σ σ' : Sig) (s s' : Shared) : Prop :=
  Stp s s' ∧ (∀ b o, b ∉ vol c σ → s.heap.get? b = some o → s'.heap.get? b = some o) ∧ ∀ p ∈ σ', p.1 ∈ σ.map (·.1) ∨ s.heap.get? p.1 = none
theorem KS.refl (c σ s) : KS c σ σ s s := ⟨.refl s, fun uu uu uu e => e, fun p hp => .inl (List.mem_map_of_mem hp)⟩
theorem KeepE.ks {c σ s s'} (k : KeepE s s') : KS c σ σ s s' := ⟨k.1, fun uu uu uu e => k.2 _ _ e, fun p hp => .inl (List.mem_map_of_mem hp)⟩
theorem KS.offv {c σ σ' s s'} (k : KS c σ σ' s s') : ∀ a, a ∉ vol c σ → (∃ o, s.heap.get? a = some o) → a ∉ vol c σ' := fun a ha ⟨o, ho⟩ hm => by
  rcases List.mem_append.mp hm with q | q
  · obtain ⟨p, hp, rfl⟩ := List.mem_map.mp q
    rcases k.2.2 p hp with q | q
    · exact ha (List.mem_append_left _ q)
    · rw [q] at ho; cases ho
  · exact ha (List.mem_append_right _ q)
theorem KS.off {c σ σ' s s'} (k : KS c σ σ' s s') : ∀ a, a ∉ wof c σ → (∃ o, s.heap.get? a = some o) → a ∉ wof c σ' := fun a ha ⟨o, ho⟩ hm => by
  rcases List.mem_append.mp hm with q | q
  · obtain ⟨p, hp, rfl⟩ := List.mem_map.mp q
    rcases k.2.2 p hp with q | q
    · exact ha (List.mem_append_left _ q)
    · rw [q] at ho; cases ho
  · exact ha (List.mem_append_right _ q)
theorem KS.keepW {c σ σ' s s'} (k : KS c σ σ' s s') : KeepW (wof c σ) s s' := ⟨fun b o hb e => k.2.1 b o (fun q => hb (vol_wof q)) e, k.1.toks_le⟩
theorem KS.vr {c σ σ' s s' X v} (k : KS c σ σ' s s') (z : VR c.w (wof c σ) s X v) : VR c.w (wof c σ') s' X v := z.keep k.keepW k.off
theorem KS.vrs {c σ σ' s s' X v} (k : KS c σ σ' s s') (z : VRs c.w (wof c σ) s X v) : VRs c.w (wof c σ') s' X v := z.keep k.keepW k.off
theorem KS.trans {c ρ' σ σ' σ'' s s' s''} (R' : Rel c ρ' σ' s') (x : KS c σ σ' s s') (y : KS c σ' σ'' s' s'') : KS c σ σ'' s s'' := by
  refine ⟨x.1.trans y.1, fun b o hb e => y.2.1 b o (x.offv b hb ⟨o, e⟩) (x.2.1 b o hb e), fun p hp => ?_⟩
  rcases y.2.2 p hp with q | q
  · obtain ⟨p', hp', e⟩ := List.mem_map.mp q
    rw [← e]; exact x.2.2 p' hp'
  · by_cases hm : p.1 ∈ wof c σ
    · rcases List.mem_append.mp hm with h1 | h1
      · exact .inl h1
      · obtain ⟨o, ho⟩ := R'.al p.1 (List.mem_append_right _ h1)
        rw [q] at ho; cases ho
    · right
      cases e : s.heap.get? p.1 with
      | none => rfl
      | some o => have := x.2.1 p.1 o (fun z => hm (vol_wof z)) e; rw [q] at this; cases this
inductive OV (c : Cx) (σ : Sig) (s : Shared) (Q : V → Prop) (v : Value) (s' : Shared) : Prop
  | mk (X : V) (r : VR c.w (wof c σ) s' X v) (k : KeepE s s') (q : Q X)
inductive OT (s : Shared) (Q : Bool → Prop) (b : Bool) (s' : Shared) : Prop
  | mk (k : KeepE s s') (q : Q b)
inductive OL (c : Cx) (σ : Sig) (s : Shared) (Q : List V → Prop) (v : List Value) (s' : Shared) : Prop
  | mk (X : List V) (r : VRs c.w (wof c σ) s' X v) (k : KeepE s s') (q : Q X)
inductive OA (c : Cx) (σ : Sig) (s : Shared) (Q : Rho → Prop) (u : Unit) (s' : Shared) : Prop
  | mk (ρ' : Rho) (R : Rel c ρ' σ s') (k : KS c σ σ s s') (q : Q ρ')
theorem goV {c σ s Q} {M : Model} {A t s₀ P E} (H : wpAny M A t (OV c σ s Q) (fun uu uu => False) s₀) (f : ∀ v s₁ X, VR c.w (wof c σ) s₁ X v → KeepE s s₁ → Q X → P v s₁) : wpAny M A t P E s₀ :=
  wpAny_mono H (fun v s₁ h => h.casesOn fun X r k q => f v s₁ X r k q) fun uu uu x => x.elim
theorem goB {s Q} {M : Model} {A t s₀ P E} (H : wpAny M A t (OT s Q) (fun uu uu => False) s₀) (f : ∀ v s₁, KeepE s s₁ → Q v → P v s₁) : wpAny M A t P E s₀ :=
  wpAny_mono H (fun v s₁ h => h.casesOn fun k q => f v s₁ k q) fun uu uu x => x.elim
theorem goL {c σ s Q} {M : Model} {A t s₀ P E} (H : wpAny M A t (OL c σ s Q) (fun uu uu => False) s₀) (f : ∀ v s₁ X, VRs c.w (wof c σ) s₁ X v → KeepE s s₁ → Q X → P v s₁) : wpAny M A t P E s₀ :=
  wpAny_mono H (fun v s₁ h => h.casesOn fun X r k q => f v s₁ X r k q) fun uu uu x => x.elim
theorem goA {c σ s Q} {M : Model} {A t s₀ P E} (H : wpAny M A t (OA c σ s Q) (fun uu uu => False) s₀) (f : ∀ v s₁ ρ', Rel c ρ' σ s₁ → KS c σ σ s s₁ → Q ρ' → P v s₁) : wpAny M A t P E s₀ :=
  wpAny_mono H (fun v s₁ h => h.casesOn fun ρ' r k q => f v s₁ ρ' r k q) fun uu uu x => x.elim
noncomputable def WT (c : Cx) (t : Sem Value) (ρ : Rho) (σ : Sig) (Q : V → Prop) : Prop :=
  ∀ s, Rel c ρ σ s → wpAny (model PG c.w) c.A t (OV c σ s Q) (fun uu uu => False) s
noncomputable abbrev WE (c : Cx) (e : Expr) (ρ : Rho) (σ : Sig) (Q : V → Prop) : Prop := WT c (eval e c.env) ρ σ Q
noncomputable def WB (c : Cx) (t : Sem Bool) (ρ : Rho) (σ : Sig) (Q : Bool → Prop) : Prop :=
  ∀ s, Rel c ρ σ s → wpAny (model PG c.w) c.A t (OT s Q) (fun uu uu => False) s
inductive Fl where
  | next | brk | cont
  | ret (X : V)
noncomputable def FlR (w : World) (W : List Addr) (h : Shared) : Fl → Flow → Prop
  | .next, f => f = .next
  | .brk, f => f = .brk
  | .cont, f => f = .cont
  | .ret X, f => ∃ v, f = .ret v ∧ VR w W h X v
inductive OX (c : Cx) (σ : Sig) (s : Shared) (Q : Fl → Rho → Sig → Prop) (f : Flow) (s' : Shared) : Prop
  | mk (F : Fl) (ρ' : Rho) (σ' : Sig) (r : FlR c.w (wof c σ') s' F f) (R : Rel c ρ' σ' s') (k : KS c σ σ' s s') (q : Q F ρ' σ')
theorem goX {c σ s Q} {M : Model} {A t s₀ P E} (H : wpAny M A t (OX c σ s Q) (fun uu uu => False) s₀) (f : ∀ v s₁ F ρ' σ', FlR c.w (wof c σ') s₁ F v → Rel c ρ' σ' s₁ → KS c σ σ' s s₁ → Q F ρ' σ' → P v s₁) : wpAny M A t P E s₀ :=
  wpAny_mono H (fun v s₁ h => h.casesOn fun F ρ' σ' r R k q => f v s₁ F ρ' σ' r R k q) fun uu uu x => x.elim
noncomputable def WX (c : Cx) (t : Sem Flow) (ρ : Rho) (σ : Sig) (Q : Fl → Rho → Sig → Prop) : Prop :=
  ∀ s, Rel c ρ σ s → wpAny (model PG c.w) c.A t (OX c σ s Q) (fun uu uu => False) s
noncomputable abbrev WS (c : Cx) (b : List Stmt) (ρ : Rho) (σ : Sig) (Q : Fl → Rho → Sig → Prop) : Prop := WX c (execs b c.env) ρ σ Q
noncomputable abbrev W1 (c : Cx) (st : Stmt) (ρ : Rho) (σ : Sig) (Q : Fl → Rho → Sig → Prop) : Prop := WX c (exec st c.env) ρ σ Q
theorem WT.mono {c t ρ σ} {Q Q' : V → Prop} (h : WT c t ρ σ Q) (k : ∀ X, Q X → Q' X) : WT c t ρ σ Q' := fun s R =>
  goV (h s R) fun uu uu X a b q => ⟨X, a, b, k X q⟩
theorem WX.mono {c t ρ σ} {Q Q' : Fl → Rho → Sig → Prop} (h : WX c t ρ σ Q) (k : ∀ F r g, Q F r g → Q' F r g) : WX c t ρ σ Q' := fun s R =>
  goX (h s R) fun uu uu F r g a b d q => ⟨F, r, g, a, b, d, k _ _ _ q⟩
theorem Rel.less {c ρ ρ' σ s} (R : Rel c ρ σ s) (k : ∀ x X, ρ'.lookup x = some X → ρ.lookup x = some X) : Rel c ρ' σ s :=
  { R with loc := let ⟨m, hn, h⟩ := R.loc; ⟨m, hn, fun x X e => h x X (k x X e)⟩ }
theorem WX.less {c t ρ ρ' σ} {Q : Fl → Rho → Sig → Prop} (h : WX c t ρ' σ Q) (k : ∀ x X, ρ'.lookup x = some X → ρ.lookup x = some X) : WX c t ρ σ Q := fun s R => h s (R.less k)
theorem WS_nil {c ρ σ} {Q : Fl → Rho → Sig → Prop} (h : Q .next ρ σ) : WS c [] ρ σ Q := fun s R => wpAny_execs_nil ⟨.next, ρ, σ, rfl, R, .refl _ _ s, h⟩
noncomputable abbrev KSeq (c : Cx) (rest : List Stmt) (Q : Fl → Rho → Sig → Prop) : Fl → Rho → Sig → Prop := fun F ρ' σ' => match F with | .next => WS c rest ρ' σ' Q | F => Q F ρ' σ'
theorem WS_cons {c st rest ρ σ} {Q : Fl → Rho → Sig → Prop} (h : W1 c st ρ σ (KSeq c rest Q)) : WS c (st :: rest) ρ σ Q := fun s R => by
  refine wpAny_execs_cons (wpAny_mono (h s R) (fun f s' hq => ?_) fun uu uu x => x)
  obtain ⟨F, ρ', σ', hf, R', st', hq⟩ := hq
  cases F with
  | next =>
    cases hf
    exact goX (hq s' R') fun f s'' F r g a b d q => ⟨F, r, g, a, b, st'.trans R' d, q⟩
  | brk => cases hf; exact ⟨.brk, _, _, rfl, R', st', hq⟩
  | cont => cases hf; exact ⟨.cont, _, _, rfl, R', st', hq⟩
  | ret X =>
    obtain ⟨v, rfl, hv⟩ := hf
    exact ⟨.ret X, _, _, ⟨v, rfl, hv⟩, R', st', hq⟩
end
section
open PySem PySem.W PySem.Calls PyProof PyProof.Rows
noncomputable abbrev le (a b : Nat) : Prop := a ≤ b
theorem with_toks {α : Type} {M : Model} {A : Around} {s : Shared} {t : Sem α} {Q : α → Shared → Prop}
    (h : wpAny M A t (fun a s' => @LE.le Nat _ s.toks s'.toks → Q a s') (fun uu uu => False) s) : wpAny M A t Q (fun uu uu => False) s :=
  wpAny_with_toks (n := s.toks) (Nat.le_refl _) (wpAny_mono h (fun uu uu x => x) fun uu uu x => x.elim)
theorem isCell_keeps {h h' : Heap} {a : Addr} {v} (x : h.IsCell a v) (k : StaysIn h h') : h'.IsCell a v := isCell_at x fun o => k _ o
theorem WE_int {c i k pos ρ σ} {Q : V → Prop} (h : Q (.int i)) : WE c (.Constant (.int i) k pos) ρ σ Q := fun s uu =>
  wpAny_Constant_int ⟨.int i, ⟨_, rfl⟩, .mk' (.refl _) (Nat.le_succ _), h⟩
theorem WE_str {c x k pos ρ σ} {Q : V → Prop} (h : Q (.lit x)) : WE c (.Constant (.str x) k pos) ρ σ Q := fun s R =>
  wpAny_Constant_str ⟨.lit x, ⟨_, rfl, R.tk, Nat.lt_succ_self _⟩, .mk' (.refl _) (Nat.le_succ _), h⟩
theorem WE_none {c k pos ρ σ} {Q : V → Prop} (h : Q .none) : WE c (.Constant .none k pos) ρ σ Q := fun s uu =>
  wpAny_Constant_none ⟨.none, rfl, .refl _, h⟩
theorem WE_bool {c b k pos ρ σ} {Q : V → Prop} (h : Q (.bool b)) : WE c (.Constant (.bool b) k pos) ρ σ Q := fun s uu =>
  wpAny_Constant_bool ⟨.bool b, rfl, .refl _, h⟩
theorem WE_name {c x pos ρ σ X} {Q : V → Prop} (e : ρ.lookup x = some X) (h : Q X)
    (hk : c.env.kindOf x = some .local ∨ c.env.kindOf x = some .cell ∨ c.env.kindOf x = some .free)
    (hd : (x == ("__debug__" : Str)) = false := by decide) (hn : (x == ("__classdict__" : Str)) = false := by decide) : WE c (.Name x pos) ρ σ Q := fun s R => by
  obtain ⟨m, hN, hl⟩ := R.loc
  rcases hk with q | q | q
  · obtain ⟨v, hv, hx⟩ := (hl x X e).1 q
    exact wpAny_Name (wpAny_loadName_local R.ok.kind q hN hv ⟨X, hx, .refl _, h⟩) hd
  · obtain ⟨a, v, ha, hc, hx⟩ := (hl x X e).2 (.inl q)
    exact wpAny_Name (wpAny_loadName_cell R.ok.kind q ha hc ⟨X, hx, .refl _, h⟩) hd
  · obtain ⟨a, v, ha, hc, hx⟩ := (hl x X e).2 (.inr q)
    exact wpAny_Name (wpAny_loadName_free R.ok.kind q ha hc ⟨X, hx, .refl _, h⟩ hn) hd
theorem Rel.stat {c ρ σ s} (R : Rel c ρ σ s) : Stat c.w c.mg c.mb s.heap := R.ok.stat.keeps R.base
theorem WE_glob {c x pos ρ σ v X} {Q : V → Prop} (hk : c.env.kindOf x = some .globalImplicit) (e : ∀ w : World, nsIn (Kf w) mainGlobals x = some (some v)) (hX : ∀ w W s, VR w W s X v) (h : Q X)
    (hd : (x == ("__debug__" : Str)) = false := by decide) : WE c (.Name x pos) ρ σ Q := fun s R =>
  Name_function_global R.ok.kind hk (loadGlobal_global (R.ok.glob ▸ R.stat.T.g) (mg_of R.stat.K R.stat.T.g (e c.w)) ⟨X, hX _ _ _, .refl _, h⟩) hd
theorem WE_blt {c x pos ρ σ v} {Q : V → Prop} (hk : c.env.kindOf x = some .globalImplicit) (e : ∀ w : World, nsIn (Kf w) mainGlobals x = some none) (hv : bootBuiltins x = some v) (h : Q (.stat v))
    (hd : (x == ("__debug__" : Str)) = false := by decide) (hn : x ≠ "__name__" := by decide) : WE c (.Name x pos) ρ σ Q := fun s R =>
  Name_function_global R.ok.kind hk (loadGlobal_builtin (R.ok.glob ▸ R.stat.T.g) (mg_none_of R.stat.K R.stat.T.g (e c.w)) (R.ok.blt ▸ R.stat.T.b) ((R.stat.T.builtins x hn).trans hv) ⟨.stat v, rfl, .refl _, h⟩) hd
noncomputable def O1 (c : Cx) (t : Value → Sem Value) (X : V) (ρ : Rho) (σ : Sig) (Q : V → Prop) : Prop :=
  ∀ s v, Rel c ρ σ s → VR c.w (wof c σ) s X v → wpAny (model PG c.w) c.A (t v) (OV c σ s Q) (fun uu uu => False) s
noncomputable def O2 (c : Cx) (t : Value → Value → Sem Value) (X Y : V) (ρ : Rho) (σ : Sig) (Q : V → Prop) : Prop :=
  ∀ s v u, Rel c ρ σ s → VR c.w (wof c σ) s X v → VR c.w (wof c σ) s Y u → wpAny (model PG c.w) c.A (t v u) (OV c σ s Q) (fun uu uu => False) s
noncomputable def OB (c : Cx) (t : Value → Sem Bool) (X : V) (ρ : Rho) (σ : Sig) (Q : Bool → Prop) : Prop :=
  ∀ s v, Rel c ρ σ s → VR c.w (wof c σ) s X v → wpAny (model PG c.w) c.A (t v) (OT s Q) (fun uu uu => False) s
noncomputable abbrev KO2 (c : Cx) (t : Value → Value → Sem Value) (X : V) (ρ : Rho) (σ : Sig) (Q : V → Prop) : V → Prop := fun Y => O2 c t X Y ρ σ Q
noncomputable abbrev KE2 (c : Cx) (r : Expr) (t : Value → Value → Sem Value) (ρ : Rho) (σ : Sig) (Q : V → Prop) : V → Prop := fun X => WE c r ρ σ (KO2 c t X ρ σ Q)
noncomputable abbrev KO1 (c : Cx) (t : Value → Sem Value) (ρ : Rho) (σ : Sig) (Q : V → Prop) : V → Prop := fun X => O1 c t X ρ σ Q
noncomputable abbrev KOB (c : Cx) (ρ : Rho) (σ : Sig) (Q : Bool → Prop) : V → Prop := fun X => OB c truthy X ρ σ Q
noncomputable abbrev KNot (Q : Bool → Prop) : Bool → Prop := fun b => Q (!b)
theorem WE_bin {c l op r pos ρ σ} {Q : V → Prop} (h : WE c l ρ σ (KE2 c r (binaryOp op) ρ σ Q)) : WE c (.BinOp l op r pos) ρ σ Q := fun s R => by
  refine wpAny_BinOp (goV (h s R) fun a s₁ X hX k₁ h₁ => ?_)
  refine goV (h₁ s₁ (R.keepE k₁)) fun b s₂ Y hY k₂ h₂ => ?_
  exact goV (h₂ s₂ a b ((R.keepE k₁).keepE k₂) (hX.keeps (k₂.keepW _)) hY) fun v s₃ Z hZ k₃ h₃ => ⟨Z, hZ, (k₁.trans k₂).trans k₃, h₃⟩
theorem WE_un {c op x pos ρ σ} {Q : V → Prop} (h : WE c x ρ σ (KO1 c (unaryOp op) ρ σ Q)) : WE c (.UnaryOp op x pos) ρ σ Q := fun s R => by
  refine wpAny_UnaryOp (goV (h s R) fun a s₁ X hX k₁ h₁ => ?_)
  exact goV (h₁ s₁ a (R.keepE k₁) hX) fun v s₃ Z hZ k₃ h₃ => ⟨Z, hZ, k₁.trans k₃, h₃⟩
theorem WE_cmp {c l op r pos ρ σ} {Q : V → Prop} (h : WE c l ρ σ (KE2 c r (compareOp op) ρ σ Q))
    (hm : behindInMarks op r = false := by walk_at "r") : WE c (.Compare l [op] [r] pos) ρ σ Q := fun s R => by
  refine wpAny_Compare1 (goV (h s R) fun a s₁ X hX k₁ h₁ => ?_) hm
  refine goV (h₁ s₁ (R.keepE k₁)) fun b s₂ Y hY k₂ h₂ => ?_
  exact goV (h₂ s₂ a b ((R.keepE k₁).keepE k₂) (hX.keeps (k₂.keepW _)) hY) fun v s₃ Z hZ k₃ h₃ => ⟨Z, hZ, (k₁.trans k₂).trans k₃, h₃⟩
noncomputable abbrev WI (c : Cx) (e : Expr) (ρ : Rho) (σ : Sig) (Q : Bool → Prop) : Prop := WB c (isTrue e c.env (eval e c.env)) ρ σ Q
theorem WI_cmp {c l op r pos ρ σ} {Q : Bool → Prop} (h : WE c l ρ σ (fun X => WE c r ρ σ (fun Y => O2 c (compareOp op) X Y ρ σ (fun Z => ∃ b, Z = .bool b ∧ Q b))))
    (hm : behindInMarks op r = false := by walk_at "r") : WI c (.Compare l [op] [r] pos) ρ σ Q := fun s R => by
  refine wpAny_isTrue_Compare1 (goV (h s R) fun a s₁ X hX k₁ h₁ => ?_) hm
  refine goV (h₁ s₁ (R.keepE k₁)) fun b s₂ Y hY k₂ h₂ => ?_
  refine goV (h₂ s₂ a b ((R.keepE k₁).keepE k₂) (hX.keeps (k₂.keepW _)) hY) fun v s₃ Z hZ k₃ hpt => ?_
  obtain ⟨b, e, h₃⟩ := hpt
  subst e
  cases hZ
  exact wpAny_truthy_bool ⟨(k₁.trans k₂).trans k₃, h₃⟩
theorem WI_not {c x pos ρ σ} {Q : Bool → Prop} (h : WI c x ρ σ (KNot Q)) : WI c (.UnaryOp .Not x pos) ρ σ Q := fun s R => wpAny_isTrue_Not (goB (h s R) fun uu uu k q => ⟨k, q⟩)
theorem WI_val {c e ρ σ} {Q : Bool → Prop} (h : WE c e ρ σ (KOB c ρ σ Q))
    (he : isTrue e c.env (eval e c.env) = (do let v ← eval e c.env; standAt e.pos; holding [v] (truthy v)) := by walk_at "r") : WI c e ρ σ Q := fun s R => by
  refine wpAny_isTrue_value (goV (h s R) fun a s₁ X hX k₁ h₁ => ?_) he
  exact goB (h₁ s₁ a (R.keepE k₁) hX) fun b s₂ k₂ q => ⟨k₁.trans k₂, q⟩
noncomputable abbrev WA (c : Cx) (op : BoolOp) (es : List Expr) (ρ : Rho) (σ : Sig) (Q : Bool → Prop) : Prop := WB c (allTrue op es c.env) ρ σ Q
theorem WI_bool {c op es pos ρ σ} {Q : Bool → Prop} (h : WA c op es ρ σ Q) : WI c (.BoolOp op es pos) ρ σ Q := fun s R => wpAny_isTrue_BoolOp (h s R)
theorem WA_or_nil {c ρ σ} {Q : Bool → Prop} (h : Q false) : WA c .Or [] ρ σ Q := fun s uu => wpAny_allTrue_Or_nil ⟨.refl _, h⟩
theorem WA_and_nil {c ρ σ} {Q : Bool → Prop} (h : Q true) : WA c .And [] ρ σ Q := fun s uu => wpAny_allTrue_And_nil ⟨.refl _, h⟩
theorem WA_or_cons {c x r ρ σ} {Q : Bool → Prop} (h : WI c x ρ σ (fun b => if b = true then Q true else WA c .Or r ρ σ Q)) : WA c .Or (x :: r) ρ σ Q := fun s R => by
  refine wpAny_allTrue_Or_cons (goB (h s R) fun b s₁ k₁ h₁ => ?_)
  cases b with
  | true => exact ⟨k₁, h₁⟩
  | false => exact goB (h₁ s₁ (R.keepE k₁)) fun b s₂ k₂ q => ⟨k₁.trans k₂, q⟩
theorem WA_and_cons {c x r ρ σ} {Q : Bool → Prop} (h : WI c x ρ σ (fun b => if b = true then WA c .And r ρ σ Q else Q false)) : WA c .And (x :: r) ρ σ Q := fun s R => by
  refine wpAny_allTrue_And_cons (goB (h s R) fun b s₁ k₁ h₁ => ?_)
  cases b with
  | false => exact ⟨k₁, h₁⟩
  | true => exact goB (h₁ s₁ (R.keepE k₁)) fun b s₂ k₂ q => ⟨k₁.trans k₂, q⟩
theorem WE_ifexp {c t b o pos ρ σ} {Q : V → Prop} (h : WI c t ρ σ (fun z => if z = true then WE c b ρ σ Q else WE c o ρ σ Q)) : WE c (.IfExp t b o pos) ρ σ Q := fun s R => by
  refine wpAny_IfExp (goB (h s R) fun z s₁ k₁ h₁ => ?_)
  cases z with
  | true => exact goV (h₁ s₁ (R.keepE k₁)) fun v s₂ X hX k₂ q => ⟨X, hX, k₁.trans k₂, q⟩
  | false => exact goV (h₁ s₁ (R.keepE k₁)) fun v s₂ X hX k₂ q => ⟨X, hX, k₁.trans k₂, q⟩
theorem WE_or2 {c x y pos ρ σ} {Q : V → Prop} (h : WE c x ρ σ (fun X => OB c truthy X ρ σ (fun b => if b = true then Q X else WE c y ρ σ Q))) : WE c (.BoolOp .Or [x, y] pos) ρ σ Q := fun s R => by
  refine wpAny_Or2 (goV (h s R) fun v s₁ X hX k₁ h₁ => ?_)
  refine goB (h₁ s₁ v (R.keepE k₁) hX) fun b s₂ k₂ q => ?_
  cases b with
  | true => exact ⟨X, hX.keeps (k₂.keepW _), k₁.trans k₂, q⟩
  | false => exact goV (q s₂ ((R.keepE k₁).keepE k₂)) fun v s₃ X hX k₃ q => ⟨X, hX, (k₁.trans k₂).trans k₃, q⟩
section
variable {c : Cx} {ρ : Rho} {σ : Sig} {Q : V → Prop} {i j : Int}
theorem O2_add_int (h : Q (.int (i + j))) : O2 c (binaryOp .Add) (.int i) (.int j) ρ σ Q := by
  rintro s _ _ R ⟨t, rfl⟩ ⟨u, rfl⟩; exact add_int ⟨.int _, ⟨_, rfl⟩, .mk' (.refl _) (Nat.le_succ _), h⟩
theorem O2_sub_int (h : Q (.int (i - j))) : O2 c (binaryOp .Sub) (.int i) (.int j) ρ σ Q := by
  rintro s _ _ R ⟨t, rfl⟩ ⟨u, rfl⟩; exact sub_int ⟨.int _, ⟨_, rfl⟩, .mk' (.refl _) (Nat.le_succ _), h⟩
theorem O2_mod_int (hj : j ≠ 0) (h : Q (.int (i.fmod j))) : O2 c (binaryOp .Mod) (.int i) (.int j) ρ σ Q := by
  rintro s _ _ R ⟨t, rfl⟩ ⟨u, rfl⟩; exact mod_int' hj ⟨.int _, ⟨_, rfl⟩, .mk' (.refl _) (Nat.le_succ _), h⟩
theorem O2_div_int (hj : j ≠ 0) (hp : Builtin.divisionGoesByPylong i j = false) (h : Q (.int (i.fdiv j))) : O2 c (binaryOp .FloorDiv) (.int i) (.int j) ρ σ Q := by
  rintro s _ _ R ⟨t, rfl⟩ ⟨u, rfl⟩; exact floordiv_int hj ⟨.int _, ⟨_, rfl⟩, .mk' (.refl _) (Nat.le_succ _), h⟩ (.inl hp)
theorem O2_eq_int (h : Q (.bool (i == j))) : O2 c (compareOp .Eq) (.int i) (.int j) ρ σ Q := by
  rintro s _ _ R ⟨t, rfl⟩ ⟨u, rfl⟩; exact eq_int ⟨.bool _, rfl, .refl _, h⟩
theorem O2_ne_int (h : Q (.bool (i != j))) : O2 c (compareOp .NotEq) (.int i) (.int j) ρ σ Q := by
  rintro s _ _ R ⟨t, rfl⟩ ⟨u, rfl⟩; exact ne_int ⟨.bool _, rfl, .refl _, h⟩
theorem O2_lt_int (h : Q (.bool (decide (i < j)))) : O2 c (compareOp .Lt) (.int i) (.int j) ρ σ Q := by
  rintro s _ _ R ⟨t, rfl⟩ ⟨u, rfl⟩; exact lt_int ⟨.bool _, rfl, .refl _, h⟩
theorem O2_gt_int (h : Q (.bool (decide (j < i)))) : O2 c (compareOp .Gt) (.int i) (.int j) ρ σ Q := by
  rintro s _ _ R ⟨t, rfl⟩ ⟨u, rfl⟩; exact gt_int ⟨.bool _, rfl, .refl _, h⟩
theorem O2_eq_bool {a b : Bool} (h : Q (.bool (a == b))) : O2 c (compareOp .Eq) (.bool a) (.bool b) ρ σ Q := by
  rintro s _ _ R rfl rfl; exact eq_bool ⟨.bool _, rfl, .refl _, h⟩
theorem O2_ne_bool {a b : Bool} (h : Q (.bool (a != b))) : O2 c (compareOp .NotEq) (.bool a) (.bool b) ρ σ Q := by
  rintro s _ _ R rfl rfl; exact ne_bool ⟨.bool _, rfl, .refl _, h⟩
theorem O1_neg (h : Q (.int (-i))) : O1 c (unaryOp .USub) (.int i) ρ σ Q := by
  rintro s _ R ⟨t, rfl⟩; exact neg_int ⟨.int _, ⟨_, rfl⟩, .mk' (.refl _) (Nat.le_succ _), h⟩
theorem OB_int {Q : Bool → Prop} (h : Q (i != 0)) : OB c truthy (.int i) ρ σ Q := by
  rintro s _ R ⟨t, rfl⟩; exact truthy_int ⟨.refl _, h⟩
theorem OB_bool {Q : Bool → Prop} {b : Bool} (h : Q b) : OB c truthy (.bool b) ρ σ Q := by
  rintro s _ R rfl; exact wpAny_truthy_bool ⟨.refl _, h⟩
noncomputable def SV (X : V) (x : Str) : Prop := X = .str x ∨ X = .lit x
theorem SV.is {w W s X x v} (h : SV X x) (z : VR w W s X v) : ∃ t, v = .str x t := by
  rcases h with rfl | rfl
  · exact z
  · exact z.ofLit
variable {X Y : V} {x y : Str}
theorem O2_add_str (hx : SV X x) (hy : SV Y y) (hz : x.length + y.length ≤ sizeLine) (h : Q (.str (x ++ y))) : O2 c (binaryOp .Add) X Y ρ σ Q := by
  intro s _ _ R z1 z2
  obtain ⟨t, rfl⟩ := hx.is z1
  obtain ⟨u, rfl⟩ := hy.is z2
  exact with_toks (add_str (fun t' tk l => ⟨.str _, ⟨_, rfl⟩, .mk' (.refl _) l, h⟩) hz)
theorem O2_mul_str (hx : SV X x) (hz : MulOk x i) (h : Q (.str (Txt.mul x i))) : O2 c (binaryOp .Mult) X (.int i) ρ σ Q := by
  rintro s _ _ R z1 ⟨u, rfl⟩
  obtain ⟨t, rfl⟩ := hx.is z1
  exact with_toks (SB.mul hz (fun t' tk l => ⟨.str _, ⟨_, rfl⟩, .mk' (.refl _) l, h⟩))
theorem O2_eq_str (hx : SV X x) (hy : SV Y y) (h : Q (.bool (x == y))) : O2 c (compareOp .Eq) X Y ρ σ Q := by
  intro s _ _ R z1 z2
  obtain ⟨t, rfl⟩ := hx.is z1
  obtain ⟨u, rfl⟩ := hy.is z2
  exact eq_str ⟨.bool _, rfl, .refl _, h⟩
theorem O2_ne_str (hx : SV X x) (hy : SV Y y) (h : Q (.bool (x != y))) : O2 c (compareOp .NotEq) X Y ρ σ Q := by
  intro s _ _ R z1 z2
  obtain ⟨t, rfl⟩ := hx.is z1
  obtain ⟨u, rfl⟩ := hy.is z2
  exact ne_str ⟨.bool _, rfl, .refl _, h⟩
theorem O2_isNot_none (h : Q (.bool false)) : O2 c (compareOp .IsNot) .none .none ρ σ Q := by
  rintro s _ _ R rfl rfl; exact isNot_none ⟨.bool _, rfl, .refl _, h⟩
theorem O2_isNot_none_of (hX : ∀ w W s v, VR w W s X v → v ≠ Value.none) (h : Q (.bool true)) : O2 c (compareOp .IsNot) X .none ρ σ Q := by
  rintro s v _ R z rfl
  refine isNot_none ⟨.bool true, ?_, .refl _, h⟩
  have : (v == Value.none) = false := beq_eq_false_iff_ne.mpr (hX _ _ _ _ z)
  rw [this]; rfl
end
noncomputable def WL (c : Cx) (pos : Pos) (es : List Expr) (ρ : Rho) (σ : Sig) (Q : List V → Prop) : Prop :=
  ∀ s, Rel c ρ σ s → wpAny (model PG c.w) c.A (spliced (backTo pos (starEach es c.env))) (OL c σ s Q) (fun uu uu => False) s
theorem WL_nil {c pos ρ σ} {Q : List V → Prop} (h : Q []) : WL c pos [] ρ σ Q := fun s uu => wpAny_items_nil ⟨[], rfl, .refl _, h⟩
noncomputable abbrev KL2 (X : V) (Q : List V → Prop) : List V → Prop := fun Xs => Q (X :: Xs)
noncomputable abbrev KL (c : Cx) (pos : Pos) (r : List Expr) (ρ : Rho) (σ : Sig) (Q : List V → Prop) : V → Prop := fun X => WL c pos r ρ σ (KL2 X Q)
theorem WL_cons {c pos e r ρ σ} {Q : List V → Prop} (h : WE c e ρ σ (KL c pos r ρ σ Q))
    (he : starEach (e :: r) c.env = (false, eval e c.env) :: starEach r c.env := by walk_at "r") : WL c pos (e :: r) ρ σ Q := fun s R => by
  refine wpAny_items_cons (goV (h s R) fun v s₁ X hX k₁ h₁ => ?_) he
  exact goL (h₁ s₁ (R.keepE k₁)) fun vs s₂ Xs hXs k₂ q => ⟨X :: Xs, ⟨v, vs, rfl, hX.keeps (k₂.keepW _), hXs⟩, k₁.trans k₂, q⟩
theorem stays_push (h : Heap) (o : Obj) : StaysIn h (h.push o) := fun uu uu e => Heap.get?_push_of_some _ e
theorem fresh_none (h : Heap) : h.get? h.objs.size = none := by
  cases e : h.get? h.objs.size with
  | none => rfl
  | some o => exact absurd (Heap.lt_size e) (Nat.lt_irrefl _)
theorem Rel.new {c ρ σ s} (R : Rel c ρ σ s) : s.heap.objs.size ∉ wof c σ := fun hm => by
  obtain ⟨o, e⟩ := R.al _ hm
  rw [fresh_none] at e; cases e
theorem KeepW.heap {W} {s : Shared} {h : Heap} (k : StaysIn s.heap h) : KeepW W s { s with heap := h } := ⟨fun uu uu uu e => k _ _ e, Nat.le_refl _⟩
theorem VR_newList {c ρ σ s Xs} {vs : List Value} (R : Rel c ρ σ s) (h : VRs c.w (wof c σ) s Xs vs) :
    VR c.w (wof c σ) { s with heap := s.heap.push { cls := .type "list", data := .seq vs.toArray } } (.list Xs) (.ref s.heap.objs.size) :=
  ⟨_, vs, rfl, R.new, ⟨_, Heap.get?_push_size _ rfl, rfl, _, rfl⟩, h.keeps (.heap (stays_push _ _))⟩
theorem VR_newTup {c ρ σ s Xs} {vs : List Value} (R : Rel c ρ σ s) (h : VRs c.w (wof c σ) s Xs vs) :
    VR c.w (wof c σ) { s with heap := s.heap.push { cls := .type "tuple", data := .seq vs.toArray } } (.tup Xs) (.ref s.heap.objs.size) :=
  ⟨_, vs, rfl, R.new, ⟨_, Heap.get?_push_size _ rfl, rfl, _, rfl⟩, h.keeps (.heap (stays_push _ _))⟩
noncomputable abbrev KLi (Q : V → Prop) : List V → Prop := fun Xs => Xs.length ≤ sizeLine ∧ Q (.list Xs)
noncomputable abbrev KTu (Q : V → Prop) : List V → Prop := fun Xs => Xs.length ≤ sizeLine ∧ Q (.tup Xs)
theorem WE_list {c es pos ρ σ} {Q : V → Prop} (h : WL c pos es ρ σ (KLi Q)) : WE c (.List es pos) ρ σ Q := fun s R => by
  refine wpAny_List (goL (h s R) fun vs s₁ Xs hXs k₁ hpt => ?_)
  obtain ⟨hl, h₁⟩ := hpt
  exact ⟨hXs.length ▸ hl, .list Xs, VR_newList (R.keepE k₁) hXs, k₁.trans (.mk' (stays_push _ _) (Nat.le_refl _)), h₁⟩
theorem WE_tup {c es k pos ρ σ} {Q : V → Prop} (h : WL c pos es ρ σ (KTu Q)) : WE c (.Tuple es k pos) ρ σ Q := fun s R => by
  refine Tuple_ (goL (h s R) fun vs s₁ Xs hXs k₁ hpt => ?_)
  obtain ⟨hl, h₁⟩ := hpt
  exact wpAny_newTuple ⟨.tup Xs, VR_newTup (R.keepE k₁) hXs, k₁.trans (.mk' (stays_push _ _) (Nat.le_refl _)), h₁⟩ (hXs.length ▸ hl)
end
section
open PySem PySem.W PySem.Calls PyProof PyProof.Rows
theorem nodup_snd {α β : Type} : ∀ {l : List (α × β)}, (l.map (·.2)).Nodup → ∀ {p q : α × β}, p ∈ l → q ∈ l → p.2 = q.2 → p = q
  | [], _, _, _, hp, _, _ => nomatch hp
  | x :: l, hn, p, q, hp, hq, e => by
    rw [List.map_cons, List.nodup_cons] at hn
    rcases List.mem_cons.mp hp with e1 | hp' <;> rcases List.mem_cons.mp hq with e2 | hq'
    · rw [e1, e2]
    · exact absurd (by rw [← e1, e]; exact List.mem_map_of_mem hq') hn.1
    · exact absurd (by rw [← e2, ← e]; exact List.mem_map_of_mem hp') hn.1
    · exact nodup_snd hn.2 hp' hq' e
theorem lookup_mem' {α β : Type} [BEq α] [LawfulBEq α] : ∀ {l : List (α × β)} {x : α} {b : β}, l.lookup x = some b → (x, b) ∈ l
  | [], _, _, h => by cases h
  | (a, b) :: l, x, y, h => by
    rw [List.lookup_cons] at h
    cases e : x == a with
    | true => rw [e] at h; cases h; rw [eq_of_beq e]; exact .head _
    | false => rw [e] at h; exact .tail _ (lookup_mem' h)
theorem lookup_head {x y : Str} {X : V} {ρ : Rho} : List.lookup y ((x, X) :: ρ) = if y = x then some X else ρ.lookup y := by
  rw [List.lookup_cons]
  by_cases e : y = x
  · subst e; simp
  · have : (y == x) = false := beq_eq_false_iff_ne.mpr e
    simp [this, e]
theorem Rel.turned {c ρ σ s} {h' : Heap} {tk : Nat} {L : Addr} (R : Rel c ρ σ s) (hL : L ∈ c.own) (hs : Heap.SameBut L s.heap h') (ht : @LE.le Nat _ s.toks tk) :
    StaysIn c.h₀ h' ∧ KeepW (wof c σ) s { s with heap := h', toks := tk } ∧ KS c σ σ s { s with heap := h', toks := tk } ∧ ∀ p ∈ σ, Mut c σ { s with heap := h', toks := tk } p.1 p.2 := by
  have hLw : L ∈ wof c σ := List.mem_append_right _ (List.mem_append_left _ hL)
  have k : KeepW (wof c σ) s { s with heap := h', toks := tk } := .of_sameBut hs hLw ht
  refine ⟨fun b o e => (hs.2 b fun q => ?_).trans (R.base b o e), k, ⟨.mk' _ _ ht, fun b o hb e => (hs.2 b fun q => hb (q ▸ List.mem_append_right _ hL)).trans e, fun p hp => .inl (List.mem_map_of_mem hp)⟩, fun p hp => ?_⟩
  · rw [q, R.ok.ownh L hL] at e; cases e
  · obtain ⟨a, b, vs, l, r⟩ := R.muts p hp
    have : p.1 ≠ L := fun q => b (q ▸ List.mem_append_left _ hL)
    exact ⟨a, b, vs, l.at fun o e => (hs.2 _ this).trans e, r.keeps k⟩
theorem storeName_rel {c x X ρ σ s v} (R : Rel c ρ σ s) (hX : VR c.w (wof c σ) s X v) (hk : c.env.kindOf x = some .local ∨ (c.env.kindOf x = some .cell ∧ ∃ a, c.env.cells.lookup x = some a ∧ a ∈ c.own)) {Q : Unit → Shared → Prop}
    (h : ∀ s', Rel c ((x, X) :: ρ) σ s' → KS c σ σ s s' → Q () s') : wpAny (model PG c.w) c.A (storeName c.env x v) Q (fun uu uu => False) s := by
  obtain ⟨m, hN, hl⟩ := R.loc
  rcases hk with hk | ⟨hk, a, ha, hao⟩
  · refine wpAny_storeName_local hk hN (fun h' hn hs => ?_) (by rw [R.ok.kind]; rfl)
    obtain ⟨hb, k, ks, hm⟩ := R.turned R.ok.lown hs (Nat.le_succ _)
    have cells_at : ∀ {a v}, a ∈ c.env.cells.map (·.2) → s.heap.IsCell a v → h'.IsCell a v := fun hc hv => isCell_at hv fun o e => (hs.2 _ (fun q => R.ok.cloc (q ▸ hc))).trans e
    refine h _ ⟨R.ok, hb, fun a ha => ?_, ⟨_, hn, fun y Y e => ?_⟩, fun p hp => ?_, hm, R.nd, Nat.succ_ne_zero _⟩ ks
    · by_cases q : a = c.env.locals
      · obtain ⟨o, _, _, ho, _⟩ := hn; exact ⟨o, q ▸ ho⟩
      · obtain ⟨o, ho⟩ := R.al a ha; exact ⟨o, (hs.2 _ q).trans ho⟩
    · rw [lookup_head] at e
      by_cases q : y = x
      · subst q
        rw [if_pos rfl] at e; cases e
        exact ⟨fun uu => ⟨v, by simp, hX.keeps k⟩, fun z => by rw [hk] at z; rcases z with z | z <;> cases z⟩
      · rw [if_neg q] at e
        refine ⟨fun z => ?_, fun z => ?_⟩
        · obtain ⟨u, hu, hr⟩ := (hl y Y e).1 z; exact ⟨u, by simp [q, hu], hr.keeps k⟩
        · obtain ⟨a, u, ha, hc, hr⟩ := (hl y Y e).2 z
          exact ⟨a, u, ha, cells_at (List.mem_map.mpr ⟨_, lookup_mem' ha, rfl⟩) hc, hr.keeps k⟩
    · obtain ⟨u, hu⟩ := R.cel p hp; exact ⟨u, cells_at (List.mem_map_of_mem hp) hu⟩
  · obtain ⟨u, hu⟩ := R.cel _ (lookup_mem' ha)
    refine wpAny_storeName_cell R.ok.kind hk ha hu fun h' hv hs => ?_
    obtain ⟨hb, k, ks, hm⟩ := R.turned hao hs (Nat.le_refl s.toks)
    have hne : c.env.locals ≠ a := fun q => R.ok.cloc (q ▸ List.mem_map.mpr ⟨_, lookup_mem' ha, rfl⟩)
    refine h _ ⟨R.ok, hb, fun b hb' => ?_, ⟨m, hN.sameBut hs hne, fun y Y e => ?_⟩, fun p hp => ?_, hm, R.nd, R.tk⟩ ks
    · by_cases q : b = a
      · obtain ⟨o, ho, _⟩ := hv; exact ⟨o, q ▸ ho⟩
      · obtain ⟨o, ho⟩ := R.al b hb'; exact ⟨o, (hs.2 _ q).trans ho⟩
    · rw [lookup_head] at e
      by_cases q : y = x
      · subst q
        rw [if_pos rfl] at e; cases e
        exact ⟨fun z => (by rw [hk] at z; cases z), fun uu => ⟨a, v, ha, hv, hX.keeps k⟩⟩
      · rw [if_neg q] at e
        refine ⟨fun z => ?_, fun z => ?_⟩
        · obtain ⟨u, hu, hr⟩ := (hl y Y e).1 z; exact ⟨u, hu, hr.keeps k⟩
        · obtain ⟨b, u, hb', hc, hr⟩ := (hl y Y e).2 z
          refine ⟨b, u, hb', isCell_at hc fun o e => (hs.2 _ fun q' => q ?_).trans e, hr.keeps k⟩
          exact congrArg Prod.fst (nodup_snd R.ok.cdist (lookup_mem' hb') (lookup_mem' ha) q')
    · by_cases q : p.2 = a
      · exact ⟨_, q ▸ hv⟩
      · obtain ⟨u, hu⟩ := R.cel p hp; exact ⟨u, isCell_at hu fun o e => (hs.2 _ q).trans e⟩
noncomputable def WAs (c : Cx) (t : Expr) (X : V) (ρ : Rho) (σ : Sig) (Q : Rho → Prop) : Prop :=
  ∀ s v, Rel c ρ σ s → VR c.w (wof c σ) s X v → wpAny (model PG c.w) c.A (assign t c.env v) (OA c σ s Q) (fun uu uu => False) s
noncomputable def Stb (c : Cx) (x : Str) : Prop := c.env.kindOf x = some .local ∨ (c.env.kindOf x = some .cell ∧ ∃ a, c.env.cells.lookup x = some a ∧ a ∈ c.own)
theorem WAs_name {c x px X ρ σ} {Q : Rho → Prop} (hk : Stb c x) (h : Q ((x, X) :: ρ)) : WAs c (.Name x px) X ρ σ Q := fun s v R hX =>
  wpAny_assign_Name (storeName_rel R hX hk fun s' R' k => ⟨_, R', k, h⟩)
noncomputable def WAss (c : Cx) (ts : List (Value → Sem Unit)) (Xs : List V) (ρ : Rho) (σ : Sig) (Q : Rho → Prop) : Prop :=
  ∀ s vs, Rel c ρ σ s → VRs c.w (wof c σ) s Xs vs → wpAny (model PG c.w) c.A (assignInOrder ts vs) (OA c σ s Q) (fun uu uu => False) s
theorem WAss_nil {c ρ σ} {Q : Rho → Prop} (h : Q ρ) : WAss c [] [] ρ σ Q := fun s vs R hX => by
  cases hX; exact wpAny_pure ⟨ρ, R, .refl _ _ _, h⟩
noncomputable abbrev KAss (c : Cx) (ts : List (Value → Sem Unit)) (Xs : List V) (σ : Sig) (Q : Rho → Prop) : Rho → Prop := fun ρ' => WAss c ts Xs ρ' σ Q
theorem WAss_cons {c t ts X Xs ρ σ} {Q : Rho → Prop} (h : WAs c t X ρ σ (KAss c ts Xs σ Q)) : WAss c (assign t c.env :: ts) (X :: Xs) ρ σ Q := fun s vs R hX => by
  obtain ⟨v, r, rfl, hx, hr⟩ := hX
  refine wpAny_assignInOrder_more (goA (h s v R hx) fun uu s' ρ' R' k q => ?_)
  exact goA (q s' r R' (k.vrs hr)) fun uu s'' ρ'' R'' k' q => ⟨ρ'', R'', .trans R' k k', q⟩
theorem KeepE.ext {s : Shared} {h' : Heap} (he : Heap.ExtBut s.heap.objs.size s.heap h') : KeepE s { s with heap := h' } :=
  ⟨.mk' h' s.toks (Nat.le_refl _), fun b o e => he b o (Nat.ne_of_lt (Heap.lt_size e)) e⟩
theorem WAs_unpack {c es k pos X Xs ρ σ} {Q : Rho → Prop} (hX : X = .list Xs ∨ X = .tup Xs) (hn : (assignEach es c.env).length = Xs.length) (hstar : (assignEach es c.env).findIdx? (·.1) = none)
    (h : WAss c ((assignEach es c.env).map (·.2)) Xs ρ σ Q) : WAs c (.Tuple es k pos) X ρ σ Q := fun s v R hx => by
  rcases hX with rfl | rfl
  · obtain ⟨a, vs, rfl, ha, hl, hr⟩ := hx
    rw [assign_Tuple]
    refine wpAny_bind (wpAny_standAt ?_)
    unfold unpack
    have e : (assignEach es c.env).length = vs.toArray.size := by rw [hn, List.size_toArray, hr.length]
    rw [e, hstar]
    refine wpAny_bind (wpAny_holding (kun_itemsOf R.ok.hand hl fun h' he => ?_))
    have k := KeepE.ext he
    exact goA (h _ vs (R.keepE k) (hr.keeps (k.keepW _))) fun uu s' ρ' R' k' q => ⟨ρ', R', .trans (R.keepE k) k.ks k', q⟩
  · obtain ⟨a, vs, rfl, ha, hl, hr⟩ := hx
    refine wpAny_assign_Tuple R.ok.hand hl (by rw [hn, List.size_toArray, hr.length]) hstar fun h' he => ?_
    have k := KeepE.ext he
    exact goA (h _ vs (R.keepE k) (hr.keeps (k.keepW _))) fun uu s' ρ' R' k' q => ⟨ρ', R', .trans (R.keepE k) k.ks k', q⟩
noncomputable abbrev KAsg (Q : Fl → Rho → Sig → Prop) (x : Str) (ρ : Rho) (σ : Sig) : V → Prop := fun X => Q .next ((x, X) :: ρ) σ
noncomputable abbrev KN (Q : Fl → Rho → Sig → Prop) (σ : Sig) : Rho → Prop := fun ρ' => Q .next ρ' σ
noncomputable abbrev KAT (c : Cx) (t : Expr) (ρ : Rho) (σ : Sig) (Q : Fl → Rho → Sig → Prop) : V → Prop := fun X => WAs c t X ρ σ (KN Q σ)
noncomputable abbrev KRet (Q : Fl → Rho → Sig → Prop) (ρ : Rho) (σ : Sig) : V → Prop := fun X => Q (.ret X) ρ σ
theorem W1_assign {c x px e pos ρ σ} {Q : Fl → Rho → Sig → Prop} (hk : Stb c x) (h : WE c e ρ σ (KAsg Q x ρ σ))
    (hs : swapsWith e (some (.Name x px)) pos.line c.env = pure false := by walk_at "r") : W1 c (.Assign [.Name x px] e pos) ρ σ Q := fun s R => by
  refine wpAny_Assign_Name (goV (h s R) fun v s₁ X hX k₁ q => ?_) hs
  exact storeName_rel (R.keepE k₁) hX hk fun s' R' k => ⟨.next, _, _, rfl, R', .trans (R.keepE k₁) k₁.ks k, q⟩
theorem W1_assignT {c es n tp e pos ρ σ} {Q : Fl → Rho → Sig → Prop} (h : WE c e ρ σ (KAT c (.Tuple es n tp) ρ σ Q))
    (hs : swapsWithSole [.Tuple es n tp] e pos.line c.env = pure false := by walk_at "r") (hs' : swappedStores [.Tuple es n tp] e c.env = pure none := by walk_at "r") : W1 c (.Assign [.Tuple es n tp] e pos) ρ σ Q := fun s R => by
  refine wpAny_Assign_stores (goV (h s R) fun v s₁ X hX k₁ q => ?_) hs hs'
  show wpAny _ _ (assign (.Tuple es n tp) c.env v) _ _ _
  exact goA (q s₁ v (R.keepE k₁) hX) fun uu s' ρ' R' k q => ⟨.next, _, _, rfl, R', .trans (R.keepE k₁) k₁.ks k, q⟩
theorem W1_if {c t b o pos ρ σ} {Q : Fl → Rho → Sig → Prop} (h : WI c t ρ σ (fun z => if z = true then WS c b ρ σ Q else WS c o ρ σ Q)) : W1 c (.If t b o pos) ρ σ Q := fun s R => by
  refine wpAny_If (goB (h s R) fun z s₁ k₁ q => ?_)
  cases z with
  | true => exact goX (q s₁ (R.keepE k₁)) fun f s' F r g a b d q => ⟨F, r, g, a, b, .trans (R.keepE k₁) k₁.ks d, q⟩
  | false => exact goX (q s₁ (R.keepE k₁)) fun f s' F r g a b d q => ⟨F, r, g, a, b, .trans (R.keepE k₁) k₁.ks d, q⟩
theorem W1_ret {c e pos ρ σ} {Q : Fl → Rho → Sig → Prop} (h : WE c e ρ σ (KRet Q ρ σ)) : W1 c (.Return (some e) pos) ρ σ Q := fun s R =>
  wpAny_Return_some (goV (h s R) fun v s₁ X hX k₁ q => ⟨.ret X, _, _, ⟨v, rfl, hX⟩, R.keepE k₁, k₁.ks, q⟩)
theorem W1_break {c pos ρ σ} {Q : Fl → Rho → Sig → Prop} (h : Q .brk ρ σ) : W1 c (.Break pos) ρ σ Q := fun s R =>
  wpAny_Break ⟨.brk, _, _, rfl, R, .refl _ _ _, h⟩
theorem W1_aug {c x px op e pos ρ σ X} {Q : Fl → Rho → Sig → Prop} (hx : ρ.lookup x = some X) (hk : Stb c x)
    (h : WE c e ρ σ (KO2 c (inplaceOp op) X ρ σ (KAsg Q x ρ σ))) : W1 c (.AugAssign (.Name x px) op e pos) ρ σ Q := fun s R => by
  refine wpAny_AugAssign_Name ?_
  obtain ⟨m, hN, hl⟩ := R.loc
  have ld : ∀ {Q' : Value → Shared → Prop}, (∀ v, VR c.w (wof c σ) s X v → Q' v s) → wpAny (model PG c.w) c.A (loadName c.env x) Q' (fun uu uu => False) s := fun hq => by
    rcases hk with q | ⟨q, _⟩
    · obtain ⟨v, hv, hr⟩ := (hl x X hx).1 q; exact wpAny_loadName_local R.ok.kind q hN hv (hq v hr)
    · obtain ⟨a, v, ha, hc, hr⟩ := (hl x X hx).2 (.inl q); exact wpAny_loadName_cell R.ok.kind q ha hc (hq v hr)
  refine ld fun v hv => goV (h s R) fun u s₁ Y hY k₁ q => ?_
  refine goV (q s₁ v u (R.keepE k₁) (hv.keeps (k₁.keepW _)) hY) fun r s₂ Z hZ k₂ q => ?_
  exact storeName_rel ((R.keepE k₁).keepE k₂) hZ hk fun s' R' k => ⟨.next, _, _, rfl, R', .trans ((R.keepE k₁).keepE k₂) (.trans (R.keepE k₁) k₁.ks k₂.ks) k, q⟩
theorem O2_iadd_int {c ρ σ i j} {Q : V → Prop} (h : Q (.int (i + j))) : O2 c (inplaceOp .Add) (.int i) (.int j) ρ σ Q := by
  rintro s _ _ R ⟨t, rfl⟩ ⟨u, rfl⟩; exact iadd_int ⟨.int _, ⟨_, rfl⟩, .mk' (.refl _) (Nat.le_succ _), h⟩
theorem O2_isub_int {c ρ σ i j} {Q : V → Prop} (h : Q (.int (i - j))) : O2 c (inplaceOp .Sub) (.int i) (.int j) ρ σ Q := by
  rintro s _ _ R ⟨t, rfl⟩ ⟨u, rfl⟩; exact isub_int ⟨.int _, ⟨_, rfl⟩, .mk' (.refl _) (Nat.le_succ _), h⟩
theorem W1_while {c t b pos ρ σ} {Q : Fl → Rho → Sig → Prop} (J : Nat → Rho → Sig → Prop)
    (turn : ∀ n ρ' σ', J n ρ' σ' → WI c t ρ' σ' (fun z => if z = true then WS c b ρ' σ' (fun F ρ'' σ'' => match F with
      | .next | .cont => ∃ m, m < n ∧ J m ρ'' σ''
      | .brk => Q .next ρ'' σ''
      | .ret X => Q (.ret X) ρ'' σ'') else Q .next ρ' σ')) (n : Nat) (h : J n ρ σ) : W1 c (.While t b [] pos) ρ σ Q := fun s R => by
  refine wpAny_While ?_
  refine codeAny_whileLoop (fun n s' => ∃ ρ' σ', Rel c ρ' σ' s' ∧ KS c σ σ' s s' ∧ J n ρ' σ') (fun n s' hpt => ?_) n ⟨ρ, σ, R, .refl _ _ _, h⟩
  obtain ⟨ρ', σ', R', k', hJ⟩ := hpt
  refine goB (turn n ρ' σ' hJ s' R') fun z s₁ k₁ q => ?_
  have R₁ := R'.keepE k₁
  have K₁ := KS.trans R' k' k₁.ks
  cases z with
  | true =>
    refine goX (q s₁ R₁) fun f s₂ F r g a b d q => ?_
    have K₂ := KS.trans R₁ K₁ d
    cases F with
    | next => cases a; obtain ⟨m, hm, hJ⟩ := q; exact ⟨m, hm, r, g, b, K₂, hJ⟩
    | cont => cases a; obtain ⟨m, hm, hJ⟩ := q; exact ⟨m, hm, r, g, b, K₂, hJ⟩
    | brk => cases a; exact ⟨.next, _, _, rfl, b, K₂, q⟩
    | ret X => obtain ⟨v, rfl, hv⟩ := a; exact ⟨.ret X, _, _, ⟨v, rfl, hv⟩, b, K₂, q⟩
  | false => exact wpAny_execs_nil ⟨.next, _, _, rfl, R₁, K₁, q⟩
end
section
open PySem PySem.W PySem.Calls PyProof PyProof.Rows
noncomputable abbrev Cx.up (c : Cx) (o : List Addr) : Cx := { c with out := o ++ c.out }
theorem Cx.Ok.up {c : Cx} (h : c.Ok) (o : List Addr) : (c.up o).Ok :=
  ⟨h.kind, h.glob, h.blt, h.hand, h.depth, h.units, h.stat, h.lown, h.ownh, h.cdist, h.cloc, fun p hp => (h.cin p hp).imp id fun q => List.mem_append_right _ q⟩
theorem wof_up {c : Cx} {o : List Addr} {σ : Sig} {a : Addr} : a ∈ wof (c.up o) σ ↔ a ∈ o ∨ a ∈ wof c σ := by
  simp only [wof, Cx.up, List.mem_append]
  constructor
  · rintro (h | h | h | h)
    · exact .inr (.inl h)
    · exact .inr (.inr (.inl h))
    · exact .inl h
    · exact .inr (.inr (.inr h))
  · rintro (h | h | h | h)
    · exact .inr (.inr (.inl h))
    · exact .inl h
    · exact .inr (.inl h)
    · exact .inr (.inr (.inr h))
theorem Rel.up {c ρ σ s₁ s} {o : List Addr} (R : Rel c ρ σ s₁) (k : KeepE s₁ s) (hn : ∀ b ∈ o, s₁.heap.get? b = none) (he : ∀ b ∈ o, ∃ x, s.heap.get? b = some x) : Rel (c.up o) ρ σ s := by
  have R' := R.keepE k
  have hv : ∀ {X v}, VR c.w (wof c σ) s₁ X v → VR c.w (wof (c.up o) σ) s X v := fun z => z.keep (k.keepW _) fun a ha ⟨ob, hob⟩ hm => by
    rcases wof_up.mp hm with q | q
    · rw [hn a q] at hob; cases hob
    · exact ha q
  have hvs : ∀ {X v}, VRs c.w (wof c σ) s₁ X v → VRs c.w (wof (c.up o) σ) s X v := fun z => z.keep (k.keepW _) fun a ha ⟨ob, hob⟩ hm => by
    rcases wof_up.mp hm with q | q
    · rw [hn a q] at hob; cases hob
    · exact ha q
  refine ⟨R.ok.up o, R'.base, fun a ha => ?_, ?_, R'.cel, fun p hp => ?_, R.nd, R'.tk⟩
  · rcases wof_up.mp ha with q | q
    · exact he a q
    · exact R'.al a q
  · obtain ⟨m, hN, hl⟩ := R.loc
    exact ⟨m, hN.keeps k.2, fun x X e => ⟨fun q => let ⟨v, a, b⟩ := (hl x X e).1 q; ⟨v, a, hv b⟩, fun q => let ⟨a, v, d, f, b⟩ := (hl x X e).2 q; ⟨a, v, d, isCell_at f (fun o => k.2 _ o), hv b⟩⟩⟩
  · obtain ⟨a, b, vs, l, r⟩ := R.muts p hp
    refine ⟨a, fun hm => ?_, vs, l.at (fun o => k.2 _ o), hvs r⟩
    rcases List.mem_append.mp hm with q | q
    · exact b (List.mem_append_left _ q)
    · rcases List.mem_append.mp q with q | q
      · obtain ⟨n, hob⟩ := l
        rw [hn _ q] at hob; cases hob
      · exact b (List.mem_append_right _ q)
theorem Rel.down {c ρ σ s} {o : List Addr} (hok : c.Ok) (R : Rel (c.up o) ρ σ s) : Rel c ρ σ s := by
  have lw : ∀ a, a ∈ wof c σ → a ∈ wof (c.up o) σ := fun a h => wof_up.mpr (.inr h)
  refine ⟨hok, R.base, fun a ha => R.al a (lw a ha), ?_, R.cel, fun p hp => ?_, R.nd, R.tk⟩
  · obtain ⟨m, hN, hl⟩ := R.loc
    exact ⟨m, hN, fun x X e => ⟨fun q => let ⟨v, a, b⟩ := (hl x X e).1 q; ⟨v, a, b.less lw⟩, fun q => let ⟨a, v, d, f, b⟩ := (hl x X e).2 q; ⟨a, v, d, f, b.less lw⟩⟩⟩
  · obtain ⟨a, b, vs, l, r⟩ := R.muts p hp
    refine ⟨a, fun hm => b ?_, vs, l, r.less lw⟩
    rcases List.mem_append.mp hm with q | q
    · exact List.mem_append_left _ q
    · exact List.mem_append_right _ (List.mem_append_right _ q)
theorem Rel.moved {c ρ σ s} {o : List Addr} {h' : Heap} {tk : Nat} (R : Rel (c.up o) ρ σ s) (hno : ∀ b ∈ o, b ∉ vol c σ ∧ c.h₀.get? b = none ∧ b ∉ c.env.cells.map (·.2)) (hk : ∀ b ob, b ∉ o → s.heap.get? b = some ob → h'.get? b = some ob)
    (he : ∀ b ∈ o, ∃ x, h'.get? b = some x) (ht : @LE.le Nat _ s.toks tk) : Rel (c.up o) ρ σ { s with heap := h', toks := tk } := by
  have hW : KeepW (wof (c.up o) σ) s { s with heap := h', toks := tk } := ⟨fun b ob hb e => hk b ob (fun q => hb (wof_up.mpr (.inl q))) e, ht⟩
  have hcell : ∀ {a v}, a ∈ c.env.cells.map (·.2) → s.heap.IsCell a v → h'.IsCell a v := fun hc hv => isCell_at hv fun ob e => hk _ ob (fun q => (hno _ q).2.2 hc) e
  refine ⟨R.ok, fun b ob e => hk b ob (fun q => by rw [(hno b q).2.1] at e; cases e) (R.base b ob e), fun a ha => ?_, ?_, fun p hp => ?_, fun p hp => ?_, R.nd, fun e => R.tk (Nat.le_zero.mp (e ▸ ht))⟩
  · by_cases q : a ∈ o
    · exact he a q
    · obtain ⟨ob, e⟩ := R.al a ha; exact ⟨ob, hk a ob q e⟩
  · obtain ⟨m, hN, hl⟩ := R.loc
    refine ⟨m, Ns_at hN fun ob e => hk _ ob (fun q => (hno _ q).1 (List.mem_append_right _ R.ok.lown)) e, fun x X e => ⟨fun q => let ⟨v, a, b⟩ := (hl x X e).1 q; ⟨v, a, b.keeps hW⟩, fun q => ?_⟩⟩
    obtain ⟨a, v, d, f, b⟩ := (hl x X e).2 q
    exact ⟨a, v, d, hcell (List.mem_map.mpr ⟨_, lookup_mem' d, rfl⟩) f, b.keeps hW⟩
  · obtain ⟨u, hu⟩ := R.cel p hp; exact ⟨u, hcell (List.mem_map_of_mem hp) hu⟩
  · obtain ⟨a, b, vs, l, r⟩ := R.muts p hp
    exact ⟨a, b, vs, l.at fun ob e => hk _ ob (fun q => (hno _ q).1 (List.mem_append_left _ (List.mem_map_of_mem hp))) e, r.keeps hW⟩
theorem Rel.left {c ρ σ s} {o : List Addr} {h' : Heap} {tk : Nat} (hok : c.Ok) (R : Rel (c.up o) ρ σ s) (hno : ∀ b ∈ o, b ∉ wof c σ ∧ c.h₀.get? b = none ∧ b ∉ c.env.cells.map (·.2)) (hk : ∀ b ob, b ∉ o → s.heap.get? b = some ob → h'.get? b = some ob)
    (ht : @LE.le Nat _ s.toks tk) : Rel c ρ σ { s with heap := h', toks := tk } := by
  have lw : ∀ a, a ∈ wof c σ → a ∈ wof (c.up o) σ := fun a h => wof_up.mpr (.inr h)
  have hW : ∀ {X v}, VR c.w (wof (c.up o) σ) s X v → VR c.w (wof c σ) { s with heap := h', toks := tk } X v := fun z =>
    (z.keeps (h' := { s with heap := h', toks := tk }) ⟨fun b ob hb e => hk b ob (fun q => hb (wof_up.mpr (.inl q))) e, ht⟩).less lw
  have hWs : ∀ {X v}, VRs c.w (wof (c.up o) σ) s X v → VRs c.w (wof c σ) { s with heap := h', toks := tk } X v := fun z =>
    (z.keeps (h' := { s with heap := h', toks := tk }) ⟨fun b ob hb e => hk b ob (fun q => hb (wof_up.mpr (.inl q))) e, ht⟩).less lw
  have hcell : ∀ {a v}, a ∈ c.env.cells.map (·.2) → s.heap.IsCell a v → h'.IsCell a v := fun hc hv => isCell_at hv fun ob e => hk _ ob (fun q => (hno _ q).2.2 hc) e
  refine ⟨hok, fun b ob e => hk b ob (fun q => by rw [(hno b q).2.1] at e; cases e) (R.base b ob e), fun a ha => ?_, ?_, fun p hp => ?_, fun p hp => ?_, R.nd, fun e => R.tk (Nat.le_zero.mp (e ▸ ht))⟩
  · obtain ⟨ob, e⟩ := R.al a (lw a ha); exact ⟨ob, hk a ob (fun q => (hno a q).1 ha) e⟩
  · obtain ⟨m, hN, hl⟩ := R.loc
    refine ⟨m, Ns_at hN fun ob e => hk _ ob (fun q => (hno _ q).1 (List.mem_append_right _ (List.mem_append_left _ hok.lown))) e, fun x X e => ⟨fun q => let ⟨v, a, b⟩ := (hl x X e).1 q; ⟨v, a, hW b⟩, fun q => ?_⟩⟩
    obtain ⟨a, v, d, f, b⟩ := (hl x X e).2 q
    exact ⟨a, v, d, hcell (List.mem_map.mpr ⟨_, lookup_mem' d, rfl⟩) f, hW b⟩
  · obtain ⟨u, hu⟩ := R.cel p hp; exact ⟨u, hcell (List.mem_map_of_mem hp) hu⟩
  · obtain ⟨a, b, vs, l, r⟩ := R.muts p hp
    refine ⟨a, fun hm => b ?_, vs, l.at fun ob e => hk _ ob (fun q => (hno _ q).1 (List.mem_append_left _ (List.mem_map_of_mem hp))) e, hWs r⟩
    rcases List.mem_append.mp hm with q | q
    · exact List.mem_append_left _ q
    · exact List.mem_append_right _ (List.mem_append_right _ q)
structure Src (w : World) (A : Around) (W : List Addr) (s₁ : Shared) (I : Addr) (target : Expr) (fp wr : List Addr) (items : List V) (St : Nat → Heap → Prop) : Prop where
  new : ∀ b ∈ wr, s₁.heap.get? b = none
  ex : ∀ i h, St i h → ∀ b ∈ wr, ∃ o, h.get? b = some o
  foot : ∀ b ∈ fp, b ∈ wr ∨ (b ∉ W ∧ ∃ o, s₁.heap.get? b = some o)
  frame : ∀ i h h', St i h → (∀ b ∈ fp, ∀ o, h.get? b = some o → h'.get? b = some o) → St i h'
  self : ∀ (s : Shared) (Q : Value → Shared → Prop), St 0 s.heap → Q (.ref I) s → wpAny (model PG w) A (pyIter (.ref I)) Q (fun uu uu => False) s
  item : ∀ i (s : Shared) (Q : Value → Shared → Prop), i < items.length → St i s.heap → KeepW W s₁ s →
    (∀ Y v h' tk, items[i]? = some Y → @LE.le Nat _ s.toks tk → (∀ W', (∀ a, a ∉ W → (∃ o, s₁.heap.get? a = some o) → a ∉ W') → (∀ a ∈ W', ∃ o, s.heap.get? a = some o) → VR w W' { s with heap := h', toks := tk } Y v) →
      St (i + 1) h' → (∀ b o, b ∉ wr → s.heap.get? b = some o → h'.get? b = some o) → Q v { s with heap := h', toks := tk }) →
    wpAny (model PG w) A (pyNext (.ref I)) (fun r s' => match r with
      | none => False
      | some v => wpAny (model PG w) A (letOwnedTupleGo target (.ref I) v) (fun uu s'' => Q v s'') (fun uu uu => False) s') (fun uu uu => False) s
  done : ∀ (s : Shared) (Q : Shared → Prop), St items.length s.heap → (∀ h' tk, @LE.le Nat _ s.toks tk → (∀ b o, b ∉ wr → s.heap.get? b = some o → h'.get? b = some o) → Q { s with heap := h', toks := tk }) →
    wpAny (model PG w) A (pyNext (.ref I)) (fun r s' => r = none ∧ Q s') (fun uu uu => False) s
noncomputable abbrev ForQ (c : Cx) (Q : Flow → Shared → Prop) (r : Except Value Flow) (s' : Shared) : Prop := match r with
      | .ok f => Q f s'
      | .error e => cameBackBy (model PG c.w) c.A c.env (fun uu uu => False) e s'
theorem W1_forS {c : Cx} {σ : Sig} {s₁ s₂ : Shared} {I : Addr} {target : Expr} {fp wr : List Addr} {items : List V} {St : Nat → Heap → Prop} {ρ : Rho} {body : List Stmt} {Q : Fl → Rho → Sig → Prop}
    (R₁ : Rel c ρ σ s₁) (k : KeepE s₁ s₂) (S : Src c.w c.A (wof c σ) s₁ I target fp wr items St) (hst : St 0 s₂.heap) (J : Nat → Rho → Sig → Prop) (h0 : J 0 ρ σ)
    (turn : ∀ o i Y ρ' σ', items[i]? = some Y → J i ρ' σ' → WAs (c.up o) target Y ρ' σ' (fun ρ'' => WS (c.up o) body ρ'' σ' (fun F ρ₃ σ₃ => match F with
      | .next | .cont => J (i + 1) ρ₃ σ₃
      | .brk => Q .next ρ₃ σ₃
      | .ret X => Q (.ret X) ρ₃ σ₃)))
    (fin : ∀ ρ' σ', J items.length ρ' σ' → Q .next ρ' σ') {s₀ : Shared} (k₀ : KeepE s₀ s₁) :
    codeAny (model PG c.w) c.A (.forLoop target (.ref I) body [] c.env) (ForQ c (OX c σ s₀ Q)) s₂ := by
  have hwrex := fun i h (st : St i h) => S.ex i h st
  have R₂ : Rel (c.up wr) ρ σ s₂ := R₁.up k S.new (hwrex _ _ hst)
  have hno : ∀ {ρ' σ' s}, Rel (c.up wr) ρ' σ' s → ∀ b ∈ wr, b ∉ vol c σ' ∧ c.h₀.get? b = none ∧ b ∉ c.env.cells.map (·.2) := fun {ρ' σ' s} R b hb => by
    refine ⟨fun hm => ?_, ?_, fun hm => ?_⟩
    · rcases List.mem_append.mp hm with q | q
      · obtain ⟨p, hp, rfl⟩ := List.mem_map.mp q
        exact (R.muts p hp).2.1 (List.mem_append_right _ (List.mem_append_left _ hb))
      · obtain ⟨o, e⟩ := R₁.al b (List.mem_append_right _ (List.mem_append_left _ q))
        rw [S.new b hb] at e; cases e
    · cases e : c.h₀.get? b with
      | none => rfl
      | some o => have := R₁.base b o e; rw [S.new b hb] at this; cases this
    · obtain ⟨p, hp, rfl⟩ := List.mem_map.mp hm
      obtain ⟨u, o, e, _⟩ := R₁.cel p hp
      rw [S.new _ hb] at e; cases e
  refine codeAny_forLoop_any (fun n s' => ∃ i ρ' σ', Rel (c.up wr) ρ' σ' s' ∧ KS c σ σ' s₁ s' ∧ St i s'.heap ∧ J i ρ' σ' ∧ i ≤ items.length ∧ n = items.length + 1 - i) ?_ (items.length + 1)
    ⟨0, ρ, σ, R₂, k.ks, hst, h0, Nat.zero_le _, rfl⟩
  rintro n s' ⟨i, ρ', σ', R', K', st, hJ, hi, rfl⟩
  by_cases hlt : i < items.length
  · refine wpAny_mono (S.item i s' (fun v s₃ => (∃ Y h' tk, s₃ = { s' with heap := h', toks := tk } ∧ items[i]? = some Y ∧ @LE.le Nat _ s'.toks tk ∧ VR c.w (wof (c.up wr) σ') { s' with heap := h', toks := tk } Y v ∧ St (i + 1) h' ∧ (∀ b o, b ∉ wr → s'.heap.get? b = some o → h'.get? b = some o)))
        hlt st K'.keepW (fun Y v h' tk hY ht hv st' hk => ⟨Y, h', tk, rfl, hY, ht, hv _ (fun a ha ⟨o, e⟩ hm => (wof_up.mp hm).elim (fun q => by rw [S.new a q] at e; cases e) (K'.off a ha ⟨o, e⟩)) R'.al, st', hk⟩)) (fun r s₃ hr => ?_) fun uu uu x => x.elim
    · cases r with
      | none => exact hr.elim
      | some v =>
        refine wpAny_mono hr (fun uu s₄ h₄ => ?_) fun uu uu x => x.elim
        obtain ⟨Y, h', tk, rfl, hY, ht, hv, st', hk⟩ := h₄
        have R₄ : Rel (c.up wr) ρ' σ' { s' with heap := h', toks := tk } := R'.moved (hno R') hk (hwrex _ _ st') ht
        have K₄ : KS c σ σ' s₁ { s' with heap := h', toks := tk } := ⟨K'.1.trans (.mk' _ _ ht), fun b o hb e => hk b o (fun q => by rw [S.new b q] at e; cases e) (K'.2.1 b o hb e), K'.2.2⟩
        refine goA (turn wr i Y ρ' σ' hY hJ _ v R₄ hv) fun uu s₅ ρ₅ R₅ k₅ q => ?_
        have K₅ : KS c σ σ' s₁ s₅ := ⟨K₄.1.trans k₅.1, fun b o hb e => k₅.2.1 b o (K₄.offv b hb ⟨o, e⟩) (K₄.2.1 b o hb e), K₄.2.2⟩
        have footOk : ∀ b ∈ fp, b ∉ vol c σ' := fun b hb => by
          rcases S.foot b hb with q | ⟨q1, q2⟩
          · exact (hno R₄ b q).1
          · exact K₄.offv b (fun q => q1 (vol_wof q)) q2
        have st₅ : St (i + 1) s₅.heap := S.frame _ _ _ st' fun b hb o e => k₅.2.1 b o (footOk b hb) e
        refine goX (q s₅ R₅) fun f s₆ F r g a R₆ k₆ q => ?_
        have K₆ : KS c σ g s₁ s₆ := by
          refine ⟨K₅.1.trans k₆.1, fun b o hb e => k₆.2.1 b o (K₅.offv b hb ⟨o, e⟩) (K₅.2.1 b o hb e), fun p hp => ?_⟩
          rcases k₆.2.2 p hp with q | q
          · obtain ⟨p', hp', e⟩ := List.mem_map.mp q
            rw [← e]; exact K₅.2.2 p' hp'
          · by_cases hm : p.1 ∈ wof c σ
            · rcases List.mem_append.mp hm with h1 | h1
              · exact .inl h1
              · obtain ⟨o, ho⟩ := R₅.al p.1 (wof_up.mpr (.inr (List.mem_append_right _ h1)))
                rw [q] at ho; cases ho
            · right
              cases e : s₁.heap.get? p.1 with
              | none => rfl
              | some o => have := K₅.2.1 p.1 o (fun z => hm (vol_wof z)) e; rw [q] at this; cases this
        have K0 : KS c σ g s₀ s₆ := KS.trans R₁ k₀.ks K₆
        have less : ∀ a, a ∈ wof c g → a ∈ wof (c.up wr) g := fun a h => wof_up.mpr (.inr h)
        have st₆ : St (i + 1) s₆.heap := S.frame _ _ _ st₅ fun b hb o e => k₆.2.1 b o (footOk b hb) e
        cases F with
        | next => cases a; exact ⟨_, by exact Nat.not_le.mp fun hn => absurd (Nat.add_le_add hn (Nat.add_le_add (Nat.le_of_eq (Nat.sub_add_cancel (show i + 1 ≤ items.length + 1 from Nat.not_lt.mp fun hn => absurd (Nat.add_le_add hlt hn) (by simp +arith)))) (Nat.le_of_eq (Nat.sub_add_cancel (show i ≤ items.length + 1 from Nat.not_lt.mp fun hn => absurd (Nat.add_le_add hlt hn) (by simp +arith))).symm))) (by simp +arith), i + 1, r, g, R₆, K₆, st₆, q, hlt, rfl⟩
        | cont => cases a; exact ⟨_, by exact Nat.not_le.mp fun hn => absurd (Nat.add_le_add hn (Nat.add_le_add (Nat.le_of_eq (Nat.sub_add_cancel (show i + 1 ≤ items.length + 1 from Nat.not_lt.mp fun hn => absurd (Nat.add_le_add hlt hn) (by simp +arith)))) (Nat.le_of_eq (Nat.sub_add_cancel (show i ≤ items.length + 1 from Nat.not_lt.mp fun hn => absurd (Nat.add_le_add hlt hn) (by simp +arith))).symm))) (by simp +arith), i + 1, r, g, R₆, K₆, st₆, q, hlt, rfl⟩
        | brk => cases a; exact ⟨.next, r, g, rfl, R₆.down R₁.ok, K0, q⟩
        | ret X => obtain ⟨v, rfl, hv⟩ := a; exact ⟨.ret X, r, g, ⟨v, rfl, hv.less less⟩, R₆.down R₁.ok, K0, q⟩
  · have hin : i = items.length := by exact Nat.le_antisymm hi (Nat.not_lt.mp hlt)
    subst hin
    refine wpAny_mono (S.done s' (fun s₃ => Rel c ρ' σ' s₃ ∧ KS c σ σ' s₁ s₃) st (fun h' tk ht hk => ?_)) (fun r s₃ hr => ?_) fun uu uu x => x.elim
    · have hno' : ∀ b ∈ wr, b ∉ wof c σ' ∧ c.h₀.get? b = none ∧ b ∉ c.env.cells.map (·.2) := fun b hb => by
        obtain ⟨n1, n2, n3⟩ := hno R' b hb
        refine ⟨fun hm => ?_, n2, n3⟩
        rcases List.mem_append.mp hm with q | q
        · exact n1 (List.mem_append_left _ q)
        · obtain ⟨o, e⟩ := R₁.al b (List.mem_append_right _ q)
          rw [S.new b hb] at e; cases e
      refine ⟨R'.left R₁.ok hno' hk ht, K'.1.trans (.mk' _ _ ht), fun b o hb e => hk b o (fun q => by rw [S.new b q] at e; cases e) (K'.2.1 b o hb e), K'.2.2⟩
    · obtain ⟨rfl, R₃, K₃⟩ := hr
      exact wpAny_execs_nil ⟨.next, ρ', σ', rfl, R₃, KS.trans R₁ k₀.ks K₃, fin ρ' σ' hJ⟩
noncomputable def SrcOf (c : Cx) (target : Expr) (X : V) (items : List V) : Prop :=
  ∀ ρ σ s v (Q : Value → Shared → Prop), Rel c ρ σ s → VR c.w (wof c σ) s X v → (∀ I fp wr St s', KeepE s s' → Src c.w c.A (wof c σ) s I target fp wr items St → St 0 s'.heap → Q (.ref I) s') →
    wpAny (model PG c.w) c.A (pyIter v) Q (fun uu uu => False) s
noncomputable def Tgt (t : Expr) : Prop := (∃ x p, t = .Name x p) ∨ ∃ es k p, t = .Tuple es k p
theorem src_list {c : Cx} {target : Expr} {xs : List V} (ht : Tgt target) : SrcOf c target (.list xs) xs := by
  rintro ρ σ s _ Q R ⟨l, vs, rfl, hl, hlist, hr⟩ hQ
  refine wpAny_pyIter_list hlist ?_
  have hIl : l ≠ s.heap.objs.size := fun e => by obtain ⟨o, ho, _⟩ := hlist; rw [e, fresh_none] at ho; cases ho
  refine hQ s.heap.objs.size [s.heap.objs.size, l] [s.heap.objs.size] (fun i h => h.IsListIter s.heap.objs.size l i ∧ h.IsList l vs.toArray) _ (.mk' (stays_push _ _) (Nat.le_refl _))
    ⟨fun b hb => ?_, fun i h st b hb => ?_, fun b hb => ?_, fun i h h' st k => ?_, fun s' Q' st hq => wpAny_pyIter_listiter st.1 hq, fun i s' Q' hi st K' hQ' => ?_, fun s' Q' st hQ' => ?_⟩ ⟨⟨_, Heap.get?_push_size _ rfl, rfl, rfl⟩, hlist.push _⟩
  · rw [List.mem_singleton.mp hb]; exact fresh_none _
  · obtain ⟨⟨o, e, _⟩, _⟩ := st; exact ⟨o, List.mem_singleton.mp hb ▸ e⟩
  · rcases List.mem_cons.mp hb with q | q
    · exact .inl (q ▸ List.mem_singleton.mpr rfl)
    · rw [List.mem_singleton.mp q]
      obtain ⟨o, e, _⟩ := hlist
      exact .inr ⟨hl, o, e⟩
  · exact ⟨st.1.at fun o e => k _ (.head _) o e, st.2.at fun o e => k _ (.tail _ (.head _)) o e⟩
  · have hlen := hr.length
    have hx : vs.toArray[i]? = some (vs[i]'(by exact Nat.not_le.mp fun hn => absurd (Nat.add_le_add hi (Nat.add_le_add (Nat.le_of_eq hlen.symm) hn)) (by simp +arith))) := by simp [hlen, hi]
    obtain ⟨Y, hY, hv⟩ := hr.get' (i := i) (v := vs[i]'(by exact Nat.not_le.mp fun hn => absurd (Nat.add_le_add hi (Nat.add_le_add (Nat.le_of_eq hlen.symm) hn)) (by simp +arith))) (by simp [hlen, hi])
    refine wpAny_pyNext_list_item st.1 st.2 hx fun h' hit hs => ?_
    have hnew : ∀ b o, s.heap.get? b = some o → b ≠ s.heap.objs.size := fun b o e q => by rw [q, fresh_none] at e; cases e
    have post : ∀ {P : Value → Shared → Prop}, (∀ h'' tk, @LE.le Nat _ s'.toks tk → h''.IsListIter s.heap.objs.size l (i + 1) → Heap.SameBut s.heap.objs.size s'.heap h'' → P (vs[i]'(by exact Nat.not_le.mp fun hn => absurd (Nat.add_le_add hi (Nat.add_le_add (Nat.le_of_eq hlen.symm) hn)) (by simp +arith))) { s' with heap := h'', toks := tk }) → P (vs[i]'(by exact Nat.not_le.mp fun hn => absurd (Nat.add_le_add hi (Nat.add_le_add (Nat.le_of_eq hlen.symm) hn)) (by simp +arith))) { s' with heap := h' } := fun h => h h' s'.toks (Nat.le_refl _) hit hs
    have fin : Q' (vs[i]'(by exact Nat.not_le.mp fun hn => absurd (Nat.add_le_add hi (Nat.add_le_add (Nat.le_of_eq hlen.symm) hn)) (by simp +arith))) { s' with heap := h' } := post fun h'' tk htk hit hs =>
      hQ' Y _ h'' tk hY htk (fun W' hW' uu => hv.keep ⟨fun b o hb e => (hs.2 b (hnew b o e)).trans (K'.1 b o hb e), Nat.le_trans K'.2 htk⟩ hW') ⟨hit, st.2.extBut hs.extBut hIl⟩ fun b o hb e => (hs.2 b fun q => hb (q ▸ List.mem_singleton.mpr rfl)).trans e
    rcases ht with ⟨x, p, rfl⟩ | ⟨es, k, p, rfl⟩
    · exact wpAny_pure fin
    · show wpAny _ _ (letOwnedTupleGo (.Tuple es k p) (.ref s.heap.objs.size) (vs[i]'(by exact Nat.not_le.mp fun hn => absurd (Nat.add_le_add hi (Nat.add_le_add (Nat.le_of_eq hlen.symm) hn)) (by simp +arith)))) _ _ _
      generalize vs[i]'(by exact Nat.not_le.mp fun hn => absurd (Nat.add_le_add hi (Nat.add_le_add (Nat.le_of_eq hlen.symm) hn)) (by simp +arith)) = u at fin
      cases u with
      | ref T => exact wpAny_letOwnedTupleGo_listiter hit fin
      | _ => exact wpAny_pure fin
  · have hn : vs.toArray[xs.length]? = none := by simp [hr.length]
    refine wpAny_pyNext_list_end R.ok.hand st.1 st.2 hn fun h' he => ⟨rfl, ?_⟩
    exact hQ' h' s'.toks (Nat.le_refl _) fun b o hb e => he b o (fun q => hb (q ▸ List.mem_singleton.mpr rfl)) e
noncomputable def rngItems (a st : Int) (n : Nat) : List V := (List.range n).map fun i : Nat => .int (a + (i : Int) * st)
theorem src_range {c : Cx} {x : Str} {p : Pos} {a b st : Int} {n : Nat} (hs : Builtin.Range.small a b st = true) (hn : Builtin.Range.rangeSize a b st = (n : Int)) : SrcOf c (.Name x p) (.rng a b st) (rngItems a st n) := by
  rintro ρ σ s _ Q R ⟨r, t, u, w, rfl, hl, hrng⟩ hQ
  refine wpAny_pyIter_range hrng hs ?_
  have W : Walks PG c.w c.A s.heap.objs.size [s.heap.objs.size] [s.heap.objs.size] n (fun i v => ∃ t, v = .int (a + i * st) t) _ := Walks.range R.ok.hand s.heap.objs.size a st n
  refine hQ s.heap.objs.size [s.heap.objs.size] [s.heap.objs.size] (fun i h => IsRangeIter h s.heap.objs.size (a + (i : Nat) * st) ((n : Int) - (i : Nat)) st) _ (.mk' (stays_push _ _) (Nat.le_refl _))
    ⟨fun b hb => ?_, fun i h st b hb => ?_, fun b hb => .inl hb, fun i h h' st k => W.frame _ _ _ st k, fun s' Q' st hq => W.self _ _ _ _ st hq, fun i s' Q' hi st' K' hQ' => ?_, fun s' Q' st' hQ' => ?_⟩ ?_
  · rw [List.mem_singleton.mp hb]; exact fresh_none _
  · exact ⟨_, List.mem_singleton.mp hb ▸ st⟩
  · have hlt : i < n := by simpa [rngItems] using hi
    refine wpAny_with_toks (n := s'.toks) (Nat.le_refl _) (W.item i s' _ _ hlt st' fun v h' tk hP hst hk htk => ?_)
    obtain ⟨t, rfl⟩ := hP
    show wpAny _ _ (letOwnedTupleGo (.Name x p) _ _) _ _ _
    exact wpAny_pure (hQ' (.int (a + i * st)) _ h' tk (by simp [rngItems, hlt]) htk (fun uu uu uu => ⟨t, rfl⟩) hst hk)
  · have e : (rngItems a st n).length = n := by simp [rngItems]
    rw [e] at st'
    exact wpAny_with_toks (n := s'.toks) (Nat.le_refl _) (W.done s' _ _ st' fun h' tk hk htk => ⟨rfl, hQ' h' tk htk hk⟩)
  · show IsRangeIter _ _ _ _ _
    rw [hn]; simpa using Heap.get?_push_size _ rfl
theorem W1_for {c : Cx} {target iter : Expr} {body : List Stmt} {pos : Pos} {ρ : Rho} {σ : Sig} {Q : Fl → Rho → Sig → Prop}
    (h : WE c iter ρ σ (fun X => ∃ items, SrcOf c target X items ∧ ∃ J : Nat → Rho → Sig → Prop, J 0 ρ σ ∧
      (∀ o i Y ρ' σ', items[i]? = some Y → J i ρ' σ' → WAs (c.up o) target Y ρ' σ' (fun ρ'' => WS (c.up o) body ρ'' σ' (fun F ρ₃ σ₃ => match F with
        | .next | .cont => J (i + 1) ρ₃ σ₃
        | .brk => Q .next ρ₃ σ₃
        | .ret X => Q (.ret X) ρ₃ σ₃))) ∧ ∀ ρ' σ', J items.length ρ' σ' → Q .next ρ' σ'))
    (hs : ∀ x, foldedSetIterable iter c.env x = pure x := by intro _; with_unfolding_all rfl) : W1 c (.For target iter body [] pos) ρ σ Q := fun s R => by
  refine wpAny_For (goV (h s R) fun v s₁ X hX k₁ hpt => ?_) hs
  obtain ⟨items, hsrc, J, h0, turn, fin⟩ := hpt
  exact hsrc ρ σ s₁ v _ (R.keepE k₁) hX fun I fp wr St s₂ k₂ S hst => W1_forS (R.keepE k₁) k₂ S hst J h0 turn fin k₁
end
section
open PySem PySem.W PySem.Calls PyProof PyProof.Rows
noncomputable def sub (ρ ρ' : Rho) : Prop := ∀ x X, ρ.lookup x = some X → ρ'.lookup x = some X
theorem sub.refl (ρ) : sub ρ ρ := fun uu uu h => h
theorem sub.one {ρ ρ' : Rho} {x X} (h : ρ.lookup x = none) (k : sub ρ ρ') : sub ρ ((x, X) :: ρ') := fun y Y e => by
  rw [lookup_head]
  by_cases q : y = x
  · subst q; rw [h] at e; cases e
  · rw [if_neg q]; exact k y Y e
noncomputable def DOk (c : Cx) (D : Addr) : Prop := D ∈ c.out ∧ D ∉ c.own ∧ c.h₀.get? D = none ∧ D ∉ c.env.cells.map (·.2)
theorem DOk.up {c D} (d : DOk c D) (o) : DOk (c.up o) D := ⟨List.mem_append_right _ d.1, d.2.1, d.2.2.1, d.2.2.2⟩
theorem DOk.wof {c D σ} (d : DOk c D) : D ∈ wof c σ := List.mem_append_right _ (List.mem_append_right _ d.1)
theorem Rel.poke {c ρ s D} {h' : Heap} {tk : Nat} (d : DOk c D) (R : Rel c ρ [] s) (hk : ∀ b ob, b ≠ D → s.heap.get? b = some ob → h'.get? b = some ob) (he : ∃ o, h'.get? D = some o) (ht : @LE.le Nat _ s.toks tk) :
    Rel c ρ [] { s with heap := h', toks := tk } := by
  have hW : KeepW (wof c []) s { s with heap := h', toks := tk } := ⟨fun b ob hb e => hk b ob (fun q => hb (q ▸ d.wof)) e, ht⟩
  have hcell : ∀ {a v}, a ∈ c.env.cells.map (·.2) → s.heap.IsCell a v → h'.IsCell a v := fun hc hv => isCell_at hv fun ob e => hk _ ob (fun q => d.2.2.2 (q ▸ hc)) e
  refine ⟨R.ok, fun b ob e => hk b ob (fun q => by rw [q, d.2.2.1] at e; cases e) (R.base b ob e), fun a ha => ?_, ?_, fun p hp => ?_, fun p hp => (nomatch hp), List.nodup_nil, fun e => R.tk (Nat.le_zero.mp (e ▸ ht))⟩
  · by_cases q : a = D
    · exact q ▸ he
    · obtain ⟨ob, e⟩ := R.al a ha; exact ⟨ob, hk a ob q e⟩
  · obtain ⟨m, hN, hl⟩ := R.loc
    refine ⟨m, Ns_at hN fun ob e => hk _ ob (fun q => d.2.1 (q ▸ R.ok.lown)) e, fun x X e => ⟨fun q => let ⟨v, a, b⟩ := (hl x X e).1 q; ⟨v, a, b.keeps hW⟩, fun q => ?_⟩⟩
    obtain ⟨a, v, d', f, b⟩ := (hl x X e).2 q
    exact ⟨a, v, d', hcell (List.mem_map.mpr ⟨_, lookup_mem' d', rfl⟩) f, b.keeps hW⟩
  · obtain ⟨u, hu⟩ := R.cel p hp; exact ⟨u, hcell (List.mem_map_of_mem hp) hu⟩
noncomputable def Acc (c : Cx) (D : Addr) (Ys : List V) (s : Shared) : Prop := ∃ ys, s.heap.IsList D (List.toArray ys) ∧ VRs c.w (wof c []) s Ys ys
noncomputable def KC (c : Cx) (D : Addr) (s s' : Shared) : Prop := Stp s s' ∧ ∀ b o, b ≠ D → b ∉ c.own → s.heap.get? b = some o → s'.heap.get? b = some o
theorem KC.trans {c D a b d} (x : KC c D a b) (y : KC c D b d) : KC c D a d := ⟨x.1.trans y.1, fun b o h1 h2 e => y.2 b o h1 h2 (x.2 b o h1 h2 e)⟩
theorem KeepE.kc {c D s s'} (k : KeepE s s') : KC c D s s' := ⟨k.1, fun b o uu uu e => k.2 b o e⟩
theorem KS.kc {c : Cx} {D s s'} (k : KS c [] [] s s') : KC c D s s' := ⟨k.1, fun b o uu h e => k.2.1 b o (by simpa [vol] using h) e⟩
theorem Acc.keepE {c D Ys s s'} (h : Acc c D Ys s) (k : KeepE s s') : Acc c D Ys s' := let ⟨ys, a, b⟩ := h; ⟨ys, a.at fun o => k.2 _ o, b.keeps (k.keepW _)⟩
theorem Acc.ks {c D Ys s s'} (d : DOk c D) (h : Acc c D Ys s) (k : KS c [] [] s s') : Acc c D Ys s' :=
  let ⟨ys, a, b⟩ := h; ⟨ys, a.at fun o e => k.2.1 _ o (by simpa [vol] using d.2.1) e, k.vrs b⟩
noncomputable def WIn {α : Type} (c : Cx) (D : Addr) (t : Sem α) (ρ ρ' : Rho) (Ys : List V) (Q : List V → Prop) : Prop :=
  ∀ s, Rel c ρ [] s → Acc c D Ys s → wpAny (model PG c.w) c.A t (fun uu s' => ∃ Ys', Rel c ρ' [] s' ∧ Acc c D Ys' s' ∧ KC c D s s' ∧ Q Ys') (fun uu uu => False) s
theorem WIn_emit {c D elt ρ ρ' Ys Q} (d : DOk c D) (hs : sub ρ' ρ) (hsz : Ys.length ≤ sizeLine) (h : WE c elt ρ [] (fun Z => Q (Ys ++ [Z]))) :
    WIn c D (do let _ ← call (.builtin "list.append") [.ref D, ← eval elt c.env] : Sem Unit) ρ ρ' Ys Q := fun s R ha => by
  refine wpAny_bind (goV (h s R) fun v s₁ Z hZ k₁ q => ?_)
  have R₁ := R.keepE k₁
  obtain ⟨ys, hl, hy⟩ := ha.keepE k₁
  refine wpAny_bind (wpAny_list_append hl (fun h' hl' hs' => ?_) (by rw [List.size_toArray, hy.length]; exact hsz))
  have hk : ∀ b ob, b ≠ D → s₁.heap.get? b = some ob → h'.get? b = some ob := fun b ob hb e => (hs'.2 b hb).trans e
  have hW : KeepW (wof c []) s₁ { s₁ with heap := h' } := ⟨fun b ob hb e => hk b ob (fun q => hb (q ▸ d.wof)) e, Nat.le_refl _⟩
  refine wpAny_pure ⟨Ys ++ [Z], ((R₁.poke d hk (let ⟨o, e, _⟩ := hl'; ⟨o, e⟩) (Nat.le_refl _)).less hs), ⟨ys ++ [v], by simpa using hl', VRs.append (hy.keeps hW) (VRs.one (hZ.keeps hW))⟩, ?_, q⟩
  exact KC.trans k₁.kc ⟨.mk' _ _ (Nat.le_refl _), fun b o h1 uu e => hk b o h1 e⟩
noncomputable abbrev tests (ifs : List Expr) (env : Env) : Sem Bool :=
  forIn ifs true fun c r => if r = true then do let ok ← isTrue c env (eval c env); pure (ForInStep.yield ok) else pure (ForInStep.yield r)
noncomputable abbrev WTs (c : Cx) (ifs : List Expr) (ρ : Rho) (Q : Bool → Prop) : Prop := WB c (tests ifs c.env) ρ [] Q
theorem WTs_nil {c ρ} {Q : Bool → Prop} (h : Q true) : WTs c [] ρ Q := fun s R => wpAny_tests_nil ⟨.refl _, h⟩
theorem WTs_one {c e ρ} {Q : Bool → Prop} (h : WI c e ρ [] Q) : WTs c [e] ρ Q := fun s R => wpAny_tests_one (h s R)
theorem comp_loop {c : Cx} {D : Addr} {elt target iter : Expr} {gens : List Comprehension} {scope : Scope} {epos : Pos} {ifs : List Expr} {dpt : Nat} {inner : Sem Unit} {W : List Addr} {s₁ s₂ : Shared} {I : Addr} {fp wr : List Addr} {items : List V} {St : Nat → Heap → Prop} {ρ : Rho} {Ys : List V}
    (hform : compTurn (.ListComp elt gens scope epos) dpt (.ref I) (.ref D) c.env = (do
      standAt iter.pos
      match ← pyNext (.ref I) with
      | none => pure (.done .next)
      | some v =>
        letOwnedTupleGo target (.ref I) v
        assign target c.env v
        let ok ← tests ifs c.env
        if ok then
          inner
        again (.compLoop (.ListComp elt gens scope epos) dpt (.ref I) (.ref D) c.env)))
    (d : DOk c D) (S : Src c.w c.A W s₁ I target fp wr items St)
    (hW : ∀ b, b ∉ W → (∃ o, s₁.heap.get? b = some o) → b ∉ wof (c.up wr) [])
    (hwr : ∀ b ∈ wr, b ∉ c.own ∧ c.h₀.get? b = none ∧ b ∉ c.env.cells.map (·.2) ∧ b ∉ c.out)
    (hok : c.Ok) (R₂ : Rel (c.up wr) ρ [] s₂) (K₂ : KC c D s₁ s₂) (A₂ : Acc (c.up wr) D Ys s₂) (st : St 0 s₂.heap)
    (J : Nat → List V → Prop) (h0 : J 0 Ys)
    (turn : ∀ i Y Ys, items[i]? = some Y → J i Ys → WAs (c.up wr) target Y ρ [] (fun ρ'' => WTs (c.up wr) ifs ρ'' (fun ok =>
      if ok = true then WIn (c.up wr) D inner ρ'' ρ Ys (fun Ys' => J (i + 1) Ys') else sub ρ ρ'' ∧ J (i + 1) Ys))) :
    codeAny (model PG c.w) c.A (.compLoop (.ListComp elt gens scope epos) dpt (.ref I) (.ref D) c.env) (fun r s' => r = .ok .next ∧ ∃ Ys', J items.length Ys' ∧ Rel c ρ [] s' ∧ Acc c D Ys' s' ∧ KC c D s₁ s') s₂ := by
  have no : ∀ b, b ∉ W → (∃ o, s₁.heap.get? b = some o) → b ≠ D ∧ b ∉ c.own := fun b h1 h2 =>
    ⟨fun q => hW b h1 h2 (q ▸ (d.up wr).wof), fun q => hW b h1 h2 (List.mem_append_right _ (List.mem_append_left _ q))⟩
  have wrD : ∀ b ∈ wr, b ≠ D := fun b hb q => (hwr b hb).2.2.2 (q ▸ d.1)
  have foot : ∀ b ∈ fp, b ≠ D ∧ b ∉ c.own := fun b hb => by
    rcases S.foot b hb with q | ⟨q1, q2⟩
    · exact ⟨wrD b q, (hwr b q).1⟩
    · exact no b q1 q2
  refine codeAny_loop rfl (fun n s' => ∃ i Ys', Rel (c.up wr) ρ [] s' ∧ Acc (c.up wr) D Ys' s' ∧ KC c D s₁ s' ∧ St i s'.heap ∧ J i Ys' ∧ i ≤ items.length ∧ n = items.length + 1 - i) ?_ (items.length + 1)
    ⟨0, Ys, R₂, A₂, K₂, st, h0, Nat.zero_le _, rfl⟩
  rintro n s' ⟨i, Ys, R', A', K', st, hJ, hi, rfl⟩
  show wpAny _ c.A ((compTurn (.ListComp elt gens scope epos) dpt (.ref I) (.ref D) c.env).onRaise (fun x => do noteFrame x c.env; theTreesLotGoes x)) _ _ s'
  refine wpAny_noted (wpAny_mono (E := fun uu uu => False) ?_ (fun uu uu x => x) fun uu uu x => x.elim)
  rw [hform]
  refine wpAny_bind (wpAny_standAt (wpAny_bind ?_))
  by_cases hlt : i < items.length
  · refine wpAny_mono (S.item i s' (fun v s₃ => (∃ Y h' tk, s₃ = { s' with heap := h', toks := tk } ∧ items[i]? = some Y ∧ @LE.le Nat _ s'.toks tk ∧ VR c.w (wof (c.up wr) []) { s' with heap := h', toks := tk } Y v ∧ St (i + 1) h' ∧ (∀ b o, b ∉ wr → s'.heap.get? b = some o → h'.get? b = some o)))
        hlt st ⟨fun b o hb e => K'.2 b o (no b hb ⟨o, e⟩).1 (no b hb ⟨o, e⟩).2 e, K'.1.toks_le⟩ (fun Y v h' tk hY ht hv st' hk => ⟨Y, h', tk, rfl, hY, ht, hv _ hW R'.al, st', hk⟩)) (fun r s₃ hr => ?_) fun uu uu x => x
    cases r with
    | none => exact hr.elim
    | some v =>
      refine wpAny_bind (wpAny_mono hr (fun uu s₄ h₄ => ?_) fun uu uu x => x)
      obtain ⟨Y, h', tk, rfl, hY, ht, hv, st', hk⟩ := h₄
      have R₄ : Rel (c.up wr) ρ [] { s' with heap := h', toks := tk } := R'.moved (fun b hb => ⟨by simpa [vol] using (hwr b hb).1, (hwr b hb).2.1, (hwr b hb).2.2.1⟩) hk (S.ex _ _ st') ht
      have K₄ : KC c D s₁ { s' with heap := h', toks := tk } := ⟨K'.1.trans (.mk' _ _ ht), fun b o h1 h2 e => hk b o (fun q => by rw [S.new b q] at e; cases e) (K'.2 b o h1 h2 e)⟩
      have A₄ : Acc (c.up wr) D Ys { s' with heap := h', toks := tk } := let ⟨ys, a, b⟩ := A'; ⟨ys, a.at fun o e => hk D o (fun q => wrD D q rfl) e, b.keeps ⟨fun b o hb e => hk b o (fun q => hb (wof_up.mpr (.inl q))) e, ht⟩⟩
      refine wpAny_bind (goA (turn i Y Ys hY hJ _ v R₄ hv) fun uu s₅ ρ₅ R₅ k₅ q => ?_)
      have A₅ := A₄.ks (d.up wr) k₅
      have K₅ : KC c D s₁ s₅ := K₄.trans k₅.kc
      have st₅ : St (i + 1) s₅.heap := S.frame _ _ _ st' fun b hb o e => k₅.2.1 b o (by simpa [vol] using (foot b hb).2) e
      refine wpAny_bind (goB (q s₅ R₅) fun ok s₆ k₆ q => ?_)
      have st₆ : St (i + 1) s₆.heap := S.frame _ _ _ st₅ fun b hb o e => k₆.2 b o e
      cases ok with
      | false =>
        exact wpAny_pure ⟨rfl, _, by exact Nat.not_le.mp fun hn => absurd (Nat.add_le_add hn (Nat.add_le_add (Nat.le_of_eq (Nat.sub_add_cancel (show i + 1 ≤ items.length + 1 from Nat.not_lt.mp fun hn => absurd (Nat.add_le_add hlt hn) (by simp +arith)))) (Nat.le_of_eq (Nat.sub_add_cancel (show i ≤ items.length + 1 from Nat.not_lt.mp fun hn => absurd (Nat.add_le_add hlt hn) (by simp +arith))).symm))) (by simp +arith), i + 1, Ys, (R₅.keepE k₆).less q.1, A₅.keepE k₆, K₅.trans k₆.kc, st₆, q.2, hlt, rfl⟩
      | true =>
        refine wpAny_bind (wpAny_mono (q s₆ (R₅.keepE k₆) (A₅.keepE k₆)) (fun uu s₇ hpt => ?_) fun uu uu x => x)
        obtain ⟨Ys', R₇, A₇, k₇, q⟩ := hpt
        exact wpAny_pure ⟨rfl, _, by exact Nat.not_le.mp fun hn => absurd (Nat.add_le_add hn (Nat.add_le_add (Nat.le_of_eq (Nat.sub_add_cancel (show i + 1 ≤ items.length + 1 from Nat.not_lt.mp fun hn => absurd (Nat.add_le_add hlt hn) (by simp +arith)))) (Nat.le_of_eq (Nat.sub_add_cancel (show i ≤ items.length + 1 from Nat.not_lt.mp fun hn => absurd (Nat.add_le_add hlt hn) (by simp +arith))).symm))) (by simp +arith), i + 1, Ys', R₇, A₇, (K₅.trans k₆.kc).trans k₇, S.frame _ _ _ st₆ fun b hb o e => k₇.2 b o (foot b hb).1 (foot b hb).2 e, q, hlt, rfl⟩
  · have hin : i = items.length := by exact Nat.le_antisymm hi (Nat.not_lt.mp hlt)
    subst hin
    refine wpAny_mono (S.done s' (fun s₃ => Rel c ρ [] s₃ ∧ Acc c D Ys s₃ ∧ KC c D s₁ s₃) st (fun h' tk ht hk => ?_)) (fun r s₃ hr => ?_) fun uu uu x => x
    · have hno' : ∀ b ∈ wr, b ∉ wof c [] ∧ c.h₀.get? b = none ∧ b ∉ c.env.cells.map (·.2) := fun b hb =>
        ⟨fun hm => (List.mem_append.mp hm).elim (fun q => nomatch q) fun q => (List.mem_append.mp q).elim (hwr b hb).1 (hwr b hb).2.2.2, (hwr b hb).2.1, (hwr b hb).2.2.1⟩
      refine ⟨R'.left hok hno' hk ht, ?_, K'.1.trans (.mk' _ _ ht), fun b o h1 h2 e => hk b o (fun q => by rw [S.new b q] at e; cases e) (K'.2 b o h1 h2 e)⟩
      obtain ⟨ys, a, b⟩ := A'
      exact ⟨ys, a.at fun o e => hk D o (fun q => wrD D q rfl) e, (b.keeps (h' := { s' with heap := h', toks := tk }) ⟨fun b o hb e => hk b o (fun q => hb (wof_up.mpr (.inl q))) e, ht⟩).less fun a h => wof_up.mpr (.inr h)⟩
    · obtain ⟨rfl, R₃, A₃, K₃⟩ := hr
      exact wpAny_pure ⟨rfl, Ys, hJ, R₃, A₃, K₃⟩
end
section
open PySem PySem.W PySem.Calls PyProof PyProof.Rows
noncomputable abbrev Cx.comp (c : Cx) (scope : Scope) (cl : List (Str × Addr)) (C : Addr) (h₀ : Heap) (o : List Addr) : Cx :=
  { c with env := compEnvC scope cl C c.env, h₀ := h₀, own := [C], out := o }
noncomputable def Cap (c : Cx) (scope : Scope) (cl : List (Str × Addr)) (ρ ρ₀ : Rho) : Prop :=
  ∀ x X, ρ₀.lookup x = some X → ρ.lookup x = some X ∧ (c.env.kindOf x = some .cell ∨ c.env.kindOf x = some .free) ∧ cl.lookup x = c.env.cells.lookup x ∧ (compEnvC scope cl 0 c.env).kindOf x ≠ some .local
theorem Cap.nil {c scope cl ρ} : Cap c scope cl ρ [] := fun uu uu e => nomatch e
theorem Cap.cons {c scope cl ρ ρ₀ x X} (h1 : ρ.lookup x = some X) (h2 : c.env.kindOf x = some .cell ∨ c.env.kindOf x = some .free) (h3 : cl.lookup x = c.env.cells.lookup x) (h4 : (compEnvC scope cl 0 c.env).kindOf x ≠ some .local)
    (h : Cap c scope cl ρ ρ₀) : Cap c scope cl ρ ((x, X) :: ρ₀) := fun y Y e => by
  rw [lookup_head] at e
  by_cases q : y = x
  · subst q; rw [if_pos rfl] at e; cases e; exact ⟨h1, h2, h3, h4⟩
  · rw [if_neg q] at e; exact h y Y e
structure CapOk (c : Cx) (scope : Scope) (cl : List (Str × Addr)) : Prop where
  clos : closureFor scope c.env = pure cl
  cell : ∀ y ∈ scope.names, y.2 ≠ .cell
  kind : scope.kind = .function
  names : ∀ x ∈ scope.names, x.2 = .local → scope.names.lookup x.1 = some .local
  sub : ∀ p ∈ cl, p ∈ c.env.cells
  nd : (cl.map (·.1)).Nodup
theorem nodup_of_fst {α β : Type} {l : List (α × β)} (hl : (l.map (·.2)).Nodup) : ∀ {k : List (α × β)}, (k.map (·.1)).Nodup → (∀ p ∈ k, p ∈ l) → (k.map (·.2)).Nodup
  | [], _, _ => List.nodup_nil
  | x :: k, hn, hm => by
    rw [List.map_cons, List.nodup_cons] at hn ⊢
    refine ⟨fun h => hn.1 ?_, nodup_of_fst hl hn.2 fun p hp => hm p (.tail _ hp)⟩
    obtain ⟨y, hy, e⟩ := List.mem_map.mp h
    have := nodup_snd hl (hm y (.tail _ hy)) (hm x (.head _)) e
    exact this ▸ List.mem_map_of_mem hy
theorem size_fresh {h : Heap} {a : Addr} (ha : h.objs.size ≤ a) : h.get? a = none := by
  cases e : h.get? a with
  | none => rfl
  | some o' => exact absurd (Heap.lt_size e) (Nat.not_lt.mpr ha)
theorem comp_core {c : Cx} {target iter elt : Expr} {ifs : List Expr} {rest : List Comprehension} {scope : Scope} {cl : List (Str × Addr)} {pos : Pos} {ρ ρ₀ : Rho} {σ : Sig} {inner : Env → Addr → Sem Unit}
    {s₁ s₂ : Shared} {I : Addr} {fp wr : List Addr} {items : List V} {St : Nat → Heap → Prop} {E : Value → Shared → Prop}
    (hform : ∀ C D I, compTurn (.ListComp elt (⟨target, iter, ifs, 0⟩ :: rest) scope pos) 0 (.ref I) (.ref D) (compEnvC scope cl C c.env) = (do
      standAt iter.pos
      match ← pyNext (.ref I) with
      | none => pure (.done .next)
      | some v =>
        letOwnedTupleGo target (.ref I) v
        assign target (compEnvC scope cl C c.env) v
        let ok ← tests ifs (compEnvC scope cl C c.env)
        if ok then
          inner (compEnvC scope cl C c.env) D
        again (.compLoop (.ListComp elt (⟨target, iter, ifs, 0⟩ :: rest) scope pos) 0 (.ref I) (.ref D) (compEnvC scope cl C c.env))))
    (ho : CapOk c scope cl) (hcap : Cap c scope cl ρ ρ₀) (R₁ : Rel c ρ σ s₁) (k : KeepE s₁ s₂) (S : Src c.w c.A (wof c σ) s₁ I target fp wr items St) (st : St 0 s₂.heap)
    (J : Nat → List V → Prop) (h0 : J 0 [])
    (turn : ∀ C D h₀ o, DOk (c.comp scope cl C h₀ o) D → ∀ i Y Ys, items[i]? = some Y → J i Ys → WAs (c.comp scope cl C h₀ o) target Y ρ₀ [] (fun ρ'' => WTs (c.comp scope cl C h₀ o) ifs ρ'' (fun ok =>
      if ok = true then WIn (c.comp scope cl C h₀ o) D (inner (compEnvC scope cl C c.env) D) ρ'' ρ₀ Ys (fun Ys' => J (i + 1) Ys') else sub ρ₀ ρ'' ∧ J (i + 1) Ys)))
    {RR : Value → Addr → Result → Shared → Prop}
    (hRR : ∀ D C s' ys Ys, J items.length Ys → s₁.heap.get? D = none → s₁.heap.get? C = none → D ≠ C → (∃ m, s'.heap.Ns C m) → s'.heap.IsList D (List.toArray ys) → VRs c.w (C :: D :: wof c σ) s' Ys ys → KeepE s₁ s' → RR (.ref D) C (.ok .next) s') :
    wpAny (model PG c.w) c.A (newList []) (fun acc s₃ => wpAny (model PG c.w) c.A (newFunctionEnv scope c.env.globals cl [] c.env.qual none .none (some c.env)) (fun cenv s₄ =>
      codeAny (model PG c.w) c.A (.compStart (.ListComp elt (⟨target, iter, ifs, 0⟩ :: rest) scope pos) 0 (.ref I) acc { cenv with scope := relabel scope c.env }) (RR acc cenv.locals) s₄) E s₃) E s₂ := by
  refine wpAny_newObj_type (wpAny_newFunctionEnv ho.cell (by intro y hy; simp at hy) (fun h₁ hns₁ hsb₁ => ?_) ho.kind)
  dsimp only at hns₁ hsb₁ ⊢
  generalize hH2 : s₂.heap.push { cls := .type "list", dict := none, data := .seq ([] : List Value).toArray } = H2 at hns₁ hsb₁ ⊢
  generalize hDD : s₂.heap.objs.size = D at *
  generalize hCC : H2.objs.size = C at *
  have hC : C = D + 1 := by rw [← hCC, ← hDD, ← hH2, Heap.size_push]
  have hDC : D ≠ C := by rw [hC]; exact Nat.ne_of_lt (Nat.lt_succ_self _)
  have fD : s₂.heap.get? D = none := size_fresh (Nat.le_of_eq hDD)
  have fC : s₂.heap.get? C = none := size_fresh (by rw [hDD, hC]; exact Nat.le_succ _)
  have back : ∀ {a}, s₂.heap.get? a = none → s₁.heap.get? a = none := fun {a} h => by
    cases e : s₁.heap.get? a with
    | none => rfl
    | some o => rw [k.2 _ _ e] at h; cases h
  have ne_of : ∀ {b o}, s₂.heap.get? b = some o → b ≠ D ∧ b ≠ C := fun e => ⟨fun q => (by rw [q, fD] at e; cases e), fun q => (by rw [q, fC] at e; cases e)⟩
  have gD : h₁.get? D = some { cls := .type "list", dict := none, data := .seq ([] : List Value).toArray } := hsb₁.extBut _ _ hDC (Heap.get?_push_of_some _ (by rw [← hH2, ← hDD]; exact Heap.get?_push_size _ rfl))
  have old : ∀ b o, s₂.heap.get? b = some o → h₁.get? b = some o := fun b o e => hsb₁.extBut b o (ne_of e).2 (Heap.get?_push_of_some _ (hH2 ▸ Heap.get?_push_of_some _ e))
  have exC : ∃ o, h₁.get? C = some o := let ⟨o, _, _, e, _⟩ := hns₁; ⟨o, e⟩
  generalize hs₄ : ({ gens := s₂.gens, drawn := s₂.drawn, os := s₂.os, heap := h₁, toks := s₂.toks + ([] : List (Str × Value)).length } : Shared) = s₄
  have k₄ : KeepE s₂ s₄ := by subst hs₄; exact ⟨.mk' _ _ (Nat.le_refl _), old⟩
  have hh : s₄.heap = h₁ := by rw [← hs₄]
  rw [← hh] at gD exC hns₁ old
  have exwr : ∀ b ∈ wr, ∃ o, s₂.heap.get? b = some o := S.ex _ _ st
  have wal : ∀ a ∈ wof c σ, ∃ o, s₁.heap.get? a = some o := R₁.al
  have nD : D ∉ wof c σ := fun h => let ⟨o, e⟩ := wal _ h; by rw [back fD] at e; cases e
  have nC : C ∉ wof c σ := fun h => let ⟨o, e⟩ := wal _ h; by rw [back fC] at e; cases e
  have cellin : ∀ p ∈ cl, p.2 ∈ wof c σ := fun p hp => List.mem_append_right _ (List.mem_append.mpr (R₁.ok.cin _ (ho.sub p hp)))
  let cc : Cx := c.comp scope cl C s₁.heap (D :: wof c σ)
  have hok : cc.Ok := by
    refine ⟨ho.kind, R₁.ok.glob, R₁.ok.blt, R₁.ok.hand, R₁.ok.depth, R₁.ok.units, R₁.stat, .head _, fun a ha => ?_, nodup_of_fst R₁.ok.cdist ho.nd ho.sub, fun h => ?_, fun p hp => .inr (.tail _ (cellin p hp))⟩
    · rw [List.mem_singleton.mp ha]; exact back fC
    · obtain ⟨p, hp, e⟩ := List.mem_map.mp h
      exact nC (by have := cellin p hp; rw [e] at this; exact this)
  have d : DOk cc D := by
    refine ⟨.head _, fun h => hDC (List.mem_singleton.mp h), back fD, fun h => ?_⟩
    obtain ⟨p, hp, e⟩ := List.mem_map.mp h
    exact nD (by have := cellin p hp; rw [e] at this; exact this)
  have hW : ∀ b, b ∉ wof c σ → (∃ o, s₁.heap.get? b = some o) → b ∉ wof (cc.up wr) [] := fun b hb ⟨o, e⟩ hm => by
    rcases List.mem_append.mp hm with q | q
    · cases q
    · rcases List.mem_append.mp q with q | q
      · exact (ne_of (k.2 _ _ e)).2 (List.mem_singleton.mp q)
      · rcases List.mem_append.mp q with q | q
        · rw [S.new b q] at e; cases e
        · rcases List.mem_cons.mp q with q | q
          · exact (ne_of (k.2 _ _ e)).1 q
          · exact hb q
  have kk : KeepE s₁ s₄ := k.trans k₄
  have R₂ : Rel (cc.up wr) ρ₀ [] s₄ := by
    refine ⟨hok.up wr, kk.2, fun a ha => ?_, ⟨_, hns₁, fun x X e => ?_⟩, fun p hp => ?_, fun p hp => (nomatch hp), List.nodup_nil, fun e => R₁.tk (Nat.le_zero.mp (e ▸ kk.1.toks_le))⟩
    · rcases List.mem_append.mp ha with q | q
      · cases q
      · rcases List.mem_append.mp q with q | q
        · exact List.mem_singleton.mp q ▸ exC
        · rcases List.mem_append.mp q with q | q
          · obtain ⟨o, e⟩ := exwr a q; exact ⟨o, old _ _ e⟩
          · rcases List.mem_cons.mp q with q | q
            · exact ⟨_, q ▸ gD⟩
            · obtain ⟨o, e⟩ := wal a q; exact ⟨o, kk.2 _ _ e⟩
    · obtain ⟨e1, e2, e3, e4⟩ := hcap x X e
      refine ⟨fun q => absurd q e4, fun uu => ?_⟩
      obtain ⟨m, hN, hl⟩ := R₁.loc
      obtain ⟨a, v, ha, hc, hv⟩ := (hl x X e1).2 e2
      exact ⟨a, v, e3.trans ha, isCell_at hc (fun o => kk.2 _ o), hv.keep (kk.keepW _) hW⟩
    · obtain ⟨v, e⟩ := R₁.cel p (ho.sub p hp); exact ⟨v, isCell_at e fun o => kk.2 _ o⟩
  have loop : codeAny (model PG c.w) c.A (.compLoop (.ListComp elt (⟨target, iter, ifs, 0⟩ :: rest) scope pos) 0 (.ref I) (.ref D) (compEnvC scope cl C c.env)) (RR (.ref D) C) s₄ := by
    refine codeAny_mono (comp_loop (c := cc) (Ys := []) (inner := inner (compEnvC scope cl C c.env) D) (hform C D I) d S hW (fun b hb => ?_) hok R₂ kk.kc ⟨[], ⟨_, gD, rfl, _, rfl⟩, (rfl : ([] : List Value) = [])⟩
      (S.frame _ _ _ st fun b uu o e => k₄.2 _ _ e) J h0 fun i Y Ys hY hJ => turn C D _ _ (d.up wr) i Y Ys hY hJ) fun r s' h => ?_
    · obtain ⟨o, e⟩ := exwr b hb
      have hn := S.new b hb
      refine ⟨fun h => (ne_of e).2 (List.mem_singleton.mp h), hn, fun h => ?_, fun h => ?_⟩
      · obtain ⟨p, hp, q⟩ := List.mem_map.mp h
        obtain ⟨o, e⟩ := wal _ (cellin p hp)
        rw [q, hn] at e; cases e
      · rcases List.mem_cons.mp h with q | q
        · exact (ne_of e).1 q
        · obtain ⟨o, e⟩ := wal _ q; rw [hn] at e; cases e
    · obtain ⟨rfl, Ys', hJ, R', ⟨ys, hl, hv⟩, K'⟩ := h
      refine hRR D C s' ys Ys' hJ (back fD) (back fC) hDC (let ⟨m, hN, _⟩ := R'.loc; ⟨m, hN⟩) hl (hv.less fun a ha => ?_) ⟨K'.1, fun b o e => K'.2 b o (ne_of (k.2 _ _ e)).1 (fun q => (ne_of (k.2 _ _ e)).2 (List.mem_singleton.mp q)) e⟩
      rcases List.mem_cons.mp ha with q | q
      · subst q; exact List.mem_append_right _ (List.mem_append_left _ (.head _))
      · exact List.mem_append_right _ (List.mem_append_right _ q)
  exact codeAny_compStart_list loop (wpAny_mono (S.self s₄ (fun it s' => it = .ref I ∧ s' = s₄) (S.frame _ _ _ st fun b uu o e => k₄.2 _ _ e) ⟨rfl, rfl⟩) (fun it s' ⟨e1, e2⟩ => by subst e1; subst e2; exact loop) fun uu uu x => x.elim)
end
section
open PySem PySem.W PySem.Calls PyProof PyProof.Rows
theorem turn1 (elt target iter : Expr) (ifs : List Expr) (scope : Scope) (pos : Pos) (I D : Addr) (env : Env) :
    compTurn (.ListComp elt [⟨target, iter, ifs, 0⟩] scope pos) 0 (.ref I) (.ref D) env = (do
      standAt iter.pos
      match ← pyNext (.ref I) with
      | none => pure (.done .next)
      | some v =>
        letOwnedTupleGo target (.ref I) v
        assign target env v
        let ok ← tests ifs env
        if ok then
          (do let _ ← call (.builtin "list.append") [.ref D, ← eval elt env] : Sem Unit)
        again (.compLoop (.ListComp elt [⟨target, iter, ifs, 0⟩] scope pos) 0 (.ref I) (.ref D) env)) := by
  rfl
theorem comp_value {c : Cx} {ρ σ s₁} (R₁ : Rel c ρ σ s₁) {D C : Addr} {s' : Shared} {ys : List Value} {Ys : List V} (fD : s₁.heap.get? D = none) (fC : s₁.heap.get? C = none) (hDC : D ≠ C)
    (hl : s'.heap.IsList D (List.toArray ys)) (hv : VRs c.w (C :: D :: wof c σ) s' Ys ys) (k : KeepE s₁ s') {h' : Heap} (hs : Heap.SameBut C s'.heap h') :
    VR c.w (wof c σ) { s' with heap := h' } (.list Ys) (.ref D) ∧ KeepE s₁ { s' with heap := h' } := by
  have kw : KeepW (C :: D :: wof c σ) s' { s' with heap := h' } := ⟨fun b o hb e => (hs.2 b fun q => hb (q ▸ .head _)).trans e, Nat.le_refl _⟩
  refine ⟨⟨D, ys, rfl, fun h => ?_, hl.at fun o e => (hs.2 D hDC).trans e, (hv.keeps kw).less fun a h => .tail _ (.tail _ h)⟩, k.1.trans (.mk' _ _ (Nat.le_refl _)), fun b o e => (hs.2 b fun q => ?_).trans (k.2 b o e)⟩
  · obtain ⟨o, e⟩ := R₁.al D h; rw [fD] at e; cases e
  · rw [q, fC] at e; cases e
noncomputable def CompTurn (c : Cx) (scope : Scope) (cl : List (Str × Addr)) (ρ₀ : Rho) (target elt : Expr) (ifs : List Expr) (items : List V) (J : Nat → List V → Prop) : Prop :=
  ∀ C h₀ o i Y Ys, items[i]? = some Y → J i Ys → WAs (c.comp scope cl C h₀ o) target Y ρ₀ [] (fun ρ'' => sub ρ₀ ρ'' ∧ WTs (c.comp scope cl C h₀ o) ifs ρ'' (fun ok =>
      if ok = true then WE (c.comp scope cl C h₀ o) elt ρ'' [] (fun Z => J (i + 1) (Ys ++ [Z])) else J (i + 1) Ys))
theorem WAs.mono {c t X ρ σ} {Q Q' : Rho → Prop} (h : WAs c t X ρ σ Q) (k : ∀ r, Q r → Q' r) : WAs c t X ρ σ Q' := fun s v R hX =>
  goA (h s v R hX) fun uu s' r a b q => ⟨r, a, b, k r q⟩
theorem WB.mono {c t ρ σ} {Q Q' : Bool → Prop} (h : WB c t ρ σ Q) (k : ∀ b, Q b → Q' b) : WB c t ρ σ Q' := fun s R =>
  wpAny_mono (h s R) (fun _ s' ⟨a, q⟩ => ⟨a, k _ q⟩) fun uu uu x => x
theorem CompTurn.inner {c scope cl ρ₀ target elt ifs items J} (h : CompTurn c scope cl ρ₀ target elt ifs items J) (hsz : items.length ≤ sizeLine) :
    ∀ C D h₀ o, DOk (c.comp scope cl C h₀ o) D → ∀ i Y Ys, items[i]? = some Y → (J i Ys ∧ Ys.length ≤ i) → WAs (c.comp scope cl C h₀ o) target Y ρ₀ [] (fun ρ'' => WTs (c.comp scope cl C h₀ o) ifs ρ'' (fun ok =>
      if ok = true then WIn (c.comp scope cl C h₀ o) D (do let _ ← call (.builtin "list.append") [.ref D, ← eval elt (compEnvC scope cl C c.env)] : Sem Unit) ρ'' ρ₀ Ys (fun Ys' => J (i + 1) Ys' ∧ Ys'.length ≤ i + 1) else sub ρ₀ ρ'' ∧ J (i + 1) Ys ∧ Ys.length ≤ i + 1)) :=
  fun C D h₀ o d i Y Ys hY ⟨hJ, hn⟩ => (h C h₀ o i Y Ys hY hJ).mono fun ρ'' ⟨hs, q⟩ => q.mono fun b q => by
    have hi : i < items.length := (List.getElem?_eq_some_iff.mp hY).1
    cases b with
    | false => exact ⟨hs, q, Nat.le_succ_of_le hn⟩
    | true =>
      have h1 : Ys.length ≤ sizeLine := Nat.le_trans hn (Nat.le_trans (Nat.le_of_lt hi) hsz)
      have h2 : ∀ Z, (Ys ++ [Z]).length ≤ i + 1 := fun Z => by rw [List.length_append]; exact Nat.succ_le_succ hn
      exact WIn_emit (c := c.comp scope cl C h₀ o) d hs h1 (WT.mono q fun Z hZ => And.intro hZ (h2 Z))
theorem WE_comp {c : Cx} {target iter elt : Expr} {ifs : List Expr} {scope : Scope} {cl : List (Str × Addr)} {pos : Pos} {ρ : Rho} {σ : Sig} {Q : V → Prop}
    (ho : CapOk c scope cl) (ρ₀ : Rho) (hcap : Cap c scope cl ρ ρ₀)
    (h : WE c iter ρ σ (fun X => ∃ items, SrcOf c target X items ∧ items.length ≤ sizeLine ∧ ∃ J : Nat → List V → Prop, J 0 [] ∧ CompTurn c scope cl ρ₀ target elt ifs items J ∧ ∀ Ys, Ys.length ≤ items.length → J items.length Ys → Q (.list Ys)))
    (hs : ∀ x, foldedSetIterable iter c.env x = pure x := by intro _; with_unfolding_all rfl) : WE c (.ListComp elt [⟨target, iter, ifs, 0⟩] scope pos) ρ σ Q := fun s R => by
  show wpAny _ _ (eval (.ListComp elt [⟨target, iter, ifs, 0⟩] scope pos) c.env) _ _ s
  rw [eval_ListComp]
  refine wpAny_comprehension_free (use := none) rfl hs ho.clos ho.kind ho.names (goV (h s R) fun xv s₁ X hX k₁ hpt => ?_)
  obtain ⟨items, hsrc, hsz, J, h0, turn, fin⟩ := hpt
  have R₁ := R.keepE k₁
  refine hsrc ρ σ s₁ xv _ R₁ hX fun I fp wr St s₂ k₂ S hst => ?_
  refine comp_core (inner := fun env D => (do let _ ← call (.builtin "list.append") [.ref D, ← eval elt env] : Sem Unit)) (fun C D I => turn1 elt target iter ifs scope pos _ _ _) ho hcap R₁ k₂ S hst
    (fun i Ys => J i Ys ∧ Ys.length ≤ i) ⟨h0, Nat.le_refl _⟩ (turn.inner hsz) ?_
  intro D C s' ys Ys hJ fD fC hDC hn hl hv k
  obtain ⟨m, hn⟩ := hn
  refine ⟨m, hn, fun h' hs' => ?_⟩
  have := comp_value R₁ fD fC hDC hl hv k hs'
  exact ⟨.list Ys, this.1, k₁.trans this.2, fin Ys hJ.2 hJ.1⟩
theorem assign_used {c : Cx} {x : Str} {px : Pos} {target iter elt : Expr} {ifs : List Expr} {rest : List Comprehension} {scope : Scope} {cl : List (Str × Addr)} {pos spos : Pos} {ρ : Rho} {σ : Sig} {Q : Fl → Rho → Sig → Prop}
    (hk : c.env.kindOf x = some .local) (hsw : swapsWith (.ListComp elt (⟨target, iter, ifs, 0⟩ :: rest) scope pos) (some (.Name x px)) spos.line c.env = pure true)
    (ho : CapOk c scope cl) (hs : ∀ x, foldedSetIterable iter c.env x = pure x)
    (h : ∀ s, Rel c ρ σ s → wpAny (model PG c.w) c.A (eval iter c.env) (fun xv s₁ => wpAny (model PG c.w) c.A (pyIter xv) (fun it s₂ => wpAny (model PG c.w) c.A (newList []) (fun acc s₃ =>
      wpAny (model PG c.w) c.A (newFunctionEnv scope c.env.globals cl [] c.env.qual none .none (some c.env)) (fun cenv s₄ =>
        codeAny (model PG c.w) c.A (.compStart (.ListComp elt (⟨target, iter, ifs, 0⟩ :: rest) scope pos) 0 it acc { cenv with scope := relabel scope c.env }) (fun r s' => ∃ s₁' D C ys Ys, Rel c ρ σ s₁' ∧ KeepE s s₁' ∧ acc = .ref D ∧ cenv.locals = C ∧ r = .ok .next ∧
          s₁'.heap.get? D = none ∧ s₁'.heap.get? C = none ∧ D ≠ C ∧ (∃ m, s'.heap.Ns C m) ∧ s'.heap.IsList D (List.toArray ys) ∧ VRs c.w (C :: D :: wof c σ) s' Ys ys ∧ KeepE s₁' s' ∧ Q .next ((x, .list Ys) :: ρ) σ) s₄) (fun uu uu => False) s₃) (fun uu uu => False) s₂) (fun uu uu => False) s₁) (fun uu uu => False) s) :
    W1 c (.Assign [.Name x px] (.ListComp elt (⟨target, iter, ifs, 0⟩ :: rest) scope pos) spos) ρ σ Q := fun s R => by
  show wpAny _ _ (exec (.Assign [.Name x px] (.ListComp elt (⟨target, iter, ifs, 0⟩ :: rest) scope pos) spos) c.env) _ _ s
  rw [exec_Assign_Name_used _ _ _ _ hsw]
  refine wpAny_bind (wpAny_standAt (wpAny_bind ?_))
  show wpAny _ _ (do let _ ← comprehension (.ListComp elt (⟨target, iter, ifs, 0⟩ :: rest) scope pos) scope c.env _ (newList []) false (eval iter c.env) (some (assign (.Name x px) c.env))) _ _ s
  refine wpAny_bind (wpAny_mono (wpAny_comprehension_free (use := some (assign (.Name x px) c.env)) (Q := fun uu s' => ∃ ρ', Rel c ρ' σ s' ∧ KS c σ σ s s' ∧ Q .next ρ' σ) rfl hs ho.clos ho.kind ho.names ?_)
    (fun _ s' ⟨ρ', R', k, q⟩ => wpAny_pure (wpAny_pure ⟨.next, ρ', σ, rfl, R', k, q⟩)) fun uu uu e => e)
  refine wpAny_mono (h s R) (fun xv s₁ h₁ => wpAny_mono h₁ (fun it s₂ h₂ => wpAny_mono h₂ (fun acc s₃ h₃ => wpAny_mono h₃ (fun cenv s₄ h₄ => codeAny_mono h₄ fun r s' hr => ?_) fun uu uu x => x.elim) fun uu uu x => x.elim) fun uu uu x => x.elim) fun uu uu x => x.elim
  obtain ⟨s₁', D, C, ys, Ys, R₁, k₁, rfl, rfl, rfl, fD, fC, hDC, ⟨m, hn⟩, hl, hv, k, q⟩ := hr
  show wpAny _ _ (assign (.Name x px) c.env (.ref D)) _ _ _
  have R' := R₁.keepE k
  have nW : ∀ {a}, s₁'.heap.get? a = none → a ∉ wof c σ := fun f h => by obtain ⟨o, e⟩ := R₁.al _ h; rw [f] at e; cases e
  have hX : VR c.w (wof c σ) s' (.list Ys) (.ref D) := ⟨D, ys, rfl, nW fD, hl, hv.less fun a h => .tail _ (.tail _ h)⟩
  refine wpAny_assign_Name ?_
  have hLC : c.env.locals ≠ cenv.locals := fun e => nW fC (List.mem_append_right _ (List.mem_append_left _ (e ▸ R.ok.lown)))
  refine storeName_rel (c := c.up [cenv.locals]) (ρ := ρ) (σ := σ) (X := .list Ys) ?_ ?_ (.inl hk) fun s'' R'' k'' => ?_
  · have R₅ : Rel (c.up [cenv.locals]) ρ σ s' := R₁.up k (fun b hb => List.mem_singleton.mp hb ▸ fC) fun b hb => by rw [List.mem_singleton.mp hb]; obtain ⟨o, _, _, e, _⟩ := hn; exact ⟨o, e⟩
    exact R₅
  · refine ⟨D, ys, rfl, fun h => ?_, hl, hv.less fun a h => ?_⟩
    · rcases wof_up (o := [cenv.locals]).mp h with q | q
      · exact hDC (List.mem_singleton.mp q)
      · exact nW fD q
    · rcases wof_up (o := [cenv.locals]).mp h with q | q
      · rw [List.mem_singleton.mp q]; exact .head _
      · exact .tail _ (.tail _ q)
  · have hC' : ∀ o, s'.heap.get? cenv.locals = some o → s''.heap.get? cenv.locals = some o := fun o e => k''.2.1 _ o (fun h => nW fC (vol_wof (c := c) (σ := σ) h)) e
    refine ⟨m, Ns_at hn hC', fun h' hs' => ?_⟩
    have R₆ : Rel c ((x, .list Ys) :: ρ) σ { s'' with heap := h' } := by
      have R''' : Rel (c.up [cenv.locals]) ((x, .list Ys) :: ρ) σ s'' := R''
      refine R'''.left (h' := h') (tk := s''.toks) R.ok (fun b hb => ?_) (fun b ob hb e => (hs'.2 b fun q => hb (List.mem_singleton.mpr q)).trans e) (Nat.le_refl _)
      rw [List.mem_singleton.mp hb]
      refine ⟨nW fC, ?_, fun h => ?_⟩
      · cases e : c.h₀.get? cenv.locals with
        | none => rfl
        | some o => rw [R₁.base _ _ e] at fC; cases fC
      · obtain ⟨p, hp, e⟩ := List.mem_map.mp h
        exact nW fC (List.mem_append_right _ (List.mem_append.mpr (e ▸ R.ok.cin p hp)))
    refine ⟨_, R₆, ?_, q⟩
    refine ⟨(k₁.1.trans k.1).trans (k''.1.trans (.mk' _ _ (Nat.le_refl _))), fun b o hb e => ?_, fun p hp => .inl (List.mem_map_of_mem hp)⟩
    have e1 := k₁.2 _ _ e
    refine (hs'.2 b fun q => by rw [q, fC] at e1; cases e1).trans (k''.2.1 b o (fun h => hb h) (k.2 _ _ e1))
theorem W1_assignComp {c : Cx} {x : Str} {px : Pos} {target iter elt : Expr} {ifs : List Expr} {scope : Scope} {cl : List (Str × Addr)} {pos spos : Pos} {ρ : Rho} {σ : Sig} {Q : Fl → Rho → Sig → Prop}
    (hk : c.env.kindOf x = some .local) (hsw : swapsWith (.ListComp elt [⟨target, iter, ifs, 0⟩] scope pos) (some (.Name x px)) spos.line c.env = pure true)
    (ho : CapOk c scope cl) (ρ₀ : Rho) (hcap : Cap c scope cl ρ ρ₀)
    (h : WE c iter ρ σ (fun X => ∃ items, SrcOf c target X items ∧ items.length ≤ sizeLine ∧ ∃ J : Nat → List V → Prop, J 0 [] ∧ CompTurn c scope cl ρ₀ target elt ifs items J ∧ ∀ Ys, Ys.length ≤ items.length → J items.length Ys → Q .next ((x, .list Ys) :: ρ) σ))
    (hs : ∀ x, foldedSetIterable iter c.env x = pure x := by intro _; with_unfolding_all rfl) : W1 c (.Assign [.Name x px] (.ListComp elt [⟨target, iter, ifs, 0⟩] scope pos) spos) ρ σ Q := by
  refine assign_used hk hsw ho hs fun s R => goV (h s R) fun xv s₁ X hX k₁ hpt => ?_
  obtain ⟨items, hsrc, hsz, J, h0, turn, fin⟩ := hpt
  have R₁ := R.keepE k₁
  refine hsrc ρ σ s₁ xv _ R₁ hX fun I fp wr St s₂ k₂ S hst => ?_
  refine wpAny_mono (comp_core (RR := fun acc C r s' => ∃ s₁' D C' ys Ys, Rel c ρ σ s₁' ∧ KeepE s s₁' ∧ acc = .ref D ∧ C = C' ∧ r = .ok .next ∧
          s₁'.heap.get? D = none ∧ s₁'.heap.get? C' = none ∧ D ≠ C' ∧ (∃ m, s'.heap.Ns C' m) ∧ s'.heap.IsList D (List.toArray ys) ∧ VRs c.w (C' :: D :: wof c σ) s' Ys ys ∧ KeepE s₁' s' ∧ Q .next ((x, .list Ys) :: ρ) σ)
    (inner := fun env D => (do let _ ← call (.builtin "list.append") [.ref D, ← eval elt env] : Sem Unit)) (fun C D I => turn1 elt target iter ifs scope pos _ _ _) ho hcap R₁ k₂ S hst
    (fun i Ys => J i Ys ∧ Ys.length ≤ i) ⟨h0, Nat.le_refl _⟩ (turn.inner hsz) ?_) (fun uu uu x => x) fun uu uu x => x
  intro D C s' ys Ys hJ fD fC hDC hn hl hv k
  exact ⟨s₁, D, C, ys, Ys, R₁, k₁, rfl, rfl, rfl, fD, fC, hDC, hn, hl, hv, k, fin Ys hJ.2 hJ.1⟩
end
section
open PySem PySem.W PySem.Calls PyProof PyProof.Rows
noncomputable def Kp (f : Value) : Prop := ∀ (w : World) (h : Heap), (Kf w).In h → ∃ k, (k = Keeper.frame ∨ k = Keeper.machine ∨ k = Keeper.boundFrame) ∧ Looks (model PG w) h (keeperOf f) k
theorem Kp.stat {f} (h : ∀ w, keepIn (Kf w) f = true) : Kp f := fun w hp X => keeps_K (h w) hp X
theorem Kp.builtin {id} : Kp (.builtin id) := fun w h uu => ⟨.machine, .inr (.inl rfl), Looks.of_pure rfl⟩
theorem Kp.type {T} : Kp (.type T) := fun w h uu => ⟨.machine, .inr (.inl rfl), Looks.of_pure rfl⟩
noncomputable def WC (c : Cx) (f : Value) (first : List Value) (Xs : List V) (ρ : Rho) (σ : Sig) (Q : V → Prop) : Prop :=
  ∀ s vs, Rel c ρ σ s → VRs c.w (wof c σ) s Xs vs → wpAny (model PG c.w) c.A (call f (first ++ vs)) (OV c σ s Q) (fun uu uu => False) s
theorem callWith_gen {c : Cx} {f : Value} {first : List Value} {pos : Pos} {es : List Expr} {ρ : Rho} {σ : Sig} {Q : Value → Shared → Prop} {s : Shared} (hf : Kp f) (R : Rel c ρ σ s)
    (hplain : (backTo pos (starEach es c.env)).any (·.1) = false)
    (h : wpAny (model PG c.w) c.A (spliced (backTo pos (starEach es c.env))) (fun vs s₁ => (Kf c.w).In s₁.heap ∧ wpAny (model PG c.w) c.A (call f (first ++ vs)) Q (fun uu uu => False) s₁) (fun uu uu => False) s) :
    wpAny (model PG c.w) c.A (callWith pos f first (backTo pos (starEach es c.env)) []) Q (fun uu uu => False) s := by
  refine callWith_of (P := fun h => (Kf c.w).In h) (by rw [hplain]; rfl) (hf c.w) ?_
  generalize backTo pos (starEach es c.env) = l at *
  cases l with
  | nil =>
    unfold evalArgs
    show wpAny _ _ (spliced [] >>= _) _ _ s
    refine wpAny_bind (wpAny_mono h (fun vs s₁ h₁ => wpAny_bind (wpAny_pure ?_)) fun uu uu x => x)
    refine wpAny_holding ?_
    exact wpAny_bind (wpAny_pure (wpAny_bind (wpAny_pure (wpAny_pure h₁))))
  | cons x r =>
    obtain ⟨b, x⟩ := x
    have : b = false := by simpa using (Bool.or_eq_false_iff.mp hplain).1
    subst this
    exact evalArgs_plain h
theorem WE_callWith {c : Cx} {f : Value} {first : List Value} {pos : Pos} {es : List Expr} {ρ : Rho} {σ : Sig} {Q : V → Prop} {s : Shared} (hf : Kp f) (R : Rel c ρ σ s)
    (hplain : (backTo pos (starEach es c.env)).any (·.1) = false) (h : WL c pos es ρ σ (fun Xs => WC c f first Xs ρ σ Q)) :
    wpAny (model PG c.w) c.A (callWith pos f first (backTo pos (starEach es c.env)) []) (OV c σ s Q) (fun uu uu => False) s := by
  refine callWith_gen hf R hplain (goL (h s R) fun vs s₁ Xs hXs k₁ h₁ => ?_)
  exact ⟨(R.keepE k₁).stat.K, goV (h₁ s₁ vs (R.keepE k₁) hXs) fun u s₂ Z hZ k₂ q => ⟨Z, hZ, k₁.trans k₂, q⟩⟩
noncomputable abbrev KWC (c : Cx) (f : Value) (ρ : Rho) (σ : Sig) (Q : V → Prop) : List V → Prop := fun Xs => WC c f [] Xs ρ σ Q
theorem WE_call {c : Cx} {x : Str} {p pos : Pos} {es : List Expr} {ρ : Rho} {σ : Sig} {Q : V → Prop} (f : Value) (hf : Kp f) (hn : ∀ Q' : V → Prop, Q' (.stat f) → WE c (.Name x p) ρ σ Q') (h : WL c pos es ρ σ (KWC c f ρ σ Q))
    (hplain : (backTo pos (starEach es c.env)).any (·.1) = false := by walk_at "r") : WE c (.Call (.Name x p) es [] pos) ρ σ Q := fun s R => by
  refine wpAny_Call_NameR (goV (hn (fun X => X = .stat f) rfl s R) fun fv s₁ X hX k₁ e => ?_)
  subst e
  cases hX
  exact goV (WE_callWith hf (R.keepE k₁) hplain h) fun u s₂ Z hZ k₂ q => ⟨Z, hZ, k₁.trans k₂, q⟩
structure FnAt (a : Addr) (fd : FuncData) (body : List Stmt) : Prop where
  at_ : ∀ w, ∃ o, (Kf w).lookup a = some o ∧ o.data = .func fd
  code : ∀ w, codeIn (Kf w) fd.code fd.qualname = true
  keep : ∀ w, keepIn (Kf w) (.ref a) = true
  body_ : fd.body = .stmts body
  glob : fd.globals = mainGlobals
  clos : fd.closure = []
  blt : fd.builtins = builtinsNs
  kind : fd.scope.kind = .function
  co : fd.scope.isCoroutine = false
  gen : fd.scope.isGenerator = false
  cnd : ((cellsFrom 0 fd.scope.names []).map (·.1)).Nodup
noncomputable def BR (w : World) (W : List Addr) (s : Shared) : Rho → List (Str × Value) → Prop
  | [], bs => bs = []
  | (x, X) :: ρ, bs => ∃ v r, bs = (x, v) :: r ∧ VR w W s X v ∧ BR w W s ρ r
theorem BR.names {w W s} : ∀ {ρ bs}, BR w W s ρ bs → bs.map (·.1) = ρ.map (·.1)
  | [], _, h => by cases h; rfl
  | (x, X) :: ρ, _, ⟨v, r, e, _, h⟩ => by cases e; simp [BR.names h]
theorem BR.look {w W s} : ∀ {ρ bs}, BR w W s ρ bs → ∀ {x X}, ρ.lookup x = some X → ∃ v, bs.lookup x = some v ∧ VR w W s X v
  | [], _, _, _, _, e => nomatch e
  | (y, Y) :: ρ, _, ⟨v, r, e, hv, h⟩, x, X, q => by
    cases e
    rw [List.lookup_cons] at q ⊢
    cases hb : x == y with
    | true => rw [hb] at q; cases q; exact ⟨v, rfl, hv⟩
    | false => rw [hb] at q; exact BR.look h q
theorem BR.keep {w W W' s s'} (k : KeepW W s s') (hW : ∀ a, a ∉ W → (∃ o, s.heap.get? a = some o) → a ∉ W') : ∀ {ρ bs}, BR w W s ρ bs → BR w W' s' ρ bs
  | [], _, h => h
  | (x, X) :: ρ, _, ⟨v, r, e, hv, h⟩ => ⟨v, r, e, hv.keep k hW, BR.keep k hW h⟩
theorem bindL_lookup {kindOf : Str → Option NameKind} {x : Str} (hk : kindOf x = some .local) : ∀ (binds : List (Str × Value)) (m : Str → Option Value), (binds.map (·.1)).Nodup →
    bindL kindOf binds m x = (binds.lookup x).or (m x)
  | [], m, _ => rfl
  | (n, v) :: r, m, hn => by
    rw [List.map_cons, List.nodup_cons] at hn
    unfold bindL
    rw [bindL_lookup hk r _ hn.2, List.lookup_cons]
    by_cases e : x = n
    · subst e
      have : r.lookup x = none := by
        cases h : r.lookup x with
        | none => rfl
        | some u => exact absurd (List.mem_map.mpr ⟨_, lookup_mem' h, rfl⟩) hn.1
      simp [this, hk]
    · have hb : (x == n) = false := beq_eq_false_iff_ne.mpr e
      simp only [hb]
      split <;> simp [e]
theorem bindC_lookup {kindOf : Str → Option NameKind} {x : Str} (hk : kindOf x ≠ some .local) : ∀ (binds : List (Str × Value)) (m : Str → Option Value), (binds.map (·.1)).Nodup →
    bindC kindOf binds m x = (binds.lookup x).or (m x)
  | [], m, _ => rfl
  | (n, v) :: r, m, hn => by
    rw [List.map_cons, List.nodup_cons] at hn
    unfold bindC
    rw [bindC_lookup hk r _ hn.2, List.lookup_cons]
    by_cases e : x = n
    · subst e
      have : r.lookup x = none := by
        cases h : r.lookup x with
        | none => rfl
        | some u => exact absurd (List.mem_map.mpr ⟨_, lookup_mem' h, rfl⟩) hn.1
      simp [this, hk]
    · have hb : (x == n) = false := beq_eq_false_iff_ne.mpr e
      simp only [hb]
      split <;> simp [e]
noncomputable abbrev Cx.call (c : Cx) (fd : FuncData) (a L : Addr) (out : List Addr) (k : Nat) : Cx :=
  { c with A := c.A.deeper (callEnvC fd L a), env := callEnvC fd L a, own := L :: (cellsFrom (L + 1) fd.scope.names []).map (·.2), out := out, k := k }
noncomputable def kindsOk (sc : Scope) (xs : List Str) : Prop := ∀ n, ∀ x ∈ xs, sc.names.lookup x = some .local ∨ (sc.names.lookup x = some .cell ∧ ((cellsFrom n sc.names []).lookup x).isSome = true)
theorem enterC0 {c : Cx} {ρ : Rho} {σ : Sig} {s : Shared} (R : Rel c ρ σ s) {a : Addr} {fd : FuncData} {body : List Stmt} (F : FnAt a fd body) {vs : List Value} {kw : List (Str × Value)} {ρ₀ : Rho}
    (hbind : ∀ (A : Around) (E : Value → Shared → Prop) (Q : List (Str × Value) → Shared → Prop), (∀ binds s', KeepE s s' → BR c.w (wof c σ) s' ρ₀ binds → Q binds s') → wpAny (model PG c.w) A (bindArgs fd ⟨vs, kw⟩) Q E s) (hnd : (ρ₀.map (·.1)).Nodup) (hkind : kindsOk fd.scope (ρ₀.map (·.1))) {σc : Sig} {out : List Addr}
    (hσ : (σc = [] ∧ ∀ b, b ∈ out ↔ b ∈ wof c σ) ∨ (σc = σ ∧ out = c.own ++ c.out)) {k : Nat} (hk : k + 1 ≤ c.k) {P : Value → Shared → Prop}
    (hb : ∀ L s₁, (∀ b ∈ (c.call fd a L out k).own, s.heap.get? b = none) → KeepE s s₁ → Rel (c.call fd a L out k) ρ₀ σc s₁ → wpAny (model PG c.w) (c.call fd a L out k).A (execs body (c.call fd a L out k).env) (fun fl s' => P (match fl with | .ret v => v | _ => .none) s') (fun uu uu => False) s₁) :
    codeAny (model PG c.w) c.A (.call (.ref a) ⟨vs, kw⟩) (fun r s' => match r with | .ok (.ret v) => P v s' | _ => False) s := by
  obtain ⟨o, hl, hd⟩ := F.at_ c.w
  have ho : s.heap.get? a = some o := R.stat.K _ _ hl
  refine (codeAny_call_function (Nat.lt_of_le_of_lt (Nat.le_trans (Nat.le_add_right _ _) R.ok.depth) (by decide)) ho hd F.co F.gen F.body_ (codeRec_of R.stat.K (F.code c.w)) (hbind _ _ _ fun binds s0 k0 hB => ?_))
  have hbs := hb
  replace hb := fun L s₁ (hf : ∀ b ∈ (c.call fd a L out k).own, s0.heap.get? b = none) (k : KeepE s0 s₁) => hbs L s₁ (fun b hb => by
    have := hf b hb
    cases e : s.heap.get? b with
    | none => rfl
    | some o => rw [k0.2 _ _ e] at this; cases this) (k0.trans k)
  replace R : Rel c ρ σ s0 := R.keepE k0
  clear hbind ho hbs
  clear k0
  clear s
  rename Shared => s
  rw [F.clos]
  refine wpAny_with_toks (n := s.toks) (Nat.le_refl _) (wpAny_mono (E := fun uu uu => False) (wpAny_newFunctionEnv_cells (Q := fun env s₁ => @LE.le Nat _ s.toks s₁.toks → s₁.heap.NoLimit ∧ codeAny (model PG c.w) c.A (.func body env) _ s₁) F.kind (fun x hx => hkind _ x.1 (by rw [← hB.names]; exact List.mem_map_of_mem hx)) fun env he s₁ x htk => ?_) (fun uu uu x => x) fun uu uu x => x.elim)
  have hnl := R.stat.T.nolimit
  have hk₁ := x.toInCall.keep
  refine ⟨hnl.keeps hk₁, ?_⟩
  have he' : env = callEnvC fd s.heap.objs.size a := he
  subst he'
  generalize hL : s.heap.objs.size = L at *
  have fresh : ∀ b ∈ (c.call fd a L out k).own, s.heap.get? b = none := fun b hb => by
    rcases List.mem_cons.mp hb with q | q
    · exact size_fresh (by rw [q, hL]; exact Nat.le_refl _)
    · obtain ⟨p, hp, e⟩ := List.mem_map.mp q
      exact size_fresh (by rw [← e, hL]; exact Nat.le_of_lt (x.above p.1 p.2 hp))
  have nW : ∀ b ∈ (c.call fd a L out k).own, b ∉ wof c σ := fun b hb h => by
    obtain ⟨o, e⟩ := R.al b h; rw [fresh b hb] at e; cases e
  have subW : ∀ b, b ∈ σc.map (·.1) ++ out ↔ b ∈ wof c σ := fun b => by
    rcases hσ with ⟨rfl, h⟩ | ⟨rfl, rfl⟩
    · simpa using h b
    · exact Iff.rfl
  have wofc : ∀ b, b ∈ wof (c.call fd a L out k) σc ↔ b ∈ (c.call fd a L out k).own ∨ b ∈ wof c σ := fun b => by
    rw [← subW b]
    simp only [wof, List.mem_append]
    constructor
    · rintro (h | h | h)
      · exact .inr (.inl h)
      · exact .inl h
      · exact .inr (.inr h)
    · rintro (h | h | h)
      · exact .inr (.inl h)
      · exact .inl h
      · exact .inr (.inr h)
  obtain ⟨h₁, tk, hs₁, hkk⟩ := x.done
  have k₁ : KeepE s s₁ := ⟨⟨h₁, tk, s.gens, hs₁, .refl _, by rw [hs₁] at htk; exact htk⟩, hk₁⟩
  have hv : ∀ a, a ∉ wof c σ → (∃ o, s.heap.get? a = some o) → a ∉ wof (c.call fd a L out k) σc := fun b hb ⟨o, e⟩ hm =>
    ((wofc b).mp hm).elim (fun q => by rw [fresh b q] at e; cases e) hb
  have cellK : ∀ p ∈ (callEnvC fd L a).cells, ∃ v, s₁.heap.IsCell p.2 v := fun p hp =>
    ⟨_, x.cell p.1 p.2 (lookup_of_mem_nodup (cellsFrom_names fd.scope.names 0 (L + 1) [] [] rfl ▸ F.cnd) hp)⟩
  have hok : (c.call fd a L out k).Ok := by
    refine ⟨F.kind, F.glob, F.blt, R.ok.hand, ?_, ?_, R.ok.stat, .head _, fun b hb => ?_, ?_, fun h => ?_, fun p hp => .inl (.tail _ (List.mem_map_of_mem hp))⟩
    · have := R.ok.depth
      show c.A.depth + 1 + 20 * k ≤ 600
      exact Nat.not_lt.mp fun hn => absurd (Nat.add_le_add (Nat.mul_le_mul_left 20 hk) (Nat.add_le_add this hn)) (by simp +arith)
    · have := R.ok.units
      show c.A.units + 3 + 100 * k ≤ 9000
      exact Nat.not_lt.mp fun hn => absurd (Nat.add_le_add (Nat.mul_le_mul_left 100 hk) (Nat.add_le_add this hn)) (by simp +arith)
    · cases e : c.h₀.get? b with
      | none => rfl
      | some o => have := R.base _ _ e; rw [fresh b hb] at this; cases this
    · exact List.pairwise_map.mpr x.apart
    · obtain ⟨p, hp, e⟩ := List.mem_map.mp h
      have := x.above p.1 p.2 hp
      rw [e] at this
      exact Nat.lt_irrefl _ this
  have R₁ : Rel (c.call fd a L out k) ρ₀ σc s₁ := by
    have hnb : (binds.map (·.1)).Nodup := hB.names ▸ hnd
    refine ⟨hok, R.base.trans hk₁, fun b hb => ?_, ⟨_, x.toInCall.ns, fun y X e => ?_⟩, cellK, fun p hp => ?_, ?_, fun e => R.tk (Nat.le_zero.mp (e ▸ htk))⟩
    · rcases (wofc b).mp hb with q | q
      · rcases List.mem_cons.mp q with q | q
        · obtain ⟨o, _, _, e, _⟩ := x.toInCall.ns; exact ⟨o, q ▸ e⟩
        · obtain ⟨p, hp, e⟩ := List.mem_map.mp q
          obtain ⟨v, o, e', _⟩ := cellK p hp; exact ⟨o, e ▸ e'⟩
      · obtain ⟨o, e⟩ := R.al b q; exact ⟨o, hk₁ _ _ e⟩
    · obtain ⟨v, hv', hX⟩ := hB.look e
      have hX' : VR c.w (wof (c.call fd a L out k) σc) s₁ X v := hX.keep (k₁.keepW _) hv
      have hm : y ∈ ρ₀.map (·.1) := List.mem_map.mpr ⟨_, lookup_mem' e, rfl⟩
      refine ⟨fun q => ⟨v, by rw [bindL_lookup q binds _ hnb, hv']; rfl, hX'⟩, fun q => ?_⟩
      have hy : (callEnvC fd L a).kindOf y = fd.scope.names.lookup y := rfl
      rcases hkind (L + 1) y hm with q' | ⟨q', hs⟩
      · rw [hy, q'] at q; rcases q with q | q <;> cases q
      · obtain ⟨b, hb⟩ := Option.isSome_iff_exists.mp hs
        have := x.cell y b hb
        rw [bindC_lookup (by rw [hy, q']; intro z; cases z) binds _ hnb, hv'] at this
        exact ⟨b, v, hb, this, hX'⟩
    · rcases hσ with ⟨rfl, _⟩ | ⟨rfl, rfl⟩
      · cases hp
      · obtain ⟨a1, a2, vs', a3, a4⟩ := R.muts p hp
        refine ⟨a1, fun hm => ?_, vs', a3.at (fun o => hk₁ _ o), a4.keep (k₁.keepW _) hv⟩
        rcases List.mem_append.mp hm with q | q
        · exact nW _ q (List.mem_append_left _ (List.mem_map_of_mem hp))
        · exact a2 q
    · rcases hσ with ⟨rfl, _⟩ | ⟨rfl, rfl⟩
      · exact List.nodup_nil
      · exact R.nd
  exact codeAny_func (wpAny_mono (hb L s₁ fresh k₁ R₁) (fun fl s' h => h) fun uu uu x => x.elim)
theorem enterC {c : Cx} {ρ : Rho} {σ : Sig} {s : Shared} (R : Rel c ρ σ s) {a : Addr} {fd : FuncData} {body : List Stmt} (F : FnAt a fd body) {vs : List Value} {kw : List (Str × Value)} {ρ₀ : Rho}
    (hbind : ∀ (A : Around) (E : Value → Shared → Prop) (Q : List (Str × Value) → Shared → Prop), (∀ binds s', KeepE s s' → BR c.w (wof c σ) s' ρ₀ binds → Q binds s') → wpAny (model PG c.w) A (bindArgs fd ⟨vs, kw⟩) Q E s) (hnd : (ρ₀.map (·.1)).Nodup) (hkind : kindsOk fd.scope (ρ₀.map (·.1))) {σc : Sig} {out : List Addr}
    (hσ : (σc = [] ∧ ∀ b, b ∈ out ↔ b ∈ wof c σ) ∨ (σc = σ ∧ out = c.own ++ c.out)) {k : Nat} (hk : k + 1 ≤ c.k) {Q : Fl → Rho → Sig → Shared → Prop} (hb : ∀ L s₁, (∀ b ∈ (c.call fd a L out k).own, s.heap.get? b = none) → KeepE s s₁ → Rel (c.call fd a L out k) ρ₀ σc s₁ → wpAny (model PG c.w) (c.call fd a L out k).A (execs body (c.call fd a L out k).env) (fun f s' => ∃ F ρ' σ', FlR c.w (wof (c.call fd a L out k) σ') s' F f ∧ Rel (c.call fd a L out k) ρ' σ' s' ∧ KS (c.call fd a L out k) σc σ' s₁ s' ∧ Q F ρ' σ' s') (fun uu uu => False) s₁) {P : Value → Shared → Prop}
    (hP : ∀ L fl F ρ' σ' s', (∀ b ∈ (c.call fd a L out k).own, s.heap.get? b = none) → FlR c.w (wof (c.call fd a L out k) σ') s' F fl → Rel (c.call fd a L out k) ρ' σ' s' → KS (c.call fd a L out k) σc σ' s s' → Q F ρ' σ' s' →
      P (match fl with | .ret v => v | _ => .none) s') :
    codeAny (model PG c.w) c.A (.call (.ref a) ⟨vs, kw⟩) (fun r s' => match r with | .ok (.ret v) => P v s' | _ => False) s := by
  refine enterC0 R F hbind hnd hkind hσ hk fun L s₁ fresh k₁ R₁ => wpAny_mono (hb L s₁ fresh k₁ R₁) (fun fl s' hpt => ?_) fun uu uu x => x
  obtain ⟨F', ρ', σ', hf, R', ks, q⟩ := hpt
  refine hP L fl F' ρ' σ' s' fresh hf R' ⟨k₁.1.trans ks.1, fun b o hb e => ks.2.1 b o hb (k₁.2 b o e), fun p hp => ?_⟩ q
  rcases ks.2.2 p hp with q | q
  · exact .inl q
  · right
    cases e : s.heap.get? p.1 with
    | none => rfl
    | some o => rw [k₁.2 _ _ e] at q; cases q
theorem enterG {c : Cx} {ρ : Rho} {σ : Sig} {s : Shared} (R : Rel c ρ σ s) {a : Addr} {fd : FuncData} {body : List Stmt} (F : FnAt a fd body) {vs : List Value} {kw : List (Str × Value)} {ρ₀ : Rho}
    (hbind : ∀ (A : Around) (E : Value → Shared → Prop) (Q : List (Str × Value) → Shared → Prop), (∀ binds s', KeepE s s' → BR c.w (wof c σ) s' ρ₀ binds → Q binds s') → wpAny (model PG c.w) A (bindArgs fd ⟨vs, kw⟩) Q E s) (hnd : (ρ₀.map (·.1)).Nodup) (hkind : kindsOk fd.scope (ρ₀.map (·.1))) {σc : Sig} {out : List Addr}
    (hσ : (σc = [] ∧ out = wof c σ) ∨ (σc = σ ∧ out = c.own ++ c.out)) {k : Nat} (hk : k + 1 ≤ c.k) {Q : Fl → Rho → Sig → Prop} (hb : ∀ L, WS (c.call fd a L out k) body ρ₀ σc Q) {P : Value → Shared → Prop}
    (hP : ∀ L fl F ρ' σ' s', (∀ b ∈ (c.call fd a L out k).own, s.heap.get? b = none) → FlR c.w (wof (c.call fd a L out k) σ') s' F fl → Rel (c.call fd a L out k) ρ' σ' s' → KS (c.call fd a L out k) σc σ' s s' → Q F ρ' σ' →
      P (match fl with | .ret v => v | _ => .none) s') :
    wpAny (model PG c.w) c.A (call (.ref a) vs kw) P (fun uu uu => False) s := by
  refine wpAny_call (codeAny_mono (enterC (Q := fun F ρ' σ' uu => Q F ρ' σ') R F hbind hnd hkind (hσ.imp (fun h => ⟨h.1, fun b => by rw [h.2]⟩) id) hk (fun L s₁ uu uu R₁ => goX (hb L s₁ R₁) fun fl s' F ρ' σ' hf R' ks q => ⟨F, ρ', σ', hf, R', ks, q⟩) hP) fun r s' h => ?_)
  rcases r with e | (v | _ | _ | _) <;> first | exact h | exact h.elim
theorem enter {c : Cx} {ρ : Rho} {σ : Sig} {s : Shared} (R : Rel c ρ σ s) {a : Addr} {fd : FuncData} {body : List Stmt} (F : FnAt a fd body) {vs : List Value} {kw : List (Str × Value)} {binds : List (Str × Value)} {ρ₀ : Rho}
    (hbind : BindsTo s fd ⟨vs, kw⟩ binds) (hB : BR c.w (wof c σ) s ρ₀ binds) (hnd : (ρ₀.map (·.1)).Nodup) (hkind : kindsOk fd.scope (ρ₀.map (·.1))) {σc : Sig} {out : List Addr}
    (hσ : (σc = [] ∧ out = wof c σ) ∨ (σc = σ ∧ out = c.own ++ c.out)) {k : Nat} (hk : k + 1 ≤ c.k) {Q : Fl → Rho → Sig → Prop} (hb : ∀ L, WS (c.call fd a L out k) body ρ₀ σc Q) {P : Value → Shared → Prop}
    (hP : ∀ L fl F ρ' σ' s', (∀ b ∈ (c.call fd a L out k).own, s.heap.get? b = none) → FlR c.w (wof (c.call fd a L out k) σ') s' F fl → Rel (c.call fd a L out k) ρ' σ' s' → KS (c.call fd a L out k) σc σ' s s' → Q F ρ' σ' →
      P (match fl with | .ret v => v | _ => .none) s') :
    wpAny (model PG c.w) c.A (call (.ref a) vs kw) P (fun uu uu => False) s :=
  enterG R F (fun A E Q h => hbind _ _ _ _ (h binds s (.refl s) hB)) hnd hkind hσ hk hb hP
noncomputable def RetQ (Q : V → Prop) : Fl → Rho → Sig → Prop := fun F uu uu => match F with
  | .ret Z => Q Z
  | .next => Q .none
  | _ => False
noncomputable def Pure (a : Addr) (k : Nat) (Xs : List V) (Q : V → Prop) : Prop := ∀ c ρ σ, k ≤ c.k → WC c (.ref a) [] Xs ρ σ Q
theorem pure_of {a : Addr} {fd : FuncData} {body : List Stmt} (F : FnAt a fd body) {k : Nat} {Xs : List V} {Q : V → Prop} (ρ₀ : Rho)
    (hbind : ∀ w W s vs, VRs w W s Xs vs → ∃ binds, bindArgs fd ⟨vs, []⟩ = pure binds ∧ BR w W s ρ₀ binds) (hnd : (ρ₀.map (·.1)).Nodup) (hkind : kindsOk fd.scope (ρ₀.map (·.1)))
    (hb : ∀ (c : Cx) (L : Addr) (out : List Addr), k + 1 ≤ c.k → WS (c.call fd a L out k) body ρ₀ [] (RetQ Q)) : Pure a (k + 1) Xs Q := fun c ρ σ hk s vs R hX => by
  obtain ⟨binds, e, hB⟩ := hbind c.w (wof c σ) s vs hX
  refine enter R F (BindsTo.of_eq e) hB hnd hkind (.inl ⟨rfl, rfl⟩) hk (fun L => hb c L _ hk) fun L fl F' ρ' σ' s' fresh hf R' ks q => ?_
  have hke : KeepE s s' := ⟨ks.1, fun b o e => ks.2.1 b o (fun h => by
    rcases List.mem_append.mp h with h | h
    · cases h
    · rw [fresh b h] at e; cases e) e⟩
  cases F' with
  | next => cases hf; exact ⟨.none, rfl, hke, q⟩
  | ret Z =>
    obtain ⟨v, rfl, hv⟩ := hf
    exact ⟨Z, hv.less fun b h => List.mem_append_right _ (List.mem_append_right _ h), hke, q⟩
  | brk => exact q.elim
  | cont => exact q.elim
end
section
open PySem PySem.W PySem.Calls PyProof PyProof.Rows
noncomputable def topS (i : Nat) : Stmt := (PySem.Challenge.pw_st0022_01.main.body).getD i default
noncomputable def sBody : Stmt → List Stmt
  | .FunctionDef _ _ b .. => b
  | .ClassDef _ _ _ b .. => b
  | _ => []
noncomputable def metS (i : Nat) : Stmt := (sBody (topS 7)).getD i default
noncomputable def FnOf (st : Stmt) (qual : Str) (dV pm : Value) (cd : Addr) : FuncData := match st with
  | .FunctionDef name params body _ _ _ scope .. => fnX name qual params body scope [] dV .none .none pm none (.ref cd) .none
  | _ => default
noncomputable def pmH : Value := .str (Str.ofString "cpy313.wsgiref.headers") 289
noncomputable def pmL : Value := .str (Str.ofString "cpy313.locale") 552
noncomputable def pmS : Value := .str (Str.ofString "cpy313.smtplib") 575
noncomputable def pmT : Value := .str (Str.ofString "law_st0022_01") 644
noncomputable def fdInit : FuncData := FnOf (metS 0) "Headers.__init__" (.ref 69) pmH 75
noncomputable def fdConv : FuncData := FnOf (metS 1) "Headers._convert_string_type" .none pmH 82
noncomputable def fdGetAll : FuncData := FnOf (metS 7) "Headers.get_all" .none pmH 120
noncomputable def fdKeys : FuncData := FnOf (metS 9) "Headers.keys" .none pmH 133
noncomputable def fdStr : FuncData := FnOf (metS 13) "Headers.__str__" .none pmH 157
noncomputable def fdAdd : FuncData := FnOf (metS 16) "Headers.add_header" .none pmH 178
noncomputable def fdGroup : FuncData := FnOf (topS 10) "_grouping_intervals" .none pmL 192
noncomputable def fdStrip : FuncData := FnOf (topS 11) "_strip_padding" .none pmL 199
noncomputable def fdQuote : FuncData := FnOf (topS 16) "quotedata" .none pmS 216
noncomputable def fdSums : FuncData := FnOf (topS 18) "_law_sums" .none pmT 223
noncomputable def fdMarks : FuncData := FnOf (topS 19) "_law_marks" .none pmT 230
noncomputable def fdTold : FuncData := FnOf (topS 20) "_law_told" .none pmT 235
noncomputable def fdTables : FuncData := FnOf (topS 21) "_law_tables" .none pmT 240
noncomputable def fdShut : FuncData := FnOf (topS 22) "_law_shut" .none pmT 247
noncomputable def fdLaw : FuncData := FnOf (topS 23) "law" .none pmT 252
theorem atStrip : FnAt 200 fdStrip (sBody (topS 11)) := ⟨fun w => ⟨_, rfl, rfl⟩, fun w => rfl, fun w => rfl, rfl, rfl, rfl, rfl, rfl, rfl, rfl, by decide⟩
theorem atQuote : FnAt 217 fdQuote (sBody (topS 16)) := ⟨fun w => ⟨_, rfl, rfl⟩, fun w => rfl, fun w => rfl, rfl, rfl, rfl, rfl, rfl, rfl, rfl, by decide⟩
theorem atSums : FnAt 224 fdSums (sBody (topS 18)) := ⟨fun w => ⟨_, rfl, rfl⟩, fun w => rfl, fun w => rfl, rfl, rfl, rfl, rfl, rfl, rfl, rfl, by decide⟩
theorem atMarks : FnAt 231 fdMarks (sBody (topS 19)) := ⟨fun w => ⟨_, rfl, rfl⟩, fun w => rfl, fun w => rfl, rfl, rfl, rfl, rfl, rfl, rfl, rfl, by decide⟩
theorem atTold : FnAt 236 fdTold (sBody (topS 20)) := ⟨fun w => ⟨_, rfl, rfl⟩, fun w => rfl, fun w => rfl, rfl, rfl, rfl, rfl, rfl, rfl, rfl, by decide⟩
theorem atTables : FnAt 241 fdTables (sBody (topS 21)) := ⟨fun w => ⟨_, rfl, rfl⟩, fun w => rfl, fun w => rfl, rfl, rfl, rfl, rfl, rfl, rfl, rfl, by decide⟩
theorem atShut : FnAt 248 fdShut (sBody (topS 22)) := ⟨fun w => ⟨_, rfl, rfl⟩, fun w => rfl, fun w => rfl, rfl, rfl, rfl, rfl, rfl, rfl, rfl, by decide⟩
theorem atLaw : FnAt 253 fdLaw (sBody (topS 23)) := ⟨fun w => ⟨_, rfl, rfl⟩, fun w => rfl, fun w => rfl, rfl, rfl, rfl, rfl, rfl, rfl, rfl, by decide⟩
theorem atInit : FnAt 76 fdInit (sBody (metS 0)) := ⟨fun w => ⟨_, rfl, rfl⟩, fun w => rfl, fun w => rfl, rfl, rfl, rfl, rfl, rfl, rfl, rfl, by decide⟩
theorem atConv : FnAt 83 fdConv (sBody (metS 1)) := ⟨fun w => ⟨_, rfl, rfl⟩, fun w => rfl, fun w => rfl, rfl, rfl, rfl, rfl, rfl, rfl, rfl, by decide⟩
theorem atGetAll : FnAt 121 fdGetAll (sBody (metS 7)) := ⟨fun w => ⟨_, rfl, rfl⟩, fun w => rfl, fun w => rfl, rfl, rfl, rfl, rfl, rfl, rfl, rfl, by decide⟩
theorem atKeys : FnAt 134 fdKeys (sBody (metS 9)) := ⟨fun w => ⟨_, rfl, rfl⟩, fun w => rfl, fun w => rfl, rfl, rfl, rfl, rfl, rfl, rfl, rfl, by decide⟩
theorem atStr : FnAt 158 fdStr (sBody (metS 13)) := ⟨fun w => ⟨_, rfl, rfl⟩, fun w => rfl, fun w => rfl, rfl, rfl, rfl, rfl, rfl, rfl, rfl, by decide⟩
theorem atAdd : FnAt 179 fdAdd (sBody (metS 16)) := ⟨fun w => ⟨_, rfl, rfl⟩, fun w => rfl, fun w => rfl, rfl, rfl, rfl, rfl, rfl, rfl, rfl, by decide⟩
end
section
open PySem PySem.W PySem.Calls PyProof PyProof.Rows PySem.SeqAt
noncomputable def LV (σ : Sig) (X : V) (xs : List V) : Prop := X = .list xs ∨ ∃ a, X = .mu a ∧ (a, xs) ∈ σ
theorem LV.is {c ρ σ s X xs v} (h : LV σ X xs) (R : Rel c ρ σ s) (z : VR c.w (wof c σ) s X v) : ∃ a vs, v = .ref a ∧ s.heap.IsList a (List.toArray vs) ∧ VRs c.w (wof c σ) s xs vs := by
  rcases h with rfl | ⟨a, rfl, ha⟩
  · obtain ⟨a, vs, e, _, hl, hv⟩ := z; exact ⟨a, vs, e, hl, hv⟩
  · obtain ⟨_, _, vs, hl, hv⟩ := R.muts _ ha; exact ⟨a, vs, z, hl.isList, hv⟩
theorem LV.list {σ xs} : LV σ (.list xs) xs := .inl rfl
theorem WE_sub {c value slice pos ρ σ} {Q : V → Prop} (h : WE c value ρ σ (KE2 c slice (subscriptTail value slice) ρ σ Q)) : WE c (.Subscript value slice pos) ρ σ Q := fun s R => by
  refine Subscript_ (goV (h s R) fun a s₁ X hX k₁ h₁ => ?_)
  refine goV (h₁ s₁ (R.keepE k₁)) fun b s₂ Y hY k₂ h₂ => ?_
  exact goV (h₂ s₂ a b ((R.keepE k₁).keepE k₂) (hX.keeps (k₂.keepW _)) hY) fun v s₃ Z hZ k₃ h₃ => ⟨Z, hZ, (k₁.trans k₂).trans k₃, h₃⟩
section
variable {c : Cx} {ρ : Rho} {σ : Sig} {Q : V → Prop} {X Y Z : V} {xs ys : List V} {k : Int}
theorem O2_item {value slice : Expr} (hX : LV σ X xs) (h0 : 0 ≤ k) (hfit : k < 2 ^ 63) (hz : xs[k.toNat]? = some Z) (h : Q Z)
    (hs : ∀ o k t, subscripted slice false (.ref o) (.int k t) = operate [.ref o, .int k t] (getItem (.ref o) (.int k t)) := by intro _ _ _; with_unfolding_all rfl) : O2 c (subscriptTail value slice) X (.int k) ρ σ Q := by
  rintro s v _ R z ⟨t, rfl⟩
  obtain ⟨a, vs, rfl, hl, hv⟩ := hX.is R z
  obtain ⟨u, hu, hr⟩ := hv.get hz
  exact item_listR hl h0 hfit (by simpa using hu) ⟨Z, hr, .refl _, h⟩ (hs a k t)
theorem O2_itemN {value slice : Expr} (hX : LV σ X xs) (h0 : k < 0) (hlo : -(xs.length : Int) ≤ k) (hfit : -2 ^ 63 ≤ k) (hz : xs[(k + xs.length).toNat]? = some Z) (h : Q Z)
    (hs : ∀ o k t, subscripted slice false (.ref o) (.int k t) = operate [.ref o, .int k t] (getItem (.ref o) (.int k t)) := by intro _ _ _; with_unfolding_all rfl) : O2 c (subscriptTail value slice) X (.int k) ρ σ Q := by
  rintro s v _ R z ⟨t, rfl⟩
  obtain ⟨a, vs, rfl, hl, hv⟩ := hX.is R z
  obtain ⟨u, hu, hr⟩ := hv.get hz
  have hlen := hv.length
  refine subscriptTail_builtinR hl.typeIs slot_list_getitem.lookup (x := u) (wpAny_getItem_list_neg hl h0 (by simpa [hlen] using hlo) hfit (by simpa [hlen] using hu) ⟨rfl, Z, hr, .refl _, h⟩) (hs a k t)
theorem O2_itemS {value slice : Expr} {x : Str} (hX : SV X x) (hk : fitsSsize k = true) (h0 : -(x.length : Int) ≤ k) (h1 : k < x.length) (h : Q (.str (Txt.item x k)))
    (hs : ∀ y t k u, subscripted slice false (.str y t) (.int k u) = operate [.str y t, .int k u] (getItem (.str y t) (.int k u)) := by intro _ _ _ _; with_unfolding_all rfl)
    (hg : ∀ y t r, letTemporaryGo value (.str y t) r = pure () := by intro _ _ _; with_unfolding_all rfl) : O2 c (subscriptTail value slice) X (.int k) ρ σ Q := by
  rintro s v _ R z ⟨u, rfl⟩
  obtain ⟨t, rfl⟩ := hX.is z
  exact item_str hk h0 h1 (fun uu => ⟨.str _, ⟨_, rfl⟩, .mk' (.refl _) (Nat.le_succ _), h⟩) (hs _ _ _ _) (hg _ _)
theorem O2_add_list (hX : LV σ X xs) (hY : LV σ Y ys) (hsz : xs.length + ys.length ≤ sizeLine) (h : Q (.list (xs ++ ys))) : O2 c (binaryOp .Add) X Y ρ σ Q := by
  intro s _ _ R z1 z2
  obtain ⟨l, vs, rfl, hl, hv⟩ := hX.is R z1
  obtain ⟨b, ws, rfl, hb, hw⟩ := hY.is R z2
  have hsz' : vs.toArray.size + ws.toArray.size ≤ sizeLine := by simpa [hv.length, hw.length] using hsz
  have fin := VR_newList R (VRs.append hv hw)
  obtain ⟨⟨cls, dd, data, sl⟩, ho, hc, n, hd⟩ := id hl
  obtain ⟨⟨cls2, dd2, data2, sl2⟩, ho2, hc2, n2, hd2⟩ := id hb
  simp only at hc hd hc2 hd2
  subst hc hd hc2 hd2
  have e : vs.toArray ++ ws.toArray = (vs ++ ws).toArray := by simp
  refine concat_meets ⟨_, ho, rfl⟩ ⟨_, ho2, rfl⟩ noFill_list_add seq_list_add PySem.F.slot_list_add PySem.F.entry_list_add (PySem.F.args_list_add_2 _ _) (list_addW l b vs.toArray ws.toArray n n2 dd dd2 sl sl2 hsz') ⟨ho, ho2, ?_⟩
  rw [e]
  exact ⟨.list (xs ++ ys), fin, .mk' (stays_push _ _) (Nat.le_refl _), h⟩
theorem VRs.rep {w W s xs vs} (h : VRs w W s xs vs) : ∀ n, VRs w W s (List.replicate n xs).flatten (List.replicate n vs).flatten
  | 0 => rfl
  | n + 1 => by rw [List.replicate_succ, List.replicate_succ, List.flatten_cons, List.flatten_cons]; exact h.append (VRs.rep h n)
theorem O2_mul_list (hX : LV σ X xs) (hlo : -(2 ^ 63 : Int) ≤ k) (hhi : k < 2 ^ 63) (hsz : xs.length * k.toNat ≤ 2 ^ 24) (h : Q (.list (List.replicate k.toNat xs).flatten)) : O2 c (binaryOp .Mult) X (.int k) ρ σ Q := by
  rintro s _ _ R z1 ⟨u, rfl⟩
  obtain ⟨l, vs, rfl, hl, hv⟩ := hX.is R z1
  have fin := VR_newList R (hv.rep k.toNat)
  have hsz' : vs.toArray.size * k.toNat ≤ 2 ^ 24 := by simpa [hv.length] using hsz
  obtain ⟨⟨cls, d, data, sl⟩, ho, hcl, n, hd⟩ := id hl
  simp only at hcl hd
  subst hcl hd
  refine wpAny_binaryOp_repeat_ref (T := "list") (U := "int") (by decide) ⟨_, ho, rfl⟩ (fun s' => typeIs_int s' k u) noFill_list_mul F.fills_int_mul F.slot_int_rmul repeat_list F.slot_int_index.lookup
    (call_meets F.slot_int_rmul (typeIs_int s k u) F.entry_int_rmul (F.args_int_rmul_2 _ _) (lm_int_rmul_list_any k u l vs.toArray n d sl)
      ⟨ho, rfl, ⟨_, ho, rfl⟩, call_meets F.slot_list_mul ⟨_, ho, rfl⟩ F.entry_list_mul (F.args_list_mul_2 _ _)
        (lm_list_mul_any l vs.toArray n d sl k u (by simp [Builtin.List.listFitsIndex]; exact ⟨Int.not_lt.mp fun hn => absurd (Int.add_le_add hlo (Int.add_one_le_of_lt hn)) (by simp +arith), Int.not_le.mp fun hn => absurd (Int.add_le_add (Int.add_one_le_of_lt hhi) hn) (by simp +arith)⟩) (by (clear ho fin hv hl z1 R h hsz hhi hlo hX; lia)) (by simp [Builtin.List.listTooLong, sizeLine]; assumption))
        ⟨ho, ?_⟩⟩)
  rw [listMul_foldl_if]
  exact ⟨.list _, fin, .mk' (stays_push _ _) (Nat.le_refl _), h⟩
end
inductive AEq : V → V → Bool → Prop where
  | int (i j : Int) : AEq (.int i) (.int j) (i == j)
  | str {X Y : V} {x y : Str} : SV X x → SV Y y → AEq X Y (x == y)
theorem AEq.at {w W s X Y b v u} (A : Around) (h : AEq X Y b) (hv : VR w W s X v) (hu : VR w W s Y u) : EqAt A s v u b := by
  cases h with
  | int i j => obtain ⟨t, rfl⟩ := hv; obtain ⟨t', rfl⟩ := hu; exact EqAt.int_int _ _ _ _
  | str hx hy => obtain ⟨t, rfl⟩ := hx.is hv; obtain ⟨t', rfl⟩ := hy.is hu; exact EqAt.str_str _ _ _ _
inductive LEq : List V → List V → Bool → Prop where
  | nil : LEq [] [] true
  | left {X xs} : LEq (X :: xs) [] false
  | right {Y ys} : LEq [] (Y :: ys) false
  | cons {X Y xs ys a b} : AEq X Y a → LEq xs ys b → LEq (X :: xs) (Y :: ys) (a && b)
theorem LEq.run {w W s} (A : Around) {xs ys b} (h : LEq xs ys b) : ∀ {vs us : List Value}, VRs w W s xs vs → VRs w W s ys us →
    (vs.length ≠ us.length ∧ b = false) ∨ (vs.length = us.length ∧ ∃ e : Nat → Bool, (∀ j (h1 : j < vs.length) (h2 : j < us.length), EqAt A s vs[j] us[j] (e j)) ∧ (List.range vs.length).all e = b) := by
  induction h with
  | nil =>
    intro vs us hv hu
    cases hv; cases hu
    exact .inr ⟨rfl, fun uu => true, (fun uu h uu => nomatch h), rfl⟩
  | left =>
    intro vs us hv hu
    obtain ⟨v, r, e, _, _⟩ := hv
    cases e; cases hu
    exact .inl ⟨by simp, rfl⟩
  | right =>
    intro vs us hv hu
    obtain ⟨v, r, e, _, _⟩ := hu
    cases e; cases hv
    exact .inl ⟨by simp, rfl⟩
  | @cons x y xs ys ab bb ha hr ih =>
    intro vs us hv hu
    obtain ⟨v, r, e1, a1, b1⟩ := hv
    obtain ⟨u, r', e2, a2, b2⟩ := hu
    cases e1; cases e2
    rcases ih b1 b2 with ⟨h1, rfl⟩ | ⟨h1, e, h2, h3⟩
    · exact .inl ⟨by simpa using h1, by simp⟩
    · refine .inr ⟨by simpa using h1, fun j => match j with | 0 => ab | j + 1 => e j, fun j g1 g2 => ?_, ?_⟩
      · cases j with
        | zero => exact ha.at A a1 a2
        | succ j => exact h2 j (by simpa using g1) (by simpa using g2)
      · rw [List.length_cons, List.range_succ_eq_map, List.all_cons, List.all_map, ← h3]; rfl
theorem LEq.ints : ∀ (is js : List Int), LEq (is.map .int) (js.map .int) (is == js)
  | [], [] => .nil
  | _ :: _, [] => .left
  | [], _ :: _ => .right
  | i :: is, j :: js => .cons (.int i j) (LEq.ints is js)
noncomputable def SVs (xs : List V) (ss : List Str) : Prop := xs.length = ss.length ∧ ∀ (i : Nat) (X : V) (s : Str), xs[i]? = some X → ss[i]? = some s → SV X s
theorem SVs.map (ss : List Str) : SVs (ss.map .str) ss := ⟨by simp, fun i X s h1 h2 => by rw [List.getElem?_map, h2] at h1; cases h1; exact .inl rfl⟩
theorem SVs.tail {X xs s ss} (h : SVs (X :: xs) (s :: ss)) : SV X s ∧ SVs xs ss := ⟨h.2 0 X s rfl rfl, by simpa using h.1, fun i X s h1 h2 => h.2 (i + 1) X s (by simpa using h1) (by simpa using h2)⟩
theorem SVs.nil : SVs [] [] := ⟨rfl, fun uu uu uu h => nomatch h⟩
theorem SVs.cons {X xs s ss} (hx : SV X s) (h : SVs xs ss) : SVs (X :: xs) (s :: ss) := ⟨by simp [h.1], fun i Y t h1 h2 => by
  cases i with
  | zero => cases h1; cases h2; exact hx
  | succ i => exact h.2 i Y t (by simpa using h1) (by simpa using h2)⟩
theorem LEq.strs : ∀ {xs ys : List V} {ss tt : List Str}, SVs xs ss → SVs ys tt → LEq xs ys (ss == tt)
  | [], [], [], [], _, _ => .nil
  | _ :: _, [], _ :: _, [], _, _ => .left
  | [], _ :: _, [], _ :: _, _, _ => .right
  | X :: xs, Y :: ys, s :: ss, t :: tt, h1, h2 => .cons (.str h1.tail.1 h2.tail.1) (LEq.strs h1.tail.2 h2.tail.2)
  | [], _, _ :: _, _, h1, _ => by cases h1.1
  | _ :: _, _, [], _, h1, _ => by cases h1.1
  | _, [], _, _ :: _, _, h2 => by cases h2.1
  | _, _ :: _, _, [], _, h2 => by cases h2.1
section
variable {c : Cx} {ρ : Rho} {σ : Sig} {Q : V → Prop} {X Y Z : V} {xs ys : List V} {k : Int}
theorem O2_eq_list {b : Bool} (hX : LV σ X xs) (hY : LV σ Y ys) (he : LEq xs ys b) (h : Q (.bool b)) : O2 c (compareOp .Eq) X Y ρ σ Q := by
  intro s _ _ R z1 z2
  obtain ⟨l, vs, rfl, hl, hv⟩ := hX.is R z1
  obtain ⟨m, us, rfl, hm, hu⟩ := hY.is R z2
  have hun : c.A.units < cLine := Nat.lt_of_le_of_lt (Nat.le_trans (Nat.le_add_right _ _) R.ok.units) (by decide)
  rcases he.run c.A.in1 hv hu with ⟨h1, rfl⟩ | ⟨h1, e, h2, h3⟩
  · exact eq_list_lengthsAt hl hm (by simpa using h1) hun ⟨.bool false, rfl, .refl _, h⟩
  · refine eq_listAt (e := e) hl hm (by simpa using h1) hun (fun j g1 g2 => by simpa using h2 j (by simpa using g1) (by simpa using g2)) ⟨.bool b, ?_, .refl _, h⟩
    show _ = _
    rw [← h3]; simp
theorem O2_ne_list {b : Bool} (hX : LV σ X xs) (hY : LV σ Y ys) (he : LEq xs ys b) (h : Q (.bool (!b))) : O2 c (compareOp .NotEq) X Y ρ σ Q := by
  intro s _ _ R z1 z2
  obtain ⟨l, vs, rfl, hl, hv⟩ := hX.is R z1
  obtain ⟨m, us, rfl, hm, hu⟩ := hY.is R z2
  have hun : c.A.units < cLine := Nat.lt_of_le_of_lt (Nat.le_trans (Nat.le_add_right _ _) R.ok.units) (by decide)
  rcases he.run c.A.in1 hv hu with ⟨h1, rfl⟩ | ⟨h1, e, h2, h3⟩
  · exact RcNeAt.lists_lengths hl hm (by simpa using h1) hun _ _ _ _ ⟨.bool true, rfl, .refl _, h⟩
  · refine RcNeAt.lists (e := e) hl hm (by simpa using h1) hun (fun j g1 g2 => by simpa using h2 j (by simpa using g1) (by simpa using g2)) _ _ _ _ ⟨.bool (!b), ?_, .refl _, h⟩
    show _ = _
    rw [← h3]; simp
theorem O2_in_ints {i : Int} {js : List Int} (hY : LV σ Y (js.map .int)) (h : Q (.bool (js.contains i))) : O2 c (compareOp .In) (.int i) Y ρ σ Q := by
  rintro s _ _ R ⟨t, rfl⟩ z2
  obtain ⟨m, us, rfl, hm, hu⟩ := hY.is R z2
  have key : ∀ {js : List Int} {us : List Value}, VRs c.w (wof c σ) s (js.map .int) us → (∀ y, y ∈ us → EqAt c.A.in1 s y (.int i t) (match y with | .int j _ => j == i | _ => false)) ∧ (us.any fun y => match y with | .int j _ => j == i | _ => false) = js.contains i := by
    intro js
    induction js with
    | nil => intro us h; cases h; exact ⟨(fun uu h => nomatch h), rfl⟩
    | cons j js ih =>
      rintro us ⟨v, r, rfl, ⟨t', rfl⟩, hr⟩
      obtain ⟨h1, h2⟩ := ih hr
      refine ⟨fun y hy => ?_, ?_⟩
      · rcases List.mem_cons.mp hy with q | q
        · subst q; exact EqAt.int_int _ _ _ _
        · exact h1 y q
      · rw [List.any_cons, h2, List.contains_cons, Bool.beq_comm]
  obtain ⟨h1, h2⟩ := key hu
  refine in_listAt (fun y => match y with | .int j _ => j == i | _ => false) hm (fun y hy => h1 y (by simpa using hy)) ⟨.bool _, ?_, .refl _, h⟩
  show _ = _
  rw [← h2]; simp
end
end
section
open PySem PySem.W PySem.Calls PyProof PyProof.Rows PySem.SeqAt
noncomputable def BV (X : V) (b : Option Int) : Prop := (X = .none ∧ b = none) ∨ ∃ i, X = .int i ∧ b = some i
theorem BV.part {w W s X b v} (h : BV X b) (z : VR w W s X v) : IsPart v b := by
  rcases h with ⟨rfl, rfl⟩ | ⟨i, rfl, rfl⟩
  · cases z; exact .none
  · obtain ⟨t, rfl⟩ := z; exact .int i t
theorem BV.part' {w W s X b v} (h : BV X b) (z : VR w W s X v) : ∃ l, v = partValue l ∧ l.map (·.1) = b := by
  rcases h with ⟨rfl, rfl⟩ | ⟨i, rfl, rfl⟩
  · cases z; exact ⟨none, rfl, rfl⟩
  · obtain ⟨t, rfl⟩ := z; exact ⟨some (i, t), rfl, rfl⟩
theorem BV.none : BV .none none := .inl ⟨rfl, rfl⟩
theorem BV.int (i) : BV (.int i) (some i) := .inr ⟨i, rfl, rfl⟩
noncomputable abbrev WP (c : Cx) (e : Option Expr) (ρ : Rho) (σ : Sig) (Q : V → Prop) : Prop := WT c (evalPart e c.env) ρ σ Q
theorem WP_none {c ρ σ} {Q : V → Prop} (h : Q .none) : WP c none ρ σ Q := fun s R => wpAny_evalPart_none ⟨.none, rfl, .refl _, h⟩
theorem WP_some {c e ρ σ} {Q : V → Prop} (h : WE c e ρ σ Q) : WP c (some e) ρ σ Q := fun s R => wpAny_evalPart_some (h s R)
noncomputable def pickV {α : Type} (xs : List α) (lo hi : Option Int) : List α :=
  (xs.drop (lo.elim 0 (clipAt xs.length))).take (hi.elim xs.length (clipAt xs.length) - lo.elim 0 (clipAt xs.length))
theorem pickV_map {α β : Type} (f : α → β) (xs : List α) (lo hi) : pickV (xs.map f) lo hi = (pickV xs lo hi).map f := by
  simp [pickV, List.map_take, List.map_drop]
theorem pickV_upto {α : Type} (xs : List α) (b : Nat) : pickV xs none (some b) = xs.take b := by
  simp only [pickV, Option.elim, clipAt_nat, List.drop_zero, Nat.sub_zero]
  rcases Nat.le_total b xs.length with h | h
  · rw [Nat.min_eq_left h]
  · rw [Nat.min_eq_right h, List.take_of_length_le (Nat.le_refl _), List.take_of_length_le h]
theorem pickV_from {α : Type} (xs : List α) (a : Nat) : pickV xs (some a) none = xs.drop a := by
  simp only [pickV, Option.elim, clipAt_nat]
  rcases Nat.le_total a xs.length with h | h
  · rw [Nat.min_eq_left h, List.take_of_length_le (by simp)]
  · rw [Nat.min_eq_right h, List.drop_of_length_le h, List.drop_of_length_le (Nat.le_refl _), List.take_nil]
theorem WE_sliceL {c value lower upper p pos ρ σ} {Q : V → Prop}
    (h : WE c value ρ σ (fun X => ∃ xs, LV σ X xs ∧ xs.length ≤ sizeLine ∧ WP c lower ρ σ (fun Y => ∃ lo, BV Y lo ∧ WP c upper ρ σ (fun Z => ∃ hi, BV Z hi ∧ Q (.list (pickV xs lo hi))))))
    (ht : ∀ o r, letTemporaryGo value o r = pure () := by intro _ _; with_unfolding_all rfl) : WE c (.Subscript value (.Slice lower upper none p) pos) ρ σ Q := fun s R => by
  refine wpAny_Subscript_list_slice (goV (h s R) fun a s₁ X hX k₁ hpt => ?_) ht
  obtain ⟨xs, hL, hsz, h₁⟩ := hpt
  refine goV (h₁ s₁ (R.keepE k₁)) fun b s₂ Y hY k₂ hpt => ?_
  obtain ⟨lo, hb, h₂⟩ := hpt
  refine goV (h₂ s₂ ((R.keepE k₁).keepE k₂)) fun d s₃ Z hZ k₃ hpt => ?_
  obtain ⟨hi, hc, q⟩ := hpt
  have R₃ := ((R.keepE k₁).keepE k₂).keepE k₃
  obtain ⟨l, vs, rfl, hl, hv⟩ := hL.is R₃ (hX.keeps ((k₂.trans k₃).keepW _))
  refine ⟨l, _, _, _, rfl, hl, by simpa [hv.length] using hsz, hb.part (hY.keeps (k₃.keepW _)), hc.part hZ, .list (pickV xs lo hi), ?_, ?_, q⟩
  · have e : slicePick (List.toArray vs) lo hi none = List.toArray (pickV vs lo hi) := by rw [slicePick_plain]; simp [pickV]
    rw [e]
    have kk : KeepE s₃ { s₃ with heap := s₃.heap.push { cls := .type "slice", data := .fields #[b, d, .none] } } := .mk' (stays_push _ _) (Nat.le_refl _)
    have hv' : VRs c.w (wof c σ) { s₃ with heap := s₃.heap.push { cls := .type "slice", data := .fields #[b, d, .none] } } (pickV xs lo hi) (pickV vs lo hi) := by
      have := hv.keeps (kk.keepW (wof c σ))
      simp only [pickV, hv.length]
      exact (this.drop _).take _
    have z := VR_newList (R₃.keepE kk) hv'
    rw [Heap.size_push] at z
    exact z
  · exact ((k₁.trans k₂).trans k₃).trans (.mk' (fun b o e => Heap.get?_push_of_some _ (Heap.get?_push_of_some _ e)) (Nat.le_refl _))
theorem sliceMade_post {s : Shared} {x : Str} {t : Tok} {l u : Option (Int × Tok)} {Q : Value → Shared → Prop} (hsz : x.length ≤ sizeLine) (h : ∀ t' k, Q (.str (Txt.slice x (l.map (·.1)) (u.map (·.1))) t') { s with toks := k }) : (sliceMade x t l u none).post Q s := by
  have h1 := Txt.slice_le x (l.map (·.1)) (u.map (·.1))
  unfold sliceMade slicePicked
  unfold Txt.slice at h h1
  refine post_val_or_str ⟨Nat.le_trans h1 hsz, h⟩
theorem WE_sliceS {c value lower upper p pos ρ σ} {Q : V → Prop}
    (h : WE c value ρ σ (fun X => ∃ x, SV X x ∧ x.length ≤ sizeLine ∧ WP c lower ρ σ (fun Y => ∃ lo, BV Y lo ∧ WP c upper ρ σ (fun Z => ∃ hi, BV Z hi ∧ Q (.str (Txt.slice x lo hi))))))
    (ht : ∀ o r, letTemporaryGo value o r = pure () := by intro _ _; with_unfolding_all rfl) : WE c (.Subscript value (.Slice lower upper none p) pos) ρ σ Q := fun s R => by
  refine with_toks (wpAny_Subscript_str_slice (goV (h s R) fun a s₁ X hX k₁ hpt => ?_) ht)
  obtain ⟨x, hL, hsz, h₁⟩ := hpt
  refine goV (h₁ s₁ (R.keepE k₁)) fun b s₂ Y hY k₂ hpt => ?_
  obtain ⟨lo, hb, h₂⟩ := hpt
  refine goV (h₂ s₂ ((R.keepE k₁).keepE k₂)) fun d s₃ Z hZ k₃ hpt => ?_
  obtain ⟨hi, hc, q⟩ := hpt
  obtain ⟨t, rfl⟩ := hL.is hX
  obtain ⟨l, rfl, e1⟩ := hb.part' hY
  obtain ⟨u, rfl, e2⟩ := hc.part' hZ
  subst e1; subst e2
  refine ⟨x, t, l, u, rfl, rfl, rfl, ?_⟩
  have K := (k₁.trans k₂).trans k₃
  refine sliceMade_post hsz fun t' tk htk => ⟨.str _, ⟨t', rfl⟩, ⟨?_, ?_⟩, q⟩
  · obtain ⟨h', tk', gs, e, g, hle⟩ := K.1
    exact ⟨_, tk, gs, by rw [e], g, htk⟩
  · exact K.2.trans (stays_push _ _)
section
variable {c : Cx} {ρ : Rho} {σ : Sig} {Q : V → Prop} {X Y : V} {xs : List V}
theorem WC_len (hX : LV σ X xs) (hn : xs.length ≤ 2 ^ 62) (h : Q (.int xs.length)) : WC c (.builtin "len") [] [X] ρ σ Q := by
  rintro s _ R ⟨v, _, rfl, z, rfl⟩
  obtain ⟨l, vs, rfl, hl, hv⟩ := hX.is R z
  refine call_len_list hl (by rw [List.size_toArray, hv.length]; exact Int.lt_of_le_of_lt (Int.ofNat_le.mpr hn) (by decide)) ⟨.int _, ⟨s.toks + 1, ?_⟩, .mk' (.refl _) (Nat.le_add_right _ 2), h⟩
  rw [List.size_toArray, hv.length]
theorem WC_lenS {x : Str} (hX : SV X x) (hn : x.length ≤ 2 ^ 62) (h : Q (.int x.length)) : WC c (.builtin "len") [] [X] ρ σ Q := by
  rintro s _ R ⟨v, _, rfl, z, rfl⟩
  obtain ⟨t, rfl⟩ := hX.is z
  exact len_str (by (clear z R h hX; lia)) ⟨.int _, ⟨_, rfl⟩, .mk' (.refl _) (Nat.le_add_right _ 2), h⟩
theorem WC_range1 {n : Int} (h : Q (.rng 0 n 1)) : WC c (.type "range") [] [.int n] ρ σ Q := by
  rintro s _ R ⟨v, _, rfl, ⟨t, rfl⟩, rfl⟩
  exact call_range_1 ⟨.rng 0 n 1, ⟨_, _, _, _, rfl, R.new, Heap.get?_push_size _ rfl⟩, .mk' (stays_push _ _) (Nat.le_add_right _ 2), h⟩
theorem WC_range2 {a b : Int} (h : Q (.rng a b 1)) : WC c (.type "range") [] [.int a, .int b] ρ σ Q := by
  rintro s _ R ⟨v, _, rfl, ⟨t, rfl⟩, u, _, rfl, ⟨t', rfl⟩, rfl⟩
  exact call_range_2 ⟨.rng a b 1, ⟨_, _, _, _, rfl, R.new, Heap.get?_push_size _ rfl⟩, .mk' (stays_push _ _) (Nat.le_add_right _ 1), h⟩
theorem WC_range3 {a b d : Int} (hd : d ≠ 0) (hp : Builtin.divisionGoesByPylong (b - a) d = false) (h : Q (.rng a b d)) : WC c (.type "range") [] [.int a, .int b, .int d] ρ σ Q := by
  rintro s _ R ⟨v, _, rfl, ⟨t, rfl⟩, u, _, rfl, ⟨t', rfl⟩, u', _, rfl, ⟨t'', rfl⟩, rfl⟩
  exact call_range_3 hd ⟨.rng a b d, ⟨_, _, _, _, rfl, R.new, Heap.get?_push_size _ rfl⟩, .mk' (stays_push _ _) (Nat.le_refl _), h⟩ (.inl hp)
theorem WC_max2 {a b : Int} (h : Q (.int (max a b))) : WC c (.builtin "max") [] [.int a, .int b] ρ σ Q := by
  rintro s _ R ⟨v, _, rfl, ⟨t, rfl⟩, u, _, rfl, ⟨t', rfl⟩, rfl⟩
  refine with_toks (max_two_ints R.ok.hand fun h' tk hk htk => ⟨.int (max a b), ?_, .mk' hk htk, h⟩)
  by_cases hc : b > a
  · rw [if_pos hc, Int.max_eq_right (by exact Int.le_of_lt hc)]; exact ⟨_, rfl⟩
  · rw [if_neg hc, Int.max_eq_left (by exact (Int.not_lt.mp hc))]; exact ⟨_, rfl⟩
theorem WC_min2 {a b : Int} (h : Q (.int (min a b))) : WC c (.builtin "min") [] [.int a, .int b] ρ σ Q := by
  rintro s _ R ⟨v, _, rfl, ⟨t, rfl⟩, u, _, rfl, ⟨t', rfl⟩, rfl⟩
  refine with_toks (min_two_ints R.ok.hand fun h' tk hk htk => ⟨.int (min a b), ?_, .mk' hk htk, h⟩)
  by_cases hc : b < a
  · rw [if_pos hc, Int.min_eq_right (by exact Int.le_of_lt hc)]; exact ⟨_, rfl⟩
  · rw [if_neg hc, Int.min_eq_left (by exact (Int.not_lt.mp hc))]; exact ⟨_, rfl⟩
theorem ints_of {w W s} : ∀ {is : List Int} {vs : List Value}, VRs w W s (is.map .int) vs → ∃ ts : List (Int × Tok), vs = ts.map (fun p => Value.int p.1 p.2) ∧ ts.map (·.1) = is
  | [], _, h => by cases h; exact ⟨[], rfl, rfl⟩
  | i :: is, _, ⟨v, r, e, ⟨t, ht⟩, hr⟩ => by
    obtain ⟨ts, e1, e2⟩ := ints_of hr
    exact ⟨(i, t) :: ts, by rw [e, e1, ht]; rfl, by simp [e2]⟩
theorem ints_are {w W s} : ∀ {is : List Int} {vs : List Value}, VRs w W s (is.map .int) vs → IntsAre vs is
  | [], _, h => by cases h; exact .nil
  | i :: is, _, ⟨v, r, e, ⟨t, ht⟩, hr⟩ => by rw [e, ht]; exact .cons i t (ints_are hr)
theorem preSum_take (is : List Int) : ∀ n, n ≤ is.length → preSum (fun j => is.getD j 0) n = (is.take n).sum
  | 0, _ => rfl
  | n + 1, h => by
    rw [preSum, preSum_take is n (by exact Nat.le_of_succ_le h), List.take_add_one, List.sum_append, List.getElem?_eq_getElem (by assumption : n < is.length)]
    simp [List.getD_eq_getElem?_getD, List.getElem?_eq_getElem (by assumption : n < is.length)]
theorem WC_sum {is : List Int} (hX : LV σ X (is.map .int)) (hB : ∀ i ∈ is, 0 ≤ i ∧ i ≤ 1000) (hn : is.length ≤ 1000) (h : Q (.int is.sum)) : WC c (.builtin "sum") [] [X] ρ σ Q := by
  rintro s _ R ⟨v, _, rfl, z, rfl⟩
  obtain ⟨l, vs, rfl, hl, hv⟩ := hX.is R z
  obtain ⟨ts, rfl, e⟩ := ints_of hv
  have hit : List.toArray (ts.map (fun p => Value.int p.1 p.2)) = intItems ts.toArray := by simp [intItems]
  rw [hit] at hl
  have hnum : numAt ts.toArray = fun j => is.getD j 0 := by
    funext j
    rw [← e]
    simp [numAt, List.getD_eq_getElem?_getD]
  have hlen : ts.length = is.length := by rw [← e]; simp
  have bound : ∀ n, n ≤ is.length → 0 ≤ (is.take n).sum ∧ (is.take n).sum ≤ 1000 * n := fun n => by
    induction n with
    | zero => intro _; simp
    | succ n ih =>
      intro hle
      obtain ⟨h1, h2⟩ := ih (by exact Nat.le_of_succ_le hle)
      have := hB (is[n]'(by assumption)) (List.getElem_mem _)
      rw [List.take_add_one, List.sum_append, List.getElem?_eq_getElem (by assumption : n < is.length)]
      simp only [Option.toList, List.sum_cons, List.sum_nil]
      exact ⟨Int.not_lt.mp fun hn => absurd (Int.add_le_add h1 (Int.add_le_add this.1 (Int.add_one_le_of_lt hn))) (by simp +arith), Int.not_lt.mp fun hn => absurd (Int.add_le_add h2 (Int.add_le_add this.2 (Int.add_one_le_of_lt hn))) (by simp +arith)⟩
  refine with_toks (sum_intList R.ok.hand hl (fun j hj => ?_) fun h' tk t' hk htk => ⟨.int is.sum, ⟨t', ?_⟩, .mk' hk htk, h⟩)
  · have hj' : j < is.length := by rw [← hlen]; simpa using hj
    rw [hnum, preSum_take is (j + 1) hj']
    have h1 := bound (j + 1) hj'
    have h2 := hB (is[j]'hj') (List.getElem_mem _)
    have h3 : is.getD j 0 = is[j]'hj' := by rw [List.getD_eq_getElem?_getD, List.getElem?_eq_getElem hj']; rfl
    refine ⟨⟨?_, ?_⟩, ?_, ?_⟩ <;> (try simp only [h3]) <;> omega
  · rw [hnum, preSum_take is _ (by simp [hlen])]
    simp [hlen]
end
end
section
open PySem PySem.W PySem.Calls PyProof PyProof.Rows PySem.SeqAt
theorem kindsOk_of {sc : Scope} {xs : List Str} (h : ∀ n, (xs.all fun x => match sc.names.lookup x with | some .local => true | some .cell => ((cellsFrom n sc.names []).lookup x).isSome | _ => false) = true) : kindsOk sc xs := fun n x hx => by
  have := List.all_eq_true.mp (h n) x hx
  split at this
  · rename_i e; exact .inl e
  · rename_i e; exact .inr ⟨e, this⟩
  · cases this
theorem Stb_loc {c : Cx} {x : Str} (h : c.env.kindOf x = some .local) : Stb c x := .inl h
theorem Stb_cell {c : Cx} {x : Str} (h1 : c.env.kindOf x = some .cell) (h2 : (c.env.cells.lookup x).isSome = true) (h3 : c.own = c.env.locals :: c.env.cells.map (·.2)) : Stb c x := by
  obtain ⟨d, hd⟩ := Option.isSome_iff_exists.mp h2
  exact .inr ⟨h1, d, hd, h3 ▸ .tail _ (List.mem_map.mpr ⟨_, lookup_mem' hd, rfl⟩)⟩
noncomputable def Bo (Q : Bool → Prop) (Z : V) : Prop := ∃ b, Z = .bool b ∧ Q b
theorem Bo.mk {Q : Bool → Prop} {b : Bool} (h : Q b) : Bo Q (.bool b) := ⟨b, rfl, h⟩
theorem WI_cmp' {c l op r pos ρ σ} {Q : Bool → Prop} (h : WE c l ρ σ (KE2 c r (compareOp op) ρ σ (Bo Q)))
    (hm : behindInMarks op r = false := by walk_at "r") : WI c (.Compare l [op] [r] pos) ρ σ Q := WI_cmp h hm
theorem SV.lit (x) : SV (.lit x) x := .inr rfl
theorem SV.str (x) : SV (.str x) x := .inl rfl
theorem CapOk.of {c scope cl} (h1 : closureFor scope c.env = pure cl) (h2 : (scope.names.all fun y => y.2 != .cell && (y.2 != .local || scope.names.lookup y.1 == some .local)) = true) (h3 : scope.kind = .function)
    (h4 : cl.map (fun p => c.env.cells.lookup p.1) = cl.map (fun p => some p.2)) (h5 : (cl.map (·.1)).Nodup) : CapOk c scope cl := by
  refine ⟨h1, fun y hy e => ?_, h3, fun y hy e => ?_, fun p hp => ?_, h5⟩
  · have := List.all_eq_true.mp h2 y hy; rw [e] at this; cases this
  · have := List.all_eq_true.mp h2 y hy; rw [e] at this; simpa using this
  · have : c.env.cells.lookup p.1 = some p.2 := List.map_inj_left.mp h4 p hp
    exact lookup_mem' this
theorem Cap.cons' {c scope cl ρ ρ₀ x X} (h1 : ρ.lookup x = some X) (h2 : c.env.kindOf x = some .cell ∨ c.env.kindOf x = some .free) (h3 : cl.lookup x = c.env.cells.lookup x)
    (h4 : (compEnvC scope cl 0 c.env).kindOf x = some .cell ∨ (compEnvC scope cl 0 c.env).kindOf x = some .free) (h : Cap c scope cl ρ ρ₀) : Cap c scope cl ρ ((x, X) :: ρ₀) :=
  Cap.cons h1 h2 h3 (fun e => by rcases h4 with q | q <;> rw [q] at e <;> cases e) h
noncomputable def upto (n : Nat) : List V := (List.range n).map fun i : Nat => V.int i
theorem upto_len (n) : (upto n).length = n := by simp [upto]
theorem upto_at {n i : Nat} {Y : V} (h : (upto n)[i]? = some Y) : i < n ∧ Y = .int i := by
  have hi : i < n := by have := (List.getElem?_eq_some_iff.mp h).1; simpa [upto] using this
  refine ⟨hi, ?_⟩
  simp [upto, hi] at h
  exact h.symm
theorem src_up {c : Cx} {x : Str} {p : Pos} {n : Nat} (hn : n ≤ 1000000) : SrcOf c (.Name x p) (.rng 0 (n : Int) 1) (upto n) := by
  have e : rngItems 0 1 n = upto n := by simp [rngItems, upto]
  rw [← e]
  have hz : Builtin.Range.rangeSize 0 (n : Int) 1 = (n : Int) := by rw [rangeSize_one]; split <;> omega
  refine src_range ?_ hz
  unfold Builtin.Range.small
  rw [hz]
  simp [Builtin.Range.rangeFitsLong]
  (clear hz e; lia)
theorem rng_at {a st : Int} {n i : Nat} {Y : V} (h : (rngItems a st n)[i]? = some Y) : i < n ∧ Y = .int (a + i * st) := by
  have hi : i < n := by have := (List.getElem?_eq_some_iff.mp h).1; simpa [rngItems] using this
  refine ⟨hi, ?_⟩
  simp [rngItems, hi] at h
  exact h.symm
theorem rng_len (a st n) : (rngItems a st n).length = n := by simp [rngItems]
section
variable {c : Cx} {ρ : Rho} {σ : Sig} {Q : V → Prop} {X Y Z : V} {xs ys : List V} {k : Int}
theorem O2_itemI {value slice : Expr} {is : List Int} (hX : LV σ X (is.map .int)) (h0 : 0 ≤ k) (h1 : k < is.length) (hfit : k < 2 ^ 63) (h : Q (.int (is.getD k.toNat 0)))
    (hs : ∀ o k t, subscripted slice false (.ref o) (.int k t) = operate [.ref o, .int k t] (getItem (.ref o) (.int k t)) := by intro _ _ _; with_unfolding_all rfl) : O2 c (subscriptTail value slice) X (.int k) ρ σ Q :=
  O2_item (Z := .int (is.getD k.toNat 0)) hX h0 hfit (by
    rw [List.getElem?_map, List.getD_eq_getElem?_getD, List.getElem?_eq_getElem (by (clear hs h hfit hX; lia) : k.toNat < is.length)]; rfl) h hs
theorem O2_itemL {value slice : Expr} {is : List Int} (hX : LV σ X (is.map .int)) (hk : k = -1) (h1 : is ≠ []) (h : Q (.int (is.getD (is.length - 1) 0)))
    (hs : ∀ o k t, subscripted slice false (.ref o) (.int k t) = operate [.ref o, .int k t] (getItem (.ref o) (.int k t)) := by intro _ _ _; with_unfolding_all rfl) : O2 c (subscriptTail value slice) X (.int k) ρ σ Q := by
  subst hk
  have hl : 0 < is.length := List.length_pos_iff.mpr h1
  refine O2_itemN (Z := .int (is.getD (is.length - 1) 0)) hX (by decide) (by simp; exact Int.ofNat_lt.mpr hl) (by decide) ?_ h hs
  have e : (-1 + (((is.map V.int).length : Nat) : Int)).toNat = is.length - 1 := by simp; (clear hl hs h h1 hX; lia)
  rw [e, List.getElem?_map, List.getD_eq_getElem?_getD, List.getElem?_eq_getElem (by exact Nat.sub_lt hl (by decide) : is.length - 1 < is.length)]; rfl
end
theorem ite_t {A B : Prop} (h : A) : if (true : Bool) = true then A else B := h
theorem ite_f {A B : Prop} (h : B) : if (false : Bool) = true then A else B := h
theorem ite_b {b : Bool} {A B : Prop} (ht : b = true → A) (hf : b = false → B) : if b = true then A else B := by
  cases b with
  | true => exact ht rfl
  | false => exact hf rfl
noncomputable def Turns (c : Cx) (scope : Scope) (cl : List (Str × Addr)) (ρ₀ : Rho) (target elt : Expr) (ifs : List Expr) (items : List V) (p : Nat → Bool) (f : Nat → V) : Prop :=
  ∀ C h₀ o i Y, items[i]? = some Y → WAs (c.comp scope cl C h₀ o) target Y ρ₀ [] (fun ρ'' => sub ρ₀ ρ'' ∧ WTs (c.comp scope cl C h₀ o) ifs ρ'' (fun ok => ok = p i ∧ (p i = true → WE (c.comp scope cl C h₀ o) elt ρ'' [] (fun Z => Z = f i))))
noncomputable abbrev picks (n : Nat) (p : Nat → Bool) (f : Nat → V) : List V := ((List.range n).filter p).map f
theorem Turns.comp {c scope cl ρ₀ target elt ifs items p f} (h : Turns c scope cl ρ₀ target elt ifs items p f) : CompTurn c scope cl ρ₀ target elt ifs items (fun i Ys => Ys = picks i p f) :=
  fun C h₀ o i Y Ys hY hJ => (h C h₀ o i Y hY).mono fun ρ'' ⟨hs, ht⟩ => ⟨hs, ht.mono fun b ⟨hb, q⟩ => by
    subst hb; subst hJ
    refine ite_b (fun e => (q e).mono fun Z hZ => ?_) fun e => ?_
    · subst hZ; simp [picks, List.range_succ, e]
    · simp [picks, List.range_succ, e]⟩
theorem WE_compF {c : Cx} {target iter elt : Expr} {ifs : List Expr} {scope : Scope} {cl : List (Str × Addr)} {pos : Pos} {ρ : Rho} {σ : Sig} {Q : V → Prop}
    (ho : CapOk c scope cl) (ρ₀ : Rho) (hcap : Cap c scope cl ρ ρ₀)
    (h : WE c iter ρ σ (fun X => ∃ items, SrcOf c target X items ∧ items.length ≤ sizeLine ∧ ∃ p f, Turns c scope cl ρ₀ target elt ifs items p f ∧ Q (.list (picks items.length p f))))
    (hs : ∀ x, foldedSetIterable iter c.env x = pure x := by intro _; with_unfolding_all rfl) : WE c (.ListComp elt [⟨target, iter, ifs, 0⟩] scope pos) ρ σ Q :=
  WE_comp ho ρ₀ hcap (WT.mono h fun X ⟨items, a, b, p, f, t, q⟩ => ⟨items, a, b, _, rfl, t.comp, fun Ys uu e => e ▸ q⟩) hs
theorem W1_assignCompF {c : Cx} {x : Str} {px : Pos} {target iter elt : Expr} {ifs : List Expr} {scope : Scope} {cl : List (Str × Addr)} {pos spos : Pos} {ρ : Rho} {σ : Sig} {Q : Fl → Rho → Sig → Prop}
    (hk : c.env.kindOf x = some .local) (hsw : swapsWith (.ListComp elt [⟨target, iter, ifs, 0⟩] scope pos) (some (.Name x px)) spos.line c.env = pure true)
    (ho : CapOk c scope cl) (ρ₀ : Rho) (hcap : Cap c scope cl ρ ρ₀)
    (h : WE c iter ρ σ (fun X => ∃ items, SrcOf c target X items ∧ items.length ≤ sizeLine ∧ ∃ p f, Turns c scope cl ρ₀ target elt ifs items p f ∧ Q .next ((x, .list (picks items.length p f)) :: ρ) σ))
    (hs : ∀ x, foldedSetIterable iter c.env x = pure x := by intro _; with_unfolding_all rfl) : W1 c (.Assign [.Name x px] (.ListComp elt [⟨target, iter, ifs, 0⟩] scope pos) spos) ρ σ Q :=
  W1_assignComp hk hsw ho ρ₀ hcap (WT.mono h fun X ⟨items, a, b, p, f, t, q⟩ => ⟨items, a, b, _, rfl, t.comp, fun Ys uu e => e ▸ q⟩) hs
theorem WTs_all {c : Cx} {elt : Expr} {ρ : Rho} {p : Nat → Bool} {f : Nat → V} {i : Nat} (hp : p i = true) (h : WE c elt ρ [] (fun Z => Z = f i)) : WTs c [] ρ (fun ok => ok = p i ∧ (p i = true → WE c elt ρ [] (fun Z => Z = f i))) := WTs_nil ⟨hp.symm, fun uu => h⟩
theorem picks_all (n : Nat) (f : Nat → V) : picks n (fun uu => true) f = (List.range n).map f := by
  show List.map f (List.filter (fun uu => true) (List.range n)) = _
  rw [List.filter_eq_self.mpr fun uu uu => rfl]
theorem sub.nil {ρ} : sub [] ρ := fun uu uu e => nomatch e
theorem sub.cons {ρ ρ' : Rho} {x X} (h : ρ'.lookup x = some X) (k : sub ρ ρ') : sub ((x, X) :: ρ) ρ' := fun y Y e => by
  rw [lookup_head] at e
  by_cases q : y = x
  · subst q; rw [if_pos rfl] at e; cases e; exact h
  · rw [if_neg q] at e; exact k y Y e
theorem WS_join {c st rest ρ σ} {Q : Fl → Rho → Sig → Prop} (ρ₁ : Rho) (σ₁ : Sig) (h1 : W1 c st ρ σ (fun F ρ' σ' => F = .next ∧ σ' = σ₁ ∧ sub ρ₁ ρ')) (h2 : WS c rest ρ₁ σ₁ Q) : WS c (st :: rest) ρ σ Q :=
  WS_cons (h1.mono fun F r g ⟨e1, e2, k⟩ => by subst e1; subst e2; exact h2.less k)
theorem WS_keep {c b ρ σ} {Q : Fl → Rho → Sig → Prop} (ρ₁ : Rho) (k : sub ρ₁ ρ) (h : WS c b ρ₁ σ Q) : WS c b ρ σ Q := h.less k
theorem picks_len (n : Nat) (p : Nat → Bool) (f : Nat → V) : (picks n p f).length ≤ n := by
  have := List.length_filter_le p (List.range n)
  simpa [picks] using this
theorem and_len {xs : List V} {P : Prop} (h : Nat.ble xs.length sizeLine = true) (p : P) : xs.length ≤ sizeLine ∧ P := ⟨Nat.le_of_ble_eq_true h, p⟩
theorem lk {x : Str} {X Y : V} {ρ : Rho} (h : X = Y) : List.lookup x ((x, X) :: ρ) = some Y := by rw [lookup_head, if_pos rfl, h]
theorem lkL {x : Str} {X : List V} {is : List Int} {ρ : Rho} (h : X = is.map .int) : List.lookup x ((x, .list X) :: ρ) = some (.list (is.map .int)) := lk (by rw [h])
theorem Pure.le {a k k' Xs Q} (h : Pure a k Xs Q) (hk : k ≤ k') : Pure a k' Xs Q := fun c ρ σ h' => h c ρ σ (Nat.le_trans hk h')
theorem WC.mono {c f first Xs ρ σ} {Q Q' : V → Prop} (h : WC c f first Xs ρ σ Q) (k : ∀ X, Q X → Q' X) : WC c f first Xs ρ σ Q' := fun s vs R hX =>
  goV (h s vs R hX) fun uu uu X a b q => ⟨X, a, b, k X q⟩
theorem WB.less {c t ρ ρ₁ σ} {Q : Bool → Prop} (h : WB c t ρ₁ σ Q) (k : sub ρ₁ ρ) : WB c t ρ σ Q := fun s R => h s (R.less k)
theorem WT.less {c t ρ ρ₁ σ} {Q : V → Prop} (h : WT c t ρ₁ σ Q) (k : sub ρ₁ ρ) : WT c t ρ σ Q := fun s R => h s (R.less k)
theorem W1_whileS {c t b pos ρ σ} {Q : Fl → Rho → Sig → Prop} {ι : Type} (ρs : ι → Rho) (ms : ι → Nat) (i₀ : ι) (P : ι → Prop) (h₀ : sub (ρs i₀) ρ) (hP : P i₀)
    (turn : ∀ i, P i → WI c t (ρs i) σ (fun z => if z = true then WS c b (ρs i) σ (fun F ρ'' σ'' => F = .next ∧ σ'' = σ ∧ ∃ j, P j ∧ ms j < ms i ∧ sub (ρs j) ρ'') else ∀ ρ', sub (ρs i) ρ' → Q .next ρ' σ)) : W1 c (.While t b [] pos) ρ σ Q := by
  refine W1_while (fun n ρ' σ' => σ' = σ ∧ ∃ i, P i ∧ ms i = n ∧ sub (ρs i) ρ') ?_ (ms i₀) ⟨rfl, i₀, hP, rfl, h₀⟩
  rintro n ρ' σ' ⟨rfl, i, hi, rfl, k⟩
  refine (WB.less (turn i hi) k).mono fun z q => ?_
  refine ite_b (fun e => ?_) fun e => ?_
  · subst e
    refine (WX.less q k).mono fun F r g hpt => ?_
    obtain ⟨e1, e2, j, hj, hlt, kj⟩ := hpt
    subst e1; subst e2
    exact ⟨_, hlt, rfl, j, hj, rfl, kj⟩
  · subst e
    exact q ρ' k
noncomputable def nodupB : List Str → Bool
  | [] => true
  | x :: r => !(r.contains x) && nodupB r
theorem nodup_of : ∀ {l : List Str}, nodupB l = true → l.Nodup
  | [], _ => List.nodup_nil
  | x :: r, h => by
    unfold nodupB at h
    rw [Bool.and_eq_true] at h
    refine List.nodup_cons.mpr ⟨fun hm => ?_, nodup_of h.2⟩
    have : r.contains x = true := List.contains_iff_mem.mpr hm
    rw [this] at h; cases h.1
theorem lkx {x : Str} {X Y : V} {ρ : Rho} (h : ρ.lookup x = some X) (e : X = Y) : ρ.lookup x = some Y := e ▸ h
theorem lkI {x : Str} {i j : Int} {ρ : Rho} (h : ρ.lookup x = some (.int i)) (e : i = j) : ρ.lookup x = some (.int j) := e ▸ h
end
section
open PySem PySem.W PySem.Calls PyProof PyProof.Rows PySem.SeqAt
inductive UpdAt : Sig → Addr → List V → List V → Sig → Prop where
  | head {a xs ys σ} : UpdAt ((a, xs) :: σ) a xs ys ((a, ys) :: σ)
  | tail {p σ a xs ys σ'} : UpdAt σ a xs ys σ' → UpdAt (p :: σ) a xs ys (p :: σ')
theorem UpdAt.mem {σ a xs ys σ'} (h : UpdAt σ a xs ys σ') : (a, xs) ∈ σ := by
  induction h with
  | head => exact .head _
  | tail _ ih => exact .tail _ ih
theorem UpdAt.fst {σ a xs ys σ'} (h : UpdAt σ a xs ys σ') : σ'.map (·.1) = σ.map (·.1) := by
  induction h with
  | head => rfl
  | tail _ ih => simp [ih]
theorem UpdAt.old {σ a xs ys σ'} (h : UpdAt σ a xs ys σ') : ∀ p ∈ σ', p = (a, ys) ∨ (p ∈ σ ∧ (p.1 = a → (a, xs) ∈ σ)) := by
  induction h with
  | head => intro p hp; rcases List.mem_cons.mp hp with q | q; exact .inl q; exact .inr ⟨.tail _ q, fun uu => .head _⟩
  | tail h ih =>
    intro p hp
    rcases List.mem_cons.mp hp with q | q
    · exact .inr ⟨q ▸ .head _, fun uu => .tail _ h.mem⟩
    · rcases ih p q with e | ⟨e, k⟩
      · exact .inl e
      · exact .inr ⟨.tail _ e, fun z => .tail _ (k z)⟩
theorem UpdAt.sep {σ a xs ys σ'} (h : UpdAt σ a xs ys σ') (nd : (σ.map (·.1)).Nodup) : ∀ p ∈ σ', p = (a, ys) ∨ (p ∈ σ ∧ p.1 ≠ a) := by
  induction h with
  | head =>
    intro p hp
    rw [List.map_cons, List.nodup_cons] at nd
    rcases List.mem_cons.mp hp with q | q
    · exact .inl q
    · exact .inr ⟨.tail _ q, fun e => nd.1 (List.mem_map.mpr ⟨p, q, e⟩)⟩
  | tail h ih =>
    intro p hp
    rw [List.map_cons, List.nodup_cons] at nd
    rcases List.mem_cons.mp hp with q | q
    · exact .inr ⟨q ▸ .head _, fun e => nd.1 (List.mem_map.mpr ⟨_, h.mem, by rw [← q]; exact e.symm⟩)⟩
    · rcases ih nd.2 p q with e | ⟨e, k⟩
      · exact .inl e
      · exact .inr ⟨.tail _ e, k⟩
theorem wof_fst {c : Cx} {σ σ' : Sig} (h : σ'.map (·.1) = σ.map (·.1)) : wof c σ' = wof c σ := by unfold wof; rw [h]
theorem Rel.upd {c ρ σ σ' s} {a : Addr} {xs ys : List V} {vs : List Value} {h' : Heap} {tk : Nat} (R : Rel c ρ σ s) (u : UpdAt σ a xs ys σ') (hl : h'.PlainList a (List.toArray vs)) (hs : ∀ b o, b ≠ a → s.heap.get? b = some o → h'.get? b = some o)
    (hv : VRs c.w (wof c σ) s ys vs) (ht : @LE.le Nat _ s.toks tk) : Rel c ρ σ' { s with heap := h', toks := tk } ∧ KS c σ σ' s { s with heap := h', toks := tk } := by
  have ha : a ∈ σ.map (·.1) := List.mem_map.mpr ⟨_, u.mem, rfl⟩
  have hW : KeepW (wof c σ) s { s with heap := h', toks := tk } := ⟨fun b o hb e => hs b o (fun q => hb (q ▸ List.mem_append_left _ ha)) e, ht⟩
  have off : ∀ b ∈ c.own ++ c.out, b ≠ a := fun b hb q => (R.muts _ u.mem).2.1 (q ▸ hb)
  have ew := wof_fst (c := c) u.fst
  have hcell : ∀ {b v}, b ∈ c.env.cells.map (·.2) → s.heap.IsCell b v → h'.IsCell b v := fun hc hv => by
    obtain ⟨p, hp, e⟩ := List.mem_map.mp hc
    exact isCell_at hv fun ob e' => hs _ ob (off _ (e ▸ List.mem_append.mpr (R.ok.cin p hp))) e'
  refine ⟨⟨R.ok, fun b o e => hs b o (fun q => by rw [q, (R.muts _ u.mem).1] at e; cases e) (R.base b o e), fun b hb => ?_, ?_, fun p hp => ?_, fun p hp => ?_, u.fst ▸ R.nd, fun e => R.tk (Nat.le_zero.mp (e ▸ ht))⟩, .mk' _ _ ht, fun b o hb e => hs b o (fun q => hb (q ▸ List.mem_append_left _ ha)) e, fun p hp => .inl (u.fst ▸ List.mem_map_of_mem hp)⟩
  · rw [ew] at hb
    by_cases q : b = a
    · obtain ⟨n, e⟩ := hl; exact ⟨_, q ▸ e⟩
    · obtain ⟨o, e⟩ := R.al b hb; exact ⟨o, hs b o q e⟩
  · obtain ⟨m, hN, hl⟩ := R.loc
    refine ⟨m, Ns_at hN fun o e => hs _ o (off _ (List.mem_append_left _ R.ok.lown)) e, fun x X e => ?_⟩
    unfold Loc
    rw [ew]
    refine ⟨fun q => let ⟨v, a, b⟩ := (hl x X e).1 q; ⟨v, a, b.keeps hW⟩, fun q => ?_⟩
    obtain ⟨b, v, d, f, r⟩ := (hl x X e).2 q
    exact ⟨b, v, d, hcell (List.mem_map.mpr ⟨_, lookup_mem' d, rfl⟩) f, r.keeps hW⟩
  · obtain ⟨v, e⟩ := R.cel p hp; exact ⟨v, hcell (List.mem_map_of_mem hp) e⟩
  · unfold Mut
    rw [ew]
    rcases u.sep R.nd p hp with rfl | ⟨h1, h2⟩
    · exact ⟨(R.muts _ u.mem).1, (R.muts _ u.mem).2.1, vs, hl, hv.keeps hW⟩
    · obtain ⟨b1, b2, vs', b3, b4⟩ := R.muts p h1
      exact ⟨b1, b2, vs', b3.at fun o e => hs _ o h2 e, b4.keeps hW⟩
theorem Rel.alloc {c ρ σ s s'} {a : Addr} {xs : List V} {vs : List Value} (R : Rel c ρ σ s) (k : KeepE s s') (ha : s.heap.get? a = none) (hl : s'.heap.PlainList a (List.toArray vs)) (hv : VRs c.w (wof c σ) s' xs vs) (hav : VRs c.w (a :: wof c σ) s' xs vs) :
    Rel c ρ ((a, xs) :: σ) s' ∧ KS c σ ((a, xs) :: σ) s s' := by
  have hn : ∀ b ∈ wof c σ, b ≠ a := fun b hb q => by obtain ⟨o, e⟩ := R.al b hb; rw [q, ha] at e; cases e
  have lift : ∀ {X v}, VR c.w (wof c σ) s X v → VR c.w (wof c ((a, xs) :: σ)) s' X v := fun z => z.keep (k.keepW _) fun b hb ⟨o, e⟩ hm => by
    rcases List.mem_cons.mp hm with q | q
    · rw [q, ha] at e; cases e
    · exact hb q
  have lifts : ∀ {X v}, VRs c.w (wof c σ) s X v → VRs c.w (wof c ((a, xs) :: σ)) s' X v := fun z => z.keep (k.keepW _) fun b hb ⟨o, e⟩ hm => by
    rcases List.mem_cons.mp hm with q | q
    · rw [q, ha] at e; cases e
    · exact hb q
  have R' := R.keepE k
  refine ⟨⟨R.ok, R'.base, fun b hb => ?_, ?_, R'.cel, fun p hp => ?_, List.nodup_cons.mpr ⟨fun h => hn a (List.mem_append_left _ h) rfl, R.nd⟩, R'.tk⟩, k.1, fun b o uu e => k.2 b o e, fun p hp => ?_⟩
  · rcases List.mem_cons.mp hb with q | q
    · obtain ⟨n, e⟩ := hl; exact ⟨_, (show b = a from q) ▸ e⟩
    · exact R'.al b q
  · obtain ⟨m, hN, hl⟩ := R.loc
    refine ⟨m, hN.keeps k.2, fun x X e => ⟨fun q => let ⟨v, a, b⟩ := (hl x X e).1 q; ⟨v, a, lift b⟩, fun q => ?_⟩⟩
    obtain ⟨b, v, d, f, r⟩ := (hl x X e).2 q
    exact ⟨b, v, d, isCell_at f (fun o => k.2 _ o), lift r⟩
  · rcases List.mem_cons.mp hp with q | q
    · subst q
      refine ⟨?_, fun h => hn a (List.mem_append_right _ h) rfl, vs, hl, hav⟩
      cases e : c.h₀.get? a with
      | none => rfl
      | some o => have := R.base _ _ e; rw [ha] at this; cases this
    · obtain ⟨b1, b2, us, b3, b4⟩ := R.muts p q
      exact ⟨b1, b2, us, b3.at (fun o => k.2 _ o), lifts b4⟩
  · rcases List.mem_cons.mp hp with q | q
    · exact .inr (q ▸ ha)
    · exact .inl (List.mem_map_of_mem q)
theorem W1_assignM {c x px es lp pos ρ σ} {Q : Fl → Rho → Sig → Prop} (hk : Stb c x) (h : WL c lp es ρ σ (fun Xs => Xs.length ≤ sizeLine ∧ ∀ a, Q .next ((x, .mu a) :: ρ) ((a, Xs) :: σ)))
    (hs : swapsWith (.List es lp) (some (.Name x px)) pos.line c.env = pure false := by walk_at "r") : W1 c (.Assign [.Name x px] (.List es lp) pos) ρ σ Q := fun s R => by
  refine wpAny_Assign_Name (wpAny_List (goL (h s R) fun vs s₁ Xs hXs k₁ ⟨hl, h₁⟩ => ⟨hXs.length ▸ hl, ?_⟩)) hs
  have R₁ := R.keepE k₁
  have kp : KeepE s₁ { s₁ with heap := s₁.heap.push { cls := .type "list", data := .seq vs.toArray } } := .mk' (stays_push _ _) (Nat.le_refl _)
  have hf := fresh_none s₁.heap
  obtain ⟨R₂, K₂⟩ := R₁.alloc kp hf ⟨_, Heap.get?_push_size _ rfl⟩ (hXs.keeps (kp.keepW _)) (hXs.keep (kp.keepW _) fun b hb ⟨o, e⟩ hm => by
    rcases List.mem_cons.mp hm with q | q
    · rw [q, hf] at e; cases e
    · exact hb q)
  exact storeName_rel (X := .mu s₁.heap.objs.size) R₂ rfl hk fun s' R' k => ⟨.next, _, _, rfl, R', .trans (R.keepE k₁) k₁.ks (.trans R₂ K₂ k), h₁ _⟩
theorem plain_setItem {prog : Program} {w : World} {A : Around} {E : Value → Shared → Prop} {s : Shared} {l : Addr} {items : Array Value} {k : Int} {t : Tok} {v : Value} {Q : Unit → Shared → Prop} (hl : s.heap.PlainList l items)
    (h0 : 0 ≤ k) (hfit : k < 2 ^ 63) (hn : k < items.size) (hQ : ∀ h', h'.PlainList l (items.setIfInBounds k.toNat v) → Heap.SameBut l s.heap h' → Q () { s with heap := h' }) :
    wpAny (model prog w) A (setItem (.ref l) (.int k t) v) Q E s := by
  obtain ⟨n, ho⟩ := id hl
  have hli := hl.isList
  unfold setItem
  try with_reducible refine wpAny_holding ?_
  first | refine wpAny_bind (wpAny_pure ?_) | skip
  refine wpAny_bind (wpAny_sequenceKey hli.typeIs (by decide) ?_)
  refine wpAny_bind (wpAny_callSpecial?_slot (name := Str.ofString "__setitem__") hli.typeIs slot_list_setitem
    (wpAny_call_entry slot_list_setitem hli.typeIs entry_list_setitem ?_ (args_list_setitem _ _ _)))
  show wpAny _ _ (Builtin.List.listSubscript? (.int k t) >>= _) _ _ s
  refine wpAny_bind (wpAny_listSubscript_int (fitsIndex_of h0 hfit) ?_)
  clear hfit
  obtain ⟨j, rfl⟩ := Int.eq_ofNat_of_zero_le h0
  have hj : j < items.size := by omega
  have hx : items[j]? = some items[j] := Array.getElem?_eq_getElem hj
  show wpAny _ _ ((seqItemAt l j >>= fun r => pure (r.map (j, ·))) >>= _) _ _ s
  refine wpAny_bind (wpAny_bind (wpAny_seqItemAt ho rfl (wpAny_pure ?_)))
  rw [hx]
  show wpAny _ _ (setSeqItemAt l j v >>= _) _ _ s
  have hfin : (s.heap.update l (Obj.mapSeq (·.setIfInBounds j v))).PlainList l (items.setIfInBounds j v) := ⟨_, Heap.get?_update_self _ ho rfl⟩
  refine wpAny_bind (wpAny_setSeqItemAt ho rfl ?_)
  first
    | exact wpAny_bind (wpAny_pure (wpAny_pure ⟨.none, rfl, wpAny_pure (hQ _ hfin (Heap.SameBut.update ..))⟩))
    | exact wpAny_pure ⟨.none, rfl, wpAny_pure (hQ _ hfin (Heap.SameBut.update ..))⟩
theorem W1_setItem {c o i px e pos ρ σ} {Q : Fl → Rho → Sig → Prop}
    (h : WE c e ρ σ (fun V => WE c o ρ σ (fun X => WE c i ρ σ (fun I => ∃ (a : Addr) (xs : List Mine.V) (k : Nat) (σ' : Sig), X = .mu a ∧ I = .int k ∧ k < xs.length ∧ xs.length < 2 ^ 62 ∧ UpdAt σ a xs (xs.set k V) σ' ∧ Q .next ρ σ'))))
    (hs : swapsWith e (some (.Subscript o i px)) pos.line c.env = pure false := by walk_at "r") : W1 c (.Assign [.Subscript o i px] e pos) ρ σ Q := fun s R => by
  refine wpAny_Assign_Subscript (goV (h s R) fun v s₁ V hV k₁ h₁ => ?_) hs
  refine goV (h₁ s₁ (R.keepE k₁)) fun ov s₂ X hX k₂ h₂ => ?_
  refine goV (h₂ s₂ ((R.keepE k₁).keepE k₂)) fun iv s₃ I hI k₃ hpt => ?_
  obtain ⟨a, xs, k, σ', e1, e2, hlt, hbig, u, q⟩ := hpt
  subst e1; subst e2
  have R₃ := ((R.keepE k₁).keepE k₂).keepE k₃
  obtain ⟨t, rfl⟩ := hI
  have hX' : ov = .ref a := hX
  subst hX'
  obtain ⟨_, _, vs, hl, hr⟩ := R₃.muts _ u.mem
  have hlen := hr.length
  refine plain_setItem hl (by exact Int.natCast_nonneg _) (by exact Int.not_le.mp fun hn => absurd (Int.add_le_add (Int.ofNat_le.mpr (Nat.succ_le_of_lt hlt)) (Int.add_le_add (Int.ofNat_le.mpr (Nat.succ_le_of_lt hbig)) hn)) (by simp +arith)) (by simpa [hlen] using hlt) fun h' hl' hs' => ?_
  have hv' := hr.set k (hV.keeps ((k₂.trans k₃).keepW _))
  have e : (List.toArray vs).setIfInBounds k v = List.toArray (vs.set k v) := by simp
  rw [Int.toNat_natCast, e] at hl'
  obtain ⟨R₄, K₄⟩ := R₃.upd (tk := s₃.toks) u hl' (fun b o hb e => (hs'.2 b hb).trans e) hv' (Nat.le_refl _)
  exact ⟨.next, _, _, rfl, R₄, .trans R₃ ((k₁.trans k₂).trans k₃).ks K₄, q⟩
theorem W1_append {c o elt apos cpos pos ρ σ} {Q : Fl → Rho → Sig → Prop}
    (h : WE c o ρ σ (fun X => ∃ (a : Addr) (xs : List V), X = .mu a ∧ (a, xs) ∈ σ ∧ WE c elt ρ σ (fun Y => ∃ σ', xs.length ≤ sizeLine ∧ UpdAt σ a xs (xs ++ [Y]) σ' ∧ Q .next ρ σ')))
    (hbase : attributeBase o "append" c.env (eval o c.env) = eval o c.env := by walk_at "r")
    (hfew : ((backTo cpos (starEach [elt] c.env)).all (fun x => !x.1) && (backToKw cpos (keywordEach [] c.env)).all (fun x => x.1.isSome)
      && decide (([elt] : List Expr).length + ([] : List Keyword).length + (if ([] : List Keyword).isEmpty then 0 else 1) < 30)) = true := by walk_at "r")
    (hline : (apos.endLine == cpos.line) = true := by walk_at "r")
    (htrees : backTo cpos (starEach [elt] c.env) = [(false, eval elt c.env)] := by walk_at "r")
    (hi : interactive c.env = false := by walk_at "r") (hsw : swapsWith (.Call (.Attribute o "append" apos) [elt] [] cpos) none pos.line c.env = pure false := by walk_at "r") :
    W1 c (.Expr (.Call (.Attribute o "append" apos) [elt] [] cpos) pos) ρ σ Q := fun s R => by
  refine wpAny_Expr_any (wpAny_Call_append hbase hfew hline htrees (goV (h s R) fun ov s₁ X hX k₁ hpt => ?_)) hi hsw
  obtain ⟨a, xs, e1, hm, h₁⟩ := hpt
  subst e1
  have hX' : ov = .ref a := hX
  subst hX'
  have R₁ := R.keepE k₁
  obtain ⟨_, _, vs₁, ⟨n₁, hl₁⟩, _⟩ := R₁.muts _ hm
  refine ⟨a, _, rfl, ⟨_, n₁, hl₁, rfl, rfl, rfl⟩, ?_⟩
  refine goV (h₁ s₁ R₁) fun y s₂ Y hY k₂ hpt => ?_
  obtain ⟨σ', hsz, u, q⟩ := hpt
  have R₂ := R₁.keepE k₂
  obtain ⟨_, _, vs, hl, hr⟩ := R₂.muts _ hm
  refine wpAny_list_append_plain hl (fun h' hl' hs' => ?_) (by rw [List.size_toArray, hr.length]; exact hsz)
  have e : (List.toArray vs).push y = List.toArray (vs ++ [y]) := by simp
  rw [e] at hl'
  obtain ⟨R₃, K₃⟩ := R₂.upd (tk := s₂.toks) u hl' (fun b o hb e => (hs'.2 b hb).trans e) (VRs.append hr (VRs.one hY)) (Nat.le_refl _)
  exact ⟨.next, _, _, rfl, R₃, .trans R₂ (k₁.trans k₂).ks K₃, q⟩
noncomputable def Frz (a : Addr) (xs : List V) : V → V → Prop := fun X X' => X' = X ∨ (X = .mu a ∧ X' = .list xs) ∨ (X = .mh a ∧ X' = .hdr xs) ∨ (X = .mh a ∧ X' = .hdrP xs)
theorem Rel.freeze {c ρ ρ' σ s} {a : Addr} {xs : List V} (R : Rel c ρ ((a, xs) :: σ) s) (hρ : ∀ x X', ρ'.lookup x = some X' → ∃ X, ρ.lookup x = some X ∧ Frz a xs X X') : Rel c ρ' σ s ∧ KS c ((a, xs) :: σ) σ s s := by
  obtain ⟨_, hno, vs, hl, hv⟩ := R.muts _ (.head _)
  have hnd := List.nodup_cons.mp R.nd
  have na : a ∉ wof c σ := fun h => (List.mem_append.mp h).elim hnd.1 hno
  have less : ∀ b, b ∈ wof c σ → b ∈ wof c ((a, xs) :: σ) := fun b h => .tail _ h
  have conv : ∀ {X X' v}, Frz a xs X X' → VR c.w (wof c ((a, xs) :: σ)) s X v → VR c.w (wof c σ) s X' v := fun f z => by
    rcases f with rfl | ⟨rfl, rfl⟩ | ⟨rfl, rfl⟩ | ⟨rfl, rfl⟩
    · exact z.less less
    · exact ⟨a, vs, z, na, hl.isList, hv.less less⟩
    · obtain ⟨x, e, hx⟩ := z
      refine ⟨x, a, vs, e, ?_, na, hl.isList, hv.less less⟩
      exact hx.keep (.refl _ _) fun b hb uu h => hb (less b h)
    · obtain ⟨x, e, hx⟩ := z
      refine ⟨x, a, vs, e, ?_, na, hl, hv.less less⟩
      exact hx.keep (.refl _ _) fun b hb uu h => hb (less b h)
  refine ⟨⟨R.ok, R.base, fun b hb => R.al b (less b hb), ?_, R.cel, fun p hp => ?_, hnd.2, R.tk⟩, .refl s, fun uu uu uu e => e, fun p hp => .inl (List.mem_map_of_mem (.tail _ hp))⟩
  · obtain ⟨m, hN, hL⟩ := R.loc
    refine ⟨m, hN, fun x X' e => ?_⟩
    obtain ⟨X, e', f⟩ := hρ x X' e
    exact ⟨fun q => let ⟨v, a, b⟩ := (hL x X e').1 q; ⟨v, a, conv f b⟩, fun q => let ⟨b, v, d, g, r⟩ := (hL x X e').2 q; ⟨b, v, d, g, conv f r⟩⟩
  · obtain ⟨b1, b2, us, b3, b4⟩ := R.muts p (.tail _ hp)
    exact ⟨b1, b2, us, b3, b4.less less⟩
inductive FrzR (a : Addr) (xs : List V) (ρ : Rho) : Rho → Prop where
  | nil : FrzR a xs ρ []
  | cons {x X X' ρ'} : ρ.lookup x = some X → Frz a xs X X' → FrzR a xs ρ ρ' → FrzR a xs ρ ((x, X') :: ρ')
theorem FrzR.at {a xs ρ ρ'} (h : FrzR a xs ρ ρ') : ∀ x X', ρ'.lookup x = some X' → ∃ X, ρ.lookup x = some X ∧ Frz a xs X X' := by
  induction h with
  | nil => intro _ _ e; cases e
  | @cons x0 _ _ _ h1 h2 _ ih =>
    intro y Y e
    rw [lookup_head] at e
    by_cases q : y = x0
    · subst q; rw [if_pos rfl] at e; cases e; exact ⟨_, h1, h2⟩
    · rw [if_neg q] at e; exact ih y Y e
theorem WS_freeze {c b ρ ρ' σ a xs} {Q : Fl → Rho → Sig → Prop} (f : FrzR a xs ρ ρ') (h : WS c b ρ' σ Q) : WS c b ρ ((a, xs) :: σ) Q := fun s R => by
  obtain ⟨R', K⟩ := R.freeze f.at
  exact goX (h s R') fun fl s' F r g a b d q => ⟨F, r, g, a, b, .trans R' K d, q⟩
theorem WAs.less {c t X ρ ρ₁ σ} {Q : Rho → Prop} (h : WAs c t X ρ₁ σ Q) (k : sub ρ₁ ρ) : WAs c t X ρ σ Q := fun s v R hX => h s v (R.less k) hX
end
section
open PySem PySem.W PySem.Calls PyProof PyProof.Rows PySem.SeqAt
noncomputable def IsH (X : V) : Prop := (∃ l, X = .mh l) ∨ ∃ xs, X = .hdr xs
theorem IsH.inst {w W s X v} (h : IsH X) (z : VR w W s X v) : ∃ x l, v = .ref x ∧ HdrAt w W s.heap x l := by
  rcases h with ⟨l, rfl⟩ | ⟨xs, rfl⟩
  · obtain ⟨x, e, hx⟩ := z; exact ⟨x, l, e, hx⟩
  · obtain ⟨x, l, vs, e, hx, _⟩ := z; exact ⟨x, l, e, hx⟩
theorem HdrAt.inst {w W h x l} (z : HdrAt w W h x l) : ∃ dx n t, InstAt h x (instObj HC dx) HC (some (dictOf [⟨PyData.keyHash w.params (Str.ofString "_headers"), .str (Str.ofString "_headers") t, .ref l⟩] n)) := by
  obtain ⟨_, dx, n, t, _, a, b⟩ := z
  exact ⟨dx, n, t, a, rfl, rfl, b⟩
theorem get_rows {c ρ σ s X v} {Q : V → Prop} (R : Rel c ρ σ s) (z : VR c.w (wof c σ) s X v) (h : (∃ l, X = .mh l ∧ Q (.mu l)) ∨ ∃ xs, X = .hdr xs ∧ Q (.list xs)) :
    wpAny (model PG c.w) c.A (getAttr v "_headers" true) (OV c σ s Q) (fun uu uu => False) s := by
  have key : ∀ {x l : Addr} {Q' : Value → Shared → Prop}, HdrAt c.w (wof c σ) s.heap x l → Q' (.ref l) { s with toks := s.toks + 1 } → wpAny (model PG c.w) c.A (getAttr (.ref x) "_headers" true) Q' (fun uu uu => False) s := by
    intro x l Q' hx hq
    obtain ⟨dx, n, t, I⟩ := hx.inst
    refine get_value R.stat.K I (v := .ref l) (by kernel_rfl) ?_ rfl hq
    exact findObj_own (attr := none) (by kernel_rfl) (by kernel_rfl) (by kernel_rfl) rfl
  have kt : KeepE s { s with toks := s.toks + 1 } := .mk' (.refl _) (Nat.le_succ _)
  rcases h with ⟨l, rfl, q⟩ | ⟨xs, rfl, q⟩
  · obtain ⟨x, rfl, hx⟩ := z
    exact key hx ⟨.mu l, rfl, kt, q⟩
  · obtain ⟨x, l, vs, rfl, hx, hl, hli, hv⟩ := z
    exact key hx ⟨.list xs, ⟨l, vs, rfl, hl, hli, hv.keeps (kt.keepW _)⟩, kt, q⟩
theorem WE_rows {c o pos ρ σ} {Q : V → Prop} (h : WE c o ρ σ (fun X => (∃ l, X = .mh l ∧ Q (.mu l)) ∨ ∃ xs, X = .hdr xs ∧ Q (.list xs)))
    (he : eval (.Attribute o "_headers" pos) c.env = (do
      let v ← eval o c.env
      standAt pos.atName
      let r ← holding [v] (getAttr v "_headers" true)
      letTemporaryGo o v r
      pure r) := by walk_at "r") : WE c (.Attribute o "_headers" pos) ρ σ Q := fun s R => by
  refine Attribute_any_ (goV (h s R) fun v s₁ X hX k₁ q => ?_) he
  exact goV (get_rows (R.keepE k₁) hX q) fun u s₂ Z hZ k₂ q => ⟨Z, hZ, k₁.trans k₂, q⟩
structure MethAt (name : Str) (f : Addr) : Prop where
  find : ∀ w, findIn (Kf w) (.ref HC) name = some (some (.ref f))
  ty : ∀ w, typeIn (Kf w) (.ref f) = some (.type "function")
  no : (Str.ofString "_headers" == name) = false
  keep : ∀ w, keepIn (Kf w) (.ref f) = true
theorem get_meth {c ρ σ s X v name f} {pl : Sem Bool} {Q : Value × List Value → Shared → Prop} {E : Value → Shared → Prop} (R : Rel c ρ σ s) (z : VR c.w (wof c σ) s X v) (hX : IsH X) (m : MethAt name f) (h : Q (.ref f, [v]) s) :
    wpAny (model PG c.w) c.A (getMethod v name pl) Q E s := by
  obtain ⟨x, l, rfl, hx⟩ := hX.inst z
  obtain ⟨dx, n, t, I⟩ := hx.inst
  refine method_fn R.stat.K I (by kernel_rfl) (by kernel_rfl) (m.find _) (m.ty _) ?_ h
  show (lookIn name (dictOf _ n)).map _ = _
  rw [lookIn_dict]
  have : getL name [⟨PyData.keyHash c.w.params (Str.ofString "_headers"), .str (Str.ofString "_headers") t, .ref l⟩] = some none := by
    have e : (Value.str (Str.ofString "_headers") t).isStr name = false := m.no
    unfold getL
    rw [List.find?_cons, e]
    rfl
  rw [this]; rfl
theorem WE_meth {c o apos pos es ρ σ name f} {Q : V → Prop} (m : MethAt name f)
    (h : WE c o ρ σ (fun X => IsH X ∧ WL c pos es ρ σ (fun Xs => WC c (.ref f) [] (X :: Xs) ρ σ Q)))
    {pl : Sem Bool} (he : eval (.Call (.Attribute o name apos) es [] pos) c.env = (do
      let ov ← eval o c.env
      standAt apos.atName
      let (f, first) ← holding [ov] (getMethod ov name pl)
      callWith pos f first (backTo pos (starEach es c.env)) (backToKw pos (keywordEach [] c.env))) := by walk_at "r")
    (hplain : (backTo pos (starEach es c.env)).any (·.1) = false := by walk_at "r") : WE c (.Call (.Attribute o name apos) es [] pos) ρ σ Q := fun s R => by
  refine methodCall_KW (goV (h s R) fun v s₁ X hX k₁ hpt => ?_) he
  obtain ⟨hi, h₁⟩ := hpt
  have R₁ := R.keepE k₁
  refine get_meth R₁ hX hi m ?_
  refine callWith_gen (first := [v]) (Kp.stat m.keep) R₁ hplain (goL (h₁ s₁ R₁) fun vs s₂ Xs hXs k₂ h₂ => ?_)
  refine ⟨(R₁.keepE k₂).stat.K, goV (h₂ s₂ (v :: vs) (R₁.keepE k₂) ⟨v, vs, rfl, hX.keeps (k₂.keepW _), hXs⟩) fun u s₃ Z hZ k₃ q => ⟨Z, hZ, (k₁.trans k₂).trans k₃, q⟩⟩
theorem WE_conv {c o apos pos e kp bk bp ρ σ} {b : Bool} {Q : V → Prop}
    (m : MethAt "_convert_string_type" 83)
    (h : WE c o ρ σ (fun X => IsH X ∧ WE c e ρ σ (fun Y => ∀ s v y, Rel c ρ σ s → VR c.w (wof c σ) s X v → VR c.w (wof c σ) s Y y →
      wpAny (model PG c.w) c.A (call (.ref 83) [v, y] [("name", .bool b)]) (OV c σ s Q) (fun uu uu => False) s)))
    {pl : Sem Bool} (he : eval (.Call (.Attribute o "_convert_string_type" apos) [e] [⟨some "name", .Constant (.bool b) bk bp, kp⟩] pos) c.env = (do
      let ov ← eval o c.env
      standAt apos.atName
      let (f, first) ← holding [ov] (getMethod ov "_convert_string_type" pl)
      callWith pos f first (backTo pos (starEach [e] c.env)) (backToKw pos (keywordEach [⟨some "name", .Constant (.bool b) bk bp, kp⟩] c.env))) := by walk_at "r")
    (hst : starEach [e] c.env = [(false, eval e c.env)] := by walk_at "r") : WE c (.Call (.Attribute o "_convert_string_type" apos) [e] [⟨some "name", .Constant (.bool b) bk bp, kp⟩] pos) ρ σ Q := fun s R => by
  refine methodCall_KW (goV (h s R) fun v s₁ X hX k₁ hpt => ?_) he
  obtain ⟨hi, h₁⟩ := hpt
  have R₁ := R.keepE k₁
  refine get_meth R₁ hX hi m ?_
  refine callWith_KW (h₀ := s₁.heap) R₁.stat.K (m.keep _) rfl ?_ (by rw [hst]; rfl) (by rw [hst]; rfl)
  rw [hst]
  refine spliced_cons (goV (h₁ s₁ R₁) fun y s₂ Y hY k₂ h₂ => spliced_nil ?_)
  have R₂ := R₁.keepE k₂
  refine wpAny_evalAll_cons ?_
  show wpAny _ _ (eval (Expr.Constant (Const.bool b) bk bp) c.env >>= fun v => standAt pos >>= fun uu => pure v) _ _ _
  refine wpAny_bind (wpAny_Constant_bool (wpAny_bind (wpAny_standAt (wpAny_pure (wpAny_evalAll_nil ⟨R₂.stat.K, ?_⟩)))))
  exact goV (h₂ s₂ v y R₂ (hX.keeps (k₂.keepW _)) hY) fun u s₃ Z hZ k₃ q => ⟨Z, hZ, (k₁.trans k₂).trans k₃, q⟩
theorem mConv : MethAt "_convert_string_type" 83 := ⟨fun w => by kernel_rfl, fun w => by kernel_rfl, by decide, fun w => by kernel_rfl⟩
theorem mGetAll : MethAt "get_all" 121 := ⟨fun w => by kernel_rfl, fun w => by kernel_rfl, by decide, fun w => by kernel_rfl⟩
theorem mKeys : MethAt "keys" 134 := ⟨fun w => by kernel_rfl, fun w => by kernel_rfl, by decide, fun w => by kernel_rfl⟩
theorem mAdd : MethAt "add_header" 179 := ⟨fun w => by kernel_rfl, fun w => by kernel_rfl, by decide, fun w => by kernel_rfl⟩
end
section
open PySem PySem.W PySem.Calls PyProof PyProof.Rows PySem.SeqAt
theorem plainAttrs_pat : PlainAttrs "re.Pattern" :=
  ⟨⟨"object.__getattribute__", by rw [typeLookup_type, builtinLookup_eq_fast]; kernel_rfl, by decide +kernel⟩, by rw [typeLookup_type, builtinLookup_eq_fast]; kernel_rfl⟩
theorem owner_pat : Manifest.owners.lookup (String.ofList ("re.Pattern".toList.reverse).reverse) = some Manifest.sig_re_Pattern := by kernel_rfl
theorem slot_search : Slot "re.Pattern" "search" "re.Pattern.search" :=
  .of (owner := "re.Pattern") (n := "search") (by rw [typeLookup_type, builtinLookup_eq_fast]; kernel_rfl) (by decide +kernel) (by decide +kernel) (by decide +kernel)
    (by first | exact .inl (by decide +kernel) | exact .inr (by decide +kernel)) (by rw [isSubtype_type]; kernel_rfl)
theorem type_search : typeOf (.builtin "re.Pattern.search") = pure (.type "method_descriptor") := by show builtinType _ = _; rw [builtinType_eq_fast]; kernel_rfl
theorem entry_search : entryFor table "re.Pattern.search" = some Builtin.«re.Pattern.search» := entryFor_of_tree (by kernel_rfl)
theorem slot_sub : Slot "re.Pattern" "sub" "re.Pattern.sub" :=
  .of (owner := "re.Pattern") (n := "sub") (by rw [typeLookup_type, builtinLookup_eq_fast]; kernel_rfl) (by decide +kernel) (by decide +kernel) (by decide +kernel)
    (by first | exact .inl (by decide +kernel) | exact .inr (by decide +kernel)) (by rw [isSubtype_type]; kernel_rfl)
theorem type_sub : typeOf (.builtin "re.Pattern.sub") = pure (.type "method_descriptor") := by show builtinType _ = _; rw [builtinType_eq_fast]; kernel_rfl
theorem entry_sub : entryFor table "re.Pattern.sub" = some Builtin.«re.Pattern.sub» := entryFor_of_tree (by kernel_rfl)
theorem entry_sub_loop : entryFor table "re.Pattern.sub.loop" = some Builtin.«re.Pattern.sub.loop» := entryFor_of_tree (by kernel_rfl)
theorem args_search (a b : Value) : argsOk "re.Pattern.search" ⟨[a, b], []⟩ := by
  unfold argsOk; rw [signature?_of (id := "re.Pattern.search") (n := "search".toList.reverse) (o := "re.Pattern".toList.reverse) (by kernel_rfl) owner_pat]; kernel_rfl
theorem args_sub (a b d : Value) : argsOk "re.Pattern.sub" ⟨[a, b, d], []⟩ := by
  unfold argsOk; rw [signature?_of (id := "re.Pattern.sub") (n := "sub".toList.reverse) (o := "re.Pattern".toList.reverse) (by kernel_rfl) owner_pat]; kernel_rfl
end
section
open PySem PySem.W PySem.Calls PyProof PyProof.Rows PySem.SeqAt
open PySem.Builtin.Re
noncomputable def it : Nat → Sre.M → Sre.M
  | 0, m => m
  | n + 1, m => it n m.step
theorem step_done {m : Sre.M} (h : m.outcome.isSome = true) : m.step = m := by unfold Sre.M.step; rw [if_pos h]
theorem it_done {m : Sre.M} (h : m.outcome.isSome = true) : ∀ n, it n m = m
  | 0 => rfl
  | n + 1 => by unfold it; rw [step_done h]; exact it_done h n
theorem it_add : ∀ (a b : Nat) (m : Sre.M), it (a + b) m = it b (it a m)
  | 0, b, m => by rw [Nat.zero_add]; rfl
  | a + 1, b, m => by rw [Nat.succ_add]; exact it_add a b m.step
theorem it_more {m : Sre.M} {a b : Nat} (h : (it a m).outcome.isSome = true) (hab : a ≤ b) : it b m = it a m := by
  obtain ⟨d, rfl⟩ := Nat.exists_eq_add_of_le hab
  rw [it_add, it_done h]
theorem runFor_it : ∀ (n : Nat) (m : Sre.M), m.runFor n = it n m
  | 0, m => rfl
  | n + 1, m => by
    unfold Sre.M.runFor
    split
    · rename_i h; rw [it_done h]
    · exact runFor_it n m.step
section
variable {M : Model} {A : Around} {E : Value → Shared → Prop} {s : Shared}
theorem wpAny_reDrive {Q : Sre.M → Shared → Prop} : ∀ (j turns : Nat) (m : Sre.M), j < turns → (it (4 * (j + 1)) m).outcome.isSome = true → Q (it (4 * (j + 1)) m) s → wpAny M A (reDrive turns m) Q E s
  | j, 0, m, hj, _, _ => by exact (Nat.not_lt_zero _ hj).elim
  | j, t + 1, m, hj, ho, hq => by
    unfold reDrive
    have e4 : reTurnSteps = 4 := rfl
    simp only [e4, runFor_it]
    by_cases h : (it 4 m).outcome.isSome = true
    · rw [if_pos h]
      rw [it_more h (by exact Nat.le_add_left _ _)] at hq
      exact wpAny_pure hq
    · rw [if_neg h]
      cases j with
      | zero => exact absurd ho h
      | succ j =>
        have e : 4 * (j + 1 + 1) = 4 + 4 * (j + 1) := by exact Nat.add_comm _ _
        rw [e, it_add] at ho hq
        exact wpAny_bind (wpAny_rule (wpAny_reDrive j t (it 4 m) (by exact Nat.lt_of_succ_lt_succ hj) ho hq))
theorem wpAny_reRun {Q : Option Sre.M → Shared → Prop} {m : Sre.M} {n : Nat} {yes : Bool} (hn : n ≤ 2 ^ 60) (ho : (it n m).outcome = some (if yes then .matched else .failed)) (hq : Q (if yes then some (it n m) else none) s) :
    wpAny M A (reRunToEnd m) Q E s := by
  have hs : (it n m).outcome.isSome = true := by rw [ho]; rfl
  have e : it (4 * (n + 1)) m = it n m := it_more hs (by simp +arith)
  unfold reRunToEnd
  refine wpAny_bind (wpAny_reDrive n (2 ^ 64) m (by exact Nat.lt_of_le_of_lt hn (by decide)) (by rw [e]; exact hs) ?_)
  rw [e]
  refine wpAny_bind (wpAny_mono (wpAny_forIn_list _ (fun uu uu s' => s' = s) (fun uu s' => s' = s) ?_ (fun b s' hs' => hs') _ _ rfl) (fun uu s' hs' => ?_) fun uu uu x => x)
  · intro x rest b s' hs'
    subst hs'
    split
    · exact wpAny_bind (wpAny_rule (wpAny_pure rfl))
    · exact wpAny_pure rfl
  · subst hs'
    rw [ho]
    cases yes with
    | true => exact wpAny_pure hq
    | false => exact wpAny_pure hq
end
structure PatAt (P : Addr) (code : List Nat) : Prop where
  at_ : ∀ w, ∃ p f T, (Kf w).lookup P = some { cls := .type "re.Pattern", data := .fields #[p, f, .int 0 0, .none, .none, .ref T, .int 0 0] } ∧
    (Kf w).lookup T = some { cls := .type "tuple", data := .seq (code.map fun n : Nat => Value.int n 0).toArray 0 }
noncomputable def codeN : List Nat := [14, 10, 4, 1, 1, 22, 0, 31, 16, 127, 0, 13, 7, 22, 0, 31, 16, 127, 0, 1]
noncomputable def codeV : List Nat := [14, 14, 4, 1, 1, 9, 4294966783, 0, 0, 2147483648, 0, 0, 0, 0, 0, 13, 11, 9, 4294966783, 0, 0, 2147483648, 0, 0, 0, 0, 0, 1]
noncomputable def code1 : List Nat := [14, 4, 0, 1, 1, 6, 1, 16, 46, 1]
noncomputable def code2 : List Nat := [14, 9, 4, 1, 2, 16, 10, 16, 13, 0, 7, 7, 16, 13, 16, 10, 15, 18, 5, 16, 10, 15, 13, 11, 16, 13, 5, 5, 0, 16, 10, 1, 15, 2, 0, 1]
theorem patN : PatAt 48 codeN := ⟨fun w => ⟨_, _, _, rfl, rfl⟩⟩
theorem patV : PatAt 53 codeV := ⟨fun w => ⟨_, _, _, rfl, rfl⟩⟩
theorem pat1 : PatAt 205 code1 := ⟨fun w => ⟨_, _, _, rfl, rfl⟩⟩
theorem pat2 : PatAt 210 code2 := ⟨fun w => ⟨_, _, _, rfl, rfl⟩⟩
theorem rawItems_code {M : Model} {A : Around} {E : Value → Shared → Prop} {s : Shared} {T : Addr} {code : List Nat} {Q : Array Int → Shared → Prop} (hT : s.heap.get? T = some { cls := .type "tuple", data := .seq (code.map fun n : Nat => Value.int n 0).toArray 0 })
    (h : Q (code.map fun n : Nat => (n : Int)).toArray s) : wpAny M A (reRawItems (.ref T)) Q E s := by
  unfold reRawItems
  refine wpAny_bind (wpAny_seqItems hT rfl (wpAny_pure ?_))
  have e : (((some (code.map fun n : Nat => Value.int n 0).toArray).getD #[]).map reRawOf) = (code.map fun n : Nat => (n : Int)).toArray := by
    simp [reRawOf, Function.comp_def]
  rw [e]; exact h
theorem wpAny_target {c : Cx} {ρ σ} {s : Shared} {P : Addr} {code : List Nat} {x : Str} {t : Tok} {A : Around} {E : Value → Shared → Prop} {Q : ReTarget → Shared → Prop} (R : Rel c ρ σ s) (hp : PatAt P code) (hsz : x.cps.size ≤ 2 ^ 60)
    (h : Q { pattern := .ref P, string := .str x t, code := code.toArray, text := x.cps, kind := 0, groups := 0, pos := 0, lim := x.cps.size } s) :
    wpAny (model PG c.w) A (reTarget "re.Pattern.search" "search" ⟨[.ref P, .str x t], []⟩) Q E s := by
  obtain ⟨p, f, T, h1, h2⟩ := hp.at_ c.w
  have hP := R.stat.K _ _ h1
  have hT := R.stat.K _ _ h2
  have e : reNamed "re.Pattern.search" "search" ["string", "pos", "endpos"] 1 [.str x t] [] = pure [some (.str x t), none, none] := by rfl
  unfold reTarget
  dsimp only
  refine wpAny_bind (wpAny_of_eq e ?_)
  dsimp only
  refine wpAny_bind (wpAny_pure ?_)
  refine wpAny_bind (wpAny_pure ?_)
  refine wpAny_bind (wpAny_fieldsOf hP rfl ?_)
  refine wpAny_bind (m := reTextOf (.str x t)) (wpAny_of_eq (show reTextOf (.str x t) = pure (x.cps, 0) from rfl) ?_)
  dsimp only
  refine wpAny_bind (m := reNoCollectionInside (.str x t) 0) (wpAny_of_eq (show reNoCollectionInside (.str x t) 0 = pure () from rfl) ?_)
  refine wpAny_bind (rawItems_code hT (wpAny_pure ?_))
  have e1 : Array.map (fun x => x.toNat) (code.map fun n : Nat => (n : Int)).toArray = code.toArray := by simp [Function.comp_def]
  have e2 : min ((2 : Int) ^ 63 - 1).toNat x.cps.size = x.cps.size := by
    have : ((2 : Int) ^ 63 - 1).toNat = 2 ^ 63 - 1 := by decide
    (clear this e1 e hT hP h2 h1 h hp R; lia)
  have e3 : min (0 : Int).toNat x.cps.size = 0 := by simp
  rw [e1, e2, e3]
  exact h
noncomputable def NoFind (code : List Nat) (x : Str) : Prop := ∃ n, n ≤ 2 ^ 60 ∧ (it n (Sre.forSearch code.toArray x.cps 0 0 x.cps.size false)).outcome = some .failed
theorem search_none {c : Cx} {ρ σ} {s : Shared} {P : Addr} {code : List Nat} {x : Str} {t : Tok} {E : Value → Shared → Prop} {Q : Value → Shared → Prop} (R : Rel c ρ σ s) (hp : PatAt P code) (hsz : x.cps.size ≤ 2 ^ 60)
    (hf : NoFind code x) (h : Q .none s) : wpAny (model PG c.w) c.A (call (.builtin "re.Pattern.search") [.ref P, .str x t]) Q E s := by
  obtain ⟨p, f, T, h1, h2⟩ := hp.at_ c.w
  obtain ⟨n, hn, ho⟩ := hf
  refine wpAny_call_entry slot_search ⟨_, R.stat.K _ _ h1, rfl⟩ entry_search ?_ (args_search _ _)
  unfold Builtin.«re.Pattern.search»
  refine wpAny_bind (wpAny_target R hp hsz ?_)
  unfold reAnswer
  exact wpAny_bind (wpAny_reRun (yes := false) hn ho (wpAny_pure ⟨_, rfl, h⟩))
theorem WE_search {c o e apos pos ρ σ} {Q : V → Prop} {P : Addr} {code : List Nat} (hp : PatAt P code)
    (h : WE c o ρ σ (fun X => X = .stat (.ref P) ∧ WE c e ρ σ (fun Y => ∃ x, SV Y x ∧ x.cps.size ≤ 2 ^ 60 ∧ NoFind code x ∧ Q .none)))
    (hbase : attributeBase o "search" c.env (eval o c.env) = eval o c.env := by walk_at "r")
    (hfew : ((backTo pos (starEach [e] c.env)).all (fun x => !x.1) && (backToKw pos (keywordEach [] c.env)).all (fun x => x.1.isSome)
      && decide (([e] : List Expr).length + ([] : List Keyword).length + (if ([] : List Keyword).isEmpty then 0 else 1) < 30)) = true := by walk_at "r")
    (hline : (apos.endLine == pos.line) = true := by walk_at "r")
    (htrees : backTo pos (starEach [e] c.env) = [(false, eval e c.env)] := by walk_at "r") : WE c (.Call (.Attribute o "search" apos) [e] [] pos) ρ σ Q := fun s R => by
  refine wpAny_Call_method hbase hfew hline plainAttrs_pat slot_search type_search (goV (h s R) fun ov s₁ X hX k₁ hpt => ?_)
  obtain ⟨e1, h₁⟩ := hpt
  subst e1
  have hX' : ov = .ref P := hX
  subst hX'
  have R₁ := R.keepE k₁
  obtain ⟨p, f, T, h1, h2⟩ := hp.at_ c.w
  have hP := R₁.stat.K _ _ h1
  refine ⟨⟨_, hP, rfl⟩, fun a ea => by cases ea; exact ⟨_, hP, rfl⟩, ?_⟩
  rw [htrees]
  refine Calls.callWith_builtin rfl (Calls.evalArgs_plain (Calls.spliced_cons (goV (h₁ s₁ R₁) fun y s₂ Y hY k₂ ⟨x, hx, hsz, hf, q⟩ => Calls.spliced_nil ?_)))
  obtain ⟨t, rfl⟩ := hx.is hY
  exact search_none (R₁.keepE k₂) hp hsz hf ⟨.none, rfl, k₁.trans k₂, q⟩
noncomputable def PlainT (x : Str) : Prop := ∀ c ∈ x.cps.toList, 32 ≤ c ∧ c < 127
theorem inSet_N (c : Nat) (h1 : 32 ≤ c) (h2 : c < 127) (seen : Sre.Seen) : ∃ seen', Sre.inSet codeN.toArray c codeN.toArray.size 5 true seen = .ok (false, seen') := by
  have e1 : ¬ ((0 ≤ c && c ≤ 31) = true) := by simp; assumption
  have e2 : ¬ ((c == 127) = true) := by simp; exact Nat.ne_of_lt h2
  refine ⟨((seen.add 22).add 16).add 0, ?_⟩
  show (if (0 ≤ c && c ≤ 31) = true then Except.ok (true, seen.add 22) else if (c == 127) = true then Except.ok (true, (seen.add 22).add 16) else Except.ok (!true, ((seen.add 22).add 16).add 0)) = _
  rw [if_neg e1, if_neg e2]
  rfl
theorem inSet_V (c : Nat) (h1 : 32 ≤ c) (h2 : c < 127) (seen : Sre.Seen) : ∃ seen', Sre.inSet codeV.toArray c codeV.toArray.size 5 true seen = .ok (false, seen') := by
  have all : ∀ c < 127, 32 ≤ c → (c < 256 && (codeV.toArray.getD (5 + (1 + c / 32)) 0).testBit (c % 32)) = false := by decide
  have e1 : ¬ ((c < 256 && (codeV.toArray.getD (5 + (1 + c / 32)) 0).testBit (c % 32)) = true) := by rw [all c h2 h1]; decide
  refine ⟨(seen.add 9).add 0, ?_⟩
  show (if (c < 256 && (codeV.toArray.getD (5 + (1 + c / 32)) 0).testBit (c % 32)) = true then Except.ok (true, seen.add 9) else Except.ok (!true, (seen.add 9).add 0)) = _
  rw [if_neg e1]
  rfl
theorem admitted_none (m : Sre.M) (hm : ∀ s, s < m.lim → ∀ seen, ∃ seen', Sre.inSet m.code (m.text.getD s 0) m.code.size 5 true seen = .ok (false, seen')) : ∀ (fuel s : Nat) (seen : Sre.Seen), ∃ seen', m.admitted fuel s seen = .ok (none, seen')
  | 0, s, seen => ⟨seen, rfl⟩
  | fuel + 1, s, seen => by
    unfold Sre.M.admitted
    split
    · exact ⟨_, rfl⟩
    · rename_i h
      obtain ⟨seen', e⟩ := hm s (by exact (Nat.not_le.mp h)) seen
      rw [e]
      exact admitted_none m hm fuel (s + 1) seen'
theorem noFind_of {code : List Nat} {x : Str} (hc : (Sre.header code.toArray).1 = 1) (hf : ∀ m : Sre.M, m.code = code.toArray → m.hasFirstSet = true)
    (hi : ∀ c, 32 ≤ c → c < 127 → ∀ seen, ∃ seen', Sre.inSet code.toArray c code.toArray.size 5 true seen = .ok (false, seen')) (hx : PlainT x) : NoFind code x := by
  refine ⟨1, by decide, ?_⟩
  have fin : ∀ m : Sre.M, m.frames = [] → m.outcome = none → (it 1 (m.say false)).outcome = some .failed := fun m h1 h2 => by
    unfold it it Sre.M.step
    simp [Sre.M.say, h1, h2]
  unfold Sre.forSearch
  simp only [hc]
  split
  · exact fin _ rfl rfl
  · unfold Sre.M.attemptFrom
    rw [hf _ rfl]
    simp only [Bool.not_true, Bool.false_eq_true, if_false]
    generalize hA : Sre.M.admitted _ _ _ _ = r
    have key : ∃ seen', r = .ok (none, seen') := by
      rw [← hA]
      refine admitted_none _ (fun s hs seen => ?_) _ _ _
      have hs' : s < x.cps.size := hs
      have hmem : x.cps.getD s 0 ∈ x.cps.toList := by
        rw [Array.getD_eq_getD_getElem?, Array.getElem?_eq_getElem hs', Option.getD_some, Array.mem_toList_iff]; exact Array.getElem_mem hs'
      exact hi _ (hx _ hmem).1 (hx _ hmem).2 seen
    obtain ⟨seen', rfl⟩ := key
    exact fin _ rfl rfl
theorem noFind_N {x : Str} (hx : PlainT x) : NoFind codeN x := noFind_of rfl (fun m hm => by unfold Sre.M.hasFirstSet; rw [hm]; rfl) inSet_N hx
theorem noFind_V {x : Str} (hx : PlainT x) : NoFind codeV x := noFind_of rfl (fun m hm => by unfold Sre.M.hasFirstSet; rw [hm]; rfl) inSet_V hx
theorem WC_typeS {c ρ σ X x} {Q : V → Prop} (hX : SV X x) (h : Q (.stat (.type "str"))) : WC c (.type "type") [] [X] ρ σ Q := by
  rintro s _ R ⟨v, _, rfl, z, rfl⟩
  obtain ⟨t, rfl⟩ := hX.is z
  exact call_type_of (typeIs_str _ _ _) (by decide) ⟨.stat _, rfl, .refl _, h⟩
theorem O2_is_self {c ρ σ v} {Q : V → Prop} (hv : PySem.plainIs v v = true) (h : Q (.bool true)) : O2 c (compareOp .Is) (.stat v) (.stat v) ρ σ Q := by
  rintro s _ _ R rfl rfl
  exact wpAny_is_self hv ⟨.bool true, rfl, .refl _, h⟩
theorem OB_none {c ρ σ} {Q : Bool → Prop} (h : Q false) : OB c truthy .none ρ σ Q := by
  rintro s _ R rfl
  exact fun uu uu uu => ⟨.refl _, h⟩
end
section
open PySem PySem.W PySem.Calls PyProof PyProof.Rows PySem.SeqAt
theorem WE_smeth {c o apos pos es ρ σ name} {id : String} {Q : V → Prop} (slot : Slot "str" name id) (hty : typeOf (.builtin id) = pure (.type "method_descriptor"))
    (h : WE c o ρ σ (fun X => (∃ x, SV X x) ∧ WL c pos es ρ σ (fun Xs => WC c (.builtin id) [] (X :: Xs) ρ σ Q)))
    (hbase : attributeBase o name c.env (eval o c.env) = eval o c.env := by walk_at "r")
    (hfew : ((backTo pos (starEach es c.env)).all (fun x => !x.1) && (backToKw pos (keywordEach [] c.env)).all (fun x => x.1.isSome)
      && decide (es.length + ([] : List Keyword).length + (if ([] : List Keyword).isEmpty then 0 else 1) < 30)) = true := by walk_at "r")
    (hline : (apos.endLine == pos.line) = true := by walk_at "r")
    (hplain : (backTo pos (starEach es c.env)).any (·.1) = false := by walk_at "r") : WE c (.Call (.Attribute o name apos) es [] pos) ρ σ Q := fun s R => by
  refine wpAny_Call_method hbase hfew hline F.plainAttrs_str slot hty (goV (h s R) fun ov s₁ X hX k₁ hpt => ?_)
  obtain ⟨⟨x, hx⟩, h₁⟩ := hpt
  obtain ⟨t, rfl⟩ := hx.is hX
  have R₁ := R.keepE k₁
  refine ⟨typeIs_str _ _ _, fun a ea => (by cases ea), ?_⟩
  refine callWith_gen (first := [.str x t]) Kp.builtin R₁ hplain (goL (h₁ s₁ R₁) fun vs s₂ Xs hXs k₂ h₂ => ?_)
  refine ⟨(R₁.keepE k₂).stat.K, goV (h₂ s₂ (.str x t :: vs) (R₁.keepE k₂) ⟨_, vs, rfl, hX.keeps (k₂.keepW _), hXs⟩) fun u s₃ Z hZ k₃ q => ⟨Z, hZ, (k₁.trans k₂).trans k₃, q⟩⟩
section
variable {c : Cx} {ρ : Rho} {σ : Sig} {Q : V → Prop} {X Y Z : V} {x y : Str}
theorem WC_lower (hX : SV X x) (hn : x.length ≤ 5592405) (h : Q (.str (Txt.lower x))) : WC c (.builtin "str.lower") [] [X] ρ σ Q := by
  rintro s _ R ⟨v, _, rfl, z, rfl⟩
  obtain ⟨t, rfl⟩ := hX.is z
  exact SCL.lower hn fun uu => ⟨.str _, ⟨_, rfl⟩, .mk' (.refl _) (Nat.le_succ _), h⟩
theorem WC_upper (hX : SV X x) (hn : x.length ≤ 5592405) (h : Q (.str (Txt.upper x))) : WC c (.builtin "str.upper") [] [X] ρ σ Q := by
  rintro s _ R ⟨v, _, rfl, z, rfl⟩
  obtain ⟨t, rfl⟩ := hX.is z
  exact SCL.upper hn fun uu => ⟨.str _, ⟨_, rfl⟩, .mk' (.refl _) (Nat.le_succ _), h⟩
theorem O2_itemT {value slice : Expr} {xs : List V} {k : Nat} (hk : k < 2 ^ 62) (hz : xs[k]? = some Z) (h : Q Z)
    (hs : ∀ o k t, subscripted slice false (.ref o) (.int k t) = operate [.ref o, .int k t] (getItem (.ref o) (.int k t)) := by intro _ _ _; with_unfolding_all rfl)
    (hg : ∀ o r, letTemporaryGo value (.ref o) r = pure () := by intro _ _; with_unfolding_all rfl) : O2 c (subscriptTail value slice) (.tup xs) (.int (k : Int)) ρ σ Q := by
  rintro s v _ R z ⟨t, rfl⟩
  obtain ⟨a, vs, rfl, _, hl, hv⟩ := z
  obtain ⟨u, hu, hr⟩ := hv.get hz
  have hlt : k < vs.length := (List.getElem?_eq_some_iff.mp hu).1
  refine item_tupleL hl (by exact Int.natCast_nonneg _) (by exact Int.not_le.mp fun hn => absurd (Int.add_le_add (Int.ofNat_le.mpr (Nat.succ_le_of_lt hk)) hn) (by simp +arith)) (j := k) ?_ hu ⟨Z, hr, .refl _, h⟩ (hs _ _ _) (fun r => hg _ r)
  unfold seqIndex?
  simp; (clear hr hu hv hl R hg hs h hz hk; lia)
end
noncomputable def rowV (r : Str × Str) : V := .tup [.str r.1, .str r.2]
theorem picks_list {α : Type} (l : List α) (d : α) (P : α → Bool) (F : α → V) : picks l.length (fun i => P (l.getD i d)) (fun i => F (l.getD i d)) = (l.filter P).map F := by
  have key : ∀ n, n ≤ l.length → picks n (fun i => P (l.getD i d)) (fun i => F (l.getD i d)) = ((l.take n).filter P).map F := by
    intro n
    induction n with
    | zero => intro _; simp [picks]
    | succ n ih =>
      intro hn
      have hlt : n < l.length := hn
      have e : l.getD n d = l[n] := by rw [List.getD_eq_getElem?_getD, List.getElem?_eq_getElem hlt]; rfl
      have ih' := ih (by exact Nat.le_of_succ_le hn)
      unfold picks at ih' ⊢
      rw [List.range_succ, List.filter_append, List.map_append, ih', List.take_add_one, List.filter_append, List.map_append, List.getElem?_eq_getElem hlt]
      congr 1
      simp only [List.filter_cons, List.filter_nil, Option.toList, e]
      have e' : l[n]?.getD d = l[n] := by rw [List.getElem?_eq_getElem hlt]; rfl
      split <;> simp [e']
  rw [key l.length (Nat.le_refl _), List.take_of_length_le (Nat.le_refl _)]
theorem map_at {α : Type} {l : List α} {d : α} {f : α → V} {i : Nat} {Y : V} (h : (l.map f)[i]? = some Y) : i < l.length ∧ Y = f (l.getD i d) := by
  rw [List.getElem?_map] at h
  cases e : l[i]? with
  | none => rw [e] at h; cases h
  | some x =>
    rw [e] at h; cases h
    refine ⟨(List.getElem?_eq_some_iff.mp e).1, ?_⟩
    rw [List.getD_eq_getElem?_getD, e]; rfl
theorem getD_in {α : Type} {l : List α} {d : α} {i : Nat} (h : i < l.length) : l.getD i d ∈ l := by
  rw [List.getD_eq_getElem?_getD, List.getElem?_eq_getElem h]; exact List.getElem_mem _
theorem dictAt_empty {prog : Program} {w : World} {h : Heap} {a : Addr} (ho : h.get? a = some { cls := .type "dict", data := .dict #[] }) : h.DictAt (strKind prog w) a [] 0 := by
  obtain ⟨o', es', ep', hg, h1, h2, h3, h4, h5⟩ := Heap.DictOf.new (knd := strKind prog w) h
  rw [Heap.get?_push_size _ rfl] at hg
  cases hg
  cases h2
  exact ⟨_, #[], ho, h1, rfl, h3, h4, h5⟩
theorem W1_for_items0 {c target o body apos cpos pos ρ σ} {Q : Fl → Rho → Sig → Prop} (h : WE c o ρ σ (fun X => X = .edict ∧ Q .next ρ σ))
    (hbase : attributeBase o "items" c.env (eval o c.env) = eval o c.env := by walk_at "r") (hline : (apos.endLine == cpos.line) = true := by walk_at "r")
    (hs : ∀ x, foldedSetIterable (.Call (.Attribute o "items" apos) [] [] cpos) c.env x = pure x := by intro _; with_unfolding_all rfl) :
    W1 c (.For target (.Call (.Attribute o "items" apos) [] [] cpos) body [] pos) ρ σ Q := fun s R => by
  refine wpAny_For (wpAny_Call_method (T := "dict") (id := "dict.items") hbase rfl hline F.plainAttrs_dict F.slot_dict_items F.type_dict_items (goV (h s R) fun v s₁ X hX k₁ hpt => ?_)) hs
  obtain ⟨e, q⟩ := hpt
  subst e
  obtain ⟨d, rfl, hd, hdS, ho⟩ := hX
  have R₁ := R.keepE k₁
  have hm : s₁.heap.DictAt (strKind PG c.w) d [] 0 := dictAt_empty ho
  refine ⟨⟨_, ho, rfl⟩, fun a ea => by cases ea; exact ⟨_, ho, rfl⟩, ?_⟩
  refine method_meetsIn F.slot_dict_items F.entry_dict_items rfl (PySem.evalArgs_none ⟨rfl, ⟨_, ho, rfl⟩, F.args_dict_items_1 _, _, meets_dict_items (strKind PG c.w) d hdS, ⟨[], hm.dictOf⟩, ?_⟩)
  refine wpAny_pyIter_items (knd := strKind PG c.w) (d := d) (kvs := []) (ep := 0) ⟨_, Heap.get?_push_size _ rfl, rfl, rfl⟩ (hm.push _) ?_
  refine codeAny_forLoop_any (fun n s' => s' = _ ∧ n = 0) ?_ 0 ⟨rfl, rfl⟩
  rintro n s' ⟨rfl, rfl⟩
  refine wpAny_pyNext_items_end (knd := strKind PG c.w) (kvs := []) (ep := 0) (d := d) (i := 0) R.ok.hand (Heap.get?_push_size _ rfl) ((hm.push _).push _) rfl fun h₁ he₁ => wpAny_execs_nil ?_
  have kk : KeepE s₁ { s₁ with heap := h₁ } := ⟨.mk' _ _ (Nat.le_refl _), fun b o e => he₁ b o (fun q => by
    have := Heap.lt_size e
    rw [q, Heap.size_push] at this
    exact absurd this (Nat.not_lt.mpr (Nat.le_succ _))) (Heap.get?_push_of_some _ (Heap.get?_push_of_some _ e))⟩
  exact ⟨.next, ρ, σ, rfl, R₁.keepE kk, (k₁.trans kk).ks, q⟩
theorem Rel.back {c c' : Cx} {ρ ρ' : Rho} {σ σ' σ'' : Sig} {s s' : Shared} (R : Rel c ρ σ s) (R' : Rel c' ρ' σ'' s') (ks : KS c' σ σ'' s s') (hw : c'.w = c.w) (hh : c'.h₀ = c.h₀) (fresh : ∀ b ∈ c'.own, s.heap.get? b = none)
    (hsub : ∀ p ∈ σ', p ∈ σ'') (hfst : σ'.map (·.1) = σ.map (·.1)) (hwof : ∀ b ∈ wof c σ, b ∈ wof c' σ'') : Rel c ρ σ' s' ∧ KS c σ σ' s s' := by
  have keep : ∀ b o, b ∉ σ.map (·.1) → s.heap.get? b = some o → s'.heap.get? b = some o := fun b o hb e => ks.2.1 b o (fun h => (List.mem_append.mp h).elim hb fun q => by rw [fresh b q] at e; cases e) e
  have off : ∀ b ∈ c.own ++ c.out, b ∉ σ.map (·.1) := fun b hb h => by
    obtain ⟨p, hp, rfl⟩ := List.mem_map.mp h
    exact (R.muts p hp).2.1 hb
  have ew := wof_fst (c := c) hfst
  have hW : KeepW (wof c σ) s s' := ⟨fun b o hb e => keep b o (fun q => hb (List.mem_append_left _ q)) e, ks.1.toks_le⟩
  have hcell : ∀ {b v}, b ∈ c.env.cells.map (·.2) → s.heap.IsCell b v → s'.heap.IsCell b v := fun hc hv => by
    obtain ⟨p, hp, e⟩ := List.mem_map.mp hc
    exact isCell_at hv fun ob e' => keep _ ob (off _ (e ▸ List.mem_append.mpr (R.ok.cin p hp))) e'
  refine ⟨⟨R.ok, hh ▸ R'.base, fun b hb => R'.al b (hwof b (ew ▸ hb)), ?_, fun p hp => ?_, fun p hp => ?_, hfst ▸ R.nd, R'.tk⟩, ks.1, fun b o hb e => keep b o (fun q => hb (List.mem_append_left _ q)) e, fun p hp => .inl (hfst ▸ List.mem_map_of_mem hp)⟩
  · obtain ⟨m, hN, hl⟩ := R.loc
    refine ⟨m, Ns_at hN fun o e => keep _ o (off _ (List.mem_append_left _ R.ok.lown)) e, fun x X e => ?_⟩
    unfold Loc
    rw [ew]
    refine ⟨fun q => let ⟨v, a, b⟩ := (hl x X e).1 q; ⟨v, a, b.keeps hW⟩, fun q => ?_⟩
    obtain ⟨b, v, d, f, r⟩ := (hl x X e).2 q
    exact ⟨b, v, d, hcell (List.mem_map.mpr ⟨_, lookup_mem' d, rfl⟩) f, r.keeps hW⟩
  · obtain ⟨v, e⟩ := R.cel p hp; exact ⟨v, hcell (List.mem_map_of_mem hp) e⟩
  · unfold Mut
    rw [ew]
    obtain ⟨b1, b2, vs, b3, b4⟩ := R'.muts p (hsub p hp)
    have hm : p.1 ∈ σ.map (·.1) := hfst ▸ List.mem_map_of_mem hp
    obtain ⟨q, hq, e⟩ := List.mem_map.mp hm
    refine ⟨hh ▸ b1, fun h => off _ h hm, vs, b3, ?_⟩
    rw [hw] at b4
    exact b4.less hwof
theorem WC_join {c ρ σ X Y x ys ss} {Q : V → Prop} (hX : SV X x) (hY : LV σ Y ys) (hs : SVs ys ss) (hsz : (ss.map (·.length)).sum + ss.length * x.length ≤ 16777216) (h : Q (.str (Txt.join x ss))) : WC c (.builtin "str.join") [] [X, Y] ρ σ Q := by
  rintro s _ R ⟨v, _, rfl, z, u, _, rfl, zu, rfl⟩
  obtain ⟨t, rfl⟩ := hX.is z
  obtain ⟨a, vs, rfl, hl, hv⟩ := hY.is R zu
  have key : ∀ {ys : List V} {ss : List Str} {vs : List Value}, VRs c.w (wof c σ) s ys vs → SVs ys ss → StrsAre vs ss := by
    intro ys
    induction ys with
    | nil =>
      intro ss vs h1 h2
      cases h1
      have : ss = [] := List.length_eq_zero_iff.mp h2.1.symm
      subst this; exact .nil
    | cons y ys ih =>
      rintro ss vs ⟨v, r, rfl, a, b⟩ h2
      cases ss with
      | nil => cases h2.1
      | cons s0 ss =>
        obtain ⟨t', rfl⟩ := h2.tail.1.is a
        exact .cons s0 t' (ih b h2.tail.2)
  refine with_toks (join_list hl (by simpa using key hv hs) hsz fun t' k htk => ⟨.str _, ⟨t', rfl⟩, .mk' (.refl _) htk, h⟩)
end
section
open PySem PySem.W PySem.Calls PyProof PyProof.Rows PySem.SeqAt
theorem O2_isNot_self {c ρ σ v} {Q : V → Prop} (hv : PySem.plainIs v v = true) (h : Q (.bool false)) : O2 c (compareOp .IsNot) (.stat v) (.stat v) ρ σ Q := by
  rintro s _ _ R rfl rfl
  exact wpAny_isNot_self hv ⟨.bool false, rfl, .refl _, h⟩
noncomputable def okCall (x : Str) : Option Value := List.lookup x [(("len" : Str), .builtin "len"), ("sum", .builtin "sum"), ("max", .builtin "max"), ("min", .builtin "min"), ("range", .type "range"), ("type", .type "type")]
noncomputable def okTy (x : Str) : Option Value := List.lookup x [(("str" : Str), .type "str"), ("list", .type "list")]
noncomputable def okSt (st : Stmt) : Bool := [5, 7, 3, 24].contains st.ctorIdx
noncomputable def okSl (e : Expr) : Bool := [23, 19, 3, 2].contains e.ctorIdx
noncomputable def okVal (e : Expr) : Bool := [23, 16].contains e.ctorIdx
theorem wCall {c : Cx} {x : Str} {p pos : Pos} {es : List Expr} {ρ : Rho} {σ : Sig} {Q : V → Prop} {f : Value} (ho : okCall x = some f) (e1 : c.env.kindOf x = some .globalImplicit) (e2 : ∀ w : World, nsIn (Kf w) mainGlobals x = some none) (e3 : bootBuiltins x = some f)
    (e4 : (∃ a, f = .builtin a) ∨ ∃ a, f = .type a) (e5 : (x == ("__debug__" : Str)) = false ∧ (x == ("__name__" : Str)) = false) (e6 : (backTo pos (starEach es c.env)).any (·.1) = false) (h : WL c pos es ρ σ (KWC c f ρ σ Q)) : WE c (.Call (.Name x p) es [] pos) ρ σ Q := by
  have k : Kp f := by
    rcases e4 with ⟨a, rfl⟩ | ⟨a, rfl⟩
    · exact Kp.builtin
    · exact Kp.type
  exact WE_call f k (fun uu h => WE_blt e1 e2 e3 h e5.1 (by simpa using e5.2)) h e6
theorem wBlt {c x pos ρ σ v} {Q : V → Prop} (ho : okTy x = some v) (hk : c.env.kindOf x = some .globalImplicit) (e : ∀ w : World, nsIn (Kf w) mainGlobals x = some none) (hv : bootBuiltins x = some v)
    (e5 : (x == ("__debug__" : Str)) = false ∧ (x == ("__name__" : Str)) = false) (h : Q (.stat v)) : WE c (.Name x pos) ρ σ Q := WE_blt hk e hv h e5.1 (by simpa using e5.2)
theorem wSub {c value slice pos ρ σ} {Q : V → Prop} (ho : okSl slice = true) (h : WE c value ρ σ (KE2 c slice (subscriptTail value slice) ρ σ Q)) : WE c (.Subscript value slice pos) ρ σ Q := WE_sub h
theorem wCons {c st rest ρ σ} {Q : Fl → Rho → Sig → Prop} (ho : okSt st = true) (h : W1 c st ρ σ (KSeq c rest Q)) : WS c (st :: rest) ρ σ Q := WS_cons h
theorem wVal {c e ρ σ} {Q : Bool → Prop} (ho : okVal e = true) (he : isTrue e c.env (eval e c.env) = (do let v ← eval e c.env; standAt e.pos; holding [v] (truthy v))) (h : WE c e ρ σ (KOB c ρ σ Q)) : WI c e ρ σ Q := WI_val h he
end
local macro_rules
  | `(tactic| walk_at "kd") => `(tactic| (with_unfolding_all first | exact .inl rfl | exact .inr (.inl rfl) | exact .inr (.inr rfl)))
local macro_rules
  | `(tactic| walk_at "bt") => `(tactic| (with_unfolding_all first | exact .inl ⟨_, rfl⟩ | exact .inr ⟨_, rfl⟩))
local macro_rules
  | `(tactic| walk_at "stb") => `(tactic| (with_unfolding_all first | exact Stb_loc rfl | exact Stb_cell rfl rfl rfl))
local macro_rules
  | `(tactic| walk_at "v1") => `(tactic| (with_reducible first
      | refine ite_t ?_
      | refine ite_f ?_
      | refine wCons (by with_unfolding_all rfl) ?_
      | refine W1_setItem ?_
      | refine W1_append ?_
      | refine WS_nil ?_
      | refine W1_ret ?_
      | refine W1_assign (by walk_at "stb") ?_
      | refine W1_aug (by with_unfolding_all rfl) (by walk_at "stb") ?_
      | refine W1_assignT ?_
      | refine WE_int ?_
      | refine WE_str ?_
      | refine WE_none ?_
      | refine WE_bool ?_
      | refine WE_bin ?_
      | refine WE_un ?_
      | refine WE_cmp ?_
      | refine WE_ifexp ?_
      | refine WE_list ?_
      | refine WE_tup ?_
      | refine WI_cmp' ?_
      | refine wVal (by with_unfolding_all rfl) (by with_unfolding_all rfl) ?_
      | refine WI_bool ?_
      | refine WA_or_cons ?_
      | refine WA_and_cons ?_
      | refine WA_or_nil ?_
      | refine WA_and_nil ?_
      | refine WL_cons ?_
      | refine WL_nil ?_
      | refine WP_none ?_
      | refine WP_some ?_
      | refine WTs_nil ?_
      | refine WTs_one ?_
      | refine wCall (by with_unfolding_all rfl) (by with_unfolding_all rfl) (by intro; with_unfolding_all rfl) (by with_unfolding_all rfl) (by walk_at "bt") (by decide) (by with_unfolding_all rfl) ?_
      | refine wBlt (by with_unfolding_all rfl) (by with_unfolding_all rfl) (by intro; with_unfolding_all rfl) (by with_unfolding_all rfl) (by decide) ?_
      | refine WC_range1 ?_
      | refine WC_range2 ?_
      | refine WC_max2 ?_
      | refine WC_min2 ?_
      | refine O2_add_int ?_
      | refine O2_sub_int ?_
      | refine O2_mod_int (by decide) ?_
      | refine O2_eq_int ?_
      | refine O2_lt_int ?_
      | refine O2_gt_int ?_
      | refine O2_ne_bool ?_
      | refine O2_iadd_int ?_
      | refine O2_isub_int ?_
      | refine O1_neg ?_
      | refine OB_int ?_
      | refine OB_bool ?_
      | refine OB_none ?_
      | refine O2_is_self rfl ?_
      | refine O2_isNot_self rfl ?_
      | refine Bo.mk ?_
      | refine WAs_name (by walk_at "stb") ?_
      | refine WE_name (by with_unfolding_all rfl) ?_ (by walk_at "kd")
      | refine and_len (by with_unfolding_all rfl) ?_
      | refine wSub (by with_unfolding_all rfl) ?_))
local macro_rules
  | `(tactic| walk_at "v") => `(tactic| repeat (walk_at "v1"))
local macro_rules
  | `(tactic| walk_at "cap") => `(tactic| (with_unfolding_all repeat (first | exact Cap.nil | refine Cap.cons' rfl (by walk_at "kd") rfl (by walk_at "kd") ?_)))
local macro_rules
  | `(tactic| walk_at "ck") => `(tactic| exact CapOk.of (by with_unfolding_all rfl) (by with_unfolding_all rfl) (by with_unfolding_all rfl) (by with_unfolding_all rfl) (by simp))
local macro_rules
  | `(tactic| walk_at "sub") => `(tactic| (with_unfolding_all repeat (first | exact sub.nil | refine sub.cons rfl ?_)))
section
open PySem PySem.W PySem.Calls PyProof PyProof.Rows PySem.SeqAt
noncomputable def tx (l : List Nat) : Str := ⟨l.toArray⟩
theorem tx_inj {a b : List Nat} : tx a = tx b ↔ a = b := by simp [tx]
theorem tx_len (l : List Nat) : (tx l).length = l.length := by simp [tx, Str.length]
theorem tx_beq (a b : List Nat) : (tx a == tx b) = (a == b) := by
  rw [Bool.eq_iff_iff, beq_iff_eq, beq_iff_eq, tx_inj]
theorem tx_item (l : List Nat) (k : Nat) (h : k < l.length) : Txt.item (tx l) (k : Int) = tx [l.getD k 0] := by
  have e : seqIndex? (k : Int) (tx l).length = some k := by
    unfold seqIndex?
    rw [tx_len]
    simp; lia
  unfold Txt.item Txt.charAt
  rw [e]
  simp [tx, List.getD_eq_getElem?_getD]
noncomputable def pad (a b : Nat) : List Nat := List.replicate a 32 ++ 120 :: List.replicate b 32
theorem pad_len (a b) : (pad a b).length = a + b + 1 := by simp [pad]; exact Nat.succ_sub_one _
theorem pad_at (a b k : Nat) (h : k < a + b + 1) : (pad a b).getD k 0 = if k = a then 120 else 32 := by
  unfold pad
  rw [List.getD_eq_getElem?_getD]
  rcases Nat.lt_trichotomy k a with q | q | q
  · rw [List.getElem?_append_left (by simpa using q), List.getElem?_replicate, if_pos q, if_neg (by exact Nat.ne_of_lt q)]; rfl
  · subst q; rw [List.getElem?_append_right (by simp)]; simp
  · rw [List.getElem?_append_right (by simp; exact Nat.le_of_lt q), if_neg (by exact Nat.ne_of_gt q)]
    have e : k - (List.replicate a 32).length = (k - a - 1) + 1 := by simp; (clear h; lia)
    rw [e, List.getElem?_cons_succ, List.getElem?_replicate, if_pos (by exact Nat.not_le.mp fun hn => (Nat.le_total ((List.replicate a 32).length) k).elim (fun hs2 => absurd (Nat.add_le_add h (Nat.add_le_add hn (Nat.add_le_add (Nat.le_of_eq (Nat.sub_add_cancel (show a ≤ k from Nat.not_lt.mp fun hn => absurd (Nat.add_le_add q hn) (by simp +arith)))) (Nat.le_of_eq (Nat.sub_add_cancel (show 1 ≤ k - a from Nat.not_lt.mp fun hn => absurd (Nat.add_le_add q (Nat.add_le_add (Nat.le_of_eq (Nat.sub_add_cancel (show a ≤ k from Nat.not_lt.mp fun hn => absurd (Nat.add_le_add q hn) (by simp +arith))).symm) hn)) (by simp +arith))))))) (by simp +arith)) (fun hs2 => absurd (Nat.add_le_add (Nat.le_of_eq e.symm) (Nat.le_of_eq (Nat.sub_eq_zero_of_le hs2))) (by simp +arith)))]; rfl
theorem pad_mid (a b i j : Nat) (hi : i ≤ a) (hj : j ≤ b) : ((pad a b).drop i).take (a + b - j + 1 - i) = pad (a - i) (b - j) := by
  unfold pad
  rw [List.drop_append_of_le_length (by simpa using hi), List.drop_replicate, List.take_append, List.take_replicate, List.length_replicate]
  have e1 : min (a + b - j + 1 - i) (a - i) = a - i := by (clear hi; lia)
  have e2 : a + b - j + 1 - i - (a - i) = (b - j) + 1 := by exact Nat.le_antisymm (Nat.not_lt.mp fun hn => (Nat.le_total (a - i) (a + b - j + 1 - i)).elim (fun hs2 => absurd (Nat.add_le_add hn (Nat.add_le_add (Nat.le_of_eq (Nat.sub_add_cancel (show j ≤ a + b from Nat.not_lt.mp fun hn => absurd (Nat.add_le_add hj hn) (by simp +arith)))) (Nat.add_le_add (Nat.le_of_eq (Nat.sub_add_cancel (show i ≤ a from Nat.not_lt.mp fun hn => absurd (Nat.add_le_add hi hn) (by simp +arith))).symm) (Nat.add_le_add (Nat.le_of_eq (Nat.sub_add_cancel (show a - i ≤ a + b - j + 1 - i from Nat.not_lt.mp fun hn => absurd (Nat.add_le_add (Nat.le_of_eq e1.symm) (Nat.add_le_add (Nat.min_le_left (a + b - j + 1 - i) (a - i)) hn)) (by simp +arith)))) (Nat.add_le_add (Nat.le_of_eq (Nat.sub_add_cancel (show j ≤ b from Nat.not_lt.mp fun hn => absurd (Nat.add_le_add hj hn) (by simp +arith))).symm) (Nat.le_of_eq (Nat.sub_add_cancel (show i ≤ a + b - j + 1 from Nat.not_lt.mp fun hn => absurd (Nat.add_le_add hi (Nat.add_le_add hj (Nat.add_le_add (Nat.le_of_eq (Nat.sub_add_cancel (show j ≤ a + b from Nat.not_lt.mp fun hn => absurd (Nat.add_le_add hj hn) (by simp +arith))).symm) hn))) (by simp +arith))))))))) (by simp +arith)) (fun hs2 => absurd (Nat.add_le_add hn (Nat.add_le_add (Nat.le_of_eq (Nat.sub_add_cancel (show a - i ≤ a + b - j + 1 - i from Nat.not_lt.mp fun hn => absurd (Nat.add_le_add (Nat.le_of_eq e1.symm) (Nat.add_le_add (Nat.min_le_left (a + b - j + 1 - i) (a - i)) hn)) (by simp +arith)))) hs2)) (by simp +arith))) (Nat.not_lt.mp fun hn => (Nat.le_total (a - i) (a + b - j + 1 - i)).elim (fun hs2 => absurd (Nat.add_le_add hn (Nat.add_le_add (Nat.le_of_eq (Nat.sub_add_cancel (show j ≤ a + b from Nat.not_lt.mp fun hn => absurd (Nat.add_le_add hj hn) (by simp +arith))).symm) (Nat.add_le_add (Nat.le_of_eq (Nat.sub_add_cancel (show i ≤ a from Nat.not_lt.mp fun hn => absurd (Nat.add_le_add hi hn) (by simp +arith)))) (Nat.add_le_add (Nat.le_of_eq (Nat.sub_add_cancel (show a - i ≤ a + b - j + 1 - i from Nat.not_lt.mp fun hn => absurd (Nat.add_le_add (Nat.le_of_eq e1.symm) (Nat.add_le_add (Nat.min_le_left (a + b - j + 1 - i) (a - i)) hn)) (by simp +arith))).symm) (Nat.add_le_add (Nat.le_of_eq (Nat.sub_add_cancel (show j ≤ b from Nat.not_lt.mp fun hn => absurd (Nat.add_le_add hj hn) (by simp +arith)))) (Nat.le_of_eq (Nat.sub_add_cancel (show i ≤ a + b - j + 1 from Nat.not_lt.mp fun hn => absurd (Nat.add_le_add hi (Nat.add_le_add hj (Nat.add_le_add (Nat.le_of_eq (Nat.sub_add_cancel (show j ≤ a + b from Nat.not_lt.mp fun hn => absurd (Nat.add_le_add hj hn) (by simp +arith))).symm) hn))) (by simp +arith))).symm)))))) (by simp +arith)) (fun hs2 => absurd (Nat.add_le_add hj (Nat.add_le_add (Nat.le_of_eq (Nat.sub_add_cancel (show j ≤ a + b from Nat.not_lt.mp fun hn => absurd (Nat.add_le_add hj hn) (by simp +arith))).symm) (Nat.add_le_add (Nat.le_of_eq (Nat.sub_add_cancel (show i ≤ a from Nat.not_lt.mp fun hn => absurd (Nat.add_le_add hi hn) (by simp +arith)))) (Nat.add_le_add hs2 (Nat.le_of_eq (Nat.sub_add_cancel (show i ≤ a + b - j + 1 from Nat.not_lt.mp fun hn => absurd (Nat.add_le_add hi (Nat.add_le_add hj (Nat.add_le_add (Nat.le_of_eq (Nat.sub_add_cancel (show j ≤ a + b from Nat.not_lt.mp fun hn => absurd (Nat.add_le_add hj hn) (by simp +arith))).symm) hn))) (by simp +arith))).symm))))) (by simp +arith)))
  rw [e1, e2, List.take_succ_cons, List.take_replicate]
  congr 3; simp
theorem strip_ends {a b N i j : Nat} (hi : i = min a N) (hj : j = min b (N - i)) : a - i = a - N ∧ b - j = b - (N - a) := by
  rcases Nat.le_total a N with h | h
  · rw [Nat.min_eq_left h] at hi
    rw [hi] at hj ⊢
    refine ⟨by rw [Nat.sub_self, Nat.sub_eq_zero_of_le h], ?_⟩
    rcases Nat.le_total b (N - a) with g | g
    · rw [hj, Nat.min_eq_left g, Nat.sub_self, Nat.sub_eq_zero_of_le g]
    · rw [hj, Nat.min_eq_right g]
  · rw [Nat.min_eq_right h] at hi
    rw [hi, Nat.sub_self, Nat.min_zero] at hj
    rw [hi, hj, Nat.sub_eq_zero_of_le h]
    exact ⟨rfl, rfl⟩
theorem strip_dec {a b j : Nat} (h1 : j ≤ b) (h6 : a + b - j ≠ a) : ((a + b - j : Nat) : Int) - 1 = ((a + b - (j + 1) : Nat) : Int) := by
  rw [Nat.add_sub_assoc h1] at h6 ⊢
  obtain ⟨m, hm⟩ := Nat.exists_eq_succ_of_ne_zero (fun q => h6 (by rw [q]; rfl) : b - j ≠ 0)
  rw [Nat.sub_add_eq, Nat.add_sub_assoc h1, hm]
  exact (Int.natCast_sub (Nat.le_trans (Nat.succ_le_succ (Nat.zero_le m)) (Nat.le_add_left _ _))).symm
theorem dec_one {n j : Nat} (h : n - j ≠ 0) : ((n - j : Nat) : Int) - 1 = ((n - (j + 1) : Nat) : Int) := by
  rw [Nat.sub_add_eq]
  exact (Int.natCast_sub (Nat.pos_of_ne_zero h)).symm
theorem strip_run (a b N : Nat) (ha : a ≤ 1000) (hb : b ≤ 1000) : Pure 200 1 [.str (tx (pad a b)), .int N] (fun Z => Z = .str (tx (pad (a - N) (b - (N - a))))) := by
  refine pure_of atStrip [("s", .str (tx (pad a b))), ("amount", .int N)] ?_ (nodup_of rfl) (kindsOk_of fun n => rfl) fun c L out hk => ?_
  · rintro w W s vs ⟨v, _, rfl, hv, u, _, rfl, hu, rfl⟩
    exact ⟨_, rfl, v, _, rfl, hv, u, _, rfl, hu, rfl⟩
  refine WS_cons ?_
  walk_at "v"
  refine WS_cons (W1_whileS (ρs := fun i : Nat => [("lpos", .int i), ("amount", .int (N - i : Int)), ("s", .str (tx (pad a b)))]) (ms := fun i => N - i) (i₀ := 0) (P := fun i => i ≤ a ∧ i ≤ N) ?_ (by simp) ?_)
  · refine .cons rfl (.cons ?_ (.cons rfl .nil))
    show some _ = some _
    simp
  ·
    have part2 : ∀ i : Nat, i = min a N → i ≤ N → ∀ ρ' : Rho, sub [("lpos", .int i), ("amount", .int (N - i : Int)), ("s", .str (tx (pad a b)))] ρ' → WS (c.call fdStrip 200 L out 0) ((sBody (topS 11)).drop 2) ρ' [] (RetQ fun Z => Z = .str (tx (pad (a - N) (b - (N - a))))) := by
      intro i hi h2 ρ' hs
      refine WS_keep _ hs ?_
      refine WS_cons ?_
      walk_at "v"
      refine WC_lenS (.inl rfl) (by rw [tx_len, pad_len]; exact Nat.lt_of_le_of_lt (Nat.add_le_add ha hb) (by decide)) ?_
      walk_at "v"
      have hl0 : ((tx (pad a b)).length : Int) - 1 = ((a + b : Nat) : Int) := by rw [tx_len, pad_len]; simp +arith
      refine WS_cons (W1_whileS (ρs := fun j : Nat => [("rpos", .int ((a + b - j : Nat) : Int)), ("amount", .int ((N - i - j : Nat) : Int)), ("lpos", .int i), ("s", .str (tx (pad a b)))]) (ms := fun j => N - i - j) (i₀ := 0)
        (P := fun j => j ≤ b ∧ i + j ≤ N ∧ (i < a → j = 0)) ?_ (by (clear hl0 hs h2 hk hb ha; lia)) ?_)
      · refine .cons (lkI rfl ?_) (.cons (lkI rfl ?_) (.cons rfl (.cons rfl .nil)))
        · rw [hl0]; exact Int.natCast_add _ _
        · exact Int.le_antisymm (Int.not_lt.mp fun hn => absurd (Int.add_le_add (Int.add_one_le_of_lt hn) (Int.add_le_add (Int.ofNat_le.mpr (Nat.le_of_eq (Nat.sub_add_cancel (show 0 ≤ N - i from Nat.not_lt.mp fun hn => absurd hn (by simp +arith))).symm)) (Int.ofNat_le.mpr (Nat.le_of_eq (Nat.sub_add_cancel (show i ≤ N from Nat.not_lt.mp fun hn => absurd (Nat.add_le_add h2 hn) (by simp +arith))).symm)))) (by simp +arith)) (Int.not_lt.mp fun hn => absurd (Int.add_le_add (Int.add_one_le_of_lt hn) (Int.add_le_add (Int.ofNat_le.mpr (Nat.le_of_eq (Nat.sub_add_cancel (show 0 ≤ N - i from Nat.not_lt.mp fun hn => absurd hn (by simp +arith))))) (Int.ofNat_le.mpr (Nat.le_of_eq (Nat.sub_add_cancel (show i ≤ N from Nat.not_lt.mp fun hn => absurd (Nat.add_le_add h2 hn) (by simp +arith))))))) (by simp +arith))
      have fin : ∀ j, j = min b (N - i) → (i < a → N = i) → ∀ ρ'' : Rho, sub [("rpos", .int ((a + b - j : Nat) : Int)), ("amount", .int ((N - i - j : Nat) : Int)), ("lpos", .int i), ("s", .str (tx (pad a b)))] ρ'' →
          WS (c.call fdStrip 200 L out 0) ((sBody (topS 11)).drop 4) ρ'' [] (RetQ fun Z => Z = .str (tx (pad (a - N) (b - (N - a))))) := by
        intro j hj hia ρ'' hs
        refine WS_keep _ hs ?_
        refine WS_cons ?_
        walk_at "v"
        refine WE_sliceS ?_
        walk_at "v"
        refine ⟨_, .inl rfl, by rw [tx_len, pad_len]; unfold sizeLine; exact Nat.lt_of_le_of_lt (Nat.add_le_add ha hb) (by decide), ?_⟩
        walk_at "v"
        refine ⟨_, .int _, ?_⟩
        walk_at "v"
        refine ⟨_, .int _, ?_⟩
        show RetQ _ _ _ _
        have e1 : (((a + b - j : Nat) : Int) + 1) = ((a + b - j + 1 : Nat) : Int) := by exact Int.natCast_add _ _
        have e2 := slice_closes (x := tx (pad a b)) (i := (i : Int)) (j := ((a + b - j + 1 : Nat) : Int)) ⟨by exact Int.natCast_nonneg _, by exact Int.not_lt.mp fun hn => absurd (Int.add_le_add (Int.ofNat_le.mpr (Nat.le_of_eq hi)) (Int.add_le_add (Int.ofNat_le.mpr (Nat.le_of_eq hj)) (Int.add_le_add (Int.add_one_le_of_lt hn) (Int.add_le_add (Int.ofNat_le.mpr (Nat.min_le_left a N)) (Int.add_le_add (Int.ofNat_le.mpr (Nat.min_le_left b (N - i))) (Int.ofNat_le.mpr (Nat.le_of_eq (Nat.sub_add_cancel (show j ≤ a + b from Nat.not_lt.mp fun hn => absurd (Nat.add_le_add (Nat.le_of_eq hj) (Nat.add_le_add (Nat.min_le_left b (N - i)) hn)) (by simp +arith))).symm))))))) (by simp +arith), by simp only [tx, pad_len]; exact Int.not_lt.mp fun hn => absurd (Int.add_le_add (Int.add_one_le_of_lt hn) (Int.add_le_add (Int.ofNat_le.mpr (Nat.le_of_eq (Nat.sub_add_cancel (show j ≤ a + b from Nat.not_lt.mp fun hn => absurd (Nat.add_le_add (Nat.le_of_eq hj) (Nat.add_le_add (Nat.min_le_left b (N - i)) hn)) (by simp +arith))))) (Int.natCast_nonneg j))) (by simp +arith)⟩
        rw [e1, eq_of_beq e2]
        have e3 : (((a + b - j + 1 : Nat) : Int) - (i : Int)).toNat = a + b - j + 1 - i := by simp
        have e4 : ((i : Nat) : Int).toNat = i := by exact Nat.succ_sub_one _
        show V.str _ = _
        rw [e3, e4]
        have e5 : (tx (pad a b)).cps.toList = pad a b := rfl
        rw [e5, pad_mid a b i j (by exact Nat.not_lt.mp fun hn => absurd (Nat.add_le_add (Nat.le_of_eq hi) (Nat.add_le_add hn (Nat.min_le_left a N))) (by simp +arith)) (by exact Nat.not_lt.mp fun hn => absurd (Nat.add_le_add (Nat.le_of_eq hj) (Nat.add_le_add hn (Nat.min_le_left b (N - i)))) (by simp +arith))]
        have e6 : a - i = a - N := (strip_ends hi hj).1
        have e7 : b - j = b - (N - a) := (strip_ends hi hj).2
        rw [e6, e7]; rfl
      · rintro j ⟨h1, h3, h4⟩
        walk_at "v"
        refine ite_b (fun e => ?_) fun e => ?_
        · have e0 : N - i - j ≠ 0 := by simp at e; assumption
          have h5 : i = a := by exact Nat.le_antisymm (Nat.not_lt.mp fun hn => absurd (Nat.add_le_add (Nat.le_of_eq hi) (Nat.add_le_add hn (Nat.min_le_left a N))) (by simp +arith)) (Nat.not_lt.mp fun hn => (Nat.le_total N a).elim (fun hs2 => (Nat.lt_or_gt_of_ne e0).elim (fun hd1 => absurd hd1 (by simp +arith)) (fun hd1 => absurd (Nat.add_le_add (Nat.le_of_eq hi.symm) (Nat.add_le_add (Nat.le_of_eq (Nat.sub_add_cancel (show i ≤ N from Nat.not_lt.mp fun hn => absurd (Nat.add_le_add h2 hn) (by simp +arith)))) (Nat.add_le_add (Nat.le_of_eq (Nat.min_eq_right hs2).symm) (Nat.add_le_add (Nat.le_of_eq (Nat.sub_add_cancel (show j ≤ N - i from Nat.not_lt.mp fun hn => absurd (Nat.add_le_add h3 (Nat.add_le_add (Nat.le_of_eq (Nat.sub_add_cancel (show i ≤ N from Nat.not_lt.mp fun hn => absurd (Nat.add_le_add h2 hn) (by simp +arith))).symm) hn)) (by simp +arith)))) hd1)))) (by simp +arith))) (fun hs2 => absurd (Nat.add_le_add (Nat.le_of_eq hi.symm) (Nat.add_le_add hn (Nat.le_of_eq (Nat.min_eq_left hs2).symm))) (by simp +arith)))
          walk_at "v"
          refine O2_itemS (.inl rfl) ?_ ?_ ?_ ?_
          · simp [fitsSsize]; exact Int.not_le.mp fun hn => absurd (Int.add_le_add (Int.ofNat_le.mpr ha) (Int.add_le_add (Int.ofNat_le.mpr hb) (Int.add_le_add hn (Int.add_le_add (Int.ofNat_le.mpr (Nat.le_of_eq (Nat.sub_add_cancel (show j ≤ a + b from Nat.not_lt.mp fun hn => absurd (Nat.add_le_add h1 hn) (by simp +arith))))) (Int.natCast_nonneg j))))) (by simp +arith)
          · simp +arith
          · rw [tx_len, pad_len]; exact Int.not_le.mp fun hn => absurd (Int.add_le_add hn (Int.add_le_add (Int.ofNat_le.mpr (Nat.le_of_eq (Nat.sub_add_cancel (show j ≤ a + b from Nat.not_lt.mp fun hn => absurd (Nat.add_le_add h1 hn) (by simp +arith))))) (Int.natCast_nonneg j))) (by simp +arith)
          rw [tx_item _ _ (by rw [pad_len]; exact Nat.lt_succ_of_le (Nat.sub_le _ _)), pad_at _ _ _ (by exact Nat.lt_succ_of_le (Nat.sub_le _ _))]
          walk_at "v"
          refine O2_eq_str (y := tx [32]) (.inl rfl) (.inr rfl) ?_
          rw [tx_beq]
          walk_at "v"
          refine ite_b (fun e' => ?_) fun e' => ?_
          · walk_at "v"
            have h6 : a + b - j ≠ a := fun q => by rw [if_pos q] at e'; cases e'
            refine ⟨rfl, rfl, j + 1, ⟨by exact Nat.not_lt.mp fun hn => (Nat.le_total N a).elim (fun hs2 => (Nat.lt_or_gt_of_ne e0).elim (fun hd1 => absurd hd1 (by simp +arith)) (fun hd1 => absurd (Nat.add_le_add (Nat.le_of_eq h5.symm) (Nat.add_le_add (Nat.le_of_eq (Nat.sub_add_cancel (show i ≤ N from Nat.not_lt.mp fun hn => absurd (Nat.add_le_add h2 hn) (by simp +arith)))) (Nat.add_le_add hs2 (Nat.add_le_add (Nat.le_of_eq (Nat.sub_add_cancel (show j ≤ N - i from Nat.not_lt.mp fun hn => absurd (Nat.add_le_add h3 (Nat.add_le_add (Nat.le_of_eq (Nat.sub_add_cancel (show i ≤ N from Nat.not_lt.mp fun hn => absurd (Nat.add_le_add h2 hn) (by simp +arith))).symm) hn)) (by simp +arith)))) hd1)))) (by simp +arith))) (fun hs2 => (Nat.lt_or_gt_of_ne h6).elim (fun hd1 => absurd (Nat.add_le_add h1 (Nat.add_le_add (Nat.le_of_eq (Nat.sub_add_cancel (show j ≤ a + b from Nat.not_lt.mp fun hn => absurd (Nat.add_le_add h1 hn) (by simp +arith))).symm) hd1)) (by simp +arith)) (fun hd1 => absurd (Nat.add_le_add hn (Nat.add_le_add (Nat.le_of_eq (Nat.sub_add_cancel (show j ≤ a + b from Nat.not_lt.mp fun hn => absurd (Nat.add_le_add h1 hn) (by simp +arith)))) hd1)) (by simp +arith))), by exact Nat.not_lt.mp fun hn => (Nat.le_total N a).elim (fun hs2 => (Nat.lt_or_gt_of_ne e0).elim (fun hd1 => absurd hd1 (by simp +arith)) (fun hd1 => absurd (Nat.add_le_add hn (Nat.add_le_add (Nat.le_of_eq (Nat.sub_add_cancel (show i ≤ N from Nat.not_lt.mp fun hn => absurd (Nat.add_le_add h2 hn) (by simp +arith)))) (Nat.add_le_add (Nat.le_of_eq (Nat.sub_add_cancel (show j ≤ N - i from Nat.not_lt.mp fun hn => absurd (Nat.add_le_add h3 (Nat.add_le_add (Nat.le_of_eq (Nat.sub_add_cancel (show i ≤ N from Nat.not_lt.mp fun hn => absurd (Nat.add_le_add h2 hn) (by simp +arith))).symm) hn)) (by simp +arith)))) hd1))) (by simp +arith))) (fun hs2 => (Nat.lt_or_gt_of_ne e0).elim (fun hd1 => absurd hd1 (by simp +arith)) (fun hd1 => absurd (Nat.add_le_add hn (Nat.add_le_add (Nat.le_of_eq (Nat.sub_add_cancel (show i ≤ N from Nat.not_lt.mp fun hn => absurd (Nat.add_le_add h2 hn) (by simp +arith)))) (Nat.add_le_add (Nat.le_of_eq (Nat.sub_add_cancel (show j ≤ N - i from Nat.not_lt.mp fun hn => absurd (Nat.add_le_add h3 (Nat.add_le_add (Nat.le_of_eq (Nat.sub_add_cancel (show i ≤ N from Nat.not_lt.mp fun hn => absurd (Nat.add_le_add h2 hn) (by simp +arith))).symm) hn)) (by simp +arith)))) hd1))) (by simp +arith))), by omega⟩, by exact Nat.not_le.mp fun hn => (Nat.le_total N a).elim (fun hs2 => (Nat.lt_or_gt_of_ne e0).elim (fun hd1 => absurd hd1 (by simp +arith)) (fun hd1 => absurd (Nat.add_le_add hn (Nat.add_le_add (Nat.le_of_eq (Nat.sub_eq_zero_of_le (show N - i ≤ j + 1 from Nat.not_lt.mp fun hn => absurd (Nat.add_le_add (Nat.le_of_eq h5.symm) (Nat.add_le_add (Nat.le_of_eq (Nat.sub_add_cancel (show i ≤ N from Nat.not_lt.mp fun hn => absurd (Nat.add_le_add h2 hn) (by simp +arith)))) (Nat.add_le_add hs2 hn))) (by simp +arith)))) hd1)) (by simp +arith))) (fun hs2 => (Nat.lt_or_gt_of_ne e0).elim (fun hd1 => absurd hd1 (by simp +arith)) (fun hd1 => absurd (Nat.add_le_add hn (Nat.add_le_add (Nat.le_of_eq (Nat.sub_add_cancel (show j ≤ N - i from Nat.not_lt.mp fun hn => absurd (Nat.add_le_add h3 (Nat.add_le_add (Nat.le_of_eq (Nat.sub_add_cancel (show i ≤ N from Nat.not_lt.mp fun hn => absurd (Nat.add_le_add h2 hn) (by simp +arith))).symm) hn)) (by simp +arith))).symm) (Nat.le_of_eq (Nat.sub_add_cancel (show j + 1 ≤ N - i from Nat.not_lt.mp fun hn => absurd (Nat.add_le_add (Nat.le_of_eq (Nat.sub_add_cancel (show j ≤ N - i from Nat.not_lt.mp fun hn => absurd (Nat.add_le_add h3 (Nat.add_le_add (Nat.le_of_eq (Nat.sub_add_cancel (show i ≤ N from Nat.not_lt.mp fun hn => absurd (Nat.add_le_add h2 hn) (by simp +arith))).symm) hn)) (by simp +arith)))) (Nat.add_le_add hd1 hn)) (by simp +arith)))))) (by simp +arith))), .cons (lkI rfl ?_) (.cons (lkI rfl ?_) (.cons rfl (.cons rfl .nil)))⟩
            · exact strip_dec h1 h6
            · exact dec_one e0
          · have h6 : a + b - j = a := Classical.byContradiction fun q => by rw [if_neg q] at e'; cases e'
            exact fin j (by (clear h6 h5 e0 e h4 fin hl0 hs h2 hi hk hb ha; lia)) (by omega)
        · have e0 : N - i - j = 0 := by simp at e; assumption
          exact fin j (by (clear e0 h4 fin hl0 hs h2 hi hk hb ha; lia)) (by (clear e0 e h4 h3 h1 fin hl0 hs h2 hk hb ha; lia))
    rintro i ⟨h1, h2⟩
    walk_at "v"
    refine ite_b (fun e => ?_) fun e => ?_
    · walk_at "v"
      refine O2_itemS (.inl rfl) ?_ ?_ ?_ ?_
      · simp [fitsSsize]; exact Int.not_le.mp fun hn => absurd (Int.add_le_add (Int.ofNat_le.mpr ha) (Int.add_le_add (Int.ofNat_le.mpr h1) hn)) (by simp +arith)
      · simp +arith
      · rw [tx_len, pad_len]; exact Int.not_le.mp fun hn => absurd (Int.add_le_add (Int.ofNat_le.mpr h1) (Int.add_le_add hn (Int.natCast_nonneg b))) (by simp +arith)
      rw [tx_item _ _ (by rw [pad_len]; exact Nat.not_le.mp fun hn => absurd (Nat.add_le_add h1 hn) (by simp +arith)), pad_at _ _ _ (by exact Nat.not_le.mp fun hn => absurd (Nat.add_le_add h1 hn) (by simp +arith))]
      walk_at "v"
      refine O2_eq_str (y := tx [32]) (.inl rfl) (.inr rfl) ?_
      rw [tx_beq]
      walk_at "v"
      refine ite_b (fun e' => ?_) fun e' => ?_
      · walk_at "v"
        have h3 : i ≠ a := fun q => by rw [if_pos q] at e'; cases e'
        have h4 : i ≠ N := fun q => by simp [q] at e
        refine ⟨rfl, rfl, i + 1, ⟨by exact Nat.lt_of_le_of_ne h1 h3, by exact Nat.lt_of_le_of_ne h2 h4⟩, by exact Nat.not_le.mp fun hn => (Nat.le_total (i + 1) N).elim (fun hs2 => absurd (Nat.add_le_add hn (Nat.add_le_add (Nat.le_of_eq (Nat.sub_add_cancel (show i ≤ N from Nat.not_lt.mp fun hn => absurd (Nat.add_le_add h2 hn) (by simp +arith))).symm) (Nat.le_of_eq (Nat.sub_add_cancel hs2)))) (by simp +arith)) (fun hs2 => (Nat.lt_or_gt_of_ne h4).elim (fun hd1 => absurd (Nat.add_le_add hn (Nat.add_le_add (Nat.le_of_eq (Nat.sub_add_cancel (show i ≤ N from Nat.not_lt.mp fun hn => absurd (Nat.add_le_add h2 hn) (by simp +arith))).symm) (Nat.add_le_add (Nat.le_of_eq (Nat.sub_eq_zero_of_le hs2)) hd1))) (by simp +arith)) (fun hd1 => absurd (Nat.add_le_add h2 hd1) (by simp +arith))), .cons (lkI rfl ?_) (.cons (lkI rfl ?_) (.cons rfl .nil))⟩
        · exact Int.natCast_add _ _
        · simp +arith
      · walk_at "v"
        have h3 : i = a := Classical.byContradiction fun q => by rw [if_neg q] at e'; cases e'
        exact part2 i (by (clear h3 e h1 part2 hk hb ha; lia)) (by assumption)
    · walk_at "v"
      have h3 : i = N := by simp at e; exact Nat.le_antisymm (Nat.not_lt.mp fun hn => absurd (Nat.add_le_add h2 hn) (by simp +arith)) (Nat.not_lt.mp fun hn => absurd (Int.add_le_add (Int.le_of_eq e) (Int.ofNat_le.mpr (Nat.succ_le_of_lt hn))) (by simp +arith))
      exact part2 i (by exact Nat.le_antisymm (Nat.not_lt.mp fun hn => (Nat.le_total N a).elim (fun hs2 => absurd (Nat.add_le_add h2 (Nat.add_le_add hn (Nat.le_of_eq (Nat.min_eq_right hs2).symm))) (by simp +arith)) (fun hs2 => absurd (Nat.add_le_add h1 (Nat.add_le_add hn (Nat.le_of_eq (Nat.min_eq_left hs2).symm))) (by simp +arith))) (Nat.not_lt.mp fun hn => absurd (Nat.add_le_add (Nat.le_of_eq h3.symm) (Nat.add_le_add hn (Nat.min_le_right a N))) (by simp +arith))) (by assumption)
end
section
open PySem PySem.W PySem.Calls PyProof PyProof.Rows PySem.SeqAt
open PySem.StrLaws PySem.Builtin PySem.Builtin.Str
noncomputable def ljoin (Y : List Nat) : List (List Nat) → List Nat
  | [] => []
  | [p] => p
  | p :: q :: r => p ++ (Y ++ ljoin Y (q :: r))
theorem tx_toList (l : List Nat) : (tx l).cps.toList = l := by simp [tx]
theorem tx_app (a b : List Nat) : tx a ++ tx b = tx (a ++ b) := by
  apply Str.ext'
  apply Array.toList_inj.mp
  rw [Str.cps_append, Array.toList_append, tx_toList, tx_toList, tx_toList]
theorem join_tx (Y : List Nat) : ∀ ps : List (List Nat), Str.join (tx Y) (ps.map tx) = tx (ljoin Y ps)
  | [] => rfl
  | [p] => rfl
  | p :: q :: r => by
    show tx p ++ tx Y ++ Str.join (tx Y) ((q :: r).map tx) = tx (p ++ (Y ++ ljoin Y (q :: r)))
    rw [join_tx Y (q :: r), tx_app, tx_app, List.append_assoc]
theorem at_iff (L Y : List Nat) (hY : 1 ≤ Y.length) (k : Nat) : At (tx L) (tx Y) (tx L).length k ↔ (L.drop k).take Y.length = Y := by
  unfold At
  rw [subAt_eq, tx_toList, tx_toList, tx_len, tx_len]
  constructor
  · rintro ⟨_, h⟩; exact eq_of_beq h
  · intro h
    refine ⟨?_, by rw [h]; exact beq_self_eq_true _⟩
    have := congrArg List.length h
    rw [List.length_take, List.length_drop] at this
    exact Nat.not_lt.mp fun hn => (Nat.le_total (L.length - k) Y.length).elim (fun hs2 => (Nat.le_total k L.length).elim (fun hs1 => absurd (Nat.add_le_add (Nat.le_of_eq this.symm) (Nat.add_le_add hn (Nat.add_le_add (Nat.min_le_right Y.length (L.length - k)) (Nat.le_of_eq (Nat.sub_add_cancel hs1))))) (by simp +arith)) (fun hs1 => absurd (Nat.add_le_add hY (Nat.add_le_add (Nat.le_of_eq this.symm) (Nat.add_le_add (Nat.min_le_right Y.length (L.length - k)) (Nat.le_of_eq (Nat.sub_eq_zero_of_le hs1))))) (by simp +arith))) (fun hs2 => (Nat.le_total k L.length).elim (fun hs1 => absurd (Nat.add_le_add hn (Nat.add_le_add hs2 (Nat.le_of_eq (Nat.sub_add_cancel hs1)))) (by simp +arith)) (fun hs1 => absurd (Nat.add_le_add hY (Nat.add_le_add hs2 (Nat.le_of_eq (Nat.sub_eq_zero_of_le hs1)))) (by simp +arith)))
theorem not_at {L Y : List Nat} {h : Nat} {t : List Nat} (hY : Y = h :: t) {k : Nat} (hk : L[k]? ≠ some h) : ¬ At (tx L) (tx Y) (tx L).length k := by
  intro hA
  rw [at_iff L Y (by rw [hY]; simp)] at hA
  apply hk
  have : ((L.drop k).take Y.length)[0]? = some h := by rw [hA, hY]; rfl
  rw [List.getElem?_take, if_pos (by rw [hY]; simp), List.getElem?_drop] at this
  simpa using this
theorem sub_tx (L : List Nat) (a c : Nat) : strSub (tx L) a c = tx ((L.drop a).take (c - a)) := by
  apply Str.ext'
  apply Array.toList_inj.mp
  rw [strSub_toList, tx_toList, tx_toList]
theorem parts_of (h : Nat) (t : List Nat) (L : List Nat) : ∀ (ps : List (List Nat)) (a f : Nat) (cuts : List Nat), ps ≠ [] → (∀ p ∈ ps, h ∉ p) → a ≤ L.length → L.drop a = ljoin (h :: t) ps →
    ChainG (tx L) (tx (h :: t)) (tx L).length a cuts f → (∀ k, f ≤ k → ¬ At (tx L) (tx (h :: t)) (tx L).length k) → partsFrom (tx L) (h :: t).length a cuts = ps.map tx
  | [], _, _, _, hn, _, _, _, _, _ => absurd rfl hn
  | [p], a, f, cuts, _, hf, ha, hd, hc, hx => by
    have noAt : ∀ k, a ≤ k → ¬ At (tx L) (tx (h :: t)) (tx L).length k := fun k hk => not_at rfl fun e => by
      have e2 : (L.drop a)[k - a]? = some h := by rw [List.getElem?_drop, Nat.add_sub_cancel' hk]; exact e
      rw [hd] at e2
      exact hf p (List.mem_cons_self ..) (List.mem_of_getElem? e2)
    cases cuts with
    | cons c r => exact absurd hc.2.1 (noAt c hc.1)
    | nil =>
      show [strSub (tx L) a (tx L).length] = [tx p]
      rw [sub_tx, tx_len, List.take_of_length_le (by simp), hd]
      rfl
  | p :: q :: r, a, f, cuts, _, hf, ha, hd, hc, hx => by
    have hd' : L.drop a = p ++ ((h :: t) ++ ljoin (h :: t) (q :: r)) := hd
    have hlen := congrArg List.length hd'
    rw [List.length_drop, List.length_append, List.length_append] at hlen
    have hlow : ∀ k, a ≤ k → k < a + p.length → ¬ At (tx L) (tx (h :: t)) (tx L).length k := fun k h1 h2 => not_at rfl fun e => by
      have e2 : (L.drop a)[k - a]? = some h := by rw [List.getElem?_drop, Nat.add_sub_cancel' h1]; exact e
      rw [hd', List.getElem?_append_left (by exact Nat.not_le.mp fun hn => absurd (Nat.add_le_add h2 (Nat.add_le_add hn (Nat.le_of_eq (Nat.sub_add_cancel (show a ≤ k from Nat.not_lt.mp fun hn => absurd (Nat.add_le_add h1 hn) (by simp +arith)))))) (by simp +arith))] at e2
      exact hf p (List.mem_cons_self ..) (List.mem_of_getElem? e2)
    have hdp : L.drop (a + p.length) = (h :: t) ++ ljoin (h :: t) (q :: r) := by rw [← List.drop_drop, hd', List.drop_left]
    have hat : At (tx L) (tx (h :: t)) (tx L).length (a + p.length) := by
      rw [at_iff L (h :: t) (by simp), hdp, List.take_left]
    cases cuts with
    | nil =>
      have e : f = a := hc
      subst e
      exact absurd hat (hx _ (Nat.le_add_right _ _))
    | cons c cs =>
      obtain ⟨h1, h2, h3, h4⟩ := hc
      have ec : c = a + p.length := by
        rcases Nat.lt_trichotomy c (a + p.length) with q | q | q
        · exact absurd h2 (hlow c h1 q)
        · exact q
        · exact absurd hat (h3 _ (Nat.le_add_right _ _) q)
      subst ec
      have e4 : L.drop (a + p.length + (h :: t).length) = ljoin (h :: t) (q :: r) := by rw [← List.drop_drop, hdp, List.drop_left]
      have ih := parts_of h t L (q :: r) (a + p.length + (h :: t).length) f cs (by simp) (fun x hx => hf x (List.mem_cons_of_mem _ hx)) (by simp only [List.length_cons] at hlen ⊢; exact Nat.not_lt.mp fun hn => absurd (Nat.add_le_add (Nat.le_of_eq hlen.symm) (Nat.add_le_add hn (Nat.le_of_eq (Nat.sub_add_cancel (show a ≤ L.length from Nat.not_lt.mp fun hn => absurd (Nat.add_le_add ha hn) (by simp +arith)))))) (by simp +arith)) e4 (by rw [tx_len] at h4; exact h4) hx
      show strSub (tx L) a (a + p.length) :: partsFrom (tx L) (h :: t).length (a + p.length + (h :: t).length) cs = tx p :: (q :: r).map tx
      rw [ih, sub_tx, Nat.add_sub_cancel_left, hd', List.take_left]
theorem occ_parts (h : Nat) (t : List Nat) (ps : List (List Nat)) (hn : ps ≠ []) (hf : ∀ p ∈ ps, h ∉ p) :
    partsFrom (tx (ljoin (h :: t) ps)) (h :: t).length 0 (occurrences (tx (ljoin (h :: t) ps)) (tx (h :: t)) 0 (tx (ljoin (h :: t) ps)).length ((tx (ljoin (h :: t) ps)).length + 1)) = ps.map tx := by
  obtain ⟨f, h1, h2⟩ := occ_tight (tx (ljoin (h :: t) ps)) (tx (h :: t)) (by rw [tx_len]; simp)
  exact parts_of h t _ ps 0 f _ hn hf (Nat.zero_le _) rfl h1 h2
theorem sKind_pos (x : Str) : 1 ≤ Builtin.Str.strKind x := by
  unfold Builtin.Str.strKind
  split
  · exact Nat.le_refl _
  · split <;> decide
theorem split_tx (h : Nat) (t : List Nat) (hk : Builtin.Str.strKind (tx (h :: t)) = 1) (ps : List (List Nat)) (hn : ps ≠ []) (hf : ∀ p ∈ ps, h ∉ p) : Txt.split (tx (ljoin (h :: t) ps)) (tx (h :: t)) = ps.map tx := by
  have key := occ_parts h t ps hn hf
  unfold Txt.split
  split
  · rename_i hc
    rw [hk] at hc
    have := sKind_pos (tx (ljoin (h :: t) ps))
    have hlt : (tx (ljoin (h :: t) ps)).length < (tx (h :: t)).length := by
      rcases Bool.or_eq_true_iff.mp hc with q | q
      · exact of_decide_eq_true q
      · have := of_decide_eq_true q; omega
    match ps, hn with
    | [p], _ => rfl
    | p :: q :: r, _ =>
      rw [tx_len, tx_len] at hlt
      exfalso
      have e : ljoin (h :: t) (p :: q :: r) = p ++ ((h :: t) ++ ljoin (h :: t) (q :: r)) := rfl
      rw [e, List.length_append, List.length_append] at hlt
      exact absurd hlt (by simp +arith)
  · split
    · rename_i he
      rw [List.isEmpty_iff.mp he] at key
      have e : partsFrom (tx (ljoin (h :: t) ps)) (h :: t).length 0 [] = [strSub (tx (ljoin (h :: t) ps)) 0 (tx (ljoin (h :: t) ps)).length] := rfl
      rw [e, sub_whole] at key
      exact key
    · rw [partsBetween_eq, tx_len (h :: t)]
      exact key
theorem replace_tx (h : Nat) (t z : List Nat) (ps : List (List Nat)) (hn : ps ≠ []) (hf : ∀ p ∈ ps, h ∉ p) : Txt.replace (tx (ljoin (h :: t) ps)) (tx (h :: t)) (tx z) = tx (ljoin z ps) := by
  have key := occ_parts h t ps hn hf
  have hj := join_tx z ps
  unfold Txt.replace
  split
  · rename_i he
    have he' : (occurrences (tx (ljoin (h :: t) ps)) (tx (h :: t)) 0 (tx (ljoin (h :: t) ps)).length ((tx (ljoin (h :: t) ps)).length + 1)).isEmpty = true := by
      rcases Bool.or_eq_true_iff.mp he with q | q
      · exact q
      · simp [tx_len] at q
    rw [List.isEmpty_iff.mp he'] at key
    have e : partsFrom (tx (ljoin (h :: t) ps)) (h :: t).length 0 [] = [strSub (tx (ljoin (h :: t) ps)) 0 (tx (ljoin (h :: t) ps)).length] := rfl
    rw [e, sub_whole] at key
    rw [← hj, ← key]; rfl
  · rw [partsBetween_eq, tx_len (h :: t), key, glued_eq_join, hj]
end
section
open PySem PySem.W PySem.Calls PyProof PyProof.Rows PySem.SeqAt
theorem WE_hdr {c x pos ρ σ xs} {Q : V → Prop} (e : ρ.lookup x = some (.hdrP xs)) (h : Q (.hdr xs))
    (hk : c.env.kindOf x = some .local ∨ c.env.kindOf x = some .cell ∨ c.env.kindOf x = some .free)
    (hd : (x == ("__debug__" : Str)) = false := by decide) (hn : (x == ("__classdict__" : Str)) = false := by decide) : WE c (.Name x pos) ρ σ Q := fun s R =>
  goV ((WE_name (Q := fun X => X = .hdrP xs) e rfl hk hd hn) s R) fun v s' X hX k e => by
    subst e
    obtain ⟨x, l, vs, e, hx, hn, hl, hs⟩ := hX
    exact ⟨.hdr xs, ⟨x, l, vs, e, hx, hn, hl.isList, hs⟩, k, h⟩
theorem st_none_of {K : Frag} {h : Heap} {a : Addr} {mg : Str → Option Value} {n : Str} (X : K.In h) (G : h.Ns a mg) (e : nsIn K a n = some none) : mg n = none := by
  obtain ⟨o, es, ep, ho, hd, _, hf⟩ := G
  unfold nsIn at e
  split at e
  · rename_i c d es' n' sl q
    have := X _ _ q
    rw [ho] at this
    cases this
    cases hd
    split at e
    · cases e
    · rename_i he
      split at e
      · cases e
      · rw [← hf]
        unfold nsFind findBy
        rw [← Array.find?_toList, he]
        rfl
  · cases e
theorem none_booked_of {c ρ σ s} (R : Rel c ρ σ s) : NoneBooked s.heap := by
  obtain ⟨mc, hn, _⟩ := R.stat.T.nolimit
  exact ⟨mc, hn, st_none_of R.stat.K hn rfl⟩
theorem Rel.deep {c ρ σ s} (R : Rel c ρ σ s) (A : Around) (k : Nat) (hh : A.handled = c.A.handled) (hd : A.depth + 20 * k ≤ 600) (hu : A.units + 100 * k ≤ 9000) : Rel { c with A := A, k := k } ρ σ s :=
  ⟨⟨R.ok.kind, R.ok.glob, R.ok.blt, hh.trans R.ok.hand, hd, hu, R.ok.stat, R.ok.lown, R.ok.ownh, R.ok.cdist, R.ok.cloc, R.ok.cin⟩, R.base, R.al, R.loc, R.cel, R.muts, R.nd, R.tk⟩
theorem mStr : MethAt "__str__" 158 := ⟨fun w => by kernel_rfl, fun w => by kernel_rfl, by decide, fun w => by kernel_rfl⟩
theorem WC_strH {c ρ σ k y} {xs : List V} {Q : V → Prop} (hP : Pure 158 k [.hdr xs] (fun Z => Z = .str y)) (hk : k + 1 ≤ c.k) (h : Q (.str y)) : WC c (.type "str") [] [.hdr xs] ρ σ Q := by
  rintro s _ R ⟨v, _, rfl, z, rfl⟩
  obtain ⟨x, l, rfl, hx⟩ := (show IsH (.hdr xs) from .inr ⟨xs, rfl⟩).inst z
  have ru := R.ok.units
  have rd := R.ok.depth
  have key : wpAny (model PG c.w) c.A.in1.in1 (Builtin.Str.strOf (.ref x)) (fun u s' => ∃ t, u = .str y t ∧ KeepE s s') (fun uu uu => False) s := by
    obtain ⟨dx, n, t, I⟩ := hx.inst
    unfold Builtin.Str.strOf
    rw [show Builtin.Str.isExactStr (.ref x) = false from rfl]
    refine wpAny_bind (m := cRoomFor _ _) (wpAny_cRoomFor (by show c.A.units + 1 + 1 < cLine; unfold cLine; exact Nat.not_le.mp fun hn => absurd (Nat.add_le_add ru hn) (by simp +arith)) ?_)
    have L0 := I.type (M := model PG c.w)
    have L1 := looks_findIn (M := model PG c.w) R.stat.K (mStr.find c.w)
    refine wpAny_bind (m := callSpecial? _ (Str.ofString "__str__")) ?_
    unfold callSpecial? specialOf
    refine wpAny_bind (wpAny_bind (L0.here (L1.here ?_)))
    refine wpAny_holding (wpAny_bind ((bind_fn R.stat.K (.ref x) (mStr.ty c.w)).here ?_))
    have R' := R.deep c.A.in1.in1 (c.k - 1) rfl (by show c.A.depth + _ ≤ _; exact Nat.not_lt.mp fun hn => absurd (Nat.add_le_add rd (Nat.add_le_add hn (Nat.mul_le_mul_left 20 (Nat.le_of_eq (Nat.sub_add_cancel (show 1 ≤ c.k from Nat.not_lt.mp fun hn => absurd (Nat.add_le_add hk hn) (by simp +arith))))))) (by simp +arith)) (by show c.A.units + 1 + 1 + _ ≤ _; exact Nat.not_lt.mp fun hn => absurd (Nat.add_le_add ru (Nat.add_le_add hn (Nat.mul_le_mul_left 100 (Nat.le_of_eq (Nat.sub_add_cancel (show 1 ≤ c.k from Nat.not_lt.mp fun hn => absurd (Nat.add_le_add hk hn) (by simp +arith))))))) (by simp +arith))
    refine wpAny_bind (goV (hP _ _ _ (by show k ≤ c.k - 1; exact Nat.le_sub_of_add_le hk) s [.ref x] R' ⟨_, [], rfl, z, rfl⟩) fun u s' Z hZ k₁ e => ?_)
    subst e
    obtain ⟨t', rfl⟩ := hZ
    refine wpAny_pure ?_
    refine wpAny_bind (wpAny_of_eq (show asStr? (.str y t') = pure (some y) from rfl) ?_)
    exact wpAny_pure ⟨t', rfl, k₁⟩
  refine callType_newIn (S := fun A R' s' => wpAny (model PG c.w) A.in1 (Builtin.Str.strOf (.ref x)) (fun r s' => R' (.ok (.ret r)) s') (fun e s' => R' (.error e) s') s') F.called_str (by decide) (F.typeCall_str_1 _) (F.newCall_str_1 _) (fun obj => F.args_object_init_2 obj _) F.entry_str_new (fun A R' s' hS => ?_) ?_
  · show wpAny _ _ (Builtin.«str.__new__» ⟨[.type "str", .ref x], []⟩) _ _ _
    rw [str_new_tree (.ref x)]
    refine wpAny_bind (wpAny_pure ?_)
    refine wpAny_bind (wpAny_of_eq isSubtype_str_str ?_)
    exact wpAny_bind (wpAny_mono hS (fun r s' h' => wpAny_pure h') fun uu uu e => e)
  · refine wpAny_mono key (fun u s' hpt => ?_) fun uu uu x => x.elim
    obtain ⟨t, e, k₁⟩ := hpt
    subst e
    exact ⟨typeIs_str _ _ _, .str y, ⟨t, rfl⟩, k₁, h⟩
theorem strValues_VRs {w W s} : ∀ l : List (Str × Tok), VRs w W s ((l.map (·.1)).map V.str) (strValues l)
  | [] => rfl
  | p :: r => ⟨.str p.1 p.2, strValues r, rfl, ⟨p.2, rfl⟩, strValues_VRs r⟩
theorem WC_split {c ρ σ X Y x y} {Q : V → Prop} (hX : SV X x) (hY : SV Y y) (hy : (y.length == 0) = false) (hsz : x.length ≤ 16000000) (h : Q (.list ((Txt.split x y).map .str))) : WC c (.builtin "str.split") [] [X, Y] ρ σ Q := by
  rintro s _ R ⟨v, _, rfl, z, u, _, rfl, zu, rfl⟩
  obtain ⟨t, rfl⟩ := hX.is z
  obtain ⟨t', rfl⟩ := hY.is zu
  have hsz' : x.length ≤ sizeLine := by rw [sizeLine_eq]; exact Nat.le_add_left_of_le hsz
  have hn' : (Builtin.Str.partsBetween x (Builtin.Str.occurrences x y 0 x.length (x.length + 1)) y.length).length ≤ sizeLine := by
    have := StrLaws.occ_length_le x y 0 x.length (x.length + 1)
    rw [sizeLine_eq, length_partsBetween]
    exact Nat.not_lt.mp fun hn => absurd (Nat.add_le_add hsz (Nat.add_le_add this hn)) (by simp +arith)
  have fin : ∀ (l : List (Str × Tok)) (k : Nat), l.map (·.1) = Txt.split x y → (k : Nat) ≥ (s.toks : Nat) → OV c σ s Q (.ref s.heap.objs.size) { s with toks := k, heap := s.heap.push { cls := .type "list", data := .seq (strValues l).toArray } } := by
    intro l k hl hk
    refine ⟨.list ((Txt.split x y).map .str), ⟨_, strValues l, rfl, R.new, ⟨_, Heap.get?_push_size _ rfl, rfl, _, rfl⟩, ?_⟩, .mk' (stays_push _ _) hk, h⟩
    rw [← hl]
    exact strValues_VRs l
  cases h1 : (decide (x.length < y.length) || decide (Builtin.Str.strKind x < Builtin.Str.strKind y))
  · cases hf : (Builtin.Str.occurrences x y 0 x.length (x.length + 1)).isEmpty
    · refine with_toks (call_meets F.slot_str_split (typeIs_str _ _ _) F.entry_str_split (F.args_str_split_2 _ _) (meets_str_split_sep x y t t' h1 hy hf hsz' hn') ?_)
      show wants _ _ _ { s with toks := _, heap := s.heap.push { cls := .type "list", data := .seq (strsFrom s.toks (Builtin.Str.partsBetween x (Builtin.Str.occurrences x y 0 x.length (x.length + 1)) y.length)).toArray } }
      rw [strsFrom_eq]
      intro hk
      exact fin (numbered s.toks _) _ ((numbered_texts _ _).trans ((if_neg (ne_true_of_eq_false h1)).trans (if_neg (ne_true_of_eq_false hf))).symm) hk
    · exact call_meets F.slot_str_split (typeIs_str _ _ _) F.entry_str_split (F.args_str_split_2 _ _) (meets_str_split_not_found x y t t' h1 hy hf)
        (fin [(x, t)] s.toks ((if_neg (ne_true_of_eq_false h1)).trans (if_pos hf)).symm (Nat.le_refl _))
  · exact call_meets F.slot_str_split (typeIs_str _ _ _) F.entry_str_split (F.args_str_split_2 _ _) (meets_str_split_cannot_occur x y t t' h1) (fin [(x, t)] s.toks (if_pos h1).symm (Nat.le_refl _))
theorem name_val {c : Cx} {x pos ρ σ X} {s : Shared} {Q : Value → Shared → Prop} (R : Rel c ρ σ s) (e : ρ.lookup x = some X) (hk : c.env.kindOf x = some .local) (tk : Nat) (h : ∀ v, VR c.w (wof c σ) s X v → Q v { s with toks := tk })
    (hd : (x == ("__debug__" : Str)) = false := by decide) : wpAny (model PG c.w) c.A (eval (.Name x pos) c.env) Q (fun uu uu => False) { s with toks := tk } := by
  obtain ⟨m, hN, hl⟩ := R.loc
  obtain ⟨v, hv, hx⟩ := (hl x X e).1 hk
  exact wpAny_Name (wpAny_loadName_local (s := { s with toks := tk }) R.ok.kind hk hN hv (h v hx)) hd
theorem WE_replace {c o apos pos y k cp z zp ρ σ x zt} {Q : V → Prop} (hz : ρ.lookup z = some (.lit zt)) (hk : c.env.kindOf z = some .local)
    (h : WE c o ρ σ (fun X => SV X x ∧ x.length + (x.length + 1) * zt.length ≤ 16777216 ∧ Q (.str (Txt.replace x y zt))))
    (hd : (z == ("__debug__" : Str)) = false := by decide)
    (hbase : attributeBase o "replace" c.env (eval o c.env) = eval o c.env := by walk_at "r")
    (hfew : ((backTo pos (starEach [.Constant (.str y) k cp, .Name z zp] c.env)).all (fun x => !x.1) && (backToKw pos (keywordEach [] c.env)).all (fun x => x.1.isSome)
      && decide (([.Constant (.str y) k cp, .Name z zp] : List Expr).length + ([] : List Keyword).length + (if ([] : List Keyword).isEmpty then 0 else 1) < 30)) = true := by walk_at "r")
    (hline : (apos.endLine == pos.line) = true := by walk_at "r")
    (hst : backTo pos (starEach [.Constant (.str y) k cp, .Name z zp] c.env) = [(false, eval (.Constant (.str y) k cp) c.env), (false, eval (.Name z zp) c.env)] := by walk_at "r") :
    WE c (.Call (.Attribute o "replace" apos) [.Constant (.str y) k cp, .Name z zp] [] pos) ρ σ Q := fun s R => by
  refine wpAny_Call_method hbase hfew hline F.plainAttrs_str F.slot_str_replace F.type_str_replace (goV (h s R) fun ov s₁ X hX k₁ hpt => ?_)
  obtain ⟨hx, hb, q⟩ := hpt
  obtain ⟨t, rfl⟩ := hx.is hX
  have R₁ := R.keepE k₁
  refine ⟨typeIs_str _ _ _, fun a ea => (by cases ea), ?_⟩
  rw [hst]
  refine Calls.callWith_builtin rfl (Calls.evalArgs_plain (Calls.spliced_cons (wpAny_Constant_str (Calls.spliced_cons (name_val R₁ hz hk _ (fun v hv => Calls.spliced_nil ?_) hd)))))
  obtain ⟨t', rfl, ht0, htl⟩ := hv
  have htk := R₁.tk
  refine with_toks (SC.replaceA htk ht0 (fun e => ?_) hb (fun t'' k' hk' => ⟨.str (Txt.replace x y zt), ⟨t'', rfl⟩, k₁.trans (.mk' (.refl _) (Nat.le_trans (Nat.le_succ _) hk')), q⟩) (show NoneBooked s₁.heap from none_booked_of R₁))
  rw [e] at htl
  exact Nat.lt_irrefl _ htl
end
section
open PySem PySem.W PySem.Calls PyProof PyProof.Rows PySem.SeqAt
theorem enterX {c : Cx} {ρ : Rho} {σ : Sig} {s : Shared} (R : Rel c ρ σ s) {a : Addr} {fd : FuncData} {body : List Stmt} (F : FnAt a fd body) {vs : List Value} {kw : List (Str × Value)} {ρ₀ : Rho}
    (hbind : ∀ (A : Around) (E : Value → Shared → Prop) (Q : List (Str × Value) → Shared → Prop), (∀ binds s', KeepE s s' → BR c.w (wof c σ) s' ρ₀ binds → Q binds s') → wpAny (model PG c.w) A (bindArgs fd ⟨vs, kw⟩) Q E s) (hnd : (ρ₀.map (·.1)).Nodup) (hkind : kindsOk fd.scope (ρ₀.map (·.1))) {σc : Sig} {out : List Addr}
    (hσ : (σc = [] ∧ ∀ b, b ∈ out ↔ b ∈ wof c σ) ∨ (σc = σ ∧ out = c.own ++ c.out)) {k : Nat} (hk : k + 1 ≤ c.k) {P : Value → Shared → Prop} {PE : Value → Shared → Prop}
    (hb : ∀ L s₁, (∀ b ∈ (c.call fd a L out k).own, s.heap.get? b = none) → KeepE s s₁ → Rel (c.call fd a L out k) ρ₀ σc s₁ → wpAny (model PG c.w) (c.call fd a L out k).A (execs body (c.call fd a L out k).env) (fun fl s' => P (match fl with | .ret v => v | _ => .none) s') (fun e s' => wpAny (model PG c.w) (c.call fd a L out k).A (leaving (c.call fd a L out k).env e) (fun uu s'' => PE e s'') (fun uu uu => False) s') s₁) :
    codeAny (model PG c.w) c.A (.call (.ref a) ⟨vs, kw⟩) (fun r s' => match r with | .ok (.ret v) => P v s' | .ok _ => False | .error e => PE e s') s := by
  obtain ⟨o, hl, hd⟩ := F.at_ c.w
  have ho : s.heap.get? a = some o := R.stat.K _ _ hl
  refine (codeAny_call_function (Nat.lt_of_le_of_lt (Nat.le_trans (Nat.le_add_right _ _) R.ok.depth) (by decide)) ho hd F.co F.gen F.body_ (codeRec_of R.stat.K (F.code c.w)) (hbind _ _ _ fun binds s0 k0 hB => ?_))
  have hbs := hb
  replace hb := fun L s₁ (hf : ∀ b ∈ (c.call fd a L out k).own, s0.heap.get? b = none) (k : KeepE s0 s₁) => hbs L s₁ (fun b hb => by
    have := hf b hb
    cases e : s.heap.get? b with
    | none => rfl
    | some o => rw [k0.2 _ _ e] at this; cases this) (k0.trans k)
  replace R : Rel c ρ σ s0 := R.keepE k0
  clear hbind ho hbs
  clear k0
  clear s
  rename Shared => s
  rw [F.clos]
  refine wpAny_with_toks (n := s.toks) (Nat.le_refl _) (wpAny_mono (E := fun uu uu => False) (wpAny_newFunctionEnv_cells (Q := fun env s₁ => @LE.le Nat _ s.toks s₁.toks → s₁.heap.NoLimit ∧ codeAny (model PG c.w) c.A (.func body env) _ s₁) F.kind (fun x hx => hkind _ x.1 (by rw [← hB.names]; exact List.mem_map_of_mem hx)) fun env he s₁ x htk => ?_) (fun uu uu x => x) fun uu uu x => x.elim)
  have hnl := R.stat.T.nolimit
  have hk₁ := x.toInCall.keep
  refine ⟨hnl.keeps hk₁, ?_⟩
  have he' : env = callEnvC fd s.heap.objs.size a := he
  subst he'
  generalize hL : s.heap.objs.size = L at *
  have fresh : ∀ b ∈ (c.call fd a L out k).own, s.heap.get? b = none := fun b hb => by
    rcases List.mem_cons.mp hb with q | q
    · exact size_fresh (by rw [q, hL]; exact Nat.le_refl _)
    · obtain ⟨p, hp, e⟩ := List.mem_map.mp q
      exact size_fresh (by rw [← e, hL]; exact Nat.le_of_lt (x.above p.1 p.2 hp))
  have nW : ∀ b ∈ (c.call fd a L out k).own, b ∉ wof c σ := fun b hb h => by
    obtain ⟨o, e⟩ := R.al b h; rw [fresh b hb] at e; cases e
  have subW : ∀ b, b ∈ σc.map (·.1) ++ out ↔ b ∈ wof c σ := fun b => by
    rcases hσ with ⟨rfl, h⟩ | ⟨rfl, rfl⟩
    · simpa using h b
    · exact Iff.rfl
  have wofc : ∀ b, b ∈ wof (c.call fd a L out k) σc ↔ b ∈ (c.call fd a L out k).own ∨ b ∈ wof c σ := fun b => by
    rw [← subW b]
    simp only [wof, List.mem_append]
    constructor
    · rintro (h | h | h)
      · exact .inr (.inl h)
      · exact .inl h
      · exact .inr (.inr h)
    · rintro (h | h | h)
      · exact .inr (.inl h)
      · exact .inl h
      · exact .inr (.inr h)
  obtain ⟨h₁, tk, hs₁, hkk⟩ := x.done
  have k₁ : KeepE s s₁ := ⟨⟨h₁, tk, s.gens, hs₁, .refl _, by rw [hs₁] at htk; exact htk⟩, hk₁⟩
  have hv : ∀ a, a ∉ wof c σ → (∃ o, s.heap.get? a = some o) → a ∉ wof (c.call fd a L out k) σc := fun b hb ⟨o, e⟩ hm =>
    ((wofc b).mp hm).elim (fun q => by rw [fresh b q] at e; cases e) hb
  have cellK : ∀ p ∈ (callEnvC fd L a).cells, ∃ v, s₁.heap.IsCell p.2 v := fun p hp =>
    ⟨_, x.cell p.1 p.2 (lookup_of_mem_nodup (cellsFrom_names fd.scope.names 0 (L + 1) [] [] rfl ▸ F.cnd) hp)⟩
  have hok : (c.call fd a L out k).Ok := by
    refine ⟨F.kind, F.glob, F.blt, R.ok.hand, ?_, ?_, R.ok.stat, .head _, fun b hb => ?_, ?_, fun h => ?_, fun p hp => .inl (.tail _ (List.mem_map_of_mem hp))⟩
    · have := R.ok.depth
      show c.A.depth + 1 + 20 * k ≤ 600
      exact Nat.not_lt.mp fun hn => absurd (Nat.add_le_add (Nat.mul_le_mul_left 20 hk) (Nat.add_le_add this hn)) (by simp +arith)
    · have := R.ok.units
      show c.A.units + 3 + 100 * k ≤ 9000
      exact Nat.not_lt.mp fun hn => absurd (Nat.add_le_add (Nat.mul_le_mul_left 100 hk) (Nat.add_le_add this hn)) (by simp +arith)
    · cases e : c.h₀.get? b with
      | none => rfl
      | some o => have := R.base _ _ e; rw [fresh b hb] at this; cases this
    · exact List.pairwise_map.mpr x.apart
    · obtain ⟨p, hp, e⟩ := List.mem_map.mp h
      have := x.above p.1 p.2 hp
      rw [e] at this
      exact Nat.lt_irrefl _ this
  have R₁ : Rel (c.call fd a L out k) ρ₀ σc s₁ := by
    have hnb : (binds.map (·.1)).Nodup := hB.names ▸ hnd
    refine ⟨hok, R.base.trans hk₁, fun b hb => ?_, ⟨_, x.toInCall.ns, fun y X e => ?_⟩, cellK, fun p hp => ?_, ?_, fun e => R.tk (Nat.le_zero.mp (e ▸ htk))⟩
    · rcases (wofc b).mp hb with q | q
      · rcases List.mem_cons.mp q with q | q
        · obtain ⟨o, _, _, e, _⟩ := x.toInCall.ns; exact ⟨o, q ▸ e⟩
        · obtain ⟨p, hp, e⟩ := List.mem_map.mp q
          obtain ⟨v, o, e', _⟩ := cellK p hp; exact ⟨o, e ▸ e'⟩
      · obtain ⟨o, e⟩ := R.al b q; exact ⟨o, hk₁ _ _ e⟩
    · obtain ⟨v, hv', hX⟩ := hB.look e
      have hX' : VR c.w (wof (c.call fd a L out k) σc) s₁ X v := hX.keep (k₁.keepW _) hv
      have hm : y ∈ ρ₀.map (·.1) := List.mem_map.mpr ⟨_, lookup_mem' e, rfl⟩
      refine ⟨fun q => ⟨v, by rw [bindL_lookup q binds _ hnb, hv']; rfl, hX'⟩, fun q => ?_⟩
      have hy : (callEnvC fd L a).kindOf y = fd.scope.names.lookup y := rfl
      rcases hkind (L + 1) y hm with q' | ⟨q', hs⟩
      · rw [hy, q'] at q; rcases q with q | q <;> cases q
      · obtain ⟨b, hb⟩ := Option.isSome_iff_exists.mp hs
        have := x.cell y b hb
        rw [bindC_lookup (by rw [hy, q']; intro z; cases z) binds _ hnb, hv'] at this
        exact ⟨b, v, hb, this, hX'⟩
    · rcases hσ with ⟨rfl, _⟩ | ⟨rfl, rfl⟩
      · cases hp
      · obtain ⟨a1, a2, vs', a3, a4⟩ := R.muts p hp
        refine ⟨a1, fun hm => ?_, vs', a3.at (fun o => hk₁ _ o), a4.keep (k₁.keepW _) hv⟩
        rcases List.mem_append.mp hm with q | q
        · exact nW _ q (List.mem_append_left _ (List.mem_map_of_mem hp))
        · exact a2 q
    · rcases hσ with ⟨rfl, _⟩ | ⟨rfl, rfl⟩
      · exact List.nodup_nil
      · exact R.nd
  exact codeAny_func (wpAny_mono (hb L s₁ fresh k₁ R₁) (fun fl s' h => h) fun e s' h => wpAny_mono h (fun uu uu x => x) fun uu uu x => x.elim)
noncomputable def VE : Value := .type "ValueError"
noncomputable def fad (fs : List Env) : List Addr := fs.filterMap (·.frame)
noncomputable def FF (fs : List Env) (h : Heap) : Prop := ∀ env ∈ fs, env.scope.kind ≠ .module ∧ ∃ L o, env.frame = some L ∧ h.get? L = some o ∧ ∀ vs, o.data ≠ .fields vs
theorem mem_fad {fs : List Env} {env : Env} {L : Addr} (h : env ∈ fs) (hf : env.frame = some L) : L ∈ fad fs := List.mem_filterMap.mpr ⟨env, h, hf⟩
theorem FF.fun {g : Heap} {H : List Addr} {h : Heap} : ∀ {fs : List Env}, FF fs h → (∀ b ∈ fad fs, b ∈ H) → h.FunFrames (hideAll g H) fs
  | [], _, _ => trivial
  | env :: fs, x, hH => by
    obtain ⟨a, L, o, hf, ho, hd⟩ := x env (.head _)
    refine ⟨a, ⟨L, o, hf, hideAll_none _ (hH L (mem_fad (.head _) hf)), ho, hd⟩, FF.fun (fun e he => x e (.tail _ he)) fun b hb => hH b ?_⟩
    obtain ⟨e, he, hf⟩ := List.mem_filterMap.mp hb
    exact mem_fad (.tail _ he) hf
theorem FF.slots {fs : List Env} {h h' : Heap} (x : FF fs h) (k : h.UpToSlots h') : FF fs h' := fun env he => by
  obtain ⟨a, L, o, hf, ho, hd⟩ := x env he
  obtain ⟨sl, e⟩ := k L o ho hd
  exact ⟨a, L, _, hf, e, hd⟩
theorem FF.keeps {fs : List Env} {h h' : Heap} (x : FF fs h) (k : ∀ b ∈ fad fs, ∀ o, h.get? b = some o → h'.get? b = some o) : FF fs h' := fun env he => by
  obtain ⟨a, L, o, hf, ho, hd⟩ := x env he
  exact ⟨a, L, o, hf, k L (mem_fad he hf) o ho, hd⟩
theorem FF.cons {env : Env} {fs : List Env} {h : Heap} {L : Addr} {m} (hk : env.scope.kind ≠ .module) (hf : env.frame = some L) (hn : h.Ns L m) (x : FF fs h) : FF (env :: fs) h := fun e he => by
  rcases List.mem_cons.mp he with rfl | he
  · obtain ⟨o, es, ep, ho, hd, _⟩ := hn
    exact ⟨hk, L, o, hf, ho, fun vs q => by rw [hd] at q; cases q⟩
  · exact x e he
noncomputable def Fly (fs : List Env) (s s' : Shared) (e : Value) : Prop :=
  Stp s s' ∧ ∃ ea a0, e = .ref ea ∧ Heap.FlyingW (hideAll s.heap (fad fs)) fs ea VE a0 s'.heap ∧ s.heap.UpToSlots s'.heap
noncomputable def Made (s s' : Shared) (e : Value) : Prop := Stp s s' ∧ ∃ ea args, e = .ref ea ∧ Heap.MadeExcOf s.heap s'.heap ea VE args
theorem hide_stays {h h' : Heap} {H H' : List Addr} (k : ∀ b o, h.get? b = some o → b ∉ H → h'.get? b = some o ∧ b ∉ H') : (hideAll h H).StaysIn (hideAll h' H') := fun b o e => by
  have hb : b ∉ H := fun q => by rw [hideAll_none _ q] at e; cases e
  obtain ⟨a, c⟩ := k b o (of_hideAll _ e) hb
  exact hideAll_get _ a c
theorem leave_fly {M : Model} {A : Around} {env : Env} {fs : List Env} {L : Addr} {s s₁ s' : Shared} {e : Value} {E : Value → Shared → Prop} (hfr : A.frames = some (env :: fs)) (hf : env.frame = some L) (ff : FF (env :: fs) s₁.heap)
    (hu : Made s₁ s' e ∨ Fly (env :: fs) s₁ s' e) (k : ∀ b o, s.heap.get? b = some o → s₁.heap.get? b = some o ∧ b ≠ L) (st : Stp s s₁) :
    wpAny M A (leaving env e) (fun uu s'' => Fly fs s s'' e) E s' := by
  have base : (hideAll s.heap (fad fs)).StaysIn (hideAll s₁.heap (fad (env :: fs))) := hide_stays fun b o e nb => by
    obtain ⟨a, c⟩ := k b o e
    refine ⟨a, fun hm => ?_⟩
    unfold fad at hm
    rw [List.filterMap_cons, hf] at hm
    rcases List.mem_cons.mp hm with q | q
    · exact c q
    · exact nb q
  have fin : ∀ (h' : Heap) (ea : Addr) (a0 : Value), Stp s₁ s' → Heap.FlyingW (hideAll s₁.heap (fad (env :: fs))) fs ea VE a0 h' → s₁.heap.UpToSlots h' → Fly fs s { s' with heap := h' } (.ref ea) := fun h' ea a0 st' hfl hup =>
    ⟨(st.trans st').trans (.mk' _ _ (Nat.le_refl _)), ea, a0, rfl, flyingW_base base hfl, (Heap.UpToSlots.of_keeps fun b o e => (k b o e).1).trans hup⟩
  rcases hu with ⟨st', ea, args, rfl, hx⟩ | ⟨st', ea, a0, rfl, hfl, hup⟩
  · exact wpAny_leaves_madeW hfr hf (fun b o e => of_hideAll _ e) (ff.fun fun b hb => hb) hx fun h' t x1 x2 x3 x4 => fin h' ea _ st' x1 ((Heap.UpToSlots.of_keeps hx.keeps).trans x4)
  · exact wpAny_leaves_onW hfr hf hfl fun h' x1 x2 => fin h' ea _ st' x1 (hup.trans x2)
noncomputable def WTh {α : Type} (c : Cx) (fs : List Env) (t : Sem α) (ρ : Rho) (σ : Sig) : Prop :=
  ∀ s, Rel c ρ σ s → FF fs s.heap → wpAny (model PG c.w) c.A t (fun uu uu => False) (fun e s' => ∃ ρ₁ σ₁ s₁, Rel c ρ₁ σ₁ s₁ ∧ KS c σ σ₁ s s₁ ∧ FF fs s₁.heap ∧ (Made s₁ s' e ∨ Fly (c.env :: fs) s₁ s' e)) s
noncomputable def WTe {α : Type} (c : Cx) (fs : List Env) (t : Sem α) (ρ : Rho) (σ : Sig) : Prop :=
  ∀ s, Rel c ρ σ s → FF fs s.heap → wpAny (model PG c.w) c.A t (fun uu uu => False) (fun e s' => ∃ s₁, KeepE s s₁ ∧ Fly (c.env :: fs) s₁ s' e) s
theorem FF.stays {fs : List Env} {h h' : Heap} (x : FF fs h) (k : StaysIn h h') : FF fs h' := x.keeps fun b uu o e => k b o e
theorem WTe.th {α : Type} {c fs ρ σ} {t : Sem α} (h : WTe c fs t ρ σ) : WTh c fs t ρ σ := fun s R ff =>
  wpAny_mono (h s R ff) (fun uu uu x => x) fun e s' ⟨s₁, k, f⟩ => ⟨ρ, σ, s₁, R.keepE k, k.ks, ff.stays k.2, .inr f⟩
noncomputable def Apart (c : Cx) (fs : List Env) : Prop := ∀ b ∈ fad fs, b ∈ c.out ∧ b ∉ c.own
theorem FF.ks {c : Cx} {fs : List Env} {ρ σ σ' s s'} (x : FF fs (Shared.heap s)) (ap : Apart c fs) (R : Rel c ρ σ s) (k : KS c σ σ' s s') : FF fs s'.heap := x.keeps fun b hb o e => k.2.1 b o (fun hm => by
  obtain ⟨h1, h2⟩ := ap b hb
  rcases List.mem_append.mp hm with q | q
  · obtain ⟨p, hp, rfl⟩ := List.mem_map.mp q
    exact (R.muts p hp).2.1 (List.mem_append_right _ h1)
  · exact h2 q) e
theorem th_head {c fs st rest ρ σ} (h : WTh c fs (exec st c.env) ρ σ) : WTh c fs (execs (st :: rest) c.env) ρ σ := fun s R ff =>
  wpAny_execs_cons (wpAny_mono (h s R ff) (fun uu uu x => x.elim) fun uu uu x => x)
theorem th_next {c fs st rest ρ σ} (ap : Apart c fs) (h : W1 c st ρ σ (fun F ρ' σ' => F = .next ∧ WTh c fs (execs rest c.env) ρ' σ')) : WTh c fs (execs (st :: rest) c.env) ρ σ := fun s R ff =>
  wpAny_execs_cons (goX (h s R) fun f s' F ρ' σ' hf R' k ⟨e, hT⟩ => by
    subst e; cases hf
    exact wpAny_mono (hT s' R' (ff.ks ap R k)) (fun uu uu x => x.elim) fun e s'' ⟨ρ₁, σ₁, s₁, R₁, k₁, f₁, u⟩ => ⟨ρ₁, σ₁, s₁, R₁, .trans R' k k₁, f₁, u⟩)
theorem th_assign {c fs x px e pos ρ σ} (h : WTh c fs (eval e c.env) ρ σ) (hs : swapsWith e (some (.Name x px)) pos.line c.env = pure false := by walk_at "r") : WTh c fs (exec (.Assign [.Name x px] e pos) c.env) ρ σ := fun s R ff =>
  wpAny_Assign_Name (wpAny_mono (h s R ff) (fun uu uu x => x.elim) fun uu uu x => x) hs
theorem th_if {c fs t b o pos ρ σ} (h : WI c t ρ σ (fun z => z = true ∧ WTh c fs (execs b c.env) ρ σ)) : WTh c fs (exec (.If t b o pos) c.env) ρ σ := fun s R ff =>
  wpAny_If (wpAny_mono (h s R) (fun z s₁ ⟨k, e, hT⟩ => by
    subst e
    exact wpAny_mono (hT s₁ (R.keepE k) (ff.stays k.2)) (fun uu uu x => x.elim) fun e s'' ⟨ρ₁, σ₁, s₂, R₁, k₁, f₁, u⟩ => ⟨ρ₁, σ₁, s₂, R₁, .trans (R.keepE k) k.ks k₁, f₁, u⟩) fun uu uu x => x.elim)
theorem call_throw {c : Cx} {ρ : Rho} {σ : Sig} {s : Shared} {fs : List Env} (R : Rel c ρ σ s) (hfr : c.A.frames = some fs) (ff : FF fs s.heap) (hfw : ∀ b ∈ fad fs, b ∈ wof c σ) {a : Addr} {fd : FuncData} {body : List Stmt} (F : FnAt a fd body) {vs : List Value} {kw : List (Str × Value)} {ρ₀ : Rho}
    (hbind : ∀ (A : Around) (E : Value → Shared → Prop) (Q : List (Str × Value) → Shared → Prop), (∀ binds s', KeepE s s' → BR c.w (wof c σ) s' ρ₀ binds → Q binds s') → wpAny (model PG c.w) A (bindArgs fd ⟨vs, kw⟩) Q E s) (hnd : (ρ₀.map (·.1)).Nodup) (hkind : kindsOk fd.scope (ρ₀.map (·.1))) {k : Nat} (hk : k + 1 ≤ c.k)
    (hb : ∀ L, Apart (c.call fd a L (wof c σ) k) fs → WTh (c.call fd a L (wof c σ) k) fs (execs body (c.call fd a L (wof c σ) k).env) ρ₀ []) :
    wpAny (model PG c.w) c.A (call (.ref a) vs kw) (fun uu uu => False) (fun e s' => Fly fs s s' e) s := by
  refine wpAny_call (codeAny_mono (enterX (P := fun uu uu => False) (PE := fun e s' => Fly fs s s' e) R F hbind hnd hkind (.inl ⟨rfl, fun b => Iff.rfl⟩) hk (fun L s₁ fresh k₁ R₁ => ?_)) fun r s' h => ?_)
  · have ap : Apart (c.call fd a L (wof c σ) k) fs := fun b hb => ⟨hfw b hb, fun hm => by
      obtain ⟨env, he, hf⟩ := List.mem_filterMap.mp hb
      obtain ⟨_, L', o, hf', ho, _⟩ := ff env he
      rw [hf] at hf'
      obtain rfl := Option.some.inj hf'
      rw [fresh b hm] at ho; cases ho⟩
    refine wpAny_mono (hb L ap s₁ R₁ (ff.stays k₁.2)) (fun uu uu x => x.elim) fun e s' hpt => ?_
    obtain ⟨ρ₂, σ₂, s₂, R₂, k₂, f₂, u⟩ := hpt
    obtain ⟨m, hN, _⟩ := R₂.loc
    refine leave_fly (L := L) (Around.frames_deeper hfr) rfl (FF.cons (by rw [show (c.call fd a L (wof c σ) k).env.scope.kind = fd.scope.kind from rfl, F.kind]; decide) rfl hN f₂) u (fun b o e => ?_) (k₁.1.trans k₂.1)
    have hbo : b ∉ (c.call fd a L (wof c σ) k).own := fun q => by rw [fresh b q] at e; cases e
    refine ⟨k₂.2.1 b o (fun hm => ?_) (k₁.2 b o e), fun q => hbo (q ▸ .head _)⟩
    rcases List.mem_append.mp hm with q | q
    · cases q
    · exact hbo q
  · rcases r with e | (v | _ | _ | _) <;> first | exact h | exact h.elim
end
section
open PySem PySem.W PySem.Calls PyProof PyProof.Rows PySem.SeqAt
open PySem.Builtin.Re
theorem bool_match : typeLookup (.type "re.Match") "__bool__" = pure none := by rw [typeLookup_type, builtinLookup_eq_fast]; kernel_rfl
theorem len_match : typeLookup (.type "re.Match") "__len__" = pure none := by rw [typeLookup_type, builtinLookup_eq_fast]; kernel_rfl
noncomputable def SFind (code : List Nat) (x : Str) : Prop := ∃ n, n ≤ 2 ^ 60 ∧ (it n (Sre.forSearch code.toArray x.cps 0 0 x.cps.size false)).outcome = some .matched
theorem sfind_V : SFind codeV (tx [10]) := ⟨50, by decide, by kernel_rfl⟩
theorem sfind_N : SFind codeN (tx [9]) := ⟨50, by decide, by kernel_rfl⟩
theorem sfind_N2 : SFind codeN (tx [120, 10]) := ⟨50, by decide, by kernel_rfl⟩
theorem search_some {c : Cx} {ρ σ} {s : Shared} {P : Addr} {code : List Nat} {x : Str} {t : Tok} {E : Value → Shared → Prop} {Q : Value → Shared → Prop} (R : Rel c ρ σ s) (hp : PatAt P code) (hsz : x.cps.size ≤ 2 ^ 60)
    (hf : SFind code x) (h : ∀ m h', StaysIn s.heap h' → (∃ o, h'.get? m = some o ∧ o.cls = .type "re.Match") → Q (.ref m) { s with heap := h' }) : wpAny (model PG c.w) c.A (call (.builtin "re.Pattern.search") [.ref P, .str x t]) Q E s := by
  obtain ⟨p, f, T, h1, h2⟩ := hp.at_ c.w
  obtain ⟨n, hn, ho⟩ := hf
  refine wpAny_call_entry slot_search ⟨_, R.stat.K _ _ h1, rfl⟩ entry_search ?_ (args_search _ _)
  unfold Builtin.«re.Pattern.search»
  refine wpAny_bind (wpAny_target R hp hsz ?_)
  unfold reAnswer
  refine wpAny_bind (wpAny_reRun (yes := true) hn ho ?_)
  unfold reNewMatch
  refine wpAny_bind (wpAny_bind (wpAny_newTuple ?_ (by show 2 ≤ sizeLine; decide)))
  unfold newFields
  refine wpAny_newObj_type (wpAny_pure ⟨_, rfl, ?_⟩)
  exact h _ _ ((stays_push _ _).trans (stays_push _ _)) ⟨_, Heap.get?_push_size _ rfl, rfl⟩
theorem truthy_match {M : Model} {A : Around} {E : Value → Shared → Prop} {s : Shared} {m : Addr} {Q : Bool → Shared → Prop} (hT : s.TypeIs (.ref m) "re.Match") (h : Q true s) : wpAny M A (truthy (.ref m)) Q E s := by
  unfold truthy
  refine wpAny_bind (m := callSpecial? (.ref m) (Str.ofString "__bool__")) (wpAny_callSpecial?_none hT bool_match ?_)
  refine wpAny_bind (wpAny_specialOf hT len_match ?_)
  exact wpAny_pure h
theorem WI_search {c o e apos pos ρ σ} {Q : Bool → Prop} {P : Addr} {code : List Nat} (hp : PatAt P code)
    (h : WE c o ρ σ (fun X => X = .stat (.ref P) ∧ WE c e ρ σ (fun Y => ∃ x, SV Y x ∧ x.cps.size ≤ 2 ^ 60 ∧ SFind code x ∧ Q true)))
    (hbase : attributeBase o "search" c.env (eval o c.env) = eval o c.env := by walk_at "r")
    (hfew : ((backTo pos (starEach [e] c.env)).all (fun x => !x.1) && (backToKw pos (keywordEach [] c.env)).all (fun x => x.1.isSome)
      && decide (([e] : List Expr).length + ([] : List Keyword).length + (if ([] : List Keyword).isEmpty then 0 else 1) < 30)) = true := by walk_at "r")
    (hline : (apos.endLine == pos.line) = true := by walk_at "r")
    (htrees : backTo pos (starEach [e] c.env) = [(false, eval e c.env)] := by walk_at "r")
    (he : isTrue (.Call (.Attribute o "search" apos) [e] [] pos) c.env (eval (.Call (.Attribute o "search" apos) [e] [] pos) c.env) = (do let v ← eval (.Call (.Attribute o "search" apos) [e] [] pos) c.env; standAt (Expr.Call (.Attribute o "search" apos) [e] [] pos).pos; holding [v] (truthy v)) := by walk_at "r") :
    WI c (.Call (.Attribute o "search" apos) [e] [] pos) ρ σ Q := fun s R => by
  refine wpAny_isTrue_value ?_ he
  refine wpAny_Call_method hbase hfew hline plainAttrs_pat slot_search type_search (goV (h s R) fun ov s₁ X hX k₁ hpt => ?_)
  obtain ⟨e1, h₁⟩ := hpt
  subst e1
  have hX' : ov = .ref P := hX
  subst hX'
  have R₁ := R.keepE k₁
  obtain ⟨p, f, T, h1, h2⟩ := hp.at_ c.w
  have hP := R₁.stat.K _ _ h1
  refine ⟨⟨_, hP, rfl⟩, fun a ea => by cases ea; exact ⟨_, hP, rfl⟩, ?_⟩
  rw [htrees]
  refine Calls.callWith_builtin rfl (Calls.evalArgs_plain (Calls.spliced_cons (goV (h₁ s₁ R₁) fun y s₂ Y hY k₂ ⟨x, hx, hsz, hf, q⟩ => Calls.spliced_nil ?_)))
  obtain ⟨t, rfl⟩ := hx.is hY
  refine search_some (R₁.keepE k₂) hp hsz hf fun m h' hst hT => ?_
  exact truthy_match (s := { s₂ with heap := h' }) hT ⟨(k₁.trans k₂).trans (.mk' hst (Nat.le_refl _)), q⟩
theorem th_raise {c : Cx} {fs : List Env} {x : Str} {kx : Nat} {np cp xp pos : Pos} {ρ : Rho} {σ : Sig} (hk : c.env.kindOf "ValueError" = some .globalImplicit)
    (hplain : (backTo cp (starEach [.Constant (.str x) kx xp] c.env)).any (·.1) = false := by walk_at "r")
    (hst : backTo cp (starEach [.Constant (.str x) kx xp] c.env) = [(false, eval (.Constant (.str x) kx xp) c.env)] := by walk_at "r") :
    WTh c fs (exec (.Raise (some (.Call (.Name "ValueError" np) [.Constant (.str x) kx xp] [] cp)) none pos) c.env) ρ σ := fun s R ff => by
  refine wpAny_Raise_call F.excCall_ValueError F.excRaise_ValueError R.ok.hand hplain (goV ((WE_blt (x := "ValueError") (v := .type "ValueError") (Q := fun X => X = .stat (.type "ValueError")) hk (fun w => rfl) Boot.«ValueError» rfl) s R) fun f s₁ X hX k₁ e => ?_)
  subst e
  have hX' : f = .type "ValueError" := hX
  subst hX'
  refine ⟨rfl, ?_⟩
  rw [hst]
  refine Calls.evalArgs_plain (Calls.spliced_cons (wpAny_Constant_str (Calls.spliced_nil ⟨rfl, by show 1 ≤ sizeLine; decide, fun h' e hm => ?_⟩)))
  have k₂ : KeepE s { s₁ with toks := s₁.toks + 1 } := k₁.trans (.mk' (.refl _) (Nat.le_succ _))
  exact ⟨ρ, σ, { s₁ with toks := s₁.toks + 1 }, R.keepE k₂, k₂.ks, ff.stays k₂.2, .inl ⟨.mk' _ _ (Nat.le_refl _), e, _, rfl, hm.of⟩⟩
end
section
open PySem PySem.W PySem.Calls PyProof PyProof.Rows PySem.SeqAt
theorem VR.hdr {w W s xs v} (z : VR w W s (.hdrP xs) v) : VR w W s (.hdr xs) v := by
  obtain ⟨x, l, vs, e, hx, hn, hl, hs⟩ := z
  exact ⟨x, l, vs, e, hx, hn, hl.isList, hs⟩
theorem WTe.after {α β : Type} {c : Cx} {fs : List Env} {t : Sem α} {f : α → Sem β} {ρ : Rho} {σ : Sig} (h : WTe c fs t ρ σ) : WTe c fs (t >>= f) ρ σ := fun s R ff =>
  wpAny_bind (wpAny_mono (h s R ff) (fun uu uu x => x.elim) fun uu uu x => x)
theorem te_conv {c o apos pos e kp bk bp ρ σ fs} {b : Bool} (m : MethAt "_convert_string_type" 83)
    (h : WE c o ρ σ (fun X => IsH X ∧ WE c e ρ σ (fun Y => ∀ s v y, Rel c ρ σ s → FF fs s.heap → VR c.w (wof c σ) s X v → VR c.w (wof c σ) s Y y →
      wpAny (model PG c.w) c.A (call (.ref 83) [v, y] [("name", .bool b)]) (fun uu uu => False) (fun e s' => Fly (c.env :: fs) s s' e) s)))
    {pl : Sem Bool} (he : eval (.Call (.Attribute o "_convert_string_type" apos) [e] [⟨some "name", .Constant (.bool b) bk bp, kp⟩] pos) c.env = (do
      let ov ← eval o c.env
      standAt apos.atName
      let (f, first) ← holding [ov] (getMethod ov "_convert_string_type" pl)
      callWith pos f first (backTo pos (starEach [e] c.env)) (backToKw pos (keywordEach [⟨some "name", .Constant (.bool b) bk bp, kp⟩] c.env))) := by walk_at "r")
    (hst : starEach [e] c.env = [(false, eval e c.env)] := by walk_at "r") : WTe c fs (eval (.Call (.Attribute o "_convert_string_type" apos) [e] [⟨some "name", .Constant (.bool b) bk bp, kp⟩] pos) c.env) ρ σ := fun s R ff => by
  refine methodCall_KW (goV (h s R) fun v s₁ X hX k₁ hpt => ?_) he
  obtain ⟨hi, h₁⟩ := hpt
  have R₁ := R.keepE k₁
  refine get_meth R₁ hX hi m ?_
  refine callWith_KW (h₀ := s₁.heap) R₁.stat.K (m.keep _) rfl ?_ (by rw [hst]; rfl) (by rw [hst]; rfl)
  rw [hst]
  refine spliced_cons (goV (h₁ s₁ R₁) fun y s₂ Y hY k₂ h₂ => spliced_nil ?_)
  have R₂ := R₁.keepE k₂
  refine wpAny_evalAll_cons ?_
  show wpAny _ _ (eval (Expr.Constant (Const.bool b) bk bp) c.env >>= fun v => standAt pos >>= fun uu => pure v) _ _ _
  refine wpAny_bind (wpAny_Constant_bool (wpAny_bind (wpAny_standAt (wpAny_pure (wpAny_evalAll_nil ⟨R₂.stat.K, ?_⟩)))))
  exact wpAny_mono (h₂ s₂ v y R₂ (ff.stays (k₁.trans k₂).2) (hX.keeps (k₂.keepW _)) hY) (fun uu uu x => x) fun e s' f => ⟨s₂, k₁.trans k₂, f⟩
theorem callWith_genE {c : Cx} {f : Value} {first : List Value} {pos : Pos} {es : List Expr} {ρ : Rho} {σ : Sig} {Q : Value → Shared → Prop} {E : Value → Shared → Prop} {s : Shared} (hf : Kp f) (R : Rel c ρ σ s)
    (hplain : (backTo pos (starEach es c.env)).any (·.1) = false)
    (h : wpAny (model PG c.w) c.A (spliced (backTo pos (starEach es c.env))) (fun vs s₁ => (Kf c.w).In s₁.heap ∧ wpAny (model PG c.w) c.A (call f (first ++ vs)) Q E s₁) E s) :
    wpAny (model PG c.w) c.A (callWith pos f first (backTo pos (starEach es c.env)) []) Q E s := by
  refine callWith_of (P := fun h => (Kf c.w).In h) (by rw [hplain]; rfl) (hf c.w) ?_
  generalize backTo pos (starEach es c.env) = l at *
  cases l with
  | nil =>
    unfold evalArgs
    show wpAny _ _ (spliced [] >>= _) _ _ s
    refine wpAny_bind (wpAny_mono h (fun vs s₁ h₁ => wpAny_bind (wpAny_pure ?_)) fun uu uu x => x)
    refine wpAny_holding ?_
    exact wpAny_bind (wpAny_pure (wpAny_bind (wpAny_pure (wpAny_pure h₁))))
  | cons x r =>
    obtain ⟨b, x⟩ := x
    have : b = false := by simpa using (Bool.or_eq_false_iff.mp hplain).1
    subst this
    exact evalArgs_plain h
theorem te_meth {c o apos pos es ρ σ fs name f} (m : MethAt name f)
    (h : WE c o ρ σ (fun X => ∃ rs, X = .hdrP rs ∧ WL c pos es ρ σ (fun Xs => ∀ s vs, Rel c ρ σ s → FF fs s.heap → VRs c.w (wof c σ) s (X :: Xs) vs →
      wpAny (model PG c.w) c.A (call (.ref f) vs) (fun uu uu => False) (fun e s' => Fly (c.env :: fs) s s' e) s)))
    {pl : Sem Bool} (he : eval (.Call (.Attribute o name apos) es [] pos) c.env = (do
      let ov ← eval o c.env
      standAt apos.atName
      let (f, first) ← holding [ov] (getMethod ov name pl)
      callWith pos f first (backTo pos (starEach es c.env)) (backToKw pos (keywordEach [] c.env))) := by walk_at "r")
    (hplain : (backTo pos (starEach es c.env)).any (·.1) = false := by walk_at "r") : WTe c fs (eval (.Call (.Attribute o name apos) es [] pos) c.env) ρ σ := fun s R ff => by
  refine methodCall_KW (goV (h s R) fun v s₁ X hX k₁ hpt => ?_) he
  obtain ⟨rs, hi, h₁⟩ := hpt
  subst hi
  have R₁ := R.keepE k₁
  refine get_meth R₁ hX.hdr (.inr ⟨rs, rfl⟩) m ?_
  refine callWith_genE (first := [v]) (Kp.stat m.keep) R₁ hplain ?_
  refine goL (h₁ s₁ R₁) fun vs s₂ Xs hXs k₂ h₂ => ?_
  have R₂ := R₁.keepE k₂
  exact ⟨R₂.stat.K, wpAny_mono (h₂ s₂ (v :: vs) R₂ (ff.stays (k₁.trans k₂).2) ⟨v, vs, rfl, hX.keeps (k₂.keepW _), hXs⟩) (fun uu uu x => x) fun e s' f => ⟨s₂, k₁.trans k₂, f⟩⟩
theorem th_append {c o e1 es k tp apos hpos cpos pos ρ σ fs} (h : WE c o ρ σ (fun X => (∃ rs, X = .hdrP rs) ∧ WTe c fs (eval e1 c.env) ρ σ))
    (hat : eval (.Attribute o "_headers" hpos) c.env = (do
      let v ← eval o c.env
      standAt hpos.atName
      let r ← holding [v] (getAttr v "_headers" true)
      letTemporaryGo o v r
      pure r) := by walk_at "r")
    (hbase : attributeBase (.Attribute o "_headers" hpos) "append" c.env (eval (.Attribute o "_headers" hpos) c.env) = eval (.Attribute o "_headers" hpos) c.env := by walk_at "r")
    (hfew : ((backTo cpos (starEach [.Tuple (e1 :: es) k tp] c.env)).all (fun x => !x.1) && (backToKw cpos (keywordEach [] c.env)).all (fun x => x.1.isSome)
      && decide (([.Tuple (e1 :: es) k tp] : List Expr).length + ([] : List Keyword).length + (if ([] : List Keyword).isEmpty then 0 else 1) < 30)) = true := by walk_at "r")
    (hline : (apos.endLine == cpos.line) = true := by walk_at "r")
    (htrees : backTo cpos (starEach [.Tuple (e1 :: es) k tp] c.env) = [(false, eval (.Tuple (e1 :: es) k tp) c.env)] := by walk_at "r")
    (hst : starEach (e1 :: es) c.env = (false, eval e1 c.env) :: starEach es c.env := by walk_at "r")
    (hi : interactive c.env = false := by walk_at "r") (hsw : swapsWith (.Call (.Attribute (.Attribute o "_headers" hpos) "append" apos) [.Tuple (e1 :: es) k tp] [] cpos) none pos.line c.env = pure false := by walk_at "r") :
    WTh c fs (exec (.Expr (.Call (.Attribute (.Attribute o "_headers" hpos) "append" apos) [.Tuple (e1 :: es) k tp] [] cpos) pos) c.env) ρ σ := fun s R ff => by
  refine wpAny_Expr_any (wpAny_Call_append hbase hfew hline htrees (Attribute_any_ (goV (h s R) fun v s₁ X hX k₁ hpt => ?_) hat)) hi hsw
  obtain ⟨⟨rs, hr⟩, hT⟩ := hpt
  subst hr
  have R₁ := R.keepE k₁
  obtain ⟨x, l, vs, rfl, hx, hn, ⟨n, hl⟩, hs⟩ := hX
  obtain ⟨dx, m, t, I⟩ := hx.inst
  refine get_value R₁.stat.K I (v := .ref l) (by kernel_rfl) (findObj_own (attr := none) (by kernel_rfl) (by kernel_rfl) (by kernel_rfl) rfl) rfl ?_
  have kt : KeepE s { s₁ with toks := s₁.toks + 1 } := k₁.trans (.mk' (.refl _) (Nat.le_succ _))
  refine ⟨l, _, rfl, ⟨_, n, hl, rfl, rfl, rfl⟩, Tuple_ (wpAny_items_cons (wpAny_mono (hT _ (R.keepE kt) (ff.stays kt.2)) (fun uu uu x => x.elim) fun e s' hpt => ?_) hst)⟩
  obtain ⟨s₂, k₂, f⟩ := hpt
  exact ⟨ρ, σ, s₂, R.keepE (kt.trans k₂), (kt.trans k₂).ks, ff.stays (kt.trans k₂).2, .inr f⟩
end
section
open PySem PySem.W PySem.Calls PyProof PyProof.Rows PySem.SeqAt
section
variable {prog : Program} {w : World} {A : Around} {E : Value → Shared → Prop} {s : Shared}
theorem nextOf_range_item {it : Addr} {x left step : Int} {Q : Value → Shared → Prop} (hit : IsRangeIter s.heap it x left step) (hleft : 0 < left)
    (hQ : ∀ h', IsRangeIter h' it (x + step) (left - 1) step → Heap.SameBut it s.heap h' → Q (.int x s.toks) { s with heap := h', toks := s.toks + 1 }) :
    wpAny (model prog w) A (Builtin.SmallTypes.nextOf (.ref it)) Q E s := by
  have hT : s.TypeIs (.ref it) "range_iterator" := ⟨_, hit, rfl⟩
  unfold Builtin.SmallTypes.nextOf
  refine wpAny_bind (wpAny_callSpecial?_slot (name := Str.ofString "__next__") hT F.slot_range_iterator_next
    (call_meets F.slot_range_iterator_next hT F.entry_range_iterator_next (F.args_range_iterator_next_1 _) (AutoRange.range_iterator___next___range_iterator_1 it x left step (by exact Int.not_le_of_gt hleft)) ⟨hit, ?_⟩))
  exact wpAny_pure (hQ _ (Heap.get?_update_self _ (Heap.get?_update_self _ hit rfl) rfl) ((Heap.SameBut.update ..).trans (Heap.SameBut.update ..)))
theorem nextOf_range_end {it : Addr} {x left step : Int} {Q : Value → Shared → Prop} (hh : A.handled = none) (hit : IsRangeIter s.heap it x left step) (hleft : left ≤ 0)
    (hE : ∀ h' e, Heap.ExtBut it s.heap h' → (∃ o, h'.get? e = some o ∧ o.cls = .type "StopIteration") → E (.ref e) { s with heap := h' }) : wpAny (model prog w) A (Builtin.SmallTypes.nextOf (.ref it)) Q E s := by
  have hT : s.TypeIs (.ref it) "range_iterator" := ⟨_, hit, rfl⟩
  unfold Builtin.SmallTypes.nextOf
  refine wpAny_bind (wpAny_callSpecial?_slot (name := Str.ofString "__next__") hT F.slot_range_iterator_next
    (wpAny_call_entry F.slot_range_iterator_next hT F.entry_range_iterator_next ?_ (F.args_range_iterator_next_1 _)))
  show wpAny _ _ (field (.ref it) 0 >>= _) _ _ s
  refine wpAny_bind (wpAny_field hit rfl (x := rawInt x) rfl ?_)
  show wpAny _ _ (field (.ref it) 1 >>= _) _ _ s
  refine wpAny_bind (wpAny_field hit rfl (x := rawInt left) rfl ?_)
  show wpAny _ _ (field (.ref it) 2 >>= _) _ _ s
  refine wpAny_bind (wpAny_field hit rfl (x := rawInt step) rfl ?_)
  show wpAny _ _ (if left ≤ 0 then _ else _) _ _ s
  rw [if_pos hleft]
  refine wpAny_bind (wpAny_rule ?_)
  refine wpAny_bind ?_
  show wpAny _ _ (newExc (.type "StopIteration") [] >>= _) _ _ _
  refine wpAny_bind ?_
  simp only [newExc, newTuple]
  refine wpAny_bind (wpAny_newObj_type ?_ (by size_fits))
  refine wpAny_bind (m := firstArgMember _ _) (wpAny_of_eq (a := Value.none) (by first | rfl | (simp only [firstArgMember]; rfl)) ?_)
  refine wpAny_newObj_type ?_ (by size_fits)
  simp only [raiseNew]
  refine wpAny_bind (wpAny_handled ?_)
  first | rw [show A.in1.handled = none from hh] | rw [hh]
  refine wpAny_bind (wpAny_pure (wpAny_throw ?_))
  exact hE _ _ (((Heap.ExtBut.refl it s.heap).push _).push _) ⟨_, Heap.get?_push_size _ rfl, rfl⟩
theorem nextOf_gen {a : Addr} {g n : Nat} {gs : GenState} {R : GenEnd} {Y : Protocol} {Q : Value → Shared → Prop} (hh : A.handled = none)
    (hl : s.heap.NoLimit) (hroom : A.depth < recursionLimit)
    (hg : s.heap.IsGen a g) (hgs : s.gens[g]? = some gs)
    (hgo : gs.Goes (model prog w) A.in1 R Y n (.send .none) (s.setGen g .running))
    (hY : ∀ v s₁ gs', gs'.bare = true → Y (n - 1) (s.setGen g .running) v s₁ (fun r' s'' => match n with
        | 0 => False
        | m + 1 => gs'.Goes (model prog w) A.in1 R Y m r' s'') → Q v (s₁.setGen g gs'))
    (hR : ∀ r s₁, R n (s.setGen g .running) r s₁ →
      (r = .ok (.ret .none) ∧ ∀ h' e, (∀ b o, s₁.heap.get? b = some o → h'.get? b = some o) → (∃ o, h'.get? e = some o ∧ o.cls = .type "StopIteration") → E (.ref e) { s₁.setGen g .finished with heap := h' }) ∨
      (∃ e, r = .error (.ref e) ∧ s₁.TypeIs (.ref e) "ValueError" ∧ s₁.heap.IsGen a g ∧ E (.ref e) (s₁.setGen g .finished))) :
    wpAny (model prog w) A (Builtin.SmallTypes.nextOf (.ref a)) Q E s := by
  unfold Builtin.SmallTypes.nextOf
  refine wpAny_bind (wpAny_callSpecial?_slot (name := Str.ofString "__next__") hg.typeIs slot_gen_next
    (wpAny_call_entry slot_gen_next hg.typeIs entry_gen_next ?_ (args_gen_next _)))
  show wpAny _ A.in1 (Builtin.Generator.genWake (.ref a) (.send .none)) _ _ s
  unfold Builtin.Generator.genWake
  refine wpAny_bind (wpAny_holding (wpAny_genNumber hg (wpAny_bind (wpAny_genState hgs ?_))))
  cases gs with
  | running => exact hgo.elim
  | finished => exact hgo.elim
  | _ =>
    refine wpAny_bind (wpAny_roomToWake hl hroom ?_)
    show wpAny _ A.in1 (.resume g (.send .none) [] _) _ _ s
    refine wpAny_resumeQ hgs hgo (fun x s₁ hx => ?_) (fun v s₁ gs' hb hv => ?_)
    · rcases hR x s₁ hx with ⟨rfl, hE⟩ | ⟨e, rfl, hT, hG, hE⟩
      · show wpAny _ A.in1 (newExc (.type "StopIteration") [] >>= _) _ _ _
        refine wpAny_bind ?_
        simp only [newExc, newTuple]
        refine wpAny_bind (wpAny_newObj_type ?_ (by size_fits))
        refine wpAny_bind (m := firstArgMember _ _) (wpAny_of_eq (a := Value.none) (by first | rfl | (simp only [firstArgMember]; rfl)) ?_)
        refine wpAny_newObj_type ?_ (by size_fits)
        simp only [raiseNew]
        refine wpAny_bind (wpAny_bind (wpAny_handled ?_))
        first | rw [show A.in1.handled = none from hh] | rw [hh]
        refine wpAny_throw ?_
        exact hE _ _ (fun b o hb => Heap.get?_push_of_some _ (Heap.get?_push_of_some _ hb)) ⟨_, Heap.get?_push_size _ rfl, rfl⟩
      · show wpAny _ A.in1 (Builtin.Generator.genLeft (.ref a) (.ref e)) _ _ _
        unfold Builtin.Generator.genLeft Builtin.Generator.madeByALambda Builtin.Generator.genEscaped
        obtain ⟨o, nm, qn, ho, hc, hd, _⟩ := hG
        refine wpAny_bind (wpAny_bind (wpAny_load (s := s₁.setGen g .finished) ho (wpAny_pure ?_)))
        rw [hc, hd]
        refine wpAny_bind (wpAny_isInstance (T := "ValueError") (b := false) (show (s₁.setGen g .finished).TypeIs _ _ from hT) (by rw [isSubtype_type]; kernel_rfl) ?_)
        rw [Bool.and_false]
        refine wpAny_bind (wpAny_isInstance (T := "ValueError") (b := false) (show (s₁.setGen g .finished).TypeIs _ _ from hT) (by rw [isSubtype_type]; kernel_rfl) ?_)
        exact wpAny_bind (wpAny_throw hE)
    · exact wpAny_pure ⟨v, rfl, wpAny_pure (hY v s₁ gs' hb hv)⟩
end
end
section
open PySem PySem.W PySem.Calls PyProof PyProof.Rows PySem.SeqAt
section
variable {prog : Program} {w : World} {A : Around} {E : Value → Shared → Prop} {s : Shared}
noncomputable def ZE (z TI TO : Addr) (E : Value → Shared → Prop) : Value → Shared → Prop := fun e s' =>
  IsZip s'.heap z TI TO .ellipsis ∧ ∀ h', IsZip h' z TI TO .none → Heap.SameBut z s'.heap h' → E e { s' with heap := h' }
theorem zip_drawG {z TI TO i1 i2 : Addr} {a b : Value} {Q : Value → Shared → Prop} (TIz : TI ≠ z) (TOz : TO ≠ z)
    (hz : IsZip s.heap z TI TO .none) (hTI : IsPair s.heap TI (.ref i1) (.ref i2))
    (h : ∀ h₁, IsZip h₁ z TI TO .ellipsis → Heap.SameBut z s.heap h₁ →
      wpAny (model prog w) A (Builtin.SmallTypes.nextOf (.ref i1)) (fun x s₂ => IsZip s₂.heap z TI TO .ellipsis ∧ IsPair s₂.heap TO a b ∧
        ∀ h₃, IsZip h₃ z TI TO .ellipsis → IsPair h₃ TO x b → Heap.SameBut TO s₂.heap h₃ →
          wpAny (model prog w) A (Builtin.SmallTypes.nextOf (.ref i2)) (fun y s₄ => IsZip s₄.heap z TI TO .ellipsis ∧ IsPair s₄.heap TO x b ∧
            ∀ h', IsZip h' z TI TO (rawInt s₄.heap.objs.size) → IsPair h' TO x y → IsPair h' s₄.heap.objs.size x y → (∀ c o, c ≠ z → c ≠ TO → s₄.heap.get? c = some o → h'.get? c = some o) →
              Q (.ref s₄.heap.objs.size) { s₄ with heap := h' }) (ZE z TI TO E) { s₂ with heap := h₃ }) (ZE z TI TO E) { s with heap := h₁ }) :
    wpAny (model prog w) A (Builtin.«zip.__next__» ⟨[.ref z], []⟩) (fun fin s' => ∃ v, fin = .done (.ret v) ∧ Q v s') E s := by
  show wpAny _ _ (field (.ref z) 2 >>= _) _ _ _
  refine wpAny_bind (wpAny_field hz rfl (x := .bool false) rfl ?_)
  show wpAny _ _ (field (.ref z) 3 >>= _) _ _ _
  refine wpAny_bind (wpAny_field hz rfl (x := .ref TI) rfl ?_)
  refine wpAny_bind (wpAny_seqItems hTI rfl ?_)
  show wpAny _ _ (Builtin.SmallTypes.ownedTupleIsFree (.ref z) >>= _) _ _ _
  refine wpAny_bind ?_
  unfold Builtin.SmallTypes.ownedTupleIsFree
  refine wpAny_bind (wpAny_field hz rfl (x := .none) rfl (wpAny_pure ?_))
  simp only [if_true]
  refine wpAny_bind (wpAny_rule ?_)
  refine wpAny_bind (wpAny_field hz rfl (x := .ref TO) rfl ?_)
  refine wpAny_bind (wpAny_setField_rec hz (by simp) fun h₁ hz₁ hs₁ => ?_)
  replace hz₁ : IsZip h₁ z TI TO .ellipsis := hz₁
  refine wpAny_bind ?_
  simp only [List.zipIdx_cons, List.zipIdx_nil, List.forIn_cons, List.forIn_nil]
  have back : ∀ e s', ZE z TI TO E e s' → wpAny (model prog w) A (setField (.ref z) 0 .none) (fun uu s'' => E e s'') E s' := fun e s' ⟨q1, q2⟩ =>
    wpAny_setField_rec q1 (by simp) fun h' q3 q4 => q2 h' q3 q4
  refine wpAny_bind (wpAny_bind (wpAny_onRaise ?_))
  show wpAny _ _ (Builtin.SmallTypes.nextOf (.ref i1) >>= _) _ _ _
  refine wpAny_bind (wpAny_mono (h h₁ hz₁ hs₁) (fun x s₂ ⟨z₂, hTO₂, k⟩ => wpAny_pure ?_) back)
  refine wpAny_bind (wpAny_seqItems hTO₂ rfl ?_)
  refine wpAny_bind (wpAny_updateSeq_pair hTO₂ fun h₃ hTO₃ hs₃ => ?_)
  replace hTO₃ : IsPair h₃ TO x b := hTO₃
  refine wpAny_bind (wpAny_letGo (wpAny_pure ?_))
  refine wpAny_bind (wpAny_bind (wpAny_onRaise ?_))
  show wpAny _ _ (Builtin.SmallTypes.nextOf (.ref i2) >>= _) _ _ _
  refine wpAny_bind (wpAny_mono (k h₃ (hs₃.extBut _ _ TOz.symm z₂) hTO₃ hs₃) (fun y s₄ ⟨z₄, hTO₄, k₄⟩ => wpAny_pure ?_) back)
  refine wpAny_bind (wpAny_seqItems hTO₄ rfl ?_)
  refine wpAny_bind (wpAny_updateSeq_pair hTO₄ fun h₅ hTO₅ hs₅ => ?_)
  replace hTO₅ : IsPair h₅ TO x y := hTO₅
  refine wpAny_bind (wpAny_letGo (wpAny_pure (wpAny_pure ?_)))
  refine wpAny_bind (wpAny_seqItems hTO₅ rfl ?_)
  refine wpAny_bind (wpAny_newTuple ?_)
  have hsz : h₅.objs.size = s₄.heap.objs.size := hs₅.1
  have hz₅ : IsZip h₅ z TI TO .ellipsis := hs₅.extBut _ _ TOz.symm z₄
  have hzlt : z < h₅.objs.size := Heap.lt_size hz₅
  show wpAny _ _ (Builtin.SmallTypes.ownedTupleHandOut (.ref z) (.ref h₅.objs.size) >>= _) _ _ _
  refine wpAny_bind ?_
  unfold Builtin.SmallTypes.ownedTupleHandOut
  have hz₆ : IsZip (h₅.push { cls := .type "tuple", data := .seq #[x, y] }) z TI TO .ellipsis := Heap.get?_push_of_some _ hz₅
  refine wpAny_bind (wpAny_setField_rec hz₆ (by simp) fun h₇ hz₇ hs₇ => ?_)
  replace hz₇ : IsZip h₇ z TI TO (rawInt h₅.objs.size) := hz₇
  refine wpAny_setField_rec hz₇ (by simp) fun h₈ hz₈ hs₈ => ?_
  replace hz₈ : IsZip h₈ z TI TO (rawInt h₅.objs.size) := hz₈
  have up : ∀ c o, c ≠ z → h₅.get? c = some o → h₈.get? c = some o := fun c o c1 e => hs₈.extBut _ _ c1 (hs₇.extBut _ _ c1 (Heap.get?_push_of_some _ e))
  have hT₈ : IsPair h₈ h₅.objs.size x y := hs₈.extBut _ _ (Nat.ne_of_gt hzlt) (hs₇.extBut _ _ (Nat.ne_of_gt hzlt) (Heap.get?_push_size _ rfl))
  rw [hsz] at hz₈ hT₈
  refine wpAny_pure ⟨_, rfl, ?_⟩
  show Q (.ref h₅.objs.size) _
  rw [hsz]
  exact k₄ h₈ hz₈ (up _ _ TOz hTO₅) hT₈ fun c o c1 c2 e => up c o c1 (hs₅.extBut _ _ c2 e)
theorem pyNext_zipG {z TI TO i1 i2 : Addr} {a b : Value} {Q : Option Value → Shared → Prop} (TIz : TI ≠ z) (TOz : TO ≠ z)
    (hz : IsZip s.heap z TI TO .none) (hTI : IsPair s.heap TI (.ref i1) (.ref i2))
    (h : ∀ h₁, IsZip h₁ z TI TO .ellipsis → Heap.SameBut z s.heap h₁ →
      wpAny (model prog w) A.in1 (Builtin.SmallTypes.nextOf (.ref i1)) (fun x s₂ => IsZip s₂.heap z TI TO .ellipsis ∧ IsPair s₂.heap TO a b ∧
        ∀ h₃, IsZip h₃ z TI TO .ellipsis → IsPair h₃ TO x b → Heap.SameBut TO s₂.heap h₃ →
          wpAny (model prog w) A.in1 (Builtin.SmallTypes.nextOf (.ref i2)) (fun y s₄ => IsZip s₄.heap z TI TO .ellipsis ∧ IsPair s₄.heap TO x b ∧
            ∀ h', IsZip h' z TI TO (rawInt s₄.heap.objs.size) → IsPair h' TO x y → IsPair h' s₄.heap.objs.size x y → (∀ c o, c ≠ z → c ≠ TO → s₄.heap.get? c = some o → h'.get? c = some o) →
              Q (some (.ref s₄.heap.objs.size)) { s₄ with heap := h' })
            (ZE z TI TO fun e s' => (s'.TypeIs e "StopIteration" ∧ Q none s') ∨ (s'.TypeIs e "ValueError" ∧ E e s')) { s₂ with heap := h₃ })
        (ZE z TI TO fun e s' => (s'.TypeIs e "StopIteration" ∧ Q none s') ∨ (s'.TypeIs e "ValueError" ∧ E e s')) { s with heap := h₁ }) :
    wpAny (model prog w) A (pyNext (.ref z)) Q E s := by
  have hT : s.TypeIs (.ref z) "zip" := ⟨_, hz, rfl⟩
  unfold pyNext
  refine wpAny_bind (wpAny_attempt (wpAny_callSpecial?_slot (name := Str.ofString "__next__") hT F.slot_zip_next
    (wpAny_call_entry F.slot_zip_next hT F.entry_zip_next (wpAny_mono (zip_drawG (E := fun e s' => (s'.TypeIs e "StopIteration" ∧ Q none s') ∨ (s'.TypeIs e "ValueError" ∧ E e s')) (Q := fun v s' => Q (some v) s') TIz TOz hz hTI h) (fun fin s' ⟨v, e, q⟩ => ⟨v, e, wpAny_pure q⟩) fun e s' q => ?_) (F.args_zip_next_1 _))))
  rcases q with ⟨hT, q⟩ | ⟨hT, q⟩
  · refine wpAny_bind (wpAny_isInstance (T := "StopIteration") (b := true) hT isSubtype_stop ?_)
    exact wpAny_pure q
  · refine wpAny_bind (wpAny_isInstance (T := "ValueError") (b := false) hT (by rw [isSubtype_type]; kernel_rfl) ?_)
    exact wpAny_throw q
end
end
section
open PySem PySem.W PySem.Calls PyProof PyProof.Rows PySem.SeqAt
noncomputable abbrev zg1 (h : Heap) (a b c : Int) : Heap := h.push { cls := .type "range_iterator", data := .fields #[rawInt a, rawInt (Builtin.Range.rangeSize a b c), rawInt c] }
noncomputable abbrev zg2 (h : Heap) (a b c : Int) (G : Addr) : Heap := (zg1 h a b c).push { cls := .type "tuple", data := .seq #[.ref h.objs.size, .ref G] }
noncomputable abbrev zg3 (h : Heap) (a b c : Int) (G : Addr) : Heap := (zg2 h a b c G).push { cls := .type "tuple", data := .seq #[.none, .none] }
noncomputable abbrev zg4 (h : Heap) (a b c : Int) (G : Addr) : Heap := (zg3 h a b c G).push { cls := .type "zip", data := .fields #[.none, .bool false, .bool false, .ref (zg1 h a b c).objs.size, .ref (zg2 h a b c G).objs.size] }
theorem meets_zipG (r G g : Addr) (a b c : Int) (t u v : Tok) (hsm : Builtin.Range.small a b c = true) :
    Meets (Builtin.«zip.__new__» ⟨[.type "zip", .ref r, .ref G], []⟩) (fun uu R s => IsRange s.heap r a b c t u v ∧ s.heap.IsGen G g ∧
      R (.ok (.ret (.ref (zg3 s.heap a b c G).objs.size))) { s with heap := zg4 s.heap a b c G }) :=
  .of_wp fun prog w A R s h => by
    obtain ⟨hp, gs, d, tk, os⟩ := s; obtain ⟨hr, hg, h⟩ := h
    have hsub := sub_zip
    have hR : IsRange (Shared.heap ⟨hp, gs, d, tk, os⟩) r a b c t u v := hr
    have hG : Heap.IsGen (Shared.heap ⟨zg1 hp a b c, gs, d, tk, os⟩) G g := Heap.IsGen.push hg _
    wp_walk using wpAny_pyIter_range hR hsm, wpAny_pyIter_gen hG
    exact ⟨_, rfl, h⟩
section
variable {prog : Program} {w : World} {A : Around} {E : Value → Shared → Prop} {s : Shared}
theorem call_zipG {r G g : Addr} {a b c : Int} {t u v : Tok} {Q : Value → Shared → Prop} (hr : IsRange s.heap r a b c t u v) (hg : s.heap.IsGen G g) (hsm : Builtin.Range.small a b c = true)
    (h : ∀ h', IsZip h' (s.heap.objs.size + 3) (s.heap.objs.size + 1) (s.heap.objs.size + 2) .none → IsPair h' (s.heap.objs.size + 1) (.ref s.heap.objs.size) (.ref G) →
      IsPair h' (s.heap.objs.size + 2) .none .none → IsRangeIter h' s.heap.objs.size a (Builtin.Range.rangeSize a b c) c → h'.objs.size = s.heap.objs.size + 4 →
      (∀ c o, s.heap.get? c = some o → h'.get? c = some o) → Q (.ref (s.heap.objs.size + 3)) { s with heap := h' }) :
    wpAny (model prog w) A (call (.type "zip") [.ref r, .ref G]) Q E s := by
  refine callType_new F.called_zip (by decide) (F.typeCall_zip_2 _ _) (F.newCall_zip_2 _ _) (fun obj => F.args_object_init_3 obj _ _) F.entry_zip_new
    (meets_zipG r G g a b c t u v hsm) ⟨hr, hg, ?_⟩
  have z1 : (zg1 s.heap a b c).objs.size = s.heap.objs.size + 1 := Heap.size_push ..
  have z2 : (zg2 s.heap a b c G).objs.size = s.heap.objs.size + 2 := by rw [Heap.size_push, z1]
  have z3 : (zg3 s.heap a b c G).objs.size = s.heap.objs.size + 3 := by rw [Heap.size_push, z2]
  have z4 : (zg4 s.heap a b c G).objs.size = s.heap.objs.size + 4 := by rw [Heap.size_push, z3]
  have g4 : (zg4 s.heap a b c G).get? (zg3 s.heap a b c G).objs.size = some _ := Heap.get?_push_size _ rfl
  have g3 : (zg4 s.heap a b c G).get? (zg2 s.heap a b c G).objs.size = some _ := Heap.get?_push_of_some _ (Heap.get?_push_size _ rfl)
  have g2 : (zg4 s.heap a b c G).get? (zg1 s.heap a b c).objs.size = some _ := Heap.get?_push_of_some _ (Heap.get?_push_of_some _ (Heap.get?_push_size _ rfl))
  have g1 : (zg4 s.heap a b c G).get? s.heap.objs.size = some _ := Heap.get?_push_of_some _ (Heap.get?_push_of_some _ (Heap.get?_push_of_some _ (Heap.get?_push_size _ rfl)))
  show _ ∧ _
  rw [z1, z2, z3] at g4
  rw [z1] at g2
  rw [z2] at g3
  rw [z3]
  exact ⟨⟨_, g4, rfl⟩, h _ g4 g2 g3 g1 z4 fun c o x =>
    Heap.get?_push_of_some _ (Heap.get?_push_of_some _ (Heap.get?_push_of_some _ (Heap.get?_push_of_some _ x)))⟩
end
end
section
open PySem PySem.W PySem.Calls PyProof PyProof.Rows PySem.SeqAt
theorem Rel.slots {c : Cx} {ρ : Rho} {σ : Sig} {s s' : Shared} {F : List Addr} (R : Rel c ρ σ s) (hF : ∀ b ∈ F, b = c.env.locals ∨ (b ∈ c.out ∧ b ∉ c.own ∧ b ∉ c.env.cells.map (·.2) ∧ c.h₀.get? b = none)) (hex : ∀ b ∈ F, ∃ o, s'.heap.get? b = some o) (st : Stp s s')
    (k : ∀ b o, b ∉ F → s.heap.get? b = some o → s'.heap.get? b = some o) (sl : s.heap.UpToSlots s'.heap) : Rel c ρ σ s' := by
  have Fw : ∀ b ∈ F, b ∈ c.own ++ c.out := fun b hb => by
    rcases hF b hb with q | q
    · exact List.mem_append_left _ (q ▸ R.ok.lown)
    · exact List.mem_append_right _ q.1
  have kw : KeepW (wof c σ) s s' := ⟨fun b o hb e => k b o (fun q => hb (List.mem_append_right _ (Fw b q))) e, st.toks_le⟩
  have hc : ∀ p ∈ c.env.cells, p.2 ∉ F := fun p hp q => by
    rcases hF _ q with e | e
    · exact R.ok.cloc (e ▸ List.mem_map_of_mem hp)
    · exact e.2.2.1 (List.mem_map_of_mem hp)
  refine ⟨R.ok, fun b o e => k b o (fun q => ?_) (R.base b o e), fun b hb => ?_, ?_, fun p hp => ?_, fun p hp => ?_, R.nd, fun e => R.tk (Nat.le_zero.mp (e ▸ st.toks_le))⟩
  · rcases hF b q with q | q
    · rw [q, R.ok.ownh _ R.ok.lown] at e; cases e
    · rw [q.2.2.2] at e; cases e
  · by_cases q : b ∈ F
    · exact hex b q
    · obtain ⟨o, e⟩ := R.al b hb; exact ⟨o, k b o q e⟩
  · obtain ⟨m, hN, hl⟩ := R.loc
    refine ⟨m, sl.ns hN, fun x X e => ⟨fun q => let ⟨v, a, b⟩ := (hl x X e).1 q; ⟨v, a, b.keeps kw⟩, fun q => ?_⟩⟩
    obtain ⟨a, v, d, f, r⟩ := (hl x X e).2 q
    exact ⟨a, v, d, isCell_at f fun o e => k a o (hc _ (lookup_mem' d)) e, r.keeps kw⟩
  · obtain ⟨v, e⟩ := R.cel p hp; exact ⟨v, isCell_at e fun o e => k _ o (hc p hp) e⟩
  · obtain ⟨a, b, vs, d, f⟩ := R.muts p hp
    exact ⟨a, b, vs, d.at fun o e => k _ o (fun q => b (Fw _ q)) e, f.keeps kw⟩
noncomputable def KSl (c : Cx) (fs : List Env) (s s' : Shared) : Prop := Stp s s' ∧ (∀ b o, b ∉ c.own → b ∉ fad fs → s.heap.get? b = some o → s'.heap.get? b = some o) ∧ ∀ b ∈ fad fs, ∀ o, s.heap.get? b = some o → ∃ sl, s'.heap.get? b = some { o with slots := sl }
theorem KSl.refl (c fs s) : KSl c fs s s := ⟨.refl s, fun uu uu uu uu e => e, fun b uu o e => ⟨o.slots, e⟩⟩
theorem KSl.trans {c fs a b d} (x : KSl c fs a b) (y : KSl c fs b d) : KSl c fs a d := ⟨x.1.trans y.1, fun b o h1 h2 e => y.2.1 b o h1 h2 (x.2.1 b o h1 h2 e), fun b hb o e => by
  obtain ⟨sl, e1⟩ := x.2.2 b hb o e
  obtain ⟨sl', e2⟩ := y.2.2 b hb _ e1
  exact ⟨sl', e2⟩⟩
theorem KS.sl {c fs s s'} (k : KS c [] [] s s') (ap : Apart c fs) : KSl c fs s s' := ⟨k.1, fun b o h uu e => k.2.1 b o (by simpa [vol] using h) e, fun b hb o e => ⟨o.slots, k.2.1 b o (by simpa [vol] using (ap b hb).2) e⟩⟩
theorem KSl.up {c fs o s s'} (k : KSl (c.up o) fs s s') : KSl c fs s s' := k
theorem KSl.keepW {c fs s s'} (k : KSl c fs s s') (ap : Apart c fs) : KeepW (wof c []) s s' := ⟨fun b o hb e => k.2.1 b o (fun q => hb (List.mem_append_right _ (List.mem_append_left _ q))) (fun q => hb (List.mem_append_right _ (List.mem_append_right _ (ap b q).1))) e, k.1.toks_le⟩
theorem Apart.up {c fs} (ap : Apart c fs) (o) : Apart (c.up o) fs := fun b hb => ⟨List.mem_append_right _ (ap b hb).1, (ap b hb).2⟩
inductive OY (c : Cx) (fs : List Env) (s : Shared) (Q : Fl → Rho → Prop) (f : Flow) (s' : Shared) : Prop
  | mk (F : Fl) (ρ' : Rho) (r : FlR c.w (wof c []) s' F f) (R : Rel c ρ' [] s') (k : KSl c fs s s') (ff : FF fs s'.heap) (q : Q F ρ')
theorem goY {c fs s Q} {M : Model} {A t s₀ P E} (H : wpAny M A t (OY c fs s Q) (fun uu uu => False) s₀) (f : ∀ v s₁ F ρ', FlR c.w (wof c []) s₁ F v → Rel c ρ' [] s₁ → KSl c fs s s₁ → FF fs s₁.heap → Q F ρ' → P v s₁) : wpAny M A t P E s₀ :=
  wpAny_mono H (fun v s₁ h => h.casesOn fun F ρ' r R k ff q => f v s₁ F ρ' r R k ff q) fun uu uu x => x.elim
noncomputable def WXL (c : Cx) (fs : List Env) (t : Sem Flow) (ρ : Rho) (Q : Fl → Rho → Prop) : Prop :=
  ∀ s, Rel c ρ [] s → FF fs s.heap → wpAny (model PG c.w) c.A t (OY c fs s Q) (fun uu uu => False) s
theorem wl_lift {c fs t ρ} {Q : Fl → Rho → Prop} (ap : Apart c fs) (h : WX c t ρ [] (fun F ρ' σ' => σ' = [] ∧ Q F ρ')) : WXL c fs t ρ Q := fun s R ff =>
  goX (h s R) fun f s' F ρ' σ' hf R' k ⟨e, q⟩ => by subst e; exact ⟨F, ρ', hf, R', k.sl ap, ff.ks ap R k, q⟩
theorem wl_mono {c fs t ρ} {Q Q' : Fl → Rho → Prop} (h : WXL c fs t ρ Q) (k : ∀ F r, Q F r → Q' F r) : WXL c fs t ρ Q' := fun s R ff =>
  goY (h s R ff) fun f s' F ρ' a b d e q => ⟨F, ρ', a, b, d, e, k F ρ' q⟩
theorem wl_less {c fs t ρ ρ₁} {Q : Fl → Rho → Prop} (h : WXL c fs t ρ₁ Q) (k : sub ρ₁ ρ) : WXL c fs t ρ Q := fun s R ff => h s (R.less k) ff
theorem wl_nil {c fs ρ} {Q : Fl → Rho → Prop} (h : Q .next ρ) : WXL c fs (execs [] c.env) ρ Q := fun s R ff => wpAny_execs_nil ⟨.next, ρ, rfl, R, .refl _ _ s, ff, h⟩
theorem wl_cons {c fs st rest ρ} {Q : Fl → Rho → Prop} (h : WXL c fs (exec st c.env) ρ (fun F ρ' => match F with | .next => WXL c fs (execs rest c.env) ρ' Q | F => Q F ρ')) : WXL c fs (execs (st :: rest) c.env) ρ Q := fun s R ff => by
  refine wpAny_execs_cons (goY (h s R ff) fun f s' F ρ' hf R' k ff' q => ?_)
  cases F with
  | next =>
    cases hf
    exact goY (q s' R' ff') fun f s'' F ρ'' a b d e q => ⟨F, ρ'', a, b, k.trans d, e, q⟩
  | brk => cases hf; exact ⟨.brk, ρ', rfl, R', k, ff', q⟩
  | cont => cases hf; exact ⟨.cont, ρ', rfl, R', k, ff', q⟩
  | ret X => obtain ⟨v, rfl, hv⟩ := hf; exact ⟨.ret X, ρ', ⟨v, rfl, hv⟩, R', k, ff', q⟩
theorem te_expr {c fs e pos ρ σ} (h : WTe c fs (eval e c.env) ρ σ) (hi : interactive c.env = false := by walk_at "r") (hsw : swapsWith e none pos.line c.env = pure false := by walk_at "r") : WTe c fs (execs [.Expr e pos] c.env) ρ σ := fun s R ff =>
  wpAny_execs_cons (wpAny_Expr_any (wpAny_mono (h s R ff) (fun uu uu x => x.elim) fun uu uu x => x) hi hsw)
theorem storeName_relA {A : Around} {E : Value → Shared → Prop} {c x X ρ σ s v} (R : Rel c ρ σ s) (hX : VR c.w (wof c σ) s X v) (hk : c.env.kindOf x = some .local ∨ (c.env.kindOf x = some .cell ∧ ∃ a, c.env.cells.lookup x = some a ∧ a ∈ c.own)) {Q : Unit → Shared → Prop}
    (h : ∀ s', Rel c ((x, X) :: ρ) σ s' → KS c σ σ s s' → Q () s') : wpAny (model PG c.w) A (storeName c.env x v) Q E s := by
  obtain ⟨m, hN, hl⟩ := R.loc
  rcases hk with hk | ⟨hk, a, ha, hao⟩
  · refine wpAny_storeName_local hk hN (fun h' hn hs => ?_) (by rw [R.ok.kind]; rfl)
    obtain ⟨hb, k, ks, hm⟩ := R.turned R.ok.lown hs (Nat.le_succ _)
    have cells_at : ∀ {a v}, a ∈ c.env.cells.map (·.2) → s.heap.IsCell a v → h'.IsCell a v := fun hc hv => isCell_at hv fun o e => (hs.2 _ (fun q => R.ok.cloc (q ▸ hc))).trans e
    refine h _ ⟨R.ok, hb, fun a ha => ?_, ⟨_, hn, fun y Y e => ?_⟩, fun p hp => ?_, hm, R.nd, Nat.succ_ne_zero _⟩ ks
    · by_cases q : a = c.env.locals
      · obtain ⟨o, _, _, ho, _⟩ := hn; exact ⟨o, q ▸ ho⟩
      · obtain ⟨o, ho⟩ := R.al a ha; exact ⟨o, (hs.2 _ q).trans ho⟩
    · rw [lookup_head] at e
      by_cases q : y = x
      · subst q
        rw [if_pos rfl] at e; cases e
        exact ⟨fun uu => ⟨v, by simp, hX.keeps k⟩, fun z => by rw [hk] at z; rcases z with z | z <;> cases z⟩
      · rw [if_neg q] at e
        refine ⟨fun z => ?_, fun z => ?_⟩
        · obtain ⟨u, hu, hr⟩ := (hl y Y e).1 z; exact ⟨u, by simp [q, hu], hr.keeps k⟩
        · obtain ⟨a, u, ha, hc, hr⟩ := (hl y Y e).2 z
          exact ⟨a, u, ha, cells_at (List.mem_map.mpr ⟨_, lookup_mem' ha, rfl⟩) hc, hr.keeps k⟩
    · obtain ⟨u, hu⟩ := R.cel p hp; exact ⟨u, cells_at (List.mem_map_of_mem hp) hu⟩
  · obtain ⟨u, hu⟩ := R.cel _ (lookup_mem' ha)
    refine wpAny_storeName_cell R.ok.kind hk ha hu fun h' hv hs => ?_
    obtain ⟨hb, k, ks, hm⟩ := R.turned hao hs (Nat.le_refl s.toks)
    have hne : c.env.locals ≠ a := fun q => R.ok.cloc (q ▸ List.mem_map.mpr ⟨_, lookup_mem' ha, rfl⟩)
    refine h _ ⟨R.ok, hb, fun b hb' => ?_, ⟨m, hN.sameBut hs hne, fun y Y e => ?_⟩, fun p hp => ?_, hm, R.nd, R.tk⟩ ks
    · by_cases q : b = a
      · obtain ⟨o, ho, _⟩ := hv; exact ⟨o, q ▸ ho⟩
      · obtain ⟨o, ho⟩ := R.al b hb'; exact ⟨o, (hs.2 _ q).trans ho⟩
    · rw [lookup_head] at e
      by_cases q : y = x
      · subst q
        rw [if_pos rfl] at e; cases e
        exact ⟨fun z => (by rw [hk] at z; cases z), fun uu => ⟨a, v, ha, hv, hX.keeps k⟩⟩
      · rw [if_neg q] at e
        refine ⟨fun z => ?_, fun z => ?_⟩
        · obtain ⟨u, hu, hr⟩ := (hl y Y e).1 z; exact ⟨u, hu, hr.keeps k⟩
        · obtain ⟨b, u, hb', hc, hr⟩ := (hl y Y e).2 z
          refine ⟨b, u, hb', isCell_at hc fun o e => (hs.2 _ fun q' => q ?_).trans e, hr.keeps k⟩
          exact congrArg Prod.fst (nodup_snd R.ok.cdist (lookup_mem' hb') (lookup_mem' ha) q')
    · by_cases q : p.2 = a
      · exact ⟨_, q ▸ hv⟩
      · obtain ⟨u, hu⟩ := R.cel p hp; exact ⟨u, isCell_at hu fun o e => (hs.2 _ q).trans e⟩
theorem wl_try {c : Cx} {fs : List Env} {body : List Stmt} {ρ : Rho} {n : Int} {np p1 p2 p3 p4 p5 hp pos : Pos} {k1 : Nat} {Q : Fl → Rho → Prop} (ap : Apart c fs) (hfr : c.A.frames = some (c.env :: fs)) (hfl : c.env.frame = some c.env.locals) (hh : ∀ b ∈ fad fs, c.h₀.get? b = none) (hcl : c.env.cells = [])
    (hT : WTe c fs (execs body c.env) ρ []) (hn : List.lookup (Str.ofString "count") ρ = some (V.int n)) (hk : c.env.kindOf "count" = some .local) (hkv : c.env.kindOf "ValueError" = some .globalImplicit)
    (h : Q .next (("count", .int (n + 1)) :: ρ))
    (hsw : swapsWith (.BinOp (.Name "count" p2) .Add (.Constant (.int 1) k1 p3) p4) (some (.Name "count" p1)) p5.line c.env = pure false := by walk_at "r") :
    WXL c fs (exec (.Try body [.ExceptHandler (some (.Name "ValueError" np)) none [.Assign [.Name "count" p1] (.BinOp (.Name "count" p2) .Add (.Constant (.int 1) k1 p3) p4) p5] hp] [] [] pos) c.env) ρ Q := fun s R ff => by
  refine wpAny_Try_except (wpAny_mono (hT s R ff) (fun uu uu x => x.elim) fun e s' hpt => ?_)
  obtain ⟨s₁, k₁, st₁, ea, a0, ee, hfly, hup⟩ := hpt
  subst ee
  have R₁ := R.keepE k₁
  have ff₁ := ff.stays k₁.2
  refine wpAny_looks_onW hfr hfl hfly fun h₄ hheld₄ hsm₄ => ?_
  refine wpAny_landsW hheld₄ fun h₅ hfl₅ hsm₅ => ?_
  have Fmem : ∀ b ∈ fad (c.env :: fs), b = c.env.locals ∨ b ∈ fad fs := fun b hb => by
    unfold fad at hb
    rw [List.filterMap_cons, hfl] at hb
    exact List.mem_cons.mp hb
  have keep : ∀ {h' : Heap}, (hideAll s₁.heap (fad (c.env :: fs))).StaysIn h' → ∀ b o, b ∉ fad (c.env :: fs) → s₁.heap.get? b = some o → h'.get? b = some o := fun st b o hb e => st b o (hideAll_get _ e hb)
  have ffa : FF (c.env :: fs) s₁.heap := by
    obtain ⟨m, hN, _⟩ := R₁.loc
    exact FF.cons (by rw [R.ok.kind]; decide) hfl hN ff₁
  have rel : ∀ {h' : Heap} {e0 a0}, Heap.FlyingW (hideAll s₁.heap (fad (c.env :: fs))) (c.env :: fs) e0 VE a0 h' → s₁.heap.UpToSlots h' → Rel c ρ [] { s' with heap := h' } := fun hf hs =>
    R₁.slots (F := fad (c.env :: fs)) (fun b hb => (Fmem b hb).imp id fun q => ⟨(ap b q).1, (ap b q).2, (by rw [hcl]; intro z; cases z), hh b q⟩)
      (fun b hb => by
        obtain ⟨env, he, hf'⟩ := List.mem_filterMap.mp hb
        obtain ⟨_, L, o, hf2, ho, _⟩ := (ffa.slots hs) env he
        rw [hf'] at hf2
        exact ⟨o, (Option.some.inj hf2) ▸ ho⟩) (st₁.trans (.mk' _ _ (Nat.le_refl _))) (keep hf.1) hs
  have R₅ := rel hfl₅ ((hup.trans hsm₄).trans hsm₅)
  obtain ⟨ob, hob, hobc⟩ := hfl₅.there
  refine wpAny_handleBy_builtin (X := "ValueError") (T := "ValueError") (b := true) F.isExc_ValueError F.notTuple_ValueError (by rw [isSubtype_type]; kernel_rfl) ?_
  refine Name_function_global R₅.ok.kind hkv (loadGlobal_builtin (s := { s' with heap := h₅ }) (R₅.ok.glob ▸ R₅.stat.T.g) (mg_none_of R₅.stat.K R₅.stat.T.g rfl) (R₅.ok.blt ▸ R₅.stat.T.b) ((R₅.stat.T.builtins "ValueError" (by decide)).trans Boot.«ValueError») ⟨rfl, ⟨ob, hob, hobc⟩, ?_⟩) (by decide)
  show wpAny _ _ (setFlight (.ref ea) none) _ _ _
  refine lands_againW (s := { s' with heap := h₅ }) hfl₅ fun h₆ hfl₆ hsm₆ => ?_
  have hup₆ : s₁.heap.UpToSlots h₆ := ((hup.trans hsm₄).trans hsm₅).trans hsm₆
  have R₆ := rel hfl₆ hup₆
  have K₆ : KSl c fs s { s' with heap := h₆ } := by
    refine ⟨(k₁.1.trans st₁).trans (.mk' _ _ (Nat.le_refl _)), fun b o h1 h2 e => keep hfl₆.1 b o (fun q => (Fmem b q).elim (fun z => h1 (z ▸ R.ok.lown)) h2) (k₁.2 _ _ e), fun b hb o e => ?_⟩
    refine hup₆ b o (k₁.2 _ _ e) ?_
    obtain ⟨env, he, hf'⟩ := List.mem_filterMap.mp hb
    obtain ⟨_, L, o', hf2, ho, hd⟩ := ff env he
    rw [hf'] at hf2
    obtain rfl := Option.some.inj hf2
    rw [e] at ho; cases ho
    exact hd
  obtain ⟨m, hN, hl⟩ := R₆.loc
  obtain ⟨v, hv, t, rfl⟩ := (hl _ _ hn).1 hk
  refine wpAny_execs_cons (wpAny_Assign_Name (wpAny_BinOp (wpAny_Name (wpAny_loadName_local (s := { s' with heap := h₆ }) R₆.ok.kind hk hN hv ?_) (by decide))) hsw)
  refine wpAny_Constant_int ?_
  refine add_int ?_
  have k₇ : KeepE { s' with heap := h₆ } { s' with heap := h₆, toks := s'.toks + 1 + 1 } := .mk' (.refl _) (Nat.le_trans (Nat.le_succ _) (Nat.le_succ _))
  refine storeName_relA (X := .int (n + 1)) (R₆.keepE k₇) ⟨_, rfl⟩ (.inl hk) fun s₈ R₈ k₈ => wpAny_execs_nil ⟨.next, _, rfl, R₈, K₆.trans ((KS.trans (R₆.keepE k₇) k₇.ks k₈).sl ap), ?_, h⟩
  exact ((ff₁.slots hup₆).stays k₇.2).ks ap (R₆.keepE k₇) k₈
theorem wl_forS {c : Cx} {fs : List Env} {s₁ s₂ : Shared} {I : Addr} {target : Expr} {fp wr : List Addr} {items : List V} {St : Nat → Heap → Prop} {ρ : Rho} {body : List Stmt} {Q : Fl → Rho → Prop}
    (ap : Apart c fs) (ff₁ : FF fs s₁.heap) (R₁ : Rel c ρ [] s₁) (k : KeepE s₁ s₂) (S : Src c.w c.A (wof c []) s₁ I target fp wr items St) (hst : St 0 s₂.heap) (J : Nat → Rho → Prop) (h0 : J 0 ρ)
    (turn : ∀ o i Y ρ', items[i]? = some Y → J i ρ' → WAs (c.up o) target Y ρ' [] (fun ρ'' => WXL (c.up o) fs (execs body (c.up o).env) ρ'' (fun F ρ₃ => match F with
      | .next | .cont => J (i + 1) ρ₃
      | .brk => Q .next ρ₃
      | .ret X => Q (.ret X) ρ₃)))
    (fin : ∀ ρ', J items.length ρ' → Q .next ρ') {s₀ : Shared} (k₀ : KeepE s₀ s₁) :
    codeAny (model PG c.w) c.A (.forLoop target (.ref I) body [] c.env) (ForQ c (OY c fs s₀ Q)) s₂ := by
  have hwrex := fun i h (st : St i h) => S.ex i h st
  have R₂ : Rel (c.up wr) ρ [] s₂ := R₁.up k S.new (hwrex _ _ hst)
  have hnf : ∀ b ∈ wr, b ∉ fad fs := fun b hb q => by
    obtain ⟨env, he, hf⟩ := List.mem_filterMap.mp q
    obtain ⟨_, L, o, hf2, ho, _⟩ := ff₁ env he
    rw [hf] at hf2
    obtain rfl := Option.some.inj hf2
    rw [S.new _ hb] at ho; cases ho
  have hno : ∀ {ρ' s}, Rel (c.up wr) ρ' [] s → ∀ b ∈ wr, b ∉ vol c [] ∧ c.h₀.get? b = none ∧ b ∉ c.env.cells.map (·.2) := fun {ρ' s} R b hb => by
    refine ⟨fun hm => ?_, ?_, fun hm => ?_⟩
    · rcases List.mem_append.mp hm with q | q
      · cases q
      · obtain ⟨o, e⟩ := R₁.al b (List.mem_append_right _ (List.mem_append_left _ q))
        rw [S.new b hb] at e; cases e
    · cases e : c.h₀.get? b with
      | none => rfl
      | some o => have := R₁.base b o e; rw [S.new b hb] at this; cases this
    · obtain ⟨p, hp, rfl⟩ := List.mem_map.mp hm
      obtain ⟨u, o, e, _⟩ := R₁.cel p hp
      rw [S.new _ hb] at e; cases e
  have own_of : ∀ b, b ∈ c.own → b ∈ vol c [] := fun b h => List.mem_append_right _ h
  have footOk : ∀ {ρ' s}, Rel (c.up wr) ρ' [] s → ∀ b ∈ fp, b ∉ c.own ∧ b ∉ fad fs := fun {ρ' s} R b hb => by
    rcases S.foot b hb with q | ⟨q1, q2⟩
    · exact ⟨fun h => (hno R b q).1 (own_of b h), hnf b q⟩
    · exact ⟨fun h => q1 (List.mem_append_right _ (List.mem_append_left _ h)), fun h => q1 (List.mem_append_right _ (List.mem_append_right _ (ap b h).1))⟩
  refine codeAny_forLoop_any (fun n s' => ∃ i ρ', Rel (c.up wr) ρ' [] s' ∧ KSl c fs s₁ s' ∧ FF fs s'.heap ∧ St i s'.heap ∧ J i ρ' ∧ i ≤ items.length ∧ n = items.length + 1 - i) ?_ (items.length + 1)
    ⟨0, ρ, R₂, (KeepE.ks k).sl ap, ff₁.stays k.2, hst, h0, Nat.zero_le _, rfl⟩
  rintro n s' ⟨i, ρ', R', K', ff', st, hJ, hi, rfl⟩
  by_cases hlt : i < items.length
  · refine wpAny_mono (S.item i s' (fun v s₃ => (∃ Y h' tk, s₃ = { s' with heap := h', toks := tk } ∧ items[i]? = some Y ∧ @LE.le Nat _ s'.toks tk ∧ VR c.w (wof (c.up wr) []) { s' with heap := h', toks := tk } Y v ∧ St (i + 1) h' ∧ (∀ b o, b ∉ wr → s'.heap.get? b = some o → h'.get? b = some o)))
        hlt st (K'.keepW ap) (fun Y v h' tk hY ht hv st' hk => ⟨Y, h', tk, rfl, hY, ht, hv _ (fun a ha ⟨o, e⟩ hm => (wof_up.mp hm).elim (fun q => by rw [S.new a q] at e; cases e) ha) R'.al, st', hk⟩)) (fun r s₃ hr => ?_) fun uu uu x => x.elim
    · cases r with
      | none => exact hr.elim
      | some v =>
        refine wpAny_mono hr (fun uu s₄ h₄ => ?_) fun uu uu x => x.elim
        obtain ⟨Y, h', tk, rfl, hY, ht, hv, st', hk⟩ := h₄
        have R₄ : Rel (c.up wr) ρ' [] { s' with heap := h', toks := tk } := R'.moved (hno R') hk (hwrex _ _ st') ht
        have kk : ∀ b o, s₁.heap.get? b = some o → ∀ o', s'.heap.get? b = some o' → h'.get? b = some o' := fun b o e o' e' => hk b o' (fun q => by rw [S.new b q] at e; cases e) e'
        have K₄ : KSl c fs s₁ { s' with heap := h', toks := tk } := ⟨K'.1.trans (.mk' _ _ ht), fun b o h1 h2 e => kk b o e o (K'.2.1 b o h1 h2 e), fun b hb o e => by
          obtain ⟨sl, e'⟩ := K'.2.2 b hb o e
          exact ⟨sl, kk b o e _ e'⟩⟩
        have ff₄ : FF fs h' := ff'.keeps fun b hb o e => hk b o (fun q => hnf b q hb) e
        refine goA (turn wr i Y ρ' hY hJ _ v R₄ hv) fun uu s₅ ρ₅ R₅ k₅ q => ?_
        have l₅ : KSl c fs { s' with heap := h', toks := tk } s₅ := (k₅.sl (ap.up wr)).up
        have K₅ := K₄.trans l₅
        have st₅ : St (i + 1) s₅.heap := S.frame _ _ _ st' fun b hb o e => l₅.2.1 b o (footOk R₄ b hb).1 (footOk R₄ b hb).2 e
        refine goY (q s₅ R₅ (FF.ks ff₄ (ap.up wr) R₄ k₅)) fun f s₆ F r a R₆ k₆ ff₆ q => ?_
        have K₆ : KSl c fs s₁ s₆ := K₅.trans k₆.up
        have K0 : KSl c fs s₀ s₆ := (k₀.ks.sl ap).trans K₆
        have less : ∀ a, a ∈ wof c [] → a ∈ wof (c.up wr) [] := fun a h => wof_up.mpr (.inr h)
        have st₆ : St (i + 1) s₆.heap := S.frame _ _ _ st₅ fun b hb o e => k₆.2.1 b o (footOk R₄ b hb).1 (footOk R₄ b hb).2 e
        cases F with
        | next => cases a; exact ⟨_, by exact Nat.not_le.mp fun hn => absurd (Nat.add_le_add hn (Nat.add_le_add (Nat.le_of_eq (Nat.sub_add_cancel (show i + 1 ≤ items.length + 1 from Nat.not_lt.mp fun hn => absurd (Nat.add_le_add hlt hn) (by simp +arith)))) (Nat.le_of_eq (Nat.sub_add_cancel (show i ≤ items.length + 1 from Nat.not_lt.mp fun hn => absurd (Nat.add_le_add hlt hn) (by simp +arith))).symm))) (by simp +arith), i + 1, r, R₆, K₆, ff₆, st₆, q, hlt, rfl⟩
        | cont => cases a; exact ⟨_, by exact Nat.not_le.mp fun hn => absurd (Nat.add_le_add hn (Nat.add_le_add (Nat.le_of_eq (Nat.sub_add_cancel (show i + 1 ≤ items.length + 1 from Nat.not_lt.mp fun hn => absurd (Nat.add_le_add hlt hn) (by simp +arith)))) (Nat.le_of_eq (Nat.sub_add_cancel (show i ≤ items.length + 1 from Nat.not_lt.mp fun hn => absurd (Nat.add_le_add hlt hn) (by simp +arith))).symm))) (by simp +arith), i + 1, r, R₆, K₆, ff₆, st₆, q, hlt, rfl⟩
        | brk => cases a; exact ⟨.next, r, rfl, R₆.down R₁.ok, K0, ff₆, q⟩
        | ret X => obtain ⟨v, rfl, hv⟩ := a; exact ⟨.ret X, r, ⟨v, rfl, hv.less less⟩, R₆.down R₁.ok, K0, ff₆, q⟩
  · have hin : i = items.length := by exact Nat.le_antisymm hi (Nat.not_lt.mp hlt)
    subst hin
    refine wpAny_mono (S.done s' (fun s₃ => Rel c ρ' [] s₃ ∧ KSl c fs s₁ s₃ ∧ FF fs s₃.heap) st (fun h' tk ht hk => ?_)) (fun r s₃ hr => ?_) fun uu uu x => x.elim
    · have hno' : ∀ b ∈ wr, b ∉ wof c [] ∧ c.h₀.get? b = none ∧ b ∉ c.env.cells.map (·.2) := fun b hb => by
        obtain ⟨n1, n2, n3⟩ := hno R' b hb
        refine ⟨fun hm => ?_, n2, n3⟩
        rcases List.mem_append.mp hm with q | q
        · exact n1 (List.mem_append_left _ q)
        · obtain ⟨o, e⟩ := R₁.al b (List.mem_append_right _ q)
          rw [S.new b hb] at e; cases e
      have kk : ∀ b o, s₁.heap.get? b = some o → ∀ o', s'.heap.get? b = some o' → h'.get? b = some o' := fun b o e o' e' => hk b o' (fun q => by rw [S.new b q] at e; cases e) e'
      exact ⟨R'.left R₁.ok hno' hk ht, ⟨K'.1.trans (.mk' _ _ ht), fun b o h1 h2 e => kk b o e o (K'.2.1 b o h1 h2 e), fun b hb o e => by
          obtain ⟨sl, e'⟩ := K'.2.2 b hb o e
          exact ⟨sl, kk b o e _ e'⟩⟩, ff'.keeps fun b hb o e => hk b o (fun q => hnf b q hb) e⟩
    · obtain ⟨rfl, R₃, K₃, ff₃⟩ := hr
      exact wpAny_execs_nil ⟨.next, ρ', rfl, R₃, (k₀.ks.sl ap).trans K₃, ff₃, fin ρ' hJ⟩
theorem wl_for {c : Cx} {fs : List Env} {target iter : Expr} {body : List Stmt} {pos : Pos} {ρ : Rho} {Q : Fl → Rho → Prop} (ap : Apart c fs)
    (h : WE c iter ρ [] (fun X => ∃ items, SrcOf c target X items ∧ ∃ J : Nat → Rho → Prop, J 0 ρ ∧
      (∀ o i Y ρ', items[i]? = some Y → J i ρ' → WAs (c.up o) target Y ρ' [] (fun ρ'' => WXL (c.up o) fs (execs body (c.up o).env) ρ'' (fun F ρ₃ => match F with
        | .next | .cont => J (i + 1) ρ₃
        | .brk => Q .next ρ₃
        | .ret X => Q (.ret X) ρ₃))) ∧ ∀ ρ', J items.length ρ' → Q .next ρ'))
    (hs : ∀ x, foldedSetIterable iter c.env x = pure x := by intro _; with_unfolding_all rfl) : WXL c fs (exec (.For target iter body [] pos) c.env) ρ Q := fun s R ff => by
  refine wpAny_For (goV (h s R) fun v s₁ X hX k₁ hpt => ?_) hs
  obtain ⟨items, hsrc, J, h0, turn, fin⟩ := hpt
  exact hsrc ρ [] s₁ v _ (R.keepE k₁) hX fun I fp wr St s₂ k₂ S hst => wl_forS ap (ff.stays k₁.2) (R.keepE k₁) k₂ S hst J h0 turn fin k₁
noncomputable def KCl (fs : List Env) (s s' : Shared) : Prop := Stp s s' ∧ (∀ b o, b ∉ fad fs → s.heap.get? b = some o → s'.heap.get? b = some o) ∧ ∀ b ∈ fad fs, ∀ o, s.heap.get? b = some o → ∃ sl, s'.heap.get? b = some { o with slots := sl }
theorem call_caught {c : Cx} {ρ : Rho} {σ : Sig} {s : Shared} {fs : List Env} (R : Rel c ρ σ s) (hfr : c.A.frames = some fs) (ff : FF fs s.heap) (hfw : ∀ b ∈ fad fs, b ∈ wof c σ) (hfh : ∀ b ∈ fad fs, c.h₀.get? b = none) {a : Addr} {fd : FuncData} {body : List Stmt} (F : FnAt a fd body) {vs : List Value} {ρ₀ : Rho}
    {binds : List (Str × Value)} (hbind : bindArgs fd ⟨vs, []⟩ = pure binds) (hB : BR c.w (wof c σ) s ρ₀ binds) (hnd : (ρ₀.map (·.1)).Nodup) (hkind : kindsOk fd.scope (ρ₀.map (·.1))) {k : Nat} (hk : k + 1 ≤ c.k) {Q : V → Prop}
    (hb : ∀ L, Apart (c.call fd a L (wof c σ) k) fs → (c.call fd a L (wof c σ) k).A.frames = some ((c.call fd a L (wof c σ) k).env :: fs) → WXL (c.call fd a L (wof c σ) k) fs (execs body (c.call fd a L (wof c σ) k).env) ρ₀ (fun F uu => match F with | .ret Z => Q Z | .next => Q .none | _ => False)) :
    wpAny (model PG c.w) c.A (call (.ref a) vs) (fun u s' => ∃ Z, VR c.w (wof c σ) s' Z u ∧ KCl fs s s' ∧ Q Z) (fun uu uu => False) s := by
  refine wpAny_call (codeAny_mono (enterC0 (P := fun u s' => ∃ Z, VR c.w (wof c σ) s' Z u ∧ KCl fs s s' ∧ Q Z) R F (fun A E Q h => BindsTo.of_eq (s := s) hbind _ _ _ _ (h binds s (.refl s) hB)) hnd hkind (.inl ⟨rfl, fun b => Iff.rfl⟩) hk (fun L s₁ fresh k₁ R₁ => ?_)) fun r s' h => ?_)
  · have ap : Apart (c.call fd a L (wof c σ) k) fs := fun b hb => ⟨hfw b hb, fun hm => by
      obtain ⟨env, he, hf⟩ := List.mem_filterMap.mp hb
      obtain ⟨_, L', o, hf', ho, _⟩ := ff env he
      rw [hf] at hf'
      obtain rfl := Option.some.inj hf'
      rw [fresh b hm] at ho; cases ho⟩
    refine goY (hb L ap (Around.frames_deeper hfr) s₁ R₁ (ff.stays k₁.2)) fun f s' F' ρ' hf R' ks ff' q => ?_
    have kc : KCl fs s s' := ⟨k₁.1.trans ks.1, fun b o h e => ks.2.1 b o (fun q => by rw [fresh b q] at e; cases e) h (k₁.2 _ _ e), fun b hb o e => ks.2.2 b hb o (k₁.2 _ _ e)⟩
    cases F' with
    | next => cases hf; exact ⟨.none, rfl, kc, q⟩
    | ret Z => obtain ⟨v, rfl, hv⟩ := hf; exact ⟨Z, hv.less fun b h => List.mem_append_right _ (List.mem_append_right _ h), kc, q⟩
    | brk => exact q.elim
    | cont => exact q.elim
  · rcases r with e | (v | _ | _ | _) <;> first | exact h | exact h.elim
end
section
open PySem PySem.W PySem.Calls PyProof PyProof.Rows PySem.SeqAt
noncomputable def gBody : List Stmt := sBody (topS 10)
noncomputable abbrev gEnv (L : Addr) : Env := callEnvC fdGroup L 193
noncomputable abbrev cG (c : Cx) (σ : Sig) (A : Around) (L : Addr) : Cx := { c with A := A, env := gEnv L, own := [L], out := wof c σ, k := 0 }
theorem gen_at (w : World) : ∃ o, (Kf w).lookup 193 = some o ∧ o.data = .func fdGroup := ⟨_, rfl, rfl⟩
theorem gen_code (w : World) : codeIn (Kf w) fdGroup.code fdGroup.qualname = true := rfl
theorem gen_keep (w : World) : keepIn (Kf w) (.ref 193) = true := rfl
theorem call_gen {c : Cx} {ρ : Rho} {σ : Sig} {s : Shared} {X : V} {v : Value} (R : Rel c ρ σ s) (hX : VR c.w (wof c σ) s X v) {Q : Value → Shared → Prop}
    (h : ∀ L G s', KeepE s s' → s.heap.get? L = none → s.heap.get? G = none → L ≠ G → s'.heap.IsGen G s.gens.size → s'.gens = s.gens.push (.fresh (.func gBody (gEnv L))) →
      (∀ A', A'.handled = none → A'.depth ≤ 600 → A'.units ≤ 9000 → Rel (cG c σ A' L) [("grouping", X)] [] s') → Q (.ref G) s') :
    wpAny (model PG c.w) c.A (call (.ref 193) [v]) Q (fun uu uu => False) s := by
  obtain ⟨o, hl, hd⟩ := gen_at c.w
  have ho : s.heap.get? 193 = some o := R.stat.K _ _ hl
  refine wpAny_call (codeAny_mono (R := fun r s' => match r with | .ok (.ret v) => Q v s' | _ => False) ?_ fun r s' h => by rcases r with e | (v | _ | _ | _) <;> first | exact h | exact h.elim)
  refine codeAny_call_generator (Nat.lt_of_le_of_lt (Nat.le_trans (Nat.le_add_right _ _) R.ok.depth) (by decide)) ho hd rfl rfl (body := gBody) rfl (codeRec_of R.stat.K (gen_code c.w)) ?_
  refine wpAny_of_eq (show bindArgs fdGroup ⟨[v], []⟩ = pure [(Str.ofString "grouping", v)] from rfl) ?_
  refine wpAny_with_toks (n := s.toks) (Nat.le_refl _) (wpAny_mono (E := fun uu uu => False) (wpAny_newFunctionEnv_cells (Q := fun env s₁ => @LE.le Nat _ s.toks s₁.toks → s₁.heap.NoLimit ∧ Q (.ref s₁.heap.objs.size)
      { s₁ with gens := s₁.gens.push (.fresh (.func gBody env)), toks := s₁.toks + 1 + 1, heap := s₁.heap.push { cls := .type "generator", data := .fields #[.int s₁.gens.size 0, .str fdGroup.name s₁.toks, .str fdGroup.qualname (s₁.toks + 1)] } })
      rfl (fun x hx => ?_) fun env he s₁ y htk => ?_) (fun uu uu x => x) fun uu uu x => x.elim)
  · rw [List.mem_singleton.mp hx]; exact .inl rfl
  have hk₁ := y.toInCall.keep
  refine ⟨R.stat.T.nolimit.keeps hk₁, ?_⟩
  have he' : env = gEnv s.heap.objs.size := he
  subst he'
  generalize hL : s.heap.objs.size = L at *
  obtain ⟨h₁, tk, hs₁, _⟩ := y.done
  have hLf : s.heap.get? L = none := size_fresh (by rw [hL]; exact Nat.le_refl _)
  have hLs : L < s₁.heap.objs.size := by obtain ⟨o, _, _, e, _⟩ := y.toInCall.ns; exact Heap.lt_size e
  have hg₁ : s₁.gens = s.gens := by rw [hs₁]
  have hGf : s.heap.get? s₁.heap.objs.size = none := by
    cases e : s.heap.get? s₁.heap.objs.size with
    | none => rfl
    | some o => exact absurd (Heap.lt_size (hk₁ _ _ e)) (Nat.lt_irrefl _)
  have kx : KeepE s { s₁ with gens := s₁.gens.push (.fresh (.func gBody (gEnv L))), toks := s₁.toks + 1 + 1, heap := s₁.heap.push { cls := .type "generator", data := .fields #[.int s₁.gens.size 0, .str fdGroup.name s₁.toks, .str fdGroup.qualname (s₁.toks + 1)] } } := by
    refine ⟨⟨_, _, _, by rw [hs₁], ⟨fun hb => ?_, fun i x e => by
      have hi := (Array.getElem?_eq_some_iff.mp e).1
      show (s.gens.push _)[i]? = _
      rw [Array.getElem?_push, if_neg (Nat.ne_of_lt hi)]; exact e⟩, ?_⟩, fun b o e => Heap.get?_push_of_some _ (hk₁ _ _ e)⟩
    · intro x hx
      rcases Array.mem_push.mp hx with q | q
      · exact hb x q
      · rw [q]; rfl
    · have h3 := htk
      rw [hs₁] at h3
      exact Nat.le_trans h3 (Nat.le_trans (Nat.le_succ _) (Nat.le_succ _))
  refine h L s₁.heap.objs.size _ kx hLf hGf (Nat.ne_of_lt hLs) ⟨_, _, _, Heap.get?_push_size _ rfl, rfl, by rw [hg₁], rfl⟩ (by rw [hg₁]) fun A' hh hdp hun => ?_
  have wofc : ∀ b, b ∈ wof (cG c σ A' L) [] ↔ b = L ∨ b ∈ wof c σ := fun b => by
    show b ∈ [] ++ ([L] ++ wof c σ) ↔ _
    rw [List.nil_append, List.singleton_append, List.mem_cons]
  have hv : ∀ a, a ∉ wof c σ → (∃ o, s.heap.get? a = some o) → a ∉ wof (cG c σ A' L) [] := fun b hb ⟨o, e⟩ hm =>
    ((wofc b).mp hm).elim (fun q => by rw [q, hLf] at e; cases e) hb
  have R' := R.keepE kx
  refine ⟨⟨rfl, rfl, rfl, hh, by show A'.depth + 20 * 0 ≤ 600; assumption, by show A'.units + 100 * 0 ≤ 9000; assumption, R.ok.stat, .head _, fun b hb => ?_, List.nodup_nil, fun h => (nomatch h), fun p hp => (nomatch hp)⟩, R'.base, fun b hb => ?_, ⟨_, y.toInCall.ns.push _, fun z Z e => ?_⟩, fun p hp => (nomatch hp), fun p hp => (nomatch hp), List.nodup_nil, R'.tk⟩
  · rw [List.mem_singleton.mp hb]
    cases e : c.h₀.get? L with
    | none => rfl
    | some o => have := R.base _ _ e; rw [hLf] at this; cases this
  · rcases (wofc b).mp hb with q | q
    · obtain ⟨o, _, _, e, _⟩ := y.toInCall.ns; exact ⟨o, Heap.get?_push_of_some _ (q ▸ e)⟩
    · exact R'.al b q
  · rw [lookup_head] at e
    by_cases q : z = "grouping"
    · subst q
      rw [if_pos rfl] at e; cases e
      have hl' : (gEnv L).kindOf "grouping" = some .local := rfl
      refine ⟨fun uu => ⟨v, rfl, hX.keep (kx.keepW _) hv⟩, fun q => ?_⟩
      have q' : (gEnv L).kindOf "grouping" = some .cell ∨ (gEnv L).kindOf "grouping" = some .free := q
      rw [hl'] at q'; rcases q' with q' | q' <;> cases q'
    · rw [if_neg q] at e; cases e
end
section
open PySem PySem.W PySem.Calls PyProof PyProof.Rows PySem.SeqAt
noncomputable abbrev kRun (env : Env) (K : Flow → Sem Fin) (H : Value → Sem Fin) (gd : Bool → Bool) (lv : List Value → List Value) : Result → Sem Fin :=
  fun r => ((match r with | .ok f => (.pure f : Sem Flow) | .error e => .raise e).onRaise fun (x : Value) => do
        if (← field x 1) == Value.none then unsupported "frame.own-activation:exception-without-traceback"
        setFlight x env.frame).wrap K H gd lv
section
variable {M : Model} {A : Around} {R : GenEnd} {Y : Protocol} {n : Nat} {s₀ : Shared} {c : Code} {fs : List Frame} {s : Shared} {env : Env}
  {K : Flow → Sem Fin} {H : Value → Sem Fin} {gd : Bool → Bool} {lv : List Value → List Value}
theorem seg_For {target iter : Expr} {body orelse : List Stmt} {pos : Pos}
    (h : wpAny M (A.over c fs) (eval iter env) (fun x s₁ => wpAny M (A.over c fs) (pyIter x) (fun it s₂ =>
        ∀ p, Seg M A R Y n s₀ (.forLoop target it body orelse env) (M.den (.forLoop target it body orelse env)) (.ret (kRun env K H gd lv) none (gd false) (lv []) c p [] :: fs) s₂)
      (fun x s' => Seg M A R Y n s₀ c (H x) fs s') s₁) (fun x s' => Seg M A R Y n s₀ c (H x) fs s') s)
    (hs : ∀ x, foldedSetIterable iter env x = pure x := by intro _; with_unfolding_all rfl) :
    Seg M A R Y n s₀ c ((exec (.For target iter body orelse pos) env).wrap K H gd lv) fs s := by
  rw [exec_For]
  refine seg_bind_wrap (wpAny_standAt ?_)
  refine seg_bind_wrap (wpAny_mono h (fun x s₁ h₁ => ?_) fun uu uu x => x)
  refine seg_bind_wrap (wpAny_of_eq (hs x) ?_)
  refine seg_bind_wrap (wpAny_standAt ?_)
  refine seg_bind_wrap (wpAny_holding (wpAny_mono h₁ (fun it s₂ h₂ => ?_) fun uu uu x => x))
  exact seg_call h₂
theorem seg_If {test : Expr} {body orelse : List Stmt} {pos : Pos}
    (h : wpAny M (A.over c fs) (isTrue test env (eval test env)) (fun b s' => if b = true then Seg M A R Y n s₀ c ((execs body env).wrap K H gd lv) fs s' else Seg M A R Y n s₀ c ((execs orelse env).wrap K H gd lv) fs s')
      (fun x s' => Seg M A R Y n s₀ c (H x) fs s') s) :
    Seg M A R Y n s₀ c ((exec (.If test body orelse pos) env).wrap K H gd lv) fs s := by
  rw [exec_If]
  refine seg_bind_wrap (wpAny_standAt ?_)
  refine seg_bind_wrap (wpAny_mono h (fun b s₁ h₁ => ?_) fun uu uu x => x)
  cases b with
  | true => rw [if_pos rfl] at h₁; exact h₁
  | false => rw [if_neg Bool.false_ne_true] at h₁; exact h₁
theorem seg_plain {st : Stmt} (h : wpAny M (A.over c fs) (exec st env) (fun f s' => Seg M A R Y n s₀ c (K f) fs s') (fun x s' => Seg M A R Y n s₀ c (H x) fs s') s) :
    Seg M A R Y n s₀ c ((exec st env).wrap K H gd lv) fs s := seg_wrap h
end
section
variable {prog : Program} {w : World} {A : Around} {R : GenEnd} {Y : Protocol} {n : Nat} {s₀ : Shared} {fs : List Frame} {s : Shared} {env : Env}
noncomputable abbrev hLoop (env : Env) : Value → Sem Fin := fun e => (do noteFrame e env; theTreesLotGoes e : Sem Unit).wrap (fun uu => .raise e) .raise id id
theorem seg_forLoop {target : Expr} {it : Value} {body orelse : List Stmt}
    (h : wpAny (model prog w) (A.over (.forLoop target it body orelse env) fs) (pyNext it) (fun r s₁ => match r with
      | none => False
      | some v => wpAny (model prog w) (A.over (.forLoop target it body orelse env) fs) (letOwnedTupleGo target it v) (fun uu s₂ =>
          wpAny (model prog w) (A.over (.forLoop target it body orelse env) fs) (assign target env v) (fun uu s₃ =>
            Seg (model prog w) A R Y n s₀ (.forLoop target it body orelse env) ((execs body env).wrap (fun f => match f with
              | .next | .cont => .pure (.again (.forLoop target it body orelse env))
              | .brk => .pure (.done .next)
              | .ret v => .pure (.done (.ret v))) (hLoop env) id id) fs s₃) (fun uu uu => False) s₂) (fun uu uu => False) s₁) (fun uu uu => False) s) :
    Seg (model prog w) A R Y n s₀ (.forLoop target it body orelse env) ((model prog w).den (.forLoop target it body orelse env)) fs s := by
  show Seg _ A R Y n s₀ _ ((forTurn target it body orelse env).onRaise (fun x => do noteFrame x env; theTreesLotGoes x)) fs s
  unfold forTurn
  rw [Sem.onRaise_eq_wrap]
  refine seg_bind_wrap (wpAny_standAt ?_)
  refine seg_bind_wrap (wpAny_onRaise (wpAny_mono h (fun r s₁ h₁ => ?_) fun uu uu x => x.elim))
  cases r with
  | none => exact h₁.elim
  | some v =>
    refine seg_bind_wrap (wpAny_mono h₁ (fun uu s₂ h₂ => ?_) fun uu uu x => x.elim)
    refine seg_bind_wrap (wpAny_mono h₂ (fun uu s₃ h₃ => ?_) fun uu uu x => x.elim)
    rw [Sem.bind_eq_wrap', Sem.wrap_wrap]
    rw [Sem.wrap_congr (execs body env) _ _ (K' := fun f => match f with
              | .next | .cont => .pure (.again (.forLoop target it body orelse env))
              | .brk => .pure (.done .next)
              | .ret v => .pure (.done (.ret v))) (H' := hLoop env) (fun f => by cases f <;> rfl)
        (fun e => by first | exact Sem.bind_eq_wrap _ _ | (show (do noteFrame e env; theTreesLotGoes e : Sem Unit).bind (fun uu => .raise e) = _; rw [Sem.bind_eq_wrap]))]
    exact h₃
end
end
section
open PySem PySem.W PySem.Calls PyProof PyProof.Rows PySem.SeqAt
section
variable {M : Model} {A : Around} {E : Value → Shared → Prop} {s : Shared}
theorem notes_madeW {base h : Heap} {env : Env} {outer : List Env} {L e : Addr} {cls : Value} {args : List Value} {Q : Unit → Shared → Prop}
    (hfr : A.frames = some (env :: outer)) (hf : env.frame = some L) (hkb : base.StaysIn h) (hl : h.FunFrames base (env :: outer)) (hx : Heap.MadeExcOf h s.heap e cls args)
    (hQ : ∀ h' t, Heap.HeldW base (env :: outer) e cls (.ref t) L h' → s.heap.UpToSlots h' → Q () { s with heap := h' }) : wpAny M A (noteFrame (.ref e) env) Q E s := by
  obtain ⟨t, he, htn, ht⟩ := hx.there
  have fresh : ∀ b, h.get? b = none → base.get? b = none := fun b hb => by
    cases hq : base.get? b with
    | none => rfl
    | some o' => have := hkb b o' hq; rw [hb] at this; cases this
  unfold noteFrame
  simp only [hf]
  refine wpAny_bind (wpAny_field he rfl (x := .none) rfl ?_)
  rw [if_neg (by decide)]
  refine wpAny_entryW (a0 := .ref t) hfr (hl.of_keeps fun b o hb uu => ⟨o, hx.keeps b o hb, rfl⟩) hf he (fun b o hb => hx.keeps b o (hkb b o hb)) (fresh e hx.new) rfl (by simp) rfl fun h' hN => ?_
  obtain ⟨k1, k2, k3, k4⟩ := hN
  exact hQ h' t ⟨k1, fresh e hx.new, k2, k3⟩ k4
theorem flight_heldW {base : Heap} {l : List Env} {e L : Addr} {cls a0 : Value} {Q : Unit → Shared → Prop} {fr : Option Addr} (hfr : fr = some L) (hh : Heap.HeldW base l e cls a0 L s.heap)
    (hQ : ∀ h', Heap.HeldW base l e cls a0 L h' → s.heap.UpToSlots h' → Q () { s with heap := h' }) : wpAny M A (do
      if (← field (.ref e) 1) == .none then unsupported "frame.own-activation:exception-without-traceback"
      setFlight (.ref e) fr) Q E s := by
  subst hfr
  obtain ⟨hkb, hen, hl, oe, vs, T, oT, ts, he, hcls, hd, h1, hnT, hTe, hT, hdT, h3⟩ := hh
  have hsz3 : 3 < ts.size := (Array.getElem?_eq_some_iff.mp h3).1
  have other : ∀ b, b ≠ T → (s.heap.update T (Obj.mapFields (·.setIfInBounds 3 ((some L : Option Addr).elim Value.none fun f => rawInt f)))).get? b = s.heap.get? b :=
    fun b hb => Heap.get?_update_other _ _ (Ne.symm hb)
  have noRecord : ∀ b o, s.heap.get? b = some o → (∀ vs, o.data ≠ .fields vs) → b ≠ T := fun b o hb hnf q => by
    rw [q, hT] at hb; injection hb with hb; subst hb; exact hnf ts hdT
  refine wpAny_bind (wpAny_field he hd h1 ?_)
  rw [if_neg (show ¬ ((Value.ref T == Value.none) = true) from by simp)]
  unfold setFlight
  refine wpAny_bind (wpAny_field he hd h1 ?_)
  rw [if_pos (show (Value.ref T != Value.none) = true from by simp)]
  refine wpAny_setField hT hdT hsz3 (hQ _ ⟨fun b o hbo => (other b fun q => by rw [q, hnT] at hbo; cases hbo).trans (hkb b o hbo), hen,
    hl.of_keeps fun b o hb hnf => ⟨o, (other b (noRecord b o hb hnf)).trans hb, rfl⟩, ?_⟩ fun b o hb hnf => ⟨o.slots, (other b (noRecord b o hb hnf)).trans hb⟩)
  exact ⟨oe, vs, T, _, _, (other e (Ne.symm hTe)).trans he, hcls, hd, h1, hnT, hTe, Heap.get?_update_self _ hT (Obj.isFreed_of_fields (Obj.data_mapFields hdT _)), Obj.data_mapFields hdT _, by simp [hsz3]⟩
theorem kRun_error {env : Env} {K : Flow → Sem Fin} {H : Value → Sem Fin} {gd : Bool → Bool} {lv : List Value → List Value} (x : Value) :
    kRun env K H gd lv (.error x) = (do
      if (← field x 1) == .none then unsupported "frame.own-activation:exception-without-traceback"
      setFlight x env.frame : Sem Unit).wrap (fun uu => H x) H gd lv := by
  show (Sem.bind (do
      if (← field x 1) == .none then unsupported "frame.own-activation:exception-without-traceback"
      setFlight x env.frame : Sem Unit) (fun uu => Sem.raise x)).wrap K H gd lv = _
  rw [Sem.bind_eq_wrap, Sem.wrap_wrap]
  rfl
end
section
variable {prog : Program} {w : World} {A : Around} {R : GenEnd} {Y : Protocol} {n : Nat} {s₀ : Shared}
noncomputable abbrev fK : Flow → Sem Fin := fun f => .pure (.done (.ret (match f with | .ret v => v | _ => .none)))
noncomputable abbrev fH (env : Env) : Value → Sem Fin := fun e => (leaving env e).wrap (fun uu => .raise e) .raise id id
noncomputable abbrev fF (body : List Stmt) (env : Env) (K : Flow → Sem Fin) (p : Pos) : Frame := .ret (kRun env K (fH env) id id) none (id false) (id []) (.func body env) p []
theorem seg_gone {body : List Stmt} {env : Env} {outer : List Env} {L : Addr} {K : Flow → Sem Fin} {p : Pos} {target : Expr} {it : Value} {fbody orelse : List Stmt} {s s₁ s' : Shared} {e : Value} (hfr : A.frames = some outer) (hf : env.frame = some L)
    (ff : FF (env :: outer) s₁.heap) (hm : Made s₁ s' e) (hb : ∀ b o, s.heap.get? b = some o → s₁.heap.get? b = some o ∧ b ≠ L) (st : Stp s s₁)
    (h : ∀ s'', Fly outer s s'' e → R n s₀ (.error e) s'') :
    Seg (model prog w) A R Y n s₀ (.forLoop target it fbody orelse env) (hLoop env e) [fF body env K p] s' := by
  obtain ⟨st', ea, args, rfl, hx⟩ := hm
  have base : (hideAll s.heap (fad outer)).StaysIn (hideAll s₁.heap (fad (env :: outer))) := hide_stays fun b o e nb => by
    obtain ⟨a, c⟩ := hb b o e
    refine ⟨a, fun hm => ?_⟩
    unfold fad at hm
    rw [List.filterMap_cons, hf] at hm
    rcases List.mem_cons.mp hm with q | q
    · exact c q
    · exact nb q
  have hfr1 : (A.over (.forLoop target it fbody orelse env) [fF body env K p]).frames = some (env :: outer) := by
    show pushEnvs [env] A.frames = _
    rw [hfr]; rfl
  have hfr2 : (A.over (.func body env) []).frames = some (env :: outer) := by
    show pushEnvs [env] A.frames = _
    rw [hfr]; rfl
  refine seg_bind_wrap (notes_madeW hfr1 hf (fun b o e => of_hideAll _ e) (ff.fun fun b hb => hb) hx fun h₁ t hh₁ u₁ => ?_)
  refine seg_wrap (wpAny_theTreesLotGoes ?_)
  refine seg_leaf (.error (.ref ea)) ?_
  rw [kRun_error]
  refine seg_wrap (flight_heldW hf hh₁ fun h₂ hh₂ u₂ => ?_)
  refine seg_wrap ?_
  unfold leaving
  refine wpAny_bind (wpAny_noteFrame_againW hf hh₂.2.2.2 ?_)
  refine wpAny_landsW (s := { s' with heap := h₂ }) hh₂ fun h₃ hfl₃ u₃ => ?_
  obtain ⟨k1, k2, ⟨_, _, k3⟩, k4⟩ := hfl₃
  refine seg_end (.error (.ref ea)) (h _ ⟨(st.trans st').trans (.mk' _ _ (Nat.le_refl _)), ea, _, rfl, flyingW_base base ⟨k1, k2, k3, k4⟩, ?_⟩)
  exact ((((Heap.UpToSlots.of_keeps fun b o e => (hb b o e).1).trans (Heap.UpToSlots.of_keeps hx.keeps)).trans u₁).trans u₂).trans u₃
end
end
section
open PySem PySem.W PySem.Calls PyProof PyProof.Rows PySem.SeqAt
inductive GS where
  | loop (i : Nat) (last : Option Int)
  | rep (v : Int)
inductive GR where
  | yld (x : Int)
  | stop
  | err
noncomputable def stepG (is : List Int) : GS → GR × GS
  | .rep v => (.yld v, .rep v)
  | .loop i last => if is.getD i 0 = 127 then (.stop, .rep 0) else if is.getD i 0 = 0 then (match last with | none => (.err, .rep 0) | some y => (.yld y, .rep y)) else (.yld (is.getD i 0), .loop (i + 1) (some (is.getD i 0)))
noncomputable def gsAt (is : List Int) : Nat → GS
  | 0 => .loop 0 none
  | j + 1 => (stepG is (gsAt is j)).2
noncomputable def grAt (is : List Int) (j : Nat) : GR := (stepG is (gsAt is j)).1
noncomputable def RelG (c : Cx) (ρ : Rho) (s : Shared) : Prop := ∀ A', A'.handled = none → A'.depth ≤ 600 → A'.units ≤ 9000 → Rel { c with A := A' } ρ [] s
theorem RelG.less {c : Cx} {ρ ρ' : Rho} {s : Shared} (R : RelG c ρ s) (k : sub ρ' ρ) : RelG c ρ' s := fun A' a b d => (R A' a b d).less k
theorem Rel.toG {c : Cx} {ρ : Rho} {s : Shared} {A' : Around} (hk : c.k = 0) (R : Rel { c with A := A' } ρ [] s) : RelG c ρ s := fun A' a b d =>
  ⟨⟨R.ok.kind, R.ok.glob, R.ok.blt, a, by show A'.depth + 20 * c.k ≤ 600; rw [hk]; assumption, by show A'.units + 100 * c.k ≤ 9000; rw [hk]; assumption, R.ok.stat, R.ok.lown, R.ok.ownh, R.ok.cdist, R.ok.cloc, R.ok.cin⟩, R.base, R.al, R.loc, R.cel, fun p hp => (nomatch hp), R.nd, R.tk⟩
noncomputable def AwayG (c : Cx) (s s' : Shared) : Prop := StaysIn c.h₀ s'.heap ∧ (∀ a ∈ c.out, ∃ o, s'.heap.get? a = some o) ∧ @LE.le Nat _ s.toks s'.toks ∧ ∀ b o, b ∉ c.out → s.heap.get? b = some o → s'.heap.get? b = some o
theorem AwayG.rel {c : Cx} {ρ : Rho} {s s' : Shared} (k : AwayG c s s') (hno : ∀ b ∈ c.own, b ∉ c.out) (hcl : c.env.cells = []) (R : RelG c ρ s) : RelG c ρ s' := fun A' a b d => by
  have R := R A' a b d
  obtain ⟨k1, k2, k3, k4⟩ := k
  have kw : KeepW (wof c []) s s' := ⟨fun b o hb e => k4 b o (fun q => hb (List.mem_append_right _ (List.mem_append_right _ q))) e, k3⟩
  refine ⟨R.ok, k1, fun b hb => ?_, ?_, fun p hp => ?_, fun p hp => (nomatch hp), R.nd, fun e => R.tk (Nat.le_zero.mp (e ▸ k3))⟩
  · rcases List.mem_append.mp hb with q | q
    · cases q
    · rcases List.mem_append.mp q with q | q
      · obtain ⟨o, e⟩ := R.al b hb
        exact ⟨o, k4 b o (hno b q) e⟩
      · exact k2 b q
  · obtain ⟨m, hN, hl⟩ := R.loc
    refine ⟨m, Ns_at hN fun o e => k4 _ o (hno _ R.ok.lown) e, fun x X e => ⟨fun q => let ⟨v, a, b⟩ := (hl x X e).1 q; ⟨v, a, b.keeps kw⟩, fun q => ?_⟩⟩
    obtain ⟨a, _, d, _⟩ := (hl x X e).2 q
    have : c.env.cells.lookup x = some a := d
    rw [hcl] at this; cases this
  · have : p ∈ c.env.cells := hp
    rw [hcl] at this; cases this
noncomputable def GK (L N : Addr) (s s' : Shared) : Prop := Stp s s' ∧ ∀ b o, b < N → b ≠ L → s.heap.get? b = some o → s'.heap.get? b = some o
theorem GK.trans {L N : Addr} {a b d : Shared} (x : GK L N a b) (y : GK L N b d) : GK L N a d := ⟨x.1.trans y.1, fun b o h1 h2 e => y.2 b o h1 h2 (x.2 b o h1 h2 e)⟩
theorem GK.refl (L N : Addr) (s : Shared) : GK L N s s := ⟨.refl s, fun uu uu uu uu e => e⟩
theorem KeepE.gk {L N : Addr} {s s' : Shared} (k : KeepE s s') : GK L N s s' := ⟨k.1, fun b o uu uu e => k.2 b o e⟩
theorem KS.gk {c : Cx} {L N : Addr} {s s' : Shared} (k : KS c [] [] s s') (ho : c.own = [L]) : GK L N s s' := ⟨k.1, fun b o uu h e => k.2.1 b o (by simp [vol, ho, h]) e⟩
noncomputable def hideL (L : Addr) (s : Shared) : Shared := { s with heap := hideAll s.heap [L] }
noncomputable def RG (is : List Int) (L N : Addr) (outer : List Env) : GenEnd := fun n s₀ r s₁ =>
  (grAt is (3 - n) = .stop ∧ r = .ok (.ret .none) ∧ GK L N s₀ s₁) ∨ (grAt is (3 - n) = .err ∧ ∃ e, r = .error e ∧ Fly outer (hideL L s₀) s₁ e)
noncomputable def YG (is : List Int) (c : Cx) (L N : Addr) : Protocol := fun m s₀ v s kap =>
  (∃ x t, grAt is (2 - m) = .yld x ∧ v = .int x t) ∧ GK L N s₀ s ∧ (0 < m → ∀ s'', AwayG c s s'' → kap (.send .none) s'')
noncomputable abbrev gFor : List Stmt := match gBody with | [_, .For _ _ b _ _] => b | _ => []
noncomputable abbrev gTgt : Expr := match gBody with | [_, .For t _ _ _ _] => t | _ => default
noncomputable abbrev lCode (L I : Addr) : Code := .forLoop gTgt (.ref I) gFor [] (gEnv L)
noncomputable abbrev gK (L : Addr) : Flow → Sem Fin := fun f => match f with | .next => (execs [] (gEnv L)).wrap fK (fH (gEnv L)) id id | f => fK f
noncomputable abbrev lF (L : Addr) (p : Pos) : Frame := fF gBody (gEnv L) (gK L) p
noncomputable abbrev cgen (c : Cx) (σ : Sig) (L : Addr) (o : List Addr) : Cx := (cG c σ c.A L).up o
structure GIn (is : List Int) (c : Cx) (L N I l : Addr) (its : List Value) (outer : List Env) (A : Around) (sB : Shared) : Prop where
  hand : A.handled = none
  depth : A.depth ≤ 580
  units : A.units ≤ 8900
  frs : A.frames = some outer
  Lo : L ∉ c.out
  NI : N ≤ I
  IL : I ≠ L
  Io : I ∉ c.out
  Ih : c.h₀.get? I = none
  lo : l ∉ c.out
  lL : l ≠ L
  lI : l ≠ I
  nums : IntsAre its is
  len : is.length = 3
  LB : sB.heap.get? L = none
  IB : sB.heap.get? I = none
  ff : FF outer sB.heap
noncomputable def lastV : Option Int → V
  | none => .none
  | some y => .int y
structure GSt (c : Cx) (I l : Addr) (its : List Value) (i : Nat) (last : V) (is : List Int) (s : Shared) : Prop where
  rel : RelG (c.up [I]) [("last_interval", last), ("grouping", .list (is.map .int))] s
  it : s.heap.IsListIter I l i
  ls : s.heap.IsList l its.toArray
theorem ints_at : ∀ {vs : List Value} {is : List Int} {i : Nat}, IntsAre vs is → i < is.length → ∃ t, vs[i]? = some (.int (is.getD i 0) t)
  | _, _, i, .nil, h => by cases h
  | _, _, 0, .cons x t r, h => ⟨t, rfl⟩
  | _, _, i + 1, .cons x t r, h => by
    obtain ⟨u, e⟩ := ints_at r (Nat.lt_of_succ_lt_succ h)
    exact ⟨u, by simpa using e⟩
theorem AwayG.up {c : Cx} {I : Addr} {s s' : Shared} (k : AwayG c s s') (hI : I ∉ c.out) (hI' : ∃ o, s.heap.get? I = some o) : AwayG (c.up [I]) s s' := by
  obtain ⟨k1, k2, k3, k4⟩ := k
  refine ⟨k1, fun b hb => ?_, k3, fun b o hb e => k4 b o (fun q => hb (List.mem_append_right _ q)) e⟩
  rcases List.mem_append.mp hb with q | q
  · rw [List.mem_singleton.mp q]; obtain ⟨o, e⟩ := hI'; exact ⟨o, k4 _ o hI e⟩
  · exact k2 b q
theorem WI_true {c : Cx} {k : Nat} {p : Pos} {ρ : Rho} {σ : Sig} : WI c (.Constant (.bool true) k p) ρ σ (fun z => z = true) := by
  refine WI_val (e := .Constant (.bool true) k p) ?_
  exact WE_bool (OB_bool rfl)
noncomputable abbrev wCode (L : Addr) (kt : Nat) (tp np yp ep : Pos) : Code := .whileLoop (.Constant (.bool true) kt tp) [.Expr (.Yield (some (.Name "last_interval" np)) yp) ep] [] (gEnv L)
noncomputable abbrev cx (c : Cx) (σ : Sig) (L : Addr) (o : List Addr) (I : Addr) (A : Around) : Cx := { (cgen c σ L o).up [I] with A := A }
section
variable {is : List Int} {c : Cx} {σ : Sig} {L N I l : Addr} {o : List Addr} {its : List Value} {outer : List Env} {A : Around} {sB : Shared}
theorem GIn.own (P : GIn is (cgen c σ L o) L N I l its outer A sB) : ∀ b ∈ ((cgen c σ L o).up [I]).own, b ∉ ((cgen c σ L o).up [I]).out := fun b hb hm => by
  have hb' : b = L := List.mem_singleton.mp hb
  rcases List.mem_append.mp hm with q | q
  · exact P.IL ((List.mem_singleton.mp q).symm.trans hb')
  · exact P.Lo (hb' ▸ q)
theorem GIn.back (P : GIn is (cgen c σ L o) L N I l its outer A sB) {ρ : Rho} {s s'' : Shared} (R : RelG ((cgen c σ L o).up [I]) ρ s) (aw : AwayG (cgen c σ L o) s s'') : RelG ((cgen c σ L o).up [I]) ρ s'' := by
  have R0 := R A P.hand (Nat.le_trans P.depth (by decide)) (Nat.le_trans P.units (by decide))
  exact (aw.up P.Io (R0.al I (List.mem_append_right _ (List.mem_append_right _ (.head _))))).rel P.own rfl R
theorem gsAt_succ (is : List Int) (j : Nat) {g : GS} (h : (stepG is (gsAt is j)).2 = g) : gsAt is (j + 1) = g := h
theorem yields {x : Str} {i : Int} {np : Pos} {O : Around} {ρ : Rho} {s₀ s : Shared} {m : Nat} (R : Rel (cx c σ L o I O) ρ [] s) (hx : ρ.lookup x = some (.int i)) (hk : (gEnv L).kindOf x = some .local) (hg : grAt is (2 - m) = .yld i) (gk : GK L N s₀ s)
    {X : Shared → Prop} (hd : (x == ("__debug__" : Str)) = false) (hn : (x == ("__classdict__" : Str)) = false) {E : Value → Shared → Prop} (next : 0 < m → ∀ s₁, KeepE s s₁ → ∀ s'', AwayG (cgen c σ L o) s₁ s'' → X s'') :
    wpAny (model PG c.w) O (eval (.Name x np) (gEnv L)) (fun v s' => ∀ kap : Resume → Shared → Prop, (∀ y s'', (match y with | .ref _ => False | _ => X s'') → kap (.send y) s'') → YG is (cgen c σ L o) L N m s₀ v s' kap) E s := by
  refine wpAny_mono ((WE_name (c := cx c σ L o I O) (Q := fun X => X = .int i) hx rfl (.inl hk) hd hn) s R) (fun u s₂ ⟨X', hX, k₂, e⟩ kap hk => ?_) fun uu uu x => x.elim
  subst e
  obtain ⟨t, rfl⟩ := hX
  exact ⟨⟨i, t, hg, rfl⟩, gk.trans k₂.gk, fun hm s'' aw => hk .none s'' (next hm s₂ k₂ s'' aw)⟩
theorem gen_while (P : GIn is (cgen c σ L o) L N I l its outer A sB) {v : Int} {kt : Nat} {tp np yp ep : Pos} {fs : List Frame} (hfs : splitAtGen fs = none) (hfg : fs.any Frame.guarded = false)
    (hO1 : (A.over (wCode L kt tp np yp ep) fs).handled = none) (hO2 : (A.over (wCode L kt tp np yp ep) fs).depth ≤ 600) (hO3 : (A.over (wCode L kt tp np yp ep) fs).units ≤ 9000) :
    ∀ m s₀ s, m ≤ 2 → stepG is (gsAt is (2 - m)) = (.yld v, .rep v) → RelG ((cgen c σ L o).up [I]) [("last_interval", .int v)] s → GK L N s₀ s →
      Seg (model PG c.w) A (RG is L N outer) (YG is (cgen c σ L o) L N) (m + 1) s₀ (wCode L kt tp np yp ep) ((model PG c.w).den (wCode L kt tp np yp ep)) fs s := by
  intro m
  induction m with
  | zero =>
    intro s₀ s hm hg R gk
    have R0 : Rel (cx c σ L o I (A.over (wCode L kt tp np yp ep) fs)) _ [] s := R _ hO1 hO2 hO3
    refine seg_whileLoop ?_
    refine goB (WI_true s R0) fun z s₁ k₁ hz => ?_
    rw [if_pos hz]
    refine seg_execs_cons (seg_Expr_Yield hfs rfl hfg ?_)
    refine yields (R0.keepE k₁) rfl rfl ?_ (gk.trans k₁.gk) (by decide) (by decide) (fun h => absurd h (Nat.lt_irrefl _))
    show (stepG is (gsAt is (2 - 0))).1 = _
    rw [hg]
  | succ m ih =>
    intro s₀ s hm hg R gk
    have R0 : Rel (cx c σ L o I (A.over (wCode L kt tp np yp ep) fs)) _ [] s := R _ hO1 hO2 hO3
    refine seg_whileLoop ?_
    refine goB (WI_true s R0) fun z s₁ k₁ hz => ?_
    rw [if_pos hz]
    refine seg_execs_cons (seg_Expr_Yield hfs rfl hfg ?_)
    refine yields (R0.keepE k₁) rfl rfl ?_ (gk.trans k₁.gk) (by decide) (by decide) (fun uu s₂ k₂ s'' aw => ?_)
    · show (stepG is (gsAt is (2 - (m + 1)))).1 = _
      rw [hg]
    · refine seg_again rfl (ih s'' s'' (by exact Nat.le_of_succ_le hm) ?_ (P.back (Rel.toG rfl ((R0.keepE k₁).keepE k₂)) aw) (.refl _ _ _))
      have e : 2 - m = (2 - (m + 1)) + 1 := by (clear aw k₂ hz k₁ R0 gk R hg ih hO3 hO2 hO1 hfg hfs P; lia)
      rw [e]
      rw [gsAt_succ is _ (congrArg Prod.snd hg)]; rfl
end
end
section
open PySem PySem.W PySem.Calls PyProof PyProof.Rows PySem.SeqAt
theorem O2_is_none {c : Cx} {ρ : Rho} {σ : Sig} {Q : V → Prop} {last : Option Int} (h : Q (.bool (last == none))) : O2 c (compareOp .Is) (lastV last) .none ρ σ Q := by
  rintro s v _ R hv rfl
  refine is_none ?_
  cases last with
  | none => cases hv; exact ⟨.bool _, rfl, .refl _, h⟩
  | some y => obtain ⟨t, rfl⟩ := hv; exact ⟨.bool _, rfl, .refl _, h⟩
theorem raise_made {c : Cx} {x : Str} {kx : Nat} {np cp xp pos : Pos} {ρ : Rho} {σ : Sig} (hk : c.env.kindOf "ValueError" = some .globalImplicit) {s : Shared} (R : Rel c ρ σ s)
    (hplain : (backTo cp (starEach [.Constant (.str x) kx xp] c.env)).any (·.1) = false := by walk_at "r")
    (hst : backTo cp (starEach [.Constant (.str x) kx xp] c.env) = [(false, eval (.Constant (.str x) kx xp) c.env)] := by walk_at "r") :
    wpAny (model PG c.w) c.A (exec (.Raise (some (.Call (.Name "ValueError" np) [.Constant (.str x) kx xp] [] cp)) none pos) c.env) (fun uu uu => False) (fun e s' => ∃ s₁, KeepE s s₁ ∧ Made s₁ s' e) s := by
  refine wpAny_Raise_call F.excCall_ValueError F.excRaise_ValueError R.ok.hand hplain (goV ((WE_blt (x := "ValueError") (v := .type "ValueError") (Q := fun X => X = .stat (.type "ValueError")) hk (fun w => rfl) Boot.«ValueError» rfl) s R) fun f s₁ X hX k₁ e => ?_)
  subst e
  have hX' : f = .type "ValueError" := hX
  subst hX'
  refine ⟨rfl, ?_⟩
  rw [hst]
  refine Calls.evalArgs_plain (Calls.spliced_cons (wpAny_Constant_str (Calls.spliced_nil ⟨rfl, by show 1 ≤ sizeLine; decide, fun h' e hm => ?_⟩)))
  have k₂ : KeepE s { s₁ with toks := s₁.toks + 1 } := k₁.trans (.mk' (.refl _) (Nat.le_succ _))
  exact ⟨{ s₁ with toks := s₁.toks + 1 }, k₂, .mk' _ _ (Nat.le_refl _), e, _, rfl, hm.of⟩
section
variable {is : List Int} {c : Cx} {σ : Sig} {L N I l : Addr} {o : List Addr} {its : List Value} {outer : List Env} {A : Around} {sB : Shared}
theorem gen_turn (P : GIn is (cgen c σ L o) L N I l its outer A sB) :
    ∀ m i last s₀ s, m ≤ 2 → i = 2 - m → gsAt is (2 - m) = .loop i last → GSt (cgen c σ L o) I l its i (lastV last) is s → GK L N s₀ s →
      (last = none → KeepE sB s ∧ sB = hideL L s₀) → ∀ p, Seg (model PG c.w) A (RG is L N outer) (YG is (cgen c σ L o) L N) (m + 1) s₀ (lCode L I) ((model PG c.w).den (lCode L I)) [lF L p] s := by
  intro m
  induction m using Nat.strongRecOn with
  | _ m ih =>
  intro i last s₀ s hm hi' hg S gk hB p
  have hi : i < 3 := by exact Nat.not_le.mp fun hn => absurd (Nat.add_le_add (Nat.le_of_eq hi') (Nat.add_le_add hn (Nat.le_of_eq (Nat.sub_add_cancel (show m ≤ 2 from Nat.not_lt.mp fun hn => absurd (Nat.add_le_add hm hn) (by simp +arith)))))) (by simp +arith)
  have hO1 : (A.over (lCode L I) [lF L p]).handled = none := P.hand
  have hO2 : (A.over (lCode L I) [lF L p]).depth ≤ 600 := by
    show A.depth + frameCount [(Code.func gBody (gEnv L), p)] + (lCode L I).weight ≤ 600
    have := P.depth
    have e1 : frameCount [(Code.func gBody (gEnv L), p)] = 1 := rfl
    have e2 : (lCode L I).weight = 0 := rfl
    exact Nat.lt_of_le_of_lt this (by decide)
  have hO3 : (A.over (lCode L I) [lF L p]).units ≤ 9000 := by
    show A.units + unitsOf [(Code.func gBody (gEnv L), p)] + (lCode L I).cUnits ≤ 9000
    have := P.units
    have e1 : unitsOf [(Code.func gBody (gEnv L), p)] = 3 := rfl
    have e2 : (lCode L I).cUnits = 0 := rfl
    exact Nat.not_lt.mp fun hn => absurd (Nat.add_le_add this (Nat.add_le_add (Nat.le_of_eq e1) (Nat.add_le_add (Nat.le_of_eq e2) hn))) (by simp +arith)
  have R0 : Rel (cx c σ L o I (A.over (lCode L I) [lF L p])) _ [] s := S.rel _ hO1 hO2 hO3
  obtain ⟨t, hx⟩ := ints_at P.nums (by rw [P.len]; exact hi)
  have e3 : 3 - (m + 1) = 2 - m := by simp +arith
  refine seg_forLoop ?_
  refine wpAny_pyNext_list_item S.it S.ls (by simpa using hx) fun h' hit hs => ?_
  refine wpAny_of_eq (show letOwnedTupleGo gTgt (.ref I) _ = pure () from rfl) ?_
  have R1 : Rel (cx c σ L o I (A.over (lCode L I) [lF L p])) _ [] { s with heap := h' } := Rel.moved (c := { cgen c σ L o with A := (A.over (lCode L I) [lF L p]) }) (o := [I]) R0 (fun b hb => by
      rw [List.mem_singleton.mp hb]
      exact ⟨fun q => P.IL (List.mem_singleton.mp q), P.Ih, fun q => nomatch q⟩) (fun b ob hb e => (hs.2 b fun q => hb (q ▸ List.mem_singleton.mpr rfl)).trans e) (fun b hb => by
      rw [List.mem_singleton.mp hb]; obtain ⟨o, e, _⟩ := hit; exact ⟨o, e⟩) (Nat.le_refl _)
  refine wpAny_assign_Name (storeName_rel R1 (X := .int (is.getD i 0)) ⟨t, rfl⟩ (.inl rfl) fun s₁ R₁ k₁ => ?_)
  have vk : ∀ b ob, b ≠ L → h'.get? b = some ob → s₁.heap.get? b = some ob := fun b ob hb e => k₁.2.1 b ob (fun q => hb (List.mem_singleton.mp q)) e
  have gk₁ : GK L N s₀ s₁ := gk.trans ⟨k₁.1.trans (.refl _) |> fun z => (Stp.mk' (s := s) h' s.toks (Nat.le_refl _)).trans z, fun b ob hb hL e => vk b ob hL ((hs.2 b fun q => by rw [q] at hb; exact absurd P.NI (Nat.not_le.mpr hb)).trans e)⟩
  have it₁ : s₁.heap.IsListIter I l (i + 1) := hit.at fun ob e => vk I ob P.IL e
  have ls₁ : s₁.heap.IsList l its.toArray := S.ls.at fun ob e => vk l ob P.lL ((hs.2 l P.lI).trans e)
  have hB₁ : last = none → KeepE sB s₁ := fun h => by
    obtain ⟨k1, k2⟩ := (hB h).1
    refine ⟨k1.trans ((Stp.mk' (s := s) h' s.toks (Nat.le_refl _)).trans k₁.1), fun b ob e => vk b ob (fun q => by rw [q, P.LB] at e; cases e) ((hs.2 b fun q => by rw [q, P.IB] at e; cases e).trans (k2 b ob e))⟩
  clear k₁ vk hit hs R1 R0
  refine seg_execs_cons (seg_If ?_)
  refine goB ((show WI (cx c σ L o I (A.over (lCode L I) [lF L p])) _ [("interval", .int (is.getD i 0)), ("last_interval", lastV last), ("grouping", .list (is.map .int))] [] (fun z => z = (is.getD i 0 == 127)) by
    refine WI_cmp' ?_
    walk_at "v"
    refine WE_glob (X := .int 127) rfl (fun w => rfl) (fun uu uu uu => ⟨_, rfl⟩) ?_
    walk_at "v"
    rfl) s₁ R₁) fun z s₂ k₂ hz => ?_
  have R₂ := R₁.keepE k₂
  by_cases h127 : is.getD i 0 = 127
  · rw [if_pos (by rw [hz, h127]; rfl)]
    refine seg_execs_cons (seg_plain (wpAny_Return_none ?_))
    refine seg_leaf (.ok (.ret .none)) (seg_end (.ok (.ret .none)) (.inl ⟨?_, rfl, gk₁.trans k₂.gk⟩))
    rw [e3]
    show (stepG is (gsAt is (2 - m))).1 = _
    rw [hg]
    show (if is.getD i 0 = 127 then _ else _ : GR × GS).1 = _
    rw [if_pos h127]
  rw [if_neg (by rw [hz]; simpa using h127)]
  refine seg_execs_nil (seg_execs_cons (seg_If ?_))
  refine goB ((show WI (cx c σ L o I (A.over (lCode L I) [lF L p])) _ [("interval", .int (is.getD i 0)), ("last_interval", lastV last), ("grouping", .list (is.map .int))] [] (fun z => z = (is.getD i 0 == 0)) by
    refine WI_cmp' ?_
    walk_at "v"
    rfl) s₂ R₂) fun z s₃ k₃ hz₃ => ?_
  have R₃ := R₂.keepE k₃
  by_cases h0 : is.getD i 0 = 0
  · rw [if_pos (by rw [hz₃, h0]; rfl)]
    refine seg_execs_cons (seg_If ?_)
    refine goB ((show WI (cx c σ L o I (A.over (lCode L I) [lF L p])) _ [("interval", .int (is.getD i 0)), ("last_interval", lastV last), ("grouping", .list (is.map .int))] [] (fun z => z = (last == none)) by
      refine WI_cmp' ?_
      walk_at "v"
      refine O2_is_none ?_
      walk_at "v"
      rfl) s₃ R₃) fun z s₄ k₄ hz₄ => ?_
    have R₄ := R₃.keepE k₄
    cases last with
    | none =>
      rw [if_pos (by rw [hz₄]; rfl)]
      refine seg_execs_cons (seg_plain (wpAny_mono (raise_made (c := (cx c σ L o I (A.over (lCode L I) [lF L p]))) rfl R₄) (fun uu uu x => x.elim) fun e s₅ hpt => ?_))
      obtain ⟨s₆, k₆, hm⟩ := hpt
      have KB : KeepE sB s₆ := (((hB₁ rfl).trans k₂).trans k₃).trans (k₄.trans k₆)
      obtain ⟨mm, hN, _⟩ := (R₄.keepE k₆).loc
      refine seg_gone (L := L) (s := sB) P.frs rfl (FF.cons (by rw [show (gEnv L).scope.kind = .function from rfl]; decide) rfl hN (P.ff.stays KB.2)) hm (fun b ob e => ⟨KB.2 b ob e, fun q => by rw [q, P.LB] at e; cases e⟩) KB.1 fun s'' fl => .inr ⟨?_, e, rfl, (hB rfl).2 ▸ fl⟩
      rw [e3]
      show (stepG is (gsAt is (2 - m))).1 = _
      rw [hg]
      show (if is.getD i 0 = 127 then _ else if is.getD i 0 = 0 then _ else _ : GR × GS).1 = _
      rw [if_neg h127, if_pos h0]
    | some y =>
      rw [if_neg (by rw [hz₄]; simp)]
      refine seg_execs_nil (seg_execs_cons (seg_While fun p2 => ?_))
      refine gen_while (v := y) P ?_ ?_ ?_ ?_ ?_ m s₀ s₄ hm ?_ (Rel.toG rfl (R₄.less ?_)) (((gk₁.trans k₂.gk).trans k₃.gk).trans k₄.gk)
      · rfl
      · rfl
      · exact P.hand
      · show A.depth + frameCount [(lCode L I, p2), (Code.func gBody (gEnv L), p)] + Code.weight (wCode L 0 _ _ _ _) ≤ 600
        have := P.depth
        have e1 : frameCount [(lCode L I, p2), (Code.func gBody (gEnv L), p)] = 1 := rfl
        have e2 : ∀ a b d e, Code.weight (wCode L 0 a b d e) = 0 := fun uu uu uu uu => rfl
        rw [e1, e2]; assumption
      · show A.units + unitsOf [(lCode L I, p2), (Code.func gBody (gEnv L), p)] + Code.cUnits (wCode L 0 _ _ _ _) ≤ 9000
        have := P.units
        have e1 : unitsOf [(lCode L I, p2), (Code.func gBody (gEnv L), p)] = 3 := rfl
        have e2 : ∀ a b d e, Code.cUnits (wCode L 0 a b d e) = 0 := fun uu uu uu uu => rfl
        rw [e1, e2]; assumption
      · rw [hg]
        show (if is.getD i 0 = 127 then _ else if is.getD i 0 = 0 then _ else _ : GR × GS) = _
        rw [if_neg h127, if_pos h0]
      · walk_at "sub"
  rw [if_neg (by rw [hz₃]; simpa using h0)]
  refine seg_execs_nil (seg_execs_cons (seg_Expr_Yield rfl rfl rfl ?_))
  have eg : stepG is (gsAt is (2 - m)) = (.yld (is.getD i 0), .loop (i + 1) (some (is.getD i 0))) := by
    rw [hg]
    show (if is.getD i 0 = 127 then _ else if is.getD i 0 = 0 then _ else _ : GR × GS) = _
    rw [if_neg h127, if_neg h0]
  refine yields R₃ rfl rfl (congrArg Prod.fst eg) ((gk₁.trans k₂.gk).trans k₃.gk) (by decide) (by decide) (fun hm0 s₄ k₄ s'' aw => ?_)
  obtain ⟨m', rfl⟩ : ∃ m', m = m' + 1 := ⟨m - 1, by exact (Nat.sub_add_cancel hm0).symm⟩
  have kk := (k₂.trans k₃).trans k₄
  have R₅ := P.back (Rel.toG rfl (R₃.keepE k₄)) aw
  have R₆ : Rel (cx c σ L o I (A.over (lCode L I) [lF L p])) _ [] s'' := R₅ _ hO1 hO2 hO3
  refine seg_execs_cons (seg_plain (goX ((W1_assign (c := (cx c σ L o I (A.over (lCode L I) [lF L p]))) (Q := fun F ρ' σ' => F = .next ∧ σ' = [] ∧ ρ' = ([("last_interval", .int (is.getD i 0)), ("interval", .int (is.getD i 0)), ("last_interval", lastV last), ("grouping", .list (is.map .int))] : Rho)) (.inl rfl) (by walk_at "v"; exact ⟨rfl, rfl, rfl⟩)) s'' R₆) fun f s₇ F ρ' σ' hf R₇ k₇ hpt => ?_))
  obtain ⟨e1, e2, e4⟩ := hpt
  subst e1 e2 e4
  cases hf
  have off : ∀ b ob, b ∉ (cgen c σ L o).out → b ≠ L → s₁.heap.get? b = some ob → s₇.heap.get? b = some ob := fun b ob h1 h2 e => k₇.2.1 b ob (fun q => h2 (List.mem_singleton.mp q)) (aw.2.2.2 b ob h1 (kk.2 b ob e))
  refine seg_again rfl (ih m' (by exact Nat.lt_succ_self _) (i + 1) (some (is.getD i 0)) s'' s₇ (by exact Nat.le_of_succ_le hm) ?_ ?_ ⟨Rel.toG rfl (R₇.less ?_), it₁.at fun ob e => off I ob P.Io P.IL e, ls₁.at fun ob e => off l ob P.lo P.lL e⟩ ?_ (fun h => nomatch h) p)
  · exact Nat.le_antisymm (Nat.not_lt.mp fun hn => absurd (Nat.add_le_add (Nat.le_of_eq hi') (Nat.add_le_add hn (Nat.add_le_add (Nat.le_of_eq (Nat.sub_add_cancel (show m' + 1 ≤ 2 from Nat.not_lt.mp fun hn => absurd (Nat.add_le_add hm hn) (by simp +arith)))) (Nat.le_of_eq (Nat.sub_add_cancel (show m' ≤ 2 from Nat.not_lt.mp fun hn => absurd (Nat.add_le_add hm hn) (by simp +arith))).symm)))) (by simp +arith)) (Nat.not_lt.mp fun hn => absurd (Nat.add_le_add (Nat.le_of_eq hi'.symm) (Nat.add_le_add hn (Nat.add_le_add (Nat.le_of_eq (Nat.sub_add_cancel (show m' + 1 ≤ 2 from Nat.not_lt.mp fun hn => absurd (Nat.add_le_add hm hn) (by simp +arith))).symm) (Nat.le_of_eq (Nat.sub_add_cancel (show m' ≤ 2 from Nat.not_lt.mp fun hn => absurd (Nat.add_le_add hm hn) (by simp +arith))))))) (by simp +arith))
  · have e : 2 - m' = (2 - (m' + 1)) + 1 := by exact Nat.le_antisymm (Nat.not_lt.mp fun hn => absurd (Nat.add_le_add hn (Nat.add_le_add (Nat.le_of_eq (Nat.sub_add_cancel (show m' + 1 ≤ 2 from Nat.not_lt.mp fun hn => absurd (Nat.add_le_add hm hn) (by simp +arith))).symm) (Nat.le_of_eq (Nat.sub_add_cancel (show m' ≤ 2 from Nat.not_lt.mp fun hn => absurd (Nat.add_le_add hm hn) (by simp +arith)))))) (by simp +arith)) (Nat.not_lt.mp fun hn => absurd (Nat.add_le_add hn (Nat.add_le_add (Nat.le_of_eq (Nat.sub_add_cancel (show m' + 1 ≤ 2 from Nat.not_lt.mp fun hn => absurd (Nat.add_le_add hm hn) (by simp +arith)))) (Nat.le_of_eq (Nat.sub_add_cancel (show m' ≤ 2 from Nat.not_lt.mp fun hn => absurd (Nat.add_le_add hm hn) (by simp +arith))).symm))) (by simp +arith))
    rw [e]
    exact gsAt_succ is _ (congrArg Prod.snd eg)
  · walk_at "sub"
  · exact ⟨k₇.1, fun b ob h1 h2 e => k₇.2.1 b ob (fun q => h2 (List.mem_singleton.mp q)) e⟩
end
end
section
open PySem PySem.W PySem.Calls PyProof PyProof.Rows PySem.SeqAt
theorem gen_fresh {is : List Int} {c : Cx} {σ : Sig} {L : Addr} {o : List Addr} {outer : List Env} {A : Around} {s : Shared} (hlen : is.length = 3) (hand : A.handled = none) (hdep : A.depth ≤ 580) (hun : A.units ≤ 8900) (hfr : A.frames = some outer)
    (R : RelG (cgen c σ L o) [("grouping", .list (is.map .int))] s) (hLo : L ∉ (cgen c σ L o).out) (ff : FF outer (hideL L s).heap) (htop : ∃ b ob, s.heap.get? b = some ob ∧ b + 1 = s.heap.objs.size) :
    Seg (model PG c.w) A (RG is L s.heap.objs.size outer) (YG is (cgen c σ L o) L s.heap.objs.size) 3 s (.func gBody (gEnv L)) ((model PG c.w).den (.func gBody (gEnv L))) [] s := by
  have LB : (hideL L s).heap.get? L = none := hideAll_none _ (.head _)
  have kB : KeepE (hideL L s) s := ⟨⟨_, _, _, rfl, .refl _, Nat.le_refl _⟩, fun b o e => of_hideAll _ e⟩
  generalize hsB : hideL L s = sB at *
  have hO2 : (A.over (.func gBody (gEnv L)) []).depth ≤ 600 := by
    show A.depth + frameCount [] + Code.weight (.func gBody (gEnv L)) ≤ 600
    have e2 : Code.weight (.func gBody (gEnv L)) = 1 := rfl
    have e1 : frameCount [] = 0 := rfl
    exact Nat.lt_of_le_of_lt hdep (by decide)
  have hO3 : (A.over (.func gBody (gEnv L)) []).units ≤ 9000 := by
    show A.units + unitsOf [] + Code.cUnits (.func gBody (gEnv L)) ≤ 9000
    have e1 : unitsOf [] = 0 := rfl
    have e2 : Code.cUnits (.func gBody (gEnv L)) = 3 := rfl
    exact Nat.not_lt.mp fun hn => absurd (Nat.add_le_add hun (Nat.add_le_add (Nat.le_of_eq e1) (Nat.add_le_add (Nat.le_of_eq e2) hn))) (by simp +arith)
  have R0 : Rel { (cgen c σ L o) with A := (A.over (.func gBody (gEnv L)) []) } _ [] s := R _ hand hO2 hO3
  refine seg_func ?_
  refine seg_execs_cons (seg_plain (goX ((W1_assign (c := { (cgen c σ L o) with A := (A.over (.func gBody (gEnv L)) []) }) (Q := fun F ρ' σ' => F = .next ∧ σ' = [] ∧ ρ' = ([("last_interval", .none), ("grouping", .list (is.map .int))] : Rho)) (.inl rfl) (by walk_at "v"; exact ⟨rfl, rfl, rfl⟩)) s R0) fun f s₁ F ρ' σ' hf R₁ k₁ hpt => ?_))
  obtain ⟨e1, e2, e4⟩ := hpt
  subst e1 e2 e4
  cases hf
  refine seg_execs_cons (seg_For ?_)
  refine goV ((show WE { (cgen c σ L o) with A := (A.over (.func gBody (gEnv L)) []) } _ ([("last_interval", .none), ("grouping", .list (is.map .int))] : Rho) [] (fun X => X = .list (is.map .int)) by walk_at "v"; rfl) s₁ R₁) fun v s₂ X hX k₂ e => ?_
  subst e
  have R₂ := R₁.keepE k₂
  obtain ⟨l, its, rfl, hlW, hls, hv⟩ := hX
  refine wpAny_pyIter_list hls ?_
  intro p
  have kA : KS { (cgen c σ L o) with A := (A.over (.func gBody (gEnv L)) []) } [] [] s s₂ := KS.trans R₁ k₁ k₂.ks
  have hsz : s.heap.objs.size ≤ s₂.heap.objs.size := by
    obtain ⟨b, ob, e, hb⟩ := htop
    have : ∃ ob', s₂.heap.get? b = some ob' := by
      by_cases q : b = L
      · rw [q]; exact R₂.al L (List.mem_append_right _ (.head _))
      · exact ⟨ob, kA.2.1 b ob (fun z => q (List.mem_singleton.mp z)) e⟩
    obtain ⟨ob', e'⟩ := this
    have := Heap.lt_size e'
    exact Nat.le_trans (Nat.le_of_eq hb.symm) (Nat.succ_le_of_lt this)
  have fresh : s₂.heap.get? s₂.heap.objs.size = none := fresh_none _
  have kp : KeepE s₂ { s₂ with heap := s₂.heap.push { cls := .type "list_iterator", data := .fields #[.ref l, .int 0 0] } } := .mk' (stays_push _ _) (Nat.le_refl _)
  have hI : ∀ b, (∃ ob, s₂.heap.get? b = some ob) → b ≠ s₂.heap.objs.size := fun b ⟨ob, e⟩ q => by rw [q, fresh] at e; cases e
  have alL : ∃ ob, s₂.heap.get? L = some ob := R₂.al L (List.mem_append_right _ (.head _))
  have lal : ∃ ob, s₂.heap.get? l = some ob := by obtain ⟨ob, e, _⟩ := hls; exact ⟨ob, e⟩
  have hlW' : l ≠ L ∧ l ∉ (cgen c σ L o).out := by
    refine ⟨fun q => hlW (q ▸ List.mem_append_right _ (.head _)), fun q => hlW (List.mem_append_right _ (List.mem_append_right _ q))⟩
  have P : GIn is (cgen c σ L o) L s.heap.objs.size s₂.heap.objs.size l its outer A sB := by
    refine ⟨hand, hdep, hun, hfr, hLo, hsz, (hI L alL).symm, fun q => ?_, ?_, hlW'.2, hlW'.1, hI l lal, ints_are hv, hlen, LB, ?_, ff⟩
    · exact hI _ (R₂.al _ (List.mem_append_right _ (List.mem_append_right _ q))) rfl
    · cases e : c.h₀.get? s₂.heap.objs.size with
      | none => rfl
      | some ob => exact absurd rfl (hI _ ⟨ob, R₂.base _ _ e⟩)
    · cases e : sB.heap.get? s₂.heap.objs.size with
      | none => rfl
      | some ob =>
        have h1 := kB.2 _ _ e
        have h2 := Heap.lt_size h1
        exact absurd h2 (Nat.not_lt.mpr hsz)
  refine gen_turn P 2 0 none s _ (Nat.le_refl _) rfl rfl ⟨?_, ⟨_, Heap.get?_push_size _ rfl, rfl, rfl⟩, hls.push _⟩ ?_ (fun uu => ⟨?_, hsB.symm⟩) p
  · exact Rel.toG rfl (Rel.up (o := [s₂.heap.objs.size]) R₂ kp (fun b hb => by rw [List.mem_singleton.mp hb]; exact fresh) (fun b hb => by rw [List.mem_singleton.mp hb]; exact ⟨_, Heap.get?_push_size _ rfl⟩))
  · exact (KS.gk kA rfl).trans kp.gk
  · exact ⟨kB.1.trans (kA.1.trans kp.1), fun b ob e => kp.2 b ob (kA.2.1 b ob (fun q => by
      have : b = L := List.mem_singleton.mp q
      rw [this, LB] at e; cases e) (kB.2 b ob e))⟩
end
section
open PySem PySem.W PySem.Calls PyProof PyProof.Rows PySem.SeqAt
inductive OC (c : Cx) (ρ : Rho) (σ : Sig) (s : Shared) (Q : V → Prop) (v : Value) (s' : Shared) : Prop
  | mk (X : V) (r : VR c.w (wof c σ) s' X v) (R : Rel c ρ σ s') (k : KS c σ σ s s') (q : Q X)
theorem goC {c ρ σ s Q} {M : Model} {A t s₀ P E} (H : wpAny M A t (OC c ρ σ s Q) (fun uu uu => False) s₀) (f : ∀ v s₁ X, VR c.w (wof c σ) s₁ X v → Rel c ρ σ s₁ → KS c σ σ s s₁ → Q X → P v s₁) : wpAny M A t P E s₀ :=
  wpAny_mono H (fun v s₁ h => h.casesOn fun X r R k q => f v s₁ X r R k q) fun uu uu x => x.elim
noncomputable def WEC (c : Cx) (e : Expr) (ρ : Rho) (σ : Sig) (Q : V → Prop) : Prop :=
  ∀ s, Rel c ρ σ s → wpAny (model PG c.w) c.A (eval e c.env) (OC c ρ σ s Q) (fun uu uu => False) s
theorem KCl.rel {c : Cx} {ρ : Rho} {σ : Sig} {s s' : Shared} (R : Rel c ρ σ s) (hfl : c.env.frame = some c.env.locals) (k : KCl [c.env] s s') : Rel c ρ σ s' ∧ KS c σ σ s s' := by
  have ef : fad [c.env] = [c.env.locals] := by unfold fad; rw [List.filterMap_cons, hfl]; rfl
  have hm : ∀ b, b ∈ fad [c.env] → b = c.env.locals := fun b hb => by rw [ef] at hb; exact List.mem_singleton.mp hb
  refine ⟨R.slots (F := fad [c.env]) (fun b hb => .inl (hm b hb)) (fun b hb => ?_) k.1 k.2.1 (fun b o e uu => ?_), k.1, fun b o hb e => k.2.1 b o (fun q => hb (List.mem_append_right _ (hm b q ▸ R.ok.lown))) e, fun p hp => .inl (List.mem_map_of_mem hp)⟩
  · obtain ⟨m, ⟨o, _, _, e, _⟩, _⟩ := R.loc
    obtain ⟨sl, e'⟩ := k.2.2 b hb o (hm b hb ▸ e)
    exact ⟨_, e'⟩
  · by_cases q : b ∈ fad [c.env]
    · exact k.2.2 b q o e
    · exact ⟨o.slots, k.2.1 b o q e⟩
theorem ff_own {c : Cx} {ρ : Rho} {σ : Sig} {s : Shared} (R : Rel c ρ σ s) (hfl : c.env.frame = some c.env.locals) : FF [c.env] s.heap := by
  obtain ⟨m, hN, _⟩ := R.loc
  exact FF.cons (by rw [R.ok.kind]; decide) hfl hN fun uu h => nomatch h
theorem fad_own {c : Cx} {σ : Sig} (hfl : c.env.frame = some c.env.locals) (ho : c.env.locals ∈ c.own) : ∀ b ∈ fad [c.env], b ∈ wof c σ := fun b hb => by
  unfold fad at hb
  rw [List.filterMap_cons, hfl] at hb
  rw [List.mem_singleton.mp hb]
  exact List.mem_append_right _ (List.mem_append_left _ ho)
theorem fad_h {c : Cx} (ok : c.Ok) (hfl : c.env.frame = some c.env.locals) : ∀ b ∈ fad [c.env], c.h₀.get? b = none := fun b hb => by
  unfold fad at hb
  rw [List.filterMap_cons, hfl] at hb
  rw [List.mem_singleton.mp hb]
  exact ok.ownh _ ok.lown
theorem WEC_call {c : Cx} {x : Str} {p pos : Pos} {es : List Expr} {ρ : Rho} {σ : Sig} {Q : V → Prop} (f : Value) (hf : Kp f) (hfl : c.env.frame = some c.env.locals) (hn : ∀ Q' : V → Prop, Q' (.stat f) → WE c (.Name x p) ρ σ Q')
    (h : WL c pos es ρ σ (fun Xs => ∀ s vs, Rel c ρ σ s → VRs c.w (wof c σ) s Xs vs → wpAny (model PG c.w) c.A (call f vs) (fun u s' => ∃ Z, VR c.w (wof c σ) s' Z u ∧ KCl [c.env] s s' ∧ Q Z) (fun uu uu => False) s))
    (hplain : (backTo pos (starEach es c.env)).any (·.1) = false := by walk_at "r") : WEC c (.Call (.Name x p) es [] pos) ρ σ Q := fun s R => by
  refine wpAny_Call_NameR (goV (hn (fun X => X = .stat f) rfl s R) fun fv s₁ X hX k₁ e => ?_)
  subst e
  cases hX
  have R₁ := R.keepE k₁
  refine callWith_gen (first := []) hf R₁ hplain (goL (h s₁ R₁) fun vs s₂ Xs hXs k₂ h₂ => ?_)
  have R₂ := R₁.keepE k₂
  refine ⟨R₂.stat.K, wpAny_mono (h₂ s₂ vs R₂ hXs) (fun u s₃ hpt => ?_) fun uu uu x => x⟩
  obtain ⟨Z, hZ, kc, q⟩ := hpt
  obtain ⟨R₃, K₃⟩ := kc.rel R₂ hfl
  exact ⟨Z, hZ, R₃, .trans R₂ (k₁.trans k₂).ks K₃, q⟩
theorem W1_assignTC {c es n tp e pos ρ σ} {Q : Fl → Rho → Sig → Prop} (h : WEC c e ρ σ (fun X => WAs c (.Tuple es n tp) X ρ σ (fun ρ' => Q .next ρ' σ)))
    (hs : swapsWithSole [.Tuple es n tp] e pos.line c.env = pure false := by walk_at "r") (hs' : swappedStores [.Tuple es n tp] e c.env = pure none := by walk_at "r") : W1 c (.Assign [.Tuple es n tp] e pos) ρ σ Q := fun s R => by
  refine wpAny_Assign_stores (goC (h s R) fun v s₁ X hX R₁ k₁ q => ?_) hs hs'
  show wpAny _ _ (assign (.Tuple es n tp) c.env v) _ _ _
  exact goA (q s₁ v R₁ hX) fun uu s' ρ' R' k q => ⟨.next, _, _, rfl, R', .trans R₁ k₁ k, q⟩
theorem W1_ifNotC {c e b p pos ρ σ} {Q : Fl → Rho → Sig → Prop} (h : WEC c e ρ σ (fun X => X = .bool true ∧ Q .next ρ σ))
    (he : isTrue e c.env (eval e c.env) = (do let v ← eval e c.env; standAt e.pos; holding [v] (truthy v)) := by walk_at "r") : W1 c (.If (.UnaryOp .Not e p) b [] pos) ρ σ Q := fun s R => by
  refine wpAny_If (wpAny_isTrue_Not (wpAny_isTrue_value (goC (h s R) fun v s₁ X hX R₁ k₁ hpt => ?_) he))
  obtain ⟨e, q⟩ := hpt
  subst e
  obtain rfl : v = .bool true := hX
  refine wpAny_truthy_bool ?_
  exact wpAny_execs_nil ⟨.next, ρ, σ, rfl, R₁, k₁, q⟩
end
section
open PySem PySem.W PySem.Calls PyProof PyProof.Rows PySem.SeqAt
noncomputable def finM (is : List Int) : Nat → Nat → List Int → List Int
  | 0, _, acc => acc
  | f + 1, j, acc => match grAt is j with
    | .yld x => finM is f (j + 1) (acc ++ [acc.getD (acc.length - 1) 0 + x])
    | _ => acc
noncomputable def isErr : GR → Bool
  | .err => true
  | _ => false
theorem vrs_ints {w W s} : ∀ {is : List Int} {vs : List Value}, IntsAre vs is → VRs w W s (is.map .int) vs
  | [], _, h => by cases h; rfl
  | i :: is, _, h => by
    cases h with
    | cons i t r => exact ⟨_, _, rfl, ⟨_, rfl⟩, vrs_ints r⟩
theorem stp_setGen {a s : Shared} {g : Nat} {x : GenState} (h : Stp a s) (hg : a.gens.size ≤ g) (hb : x.bare = true) : Stp a (s.setGen g x) := by
  obtain ⟨h', tk, gs, rfl, ⟨k1, k2⟩, k3⟩ := h
  refine ⟨h', tk, gs.setIfInBounds g x, rfl, ⟨fun z y hy => ?_, fun i y e => ?_⟩, k3⟩
  · rcases Array.mem_or_eq_of_mem_setIfInBounds hy with q | q
    · exact k1 z y q
    · rw [q]; exact hb
  · have hi := (Array.getElem?_eq_some_iff.mp e).1
    rw [Array.getElem?_setIfInBounds_ne (by exact fun hn => absurd (Nat.add_le_add hg (Nat.add_le_add hi (Nat.le_of_eq hn))) (by simp +arith))]
    exact k2 i y e
structure LP (c : Cx) (m L G z TI TO i1 g N : Nat) (fs : List Env) (sB : Shared) : Prop where
  hfr : c.A.frames = some (c.env :: fs)
  hf : c.env.frame = some c.env.locals
  kk : 3 ≤ c.k
  cl : c.env.cells = []
  TIz : TI ≠ z
  TOz : TO ≠ z
  i1z : i1 ≠ z
  Lz : L ≠ z
  Gz : G ≠ z
  TITO : TI ≠ TO
  i1TO : i1 ≠ TO
  LTO : L ≠ TO
  GTO : G ≠ TO
  TIi1 : TI ≠ i1
  Li1 : L ≠ i1
  Gi1 : G ≠ i1
  LTI : L ≠ TI
  LG : L ≠ G
  bz : sB.heap.get? z = none
  bTI : sB.heap.get? TI = none
  bTO : sB.heap.get? TO = none
  bi1 : sB.heap.get? i1 = none
  bL : sB.heap.get? L = none
  bG : sB.heap.get? G = none
  zN : z + 1 = N
  TIN : TI < N
  TON : TO < N
  i1N : i1 < N
  GN : G < N
  bN : ∀ b o, sB.heap.get? b = some o → b < N
  gB : sB.gens.size ≤ g
  base : StaysIn c.h₀ sB.heap
  al : ∀ a ∈ wof c [(m, [])], ∃ o, sB.heap.get? a = some o
  ff : FF fs sB.heap
  fa : ∀ b ∈ fad fs, b ∈ c.out ∧ b ∉ c.own ∧ b ≠ m
noncomputable abbrev oZ (z TI TO i1 : Nat) : List Addr := [z, TI, TO, i1]
noncomputable abbrev cZ (c : Cx) (m L z TI TO i1 : Nat) : Cx := cgen c [(m, [])] L (oZ z TI TO i1)
noncomputable def GoesAt (is : List Int) (c : Cx) (m L z TI TO i1 g N : Nat) (fs : List Env) (j : Nat) (s : Shared) : Prop :=
  ∃ gs, s.gens[g]? = some gs ∧ ∀ s'', AwayG (cZ c m L z TI TO i1) s s'' → (j = 0 → s''.heap.objs.size = N ∧ FF (c.env :: fs) (hideL L s'').heap) →
    gs.Goes (model PG c.w) c.A.in1.in1 (RG is L N (c.env :: fs)) (YG is (cZ c m L z TI TO i1) L N) (3 - j) (.send .none) s''
structure LR (c : Cx) (m : Nat) (sB : Shared) (acc : List Int) (s : Shared) : Prop where
  rel : Rel c [("marks", .mu m)] [(m, acc.map .int)] s
  st : Stp sB s
  old : ∀ b o, b ≠ m → b ∉ c.own → sB.heap.get? b = some o → s.heap.get? b = some o
structure LS (is : List Int) (c : Cx) (m L G z TI TO i1 g N : Nat) (fs : List Env) (sB : Shared) (j : Nat) (acc : List Int) (s : Shared) : Prop where
  lr : LR c m sB acc s
  zz : IsZip s.heap z TI TO .none
  ti : IsPair s.heap TI (.ref i1) (.ref G)
  to_ : ∃ a b, IsPair s.heap TO a b
  it : IsRangeIter s.heap i1 (j : Int) (3 - (j : Int)) 1
  ge : s.heap.IsGen G g
  sz : j = 0 → s.heap.objs.size = N
  goes : j < 3 → GoesAt is c m L z TI TO i1 g N fs j s
section
variable {is : List Int} {c : Cx} {m L G z TI TO i1 g N : Nat} {fs : List Env} {sB : Shared}
theorem LR.quiet (P : LP c m L G z TI TO i1 g N fs sB) {acc : List Int} {s s' : Shared} (R : LR c m sB acc s) (st : Stp sB s') (ht : @LE.le Nat _ s.toks s'.toks) (k : ∀ b o, (∃ o', sB.heap.get? b = some o') → s.heap.get? b = some o → s'.heap.get? b = some o) : LR c m sB acc s' := by
  obtain ⟨R, _, old⟩ := R
  have alB : ∀ a ∈ wof c [(m, acc.map .int)], ∃ o, sB.heap.get? a = some o := fun a ha => P.al a (by simpa [wof] using ha)
  have hbase : StaysIn c.h₀ s'.heap := fun b o e => k b o ⟨o, P.base b o e⟩ (R.base b o e)
  refine ⟨⟨R.ok, hbase, fun a ha => ?_, ?_, fun p hp => ?_, fun p hp => ?_, R.nd, fun e => R.tk (Nat.le_zero.mp (e ▸ ht))⟩, st, fun b o h1 h2 e => k b o ⟨o, e⟩ (old b o h1 h2 e)⟩
  · obtain ⟨o, e⟩ := R.al a ha
    exact ⟨o, k a o (alB a ha) e⟩
  · obtain ⟨mm, hN, hl⟩ := R.loc
    refine ⟨mm, Ns_at hN fun o e => k _ o (alB _ (List.mem_append_right _ (List.mem_append_left _ R.ok.lown))) e, fun x X e => ?_⟩
    have hX : X = .mu m := by
      rw [lookup_head] at e
      by_cases q : x = "marks"
      · rw [if_pos q] at e; cases e; rfl
      · rw [if_neg q] at e; cases e
    subst hX
    refine ⟨fun q => let ⟨v, a, b⟩ := (hl x _ e).1 q; ⟨v, a, b⟩, fun q => ?_⟩
    obtain ⟨a, _, d, _⟩ := (hl x _ e).2 q
    rw [P.cl] at d; cases d
  · rw [P.cl] at hp; cases hp
  · have hp' := List.mem_singleton.mp hp
    subst hp'
    obtain ⟨a, b, vs, l, r⟩ := R.muts _ hp
    exact ⟨a, b, vs, l.at fun o e => k m o (alB m (.head _)) e, vrs_ints (ints_are r)⟩
end
section
variable {is : List Int} {c : Cx} {m L G z TI TO i1 g N : Nat} {fs : List Env} {sB : Shared}
theorem LP.neB (P : LP c m L G z TI TO i1 g N fs sB) {b : Nat} (h : ∃ o, sB.heap.get? b = some o) : b ≠ z ∧ b ≠ TI ∧ b ≠ TO ∧ b ≠ i1 ∧ b ≠ L ∧ b ≠ G ∧ b < N := by
  obtain ⟨o, e⟩ := h
  refine ⟨fun q => ?_, fun q => ?_, fun q => ?_, fun q => ?_, fun q => ?_, fun q => ?_, ?_⟩
  · rw [q, P.bz] at e; cases e
  · rw [q, P.bTI] at e; cases e
  · rw [q, P.bTO] at e; cases e
  · rw [q, P.bi1] at e; cases e
  · rw [q, P.bL] at e; cases e
  · rw [q, P.bG] at e; cases e
  · exact P.bN b o e
theorem LP.fads (P : LP c m L G z TI TO i1 g N fs sB) (ok : c.Ok) {b : Nat} (hb : b ∈ fad (c.env :: fs)) : ∃ o, sB.heap.get? b = some o := by
  unfold fad at hb
  rw [List.filterMap_cons, P.hf] at hb
  rcases List.mem_cons.mp hb with q | q
  · rw [q]; exact P.al _ (List.mem_append_right _ (List.mem_append_left _ ok.lown))
  · exact P.al _ (List.mem_append_right _ (List.mem_append_right _ (P.fa b q).1))
theorem LR.ff (P : LP c m L G z TI TO i1 g N fs sB) {acc : List Int} {s : Shared} (R : LR c m sB acc s) : FF (c.env :: fs) s.heap := by
  obtain ⟨mm, hN, _⟩ := R.rel.loc
  exact FF.cons (by rw [R.rel.ok.kind]; decide) P.hf hN (P.ff.keeps fun b hb o e => R.old b o (P.fa b hb).2.2 (P.fa b hb).2.1 e)
noncomputable abbrev DrawQ (is : List Int) (c : Cx) (m L G z TI TO i1 g N : Nat) (fs : List Env) (sB : Shared) (j : Nat) (acc : List Int) (r : Option Value) (s₁ : Shared) : Prop := match r with
      | none => grAt is j = .stop ∧ LR c m sB acc s₁
      | some v => ∃ T x t u, v = .ref T ∧ grAt is j = .yld x ∧ IsZip s₁.heap z TI TO (rawInt T) ∧ IsPair s₁.heap T (.int (j : Int) t) (.int x u) ∧ N ≤ T ∧
          ∀ h', IsZip h' z TI TO .none → Heap.SameBut z s₁.heap h' → LS is c m L G z TI TO i1 g N fs sB (j + 1) acc { s₁ with heap := h' }
noncomputable abbrev DrawE (is : List Int) (c : Cx) (m : Nat) (fs : List Env) (sB : Shared) (j : Nat) (acc : List Int) (e : Value) (s₁ : Shared) : Prop := grAt is j = .err ∧ ∃ sx, LR c m sB acc sx ∧ Fly (c.env :: fs) sx s₁ e
theorem draw (P : LP c m L G z TI TO i1 g N fs sB) {j : Nat} {acc : List Int} {s : Shared} (S : LS is c m L G z TI TO i1 g N fs sB j acc s) (hj : j < 3) :
    wpAny (model PG c.w) c.A (pyNext (.ref z)) (DrawQ is c m L G z TI TO i1 g N fs sB j acc) (DrawE is c m fs sB j acc) s := by
  obtain ⟨a, b, hTO⟩ := S.to_
  refine pyNext_zipG (a := a) (b := b) P.TIz P.TOz S.zz S.ti fun h₁ z₁ sb₁ => ?_
  refine nextOf_range_item (s := { s with heap := h₁ }) ((sb₁.2 i1 P.i1z).trans S.it) (by exact Int.not_le.mp fun hn => absurd (Int.add_le_add (Int.ofNat_le.mpr (Nat.succ_le_of_lt hj)) hn) (by simp +arith)) fun h₂ it₂ sb₂ => ?_
  have z₂ : IsZip h₂ z TI TO .ellipsis := (sb₂.2 z P.i1z.symm).trans z₁
  have to₂ : IsPair h₂ TO a b := (sb₂.2 TO P.i1TO.symm).trans ((sb₁.2 TO P.TOz).trans hTO)
  refine ⟨z₂, to₂, fun h₃ z₃ to₃ sb₃ => ?_⟩
  have same : ∀ b, b ≠ z → b ≠ TO → b ≠ i1 → h₃.get? b = s.heap.get? b := fun b q1 q2 q3 => ((sb₃.2 b q2).trans (sb₂.2 b q3)).trans (sb₁.2 b q1)
  have szR : h₃.objs.size = s.heap.objs.size := sb₃.1.trans (sb₂.1.trans sb₁.1)
  have LRr : LR c m sB acc { s with heap := h₃, toks := s.toks + 1 } := S.lr.quiet P (S.lr.st.trans (.mk' _ _ (Nat.le_succ _))) (Nat.le_succ _) fun b o hb e => by
    obtain ⟨q1, _, q3, q4, _⟩ := P.neB hb
    exact (same b q1 q3 q4).trans e
  obtain ⟨gs, hgs, hgo⟩ := S.goes hj
  have geR : h₃.IsGen G g := by
    obtain ⟨o, nm, qn, ho, r⟩ := S.ge
    exact ⟨o, nm, qn, (same G P.Gz P.GTO P.Gi1).trans ho, r⟩
  have tiR : IsPair h₃ TI (.ref i1) (.ref G) := (same TI P.TIz P.TITO P.TIi1).trans S.ti
  have itR : IsRangeIter h₃ i1 ((j : Int) + 1) (3 - (j : Int) - 1) 1 := (sb₃.2 i1 P.i1TO).trans it₂
  have away : AwayG (cZ c m L z TI TO i1) s ({ s with heap := h₃, toks := s.toks + 1 } |>.setGen g .running) := by
    refine ⟨LRr.rel.base, fun a ha => ?_, Nat.le_succ _, fun b o hb e => ?_⟩
    · rcases List.mem_append.mp ha with q | q
      · simp only [List.mem_cons, List.not_mem_nil, or_false] at q
        rcases q with q | q | q | q
        · exact ⟨_, q ▸ z₃⟩
        · exact ⟨_, q ▸ tiR⟩
        · exact ⟨_, q ▸ to₃⟩
        · exact ⟨_, q ▸ itR⟩
      · exact LRr.rel.al a (by simpa [wof] using q)
    · have hb' : ∀ x ∈ oZ z TI TO i1, b ≠ x := fun x hx q => hb (List.mem_append_left _ (q ▸ hx))
      exact (same b (hb' z (.head _)) (hb' TO (.tail _ (.tail _ (.head _)))) (hb' i1 (.tail _ (.tail _ (.tail _ (.head _)))))).trans e
  have ffR : FF (c.env :: fs) (hideL L ({ s with heap := h₃, toks := s.toks + 1 } |>.setGen g .running)).heap := (LRr.ff P).keeps fun b hb o e =>
    hideAll_get _ e fun q => (P.neB (P.fads LRr.rel.ok hb)).2.2.2.2.1 (List.mem_singleton.mp q)
  obtain ⟨q, hq⟩ : ∃ q, 3 - j = q + 1 := ⟨2 - j, by (clear ffR away itR tiR geR hgo hgs LRr szR same sb₃ to₃ z₃ to₂ z₂ sb₂ it₂ sb₁ z₁ hTO S P; lia)⟩
  have hgo' := hgo _ away fun h => ⟨szR.trans (S.sz h), ffR⟩
  rw [hq] at hgo'
  have hdep := LRr.rel.ok.depth
  have kk := P.kk
  refine nextOf_gen (A := c.A.in1) (n := q + 1) (s := { s with heap := h₃, toks := s.toks + 1 }) LRr.rel.ok.hand LRr.rel.stat.T.nolimit (Nat.lt_of_le_of_lt (show c.A.depth ≤ 600 by exact Nat.le_trans (Nat.le_add_right _ _) hdep) (by decide)) geR hgs hgo' ?_ ?_
  · rintro v s₁ gs' hb ⟨⟨x, t, hg, rfl⟩, gk, kap⟩
    have ej : 2 - (q + 1 - 1) = j := by exact Nat.le_antisymm (Nat.not_lt.mp fun hn => (Nat.le_total (q + 1 - 1) 2).elim (fun hs2 => absurd (Nat.add_le_add (Nat.le_of_eq hq) (Nat.add_le_add hn (Nat.add_le_add (Nat.le_of_eq (Nat.sub_add_cancel (show j ≤ 3 from Nat.not_lt.mp fun hn => absurd (Nat.add_le_add hj hn) (by simp +arith))).symm) (Nat.add_le_add (Nat.le_of_eq (Nat.sub_add_cancel (show 1 ≤ q + 1 from Nat.not_lt.mp fun hn => absurd hn (by simp +arith))).symm) (Nat.le_of_eq (Nat.sub_add_cancel hs2)))))) (by simp +arith)) (fun hs2 => absurd (Nat.add_le_add hn (Nat.le_of_eq (Nat.sub_eq_zero_of_le hs2))) (by simp +arith))) (Nat.not_lt.mp fun hn => (Nat.le_total (q + 1 - 1) 2).elim (fun hs2 => absurd (Nat.add_le_add (Nat.le_of_eq hq.symm) (Nat.add_le_add hn (Nat.add_le_add (Nat.le_of_eq (Nat.sub_add_cancel (show j ≤ 3 from Nat.not_lt.mp fun hn => absurd (Nat.add_le_add hj hn) (by simp +arith)))) (Nat.add_le_add (Nat.le_of_eq (Nat.sub_add_cancel (show 1 ≤ q + 1 from Nat.not_lt.mp fun hn => absurd hn (by simp +arith)))) (Nat.le_of_eq (Nat.sub_add_cancel hs2).symm))))) (by simp +arith)) (fun hs2 => absurd (Nat.add_le_add (Nat.le_of_eq hq.symm) (Nat.add_le_add hn (Nat.add_le_add (Nat.le_of_eq (Nat.sub_add_cancel (show j ≤ 3 from Nat.not_lt.mp fun hn => absurd (Nat.add_le_add hj hn) (by simp +arith)))) (Nat.add_le_add (Nat.le_of_eq (Nat.sub_add_cancel (show 1 ≤ q + 1 from Nat.not_lt.mp fun hn => absurd hn (by simp +arith)))) hs2)))) (by simp +arith)))
    rw [ej] at hg
    have pres : ∀ b o, b < N → b ≠ L → h₃.get? b = some o → s₁.heap.get? b = some o := gk.2
    have zs₁ : IsZip s₁.heap z TI TO .ellipsis := pres z _ (by have := P.zN; exact Nat.le_of_eq this) P.Lz.symm z₃
    have tos₁ : IsPair s₁.heap TO (.int (j : Int) s.toks) b := pres TO _ P.TON P.LTO.symm to₃
    refine ⟨zs₁, tos₁, fun h' zz' to' hT' up => ?_⟩
    have hNT : N ≤ s₁.heap.objs.size := by
      have := Heap.lt_size zs₁
      rw [← P.zN]; exact Nat.succ_le_of_lt this
    refine ⟨s₁.heap.objs.size, x, s.toks, t, rfl, hg, zz', hT', hNT, fun h'' z'' sb'' => ?_⟩
    have tot : ∀ b o, b < N → b ≠ L → b ≠ z → b ≠ TO → h₃.get? b = some o → h''.get? b = some o := fun b o q1 q2 q3 q4 e => (sb''.2 b q3).trans (up b o q3 q4 (pres b o q1 q2 e))
    have stX : Stp sB { s₁.setGen g gs' with heap := h'' } := (stp_setGen ((stp_setGen LRr.st P.gB rfl).trans gk.1) P.gB hb).trans (.mk' _ _ (Nat.le_refl _))
    refine ⟨LRr.quiet P stX gk.1.toks_le fun b o hb e => ?_, z'', tot TI _ P.TIN P.LTI.symm P.TIz P.TITO tiR, ⟨_, _, (sb''.2 TO P.TOz).trans to'⟩, ?_, ?_, (fun h => nomatch h), fun hj1 => ⟨gs', ?_, fun s'' aw uu => ?_⟩⟩
    · obtain ⟨q1, _, q3, _, q5, _, q7⟩ := P.neB hb
      exact tot b o q7 q5 q1 q3 e
    · have e1 : ((j + 1 : Nat) : Int) = (j : Int) + 1 := by exact Int.natCast_add _ _
      have e2 : 3 - ((j + 1 : Nat) : Int) = 3 - (j : Int) - 1 := by simp +arith
      show IsRangeIter _ _ _ _ _
      rw [e2, e1]
      exact tot i1 _ P.i1N P.Li1.symm P.i1z P.i1TO itR
    · obtain ⟨o, nm, qn, ho, r⟩ := geR
      exact ⟨o, nm, qn, tot G o P.GN P.LG.symm P.Gz P.GTO ho, r⟩
    · exact setGen_self (gk.1.gens.2 g _ (setGen_self hgs))
    · have h1 := kap (by (clear aw stX tot sb'' z'' hNT up hT' to' zz' tos₁ zs₁ pres ej kap gk hg hb kk hdep hgo' ffR away itR tiR geR hgo hgs LRr szR same sb₃ to₃ z₃ to₂ z₂ sb₂ it₂ sb₁ z₁ hTO hj S P; lia)) s'' ⟨aw.1, aw.2.1, aw.2.2.1, fun b o hb e => ?_⟩
      · have : 3 - (j + 1) = q := by exact Nat.le_antisymm (Nat.not_lt.mp fun hn => absurd (Nat.add_le_add (Nat.le_of_eq hq) (Nat.add_le_add hn (Nat.add_le_add (Nat.le_of_eq (Nat.sub_add_cancel (show j ≤ 3 from Nat.not_lt.mp fun hn => absurd (Nat.add_le_add hj1 hn) (by simp +arith))).symm) (Nat.le_of_eq (Nat.sub_add_cancel (show j + 1 ≤ 3 from Nat.not_lt.mp fun hn => absurd (Nat.add_le_add hj1 hn) (by simp +arith))))))) (by simp +arith)) (Nat.not_lt.mp fun hn => absurd (Nat.add_le_add (Nat.le_of_eq hq.symm) (Nat.add_le_add hn (Nat.add_le_add (Nat.le_of_eq (Nat.sub_add_cancel (show j ≤ 3 from Nat.not_lt.mp fun hn => absurd (Nat.add_le_add hj1 hn) (by simp +arith)))) (Nat.le_of_eq (Nat.sub_add_cancel (show j + 1 ≤ 3 from Nat.not_lt.mp fun hn => absurd (Nat.add_le_add hj1 hn) (by simp +arith))).symm)))) (by simp +arith))
        rw [this]; exact h1
      · have hb' : ∀ x ∈ oZ z TI TO i1, b ≠ x := fun x hx q => hb (List.mem_append_left _ (q ▸ hx))
        have q1 := hb' z (.head _)
        exact aw.2.2.2 b o hb ((sb''.2 b q1).trans (up b o q1 (hb' TO (.tail _ (.tail _ (.head _)))) e))
  · intro r s₁ hr
    have ej : 3 - (q + 1) = j := by omega
    rcases hr with ⟨hg, rfl, gk⟩ | ⟨hg, e, rfl, fl⟩
    · rw [ej] at hg
      refine .inl ⟨rfl, fun h' e keep he => ?_⟩
      have pres : ∀ b o, b < N → b ≠ L → h₃.get? b = some o → s₁.heap.get? b = some o := gk.2
      have zs₁ : IsZip h' z TI TO .ellipsis := keep z _ (pres z _ (by have := P.zN; exact Nat.le_of_eq this) P.Lz.symm z₃)
      refine ⟨zs₁, fun h'' z'' sb'' => .inl ⟨?_, hg, LRr.quiet P ((stp_setGen ((stp_setGen LRr.st P.gB rfl).trans gk.1) P.gB rfl).trans (.mk' _ _ (Nat.le_refl _))) gk.1.toks_le fun b o hb e => ?_⟩⟩
      · obtain ⟨o, ho, hc⟩ := he
        refine ⟨o, (sb''.2 e fun q => ?_).trans ho, hc⟩
        rw [q, zs₁] at ho; cases ho; exact absurd hc (by simp)
      · obtain ⟨q1, _, q3, _, q5, _, q7⟩ := P.neB hb
        exact (sb''.2 b q1).trans (keep b o (pres b o q7 q5 e))
    · rw [ej] at hg
      obtain ⟨st', ea, a0, rfl, hfl, hup⟩ := fl
      have nh : ∀ b, b ≠ L → (¬ ∃ o, sB.heap.get? b = some o) → ∀ o, h₃.get? b = some o → s₁.heap.get? b = some o := fun b h1 h2 o e =>
        hfl.1 b o (hideAll_get _ (hideAll_get _ e fun q => h1 (List.mem_singleton.mp q)) fun q => h2 (P.fads LRr.rel.ok q))
      have zs₁ : IsZip s₁.heap z TI TO .ellipsis := nh z P.Lz.symm (fun ⟨o, e⟩ => by rw [P.bz] at e; cases e) _ z₃
      obtain ⟨ob, hob, hobc⟩ := hfl.there
      refine .inr ⟨ea, rfl, ⟨ob, hob, hobc⟩, ?_, zs₁, fun h'' z'' sb'' => .inr ⟨⟨ob, (sb''.2 ea fun q => ?_).trans hob, hobc⟩, hg, { sB with heap := hideAll h₃ [L, z], toks := s.toks + 1 }, ?_, ?_⟩⟩
      · obtain ⟨o, nm, qn, ho, r⟩ := geR
        exact ⟨o, nm, qn, nh G P.LG.symm (fun ⟨o, e⟩ => by rw [P.bG] at e; cases e) o ho, r⟩
      · rw [q, zs₁] at hob; cases hob; exact absurd hobc (by simp [VE])
      · refine LRr.quiet P (.mk' _ _ (Nat.le_trans S.lr.st.toks_le (Nat.le_succ _))) (Nat.le_refl _) fun b o hb e => hideAll_get _ e fun q => ?_
        obtain ⟨q1, _, _, _, q5, _⟩ := P.neB hb
        rcases List.mem_cons.mp q with q | q
        · exact q5 q
        · exact q1 (List.mem_singleton.mp q)
      · have stX : Stp sB (s₁.setGen g .finished) := by
          refine stp_setGen ?_ P.gB rfl
          have h1 := stp_setGen (x := .running) LRr.st P.gB rfl
          obtain ⟨h4, tk4, gs4, rfl, gok4, ht4⟩ := st'
          exact h1.trans ⟨h4, tk4, gs4, rfl, gok4, ht4⟩
        have tkX : @LE.le Nat _ (s.toks + 1) s₁.toks := st'.toks_le
        have hz : ∀ b o, (hideAll h₃ [L, z]).get? b = some o → b ≠ z ∧ (hideAll h₃ [L]).get? b = some o := fun b o e => by
          have hb : b ∉ [L, z] := fun q => by rw [hideAll_none _ q] at e; cases e
          exact ⟨fun q => hb (.tail _ (List.mem_singleton.mpr q)), hideAll_get _ (of_hideAll _ e) fun q => hb (List.mem_singleton.mp q ▸ .head _)⟩
        have hsub : (hideAll (hideAll h₃ [L, z]) (fad (c.env :: fs))).StaysIn (hideAll (hideAll h₃ [L]) (fad (c.env :: fs))) := hide_stays fun b o e nb => ⟨(hz b o e).2, nb⟩
        have hfl2 := flyingW_base hsub hfl
        obtain ⟨k1, k2, k3, oe, vs, T, oT, ts, he, hc, hd, h1, hnT, hTe, hT, hdT, h3⟩ := hfl2
        have ne : ea ≠ z := fun q => by rw [q, zs₁] at hob; cases hob; exact absurd hobc (by simp [VE])
        have nT : T ≠ z := fun q => by
          rw [q, zs₁] at hT; cases hT; cases hdT; cases h3
        refine ⟨?_, ea, a0, rfl, ⟨fun b o e => (sb''.2 b fun q => ?_).trans (k1 b o e), k2, k3.of_keeps fun b o e hnf => ⟨o, (sb''.2 b fun q => ?_).trans e, rfl⟩, oe, vs, T, oT, ts, (sb''.2 ea ne).trans he, hc, hd, h1, hnT, hTe, (sb''.2 T nT).trans hT, hdT, h3⟩, fun b o e hnf => ?_⟩
        · obtain ⟨h4, tk4, gs4, e4, gok4, ht4⟩ := stX
          refine ⟨h'', s₁.toks, gs4, ?_, gok4, tkX⟩
          have e5 : s₁.setGen g .finished = { sB with heap := s₁.heap, toks := s₁.toks, gens := gs4 } := by
            rw [e4]
            have e6 : s₁.heap = h4 := congrArg Shared.heap e4
            have e7 : s₁.toks = tk4 := congrArg Shared.toks e4
            rw [← e6, ← e7]
          rw [e5]
        · exact (hz b o (of_hideAll _ e)).1 q
        · have e' : s₁.heap.get? z = some o := q ▸ e
          rw [zs₁] at e'; cases e'; exact hnf _ rfl
        · obtain ⟨q1, q2⟩ := hz b o e
          obtain ⟨sl, e'⟩ := hup b o q2 hnf
          exact ⟨sl, (sb''.2 b q1).trans e'⟩
end
end
section
open PySem PySem.W PySem.Calls PyProof PyProof.Rows PySem.SeqAt
noncomputable def endOf (is : List Int) : Nat := (((List.range 3).filter fun k => is.getD k 0 == 0 || is.getD k 0 == 127) ++ [3]).headD 3
theorem endOf_le (is : List Int) : endOf is ≤ 3 := by
  unfold endOf
  have : ∀ x ∈ (List.range 3).filter fun k => is.getD k 0 == 0 || is.getD k 0 == 127, x ≤ 3 := fun x hx => by
    have := List.mem_range.mp (List.mem_filter.mp hx).1; exact Nat.le_of_lt this
  cases h : (List.range 3).filter fun k => is.getD k 0 == 0 || is.getD k 0 == 127 with
  | nil => exact Nat.le_refl _
  | cons x r => rw [h] at this; exact this x (.head _)
noncomputable def cameOf (is : List Int) : List Int :=
  if 0 < endOf is ∧ (is.drop (endOf is)).take 1 = [0] then is.take (endOf is) ++ List.replicate (3 - endOf is) ((is.take (endOf is)).getD (endOf is - 1) 0) else is.take (endOf is)
theorem pickV_run {α : Type} (xs : List α) (a : Nat) : pickV xs (some (a : Int)) (some ((a : Int) + 1)) = (xs.drop a).take 1 := by
  have e : ((a : Int) + 1) = ((a + 1 : Nat) : Int) := by exact Int.natCast_add _ _
  rw [e]
  simp only [pickV, Option.elim, clipAt_nat]
  rcases Nat.lt_or_ge a xs.length with h | h
  · rw [Nat.min_eq_left (by assumption), Nat.min_eq_left (by exact Nat.le_of_lt h)]
    congr 1; simp +arith
  · rw [Nat.min_eq_right h, Nat.min_eq_right (by exact Nat.le_succ_of_le h), List.drop_of_length_le h, List.drop_of_length_le (Nat.le_refl _)]; simp
theorem cameOf_len (is : List Int) (hl : is.length = 3) : (cameOf is).length ≤ 3 := by
  have := endOf_le is
  unfold cameOf
  split <;> simp [hl] <;> omega
theorem cameOf_bd (is : List Int) (hb : ∀ i ∈ is, 0 ≤ i ∧ i ≤ 1000) : ∀ i ∈ cameOf is, 0 ≤ i ∧ i ≤ 1000 := by
  intro i hi
  unfold cameOf at hi
  split at hi
  · rcases List.mem_append.mp hi with h | h
    · exact hb i (List.mem_of_mem_take h)
    · rw [(List.mem_replicate.mp h).2]
      rw [List.getD_eq_getElem?_getD]
      cases e : (is.take (endOf is))[endOf is - 1]? with
      | none => simp
      | some x => exact hb x (List.mem_of_mem_take (List.mem_of_getElem? e))
  · exact hb i (List.mem_of_mem_take hi)
noncomputable def told (is : List Int) : List Int := (List.range ((cameOf is).length + 1)).map fun k => ((cameOf is).take k).sum
theorem told_run (is : List Int) (hl : is.length = 3) (hb : ∀ i ∈ is, 0 ≤ i ∧ i ≤ 1000) : Pure 236 1 [.list (is.map .int)] (fun Z => Z = .list ((told is).map .int)) := by
  refine pure_of atTold [("sizes", .list (is.map .int))] ?_ (by simp) (kindsOk_of fun n => rfl) fun c L out hk => ?_
  · rintro w W s vs ⟨v, _, rfl, hv, rfl⟩
    exact ⟨_, rfl, v, _, rfl, hv, rfl⟩
  refine WS_cons ?_
  walk_at "v"
  refine WE_compF (cl := [("sizes", L + 1)]) (by walk_at "ck") [("sizes", .list (is.map .int))] (by walk_at "cap") ?_
  walk_at "v"
  refine ⟨_, src_up (n := 3) (by decide), by decide, fun k => is.getD k 0 == 0 || is.getD k 0 == 127, fun k => .int k, ?_, ?_⟩
  · intro C h₀ o i Y hY
    obtain ⟨hi, rfl⟩ := upto_at hY
    walk_at "v"
    refine ⟨sub.one rfl (.refl _), ?_⟩
    walk_at "v"
    refine O2_itemI (.inl rfl) (by exact Int.natCast_nonneg _) (by exact Int.not_le.mp fun hn => absurd (Int.add_le_add (Int.ofNat_le.mpr (Nat.le_of_eq hl.symm)) (Int.add_le_add (Int.ofNat_le.mpr (Nat.succ_le_of_lt hi)) hn)) (by simp +arith)) (by exact Int.not_le.mp fun hn => absurd (Int.add_le_add (Int.ofNat_le.mpr (Nat.succ_le_of_lt hi)) hn) (by simp +arith)) ?_
    walk_at "v"
    refine ite_b (fun e => ?_) fun e => ?_
    · refine ⟨?_, fun uu => ?_⟩
      · simp at e ⊢; simp [e]
      · walk_at "v"; rfl
    · walk_at "v"
      refine O2_itemI (.inl rfl) (by exact Int.natCast_nonneg _) (by exact Int.not_le.mp fun hn => absurd (Int.add_le_add (Int.ofNat_le.mpr (Nat.le_of_eq hl.symm)) (Int.add_le_add (Int.ofNat_le.mpr (Nat.succ_le_of_lt hi)) hn)) (by simp +arith)) (by exact Int.not_le.mp fun hn => absurd (Int.add_le_add (Int.ofNat_le.mpr (Nat.succ_le_of_lt hi)) hn) (by simp +arith)) ?_
      walk_at "v"
      refine ite_b (fun e' => ?_) fun e' => ?_
      · refine ⟨?_, fun uu => ?_⟩
        · simp at e e' ⊢; simp [e, e']
        · walk_at "v"; rfl
      · walk_at "v"
        refine ⟨?_, fun h => ?_⟩
        · simp at e e' ⊢; simp [e, e']
        · simp at e e' h; simp [e, e'] at h
  walk_at "v"
  refine O2_add_list (.inl rfl) (.inl rfl) ?_ ?_
  · exact Nat.le_trans (Nat.add_le_add_right (picks_len _ _ _) _) (by decide)
  walk_at "v"
  refine O2_item (Z := .int (endOf is)) (.inl rfl) (by decide) (by decide) ?_ ?_
  · rw [upto_len]
    have e : (picks 3 (fun k => is.getD k 0 == 0 || is.getD k 0 == 127) fun k => V.int ↑k) ++ [V.int 3] = ((((List.range 3).filter fun k => is.getD k 0 == 0 || is.getD k 0 == 127) ++ [3]).map fun k : Nat => V.int k) := by simp [picks]
    rw [e, List.getElem?_map]
    unfold endOf
    cases (List.range 3).filter fun k => is.getD k 0 == 0 || is.getD k 0 == 127 <;> rfl
  walk_at "v"
  refine WE_sliceL ?_
  walk_at "v"
  refine ⟨_, .inl rfl, by rw [List.length_map, hl]; decide, ?_⟩
  walk_at "v"
  refine ⟨_, .none, ?_⟩
  walk_at "v"
  refine ⟨_, .int _, ?_⟩
  rw [pickV_map, pickV_upto]
  walk_at "v"
  refine WS_join [("came", .list ((cameOf is).map .int))] [] (W1_if ?_) ?_
  · walk_at "v"
    have he : endOf is ≤ 3 := endOf_le is
    refine ite_b (fun e => ?_) fun e => ?_
    · have e0 : 0 < endOf is := by simpa using e
      walk_at "v"
      refine WE_sliceL ?_
      walk_at "v"
      refine ⟨_, .inl rfl, by rw [List.length_map, hl]; decide, ?_⟩
      walk_at "v"
      refine ⟨_, .int _, ?_⟩
      walk_at "v"
      refine ⟨_, .int _, ?_⟩
      rw [pickV_map]
      walk_at "v"
      refine O2_eq_list .list (ys := [0].map V.int) (.inl rfl) (LEq.ints _ _) ?_
      walk_at "v"
      refine ite_b (fun e' => ?_) fun e' => ?_
      · have e1 : (is.drop (endOf is)).take 1 = [0] := by simpa [pickV_run] using e'
        walk_at "v"
        have hne : is.take (endOf is) ≠ [] := by
          intro h
          have := congrArg List.length h
          rw [List.length_take, hl] at this
          simp at this; exact absurd (Nat.add_le_add e0 (Nat.le_of_eq this)) (by simp +arith)
        refine O2_itemL .list rfl hne ?_
        walk_at "v"
        refine O2_mul_list .list (by exact Int.not_lt.mp fun hn => absurd (Int.add_le_add (Int.ofNat_le.mpr he) (Int.add_one_le_of_lt hn)) (by simp +arith)) (by exact Int.not_le.mp fun hn => absurd (Int.add_le_add (Int.ofNat_le.mpr (Nat.succ_le_of_lt e0)) hn) (by simp +arith)) (by simp; simp +arith) ?_
        refine O2_add_list .list .list (by simp [hl]; unfold sizeLine; exact Nat.not_lt.mp fun hn => absurd (Nat.add_le_add hn (Nat.add_le_add (Nat.min_le_left (Mine.endOf is) 3) (Nat.le_of_eq (Nat.sub_add_cancel (show Mine.endOf is ≤ 3 from Nat.not_lt.mp fun hn => absurd (Nat.add_le_add he hn) (by simp +arith)))))) (by simp +arith)) ?_
        walk_at "v"
        refine ⟨rfl, rfl, .cons (lkL ?_) .nil⟩
        have e2 : (is.take (endOf is)).length = endOf is := by simp [hl]; exact Nat.min_eq_left he
        have e3 : (3 - (endOf is : Int)).toNat = 3 - endOf is := by simp
        have e4 : ∀ (n : Nat) (i : Int), (List.replicate n [V.int i]).flatten = (List.replicate n i).map V.int := fun n i => by
          induction n with
          | zero => rfl
          | succ n ih => rw [List.replicate_succ, List.flatten_cons, ih]; rfl
        rw [cameOf, if_pos ⟨e0, e1⟩, List.map_append, e2, e3, e4]
      · refine WS_nil ⟨rfl, rfl, .cons (lkL ?_) .nil⟩
        rw [cameOf, if_neg]
        rintro ⟨_, h⟩
        rw [pickV_run, h] at e'
        cases e'
    · walk_at "v"
      refine ⟨rfl, rfl, .cons (lkL ?_) .nil⟩
      rw [cameOf, if_neg]
      rintro ⟨h, _⟩
      simp at e; exact absurd (Nat.add_le_add h (Nat.le_of_eq e)) (by simp +arith)
  walk_at "v"
  refine WE_compF (cl := [("came", L + 2)]) (by walk_at "ck") [("came", .list ((cameOf is).map .int))] (by walk_at "cap") ?_
  walk_at "v"
  have hc := cameOf_len is hl
  refine WC_len .list (by simp; exact Nat.le_add_left_of_le hc) ?_
  walk_at "v"
  refine ⟨_, src_up (n := (cameOf is).length + 1) (by exact Nat.lt_of_le_of_lt hc (by decide)) |> fun z => by simpa using z, by rw [upto_len]; unfold sizeLine; exact Nat.lt_of_le_of_lt hc (by decide), fun uu => true, fun k => .int (((cameOf is).take k).sum), ?_, ?_⟩
  · intro C h₀ o i Y hY
    obtain ⟨hi, rfl⟩ := upto_at hY
    walk_at "v"
    refine ⟨sub.one rfl (.refl _), WTs_nil ⟨rfl, fun uu => ?_⟩⟩
    walk_at "v"
    refine WE_sliceL ?_
    walk_at "v"
    refine ⟨_, .inl rfl, by rw [List.length_map]; unfold sizeLine; exact Nat.le_trans hc (Nat.le_add_left _ _), ?_⟩
    walk_at "v"
    refine ⟨_, .none, ?_⟩
    walk_at "v"
    refine ⟨_, .int _, ?_⟩
    rw [pickV_map, pickV_upto]
    walk_at "v"
    refine WC_sum .list (fun j hj => cameOf_bd is hb j (List.mem_of_mem_take hj)) (by simp; exact Nat.not_lt.mp fun hn => absurd (Nat.add_le_add hc (Nat.add_le_add hn (Nat.min_le_right i ((Mine.cameOf is).length)))) (by simp +arith)) rfl
  · rw [picks_all, upto_len]
    simp [RetQ, told]
end
section
open PySem PySem.W PySem.Calls PyProof PyProof.Rows PySem.SeqAt
noncomputable abbrev CM (c : Cx) (L : Addr) (out : List Addr) (k : Nat) : Cx := c.call fdMarks 231 L out k
noncomputable def HE (c : Cx) (m : Nat) (fs : List Env) (sB : Shared) (acc : List Int) (e : Value) (s' : Shared) : Prop :=
  ∃ sx ea a0, e = .ref ea ∧ LR c m sB acc sx ∧ Stp sx s' ∧ Heap.HeldW (hideAll sx.heap (fad (c.env :: fs))) (c.env :: fs) ea VE a0 c.env.locals s'.heap ∧ sx.heap.UpToSlots s'.heap
section
variable {is : List Int} {c : Cx} {m L G z TI TO i1 g N : Nat} {fs : List Env} {sB : Shared}
theorem LS.step (P : LP c m L G z TI TO i1 g N fs sB) {j : Nat} {acc acc' : List Int} {s s' : Shared} (S : LS is c m L G z TI TO i1 g N fs sB (j + 1) acc s) (R : Rel c [("marks", .mu m)] [(m, acc'.map .int)] s')
    (st : Stp s s') (k : ∀ b o, b ≠ m → b ∉ c.own → s.heap.get? b = some o → s'.heap.get? b = some o) : LS is c m L G z TI TO i1 g N fs sB (j + 1) acc' s' := by
  have off : ∀ b, sB.heap.get? b = none → b ≠ m ∧ b ∉ c.own := fun b h => by
    refine ⟨fun q => ?_, fun q => ?_⟩
    · obtain ⟨o, e⟩ := P.al m (.head _); rw [← q, h] at e; cases e
    · obtain ⟨o, e⟩ := P.al b (List.mem_append_right _ (List.mem_append_left _ q)); rw [h] at e; cases e
  have kk : ∀ b, sB.heap.get? b = none → ∀ o, s.heap.get? b = some o → s'.heap.get? b = some o := fun b h o e => k b o (off b h).1 (off b h).2 e
  obtain ⟨a, b, hTO⟩ := S.to_
  refine ⟨⟨R, S.lr.st.trans st, fun b o h1 h2 e => k b o h1 h2 (S.lr.old b o h1 h2 e)⟩, kk z P.bz _ S.zz, kk TI P.bTI _ S.ti, ⟨a, b, kk TO P.bTO _ hTO⟩, kk i1 P.bi1 _ S.it, ?_, (fun h => nomatch h), fun hj => ?_⟩
  · obtain ⟨o, nm, qn, ho, r⟩ := S.ge
    exact ⟨o, nm, qn, kk G P.bG o ho, r⟩
  · obtain ⟨gs, hg, h⟩ := S.goes hj
    refine ⟨gs, st.gens.2 g _ hg, fun s'' aw h0 => h s'' ⟨aw.1, aw.2.1, Nat.le_trans st.toks_le aw.2.2.1, fun b o hb e => ?_⟩ h0⟩
    refine aw.2.2.2 b o hb (k b o (fun q => hb ?_) (fun q => hb ?_) e)
    · exact List.mem_append_right _ (q ▸ .head _)
    · exact List.mem_append_right _ (List.mem_append_right _ (List.mem_append_left _ q))
theorem held_of (P : LP c m L G z TI TO i1 g N fs sB) {acc : List Int} {sx s₁ : Shared} {e : Value} {E : Value → Shared → Prop} (hE : ∀ s', HE c m fs sB acc e s' → E e s') (R : LR c m sB acc sx) (fl : Fly (c.env :: fs) sx s₁ e) :
    notedBy (model PG c.w) c.A c.env (fun e s' => cameBackBy (model PG c.w) c.A c.env E e s') e s₁ := by
  obtain ⟨st, ea, a0, rfl, hfl, hup⟩ := fl
  show wpAny _ _ (noteFrame (.ref ea) c.env) _ _ s₁
  refine wpAny_looks_onW P.hfr P.hf hfl fun h₄ hh₄ u₄ => ?_
  show wpAny _ _ _ _ _ _
  refine flight_heldW (s := { s₁ with heap := h₄ }) P.hf hh₄ fun h₅ hh₅ u₅ => hE _ ⟨sx, ea, a0, rfl, R, st.trans (.mk' _ _ (Nat.le_refl _)), hh₅, (hup.trans u₄).trans u₅⟩
end
noncomputable abbrev mFor : Stmt := match sBody (topS 19) with | [_, .Try [f] _ _ _ _, _] => f | _ => default
noncomputable abbrev mTgt : Expr := match mFor with | .For t _ _ _ _ => t | _ => default
noncomputable abbrev mBody : List Stmt := match mFor with | .For _ _ b _ _ => b | _ => []
section
variable {is : List Int} {c0 : Cx} {Lm : Addr} {out : List Addr} {k : Nat} {m L G z TI TO i1 g N : Nat} {fs : List Env} {sB : Shared}
theorem add_mark {acc : List Int} (hne : acc ≠ []) (hlen : acc.length ≤ 10) (j x : Int) :
    WAs (CM c0 Lm out k) mTgt (.tup [.int j, .int x]) [("marks", .mu m)] [(m, acc.map .int)]
      (fun ρ'' => WS (CM c0 Lm out k) mBody ρ'' [(m, acc.map .int)] (fun F ρ₃ σ₃ => F = .next ∧ σ₃ = [(m, (acc ++ [acc.getD (acc.length - 1) 0 + x]).map .int)] ∧ sub [("marks", .mu m)] ρ₃)) := by
  refine WAs_unpack (.inr rfl) rfl rfl ?_
  refine WAss_cons ?_
  walk_at "v"
  refine WAss_cons ?_
  walk_at "v"
  refine WAss_nil ?_
  refine WS_cons ?_
  walk_at "v"
  refine ⟨m, _, rfl, .head _, ?_⟩
  walk_at "v"
  refine O2_itemL (.inr ⟨_, rfl, .head _⟩) rfl hne ?_
  walk_at "v"
  refine ⟨_, by rw [List.length_map]; unfold sizeLine; exact Nat.le_trans hlen (Nat.le_add_left _ _), .head, ?_⟩
  refine WS_nil ⟨rfl, ?_, ?_⟩
  · rw [List.map_append]; rfl
  · walk_at "sub"
noncomputable abbrev MInv (is : List Int) (c : Cx) (m L G z TI TO i1 g N : Nat) (fs : List Env) (sB : Shared) (n : Nat) (s' : Shared) : Prop := ∃ j acc, j ≤ 3 ∧ n = 4 - j ∧ LS is c m L G z TI TO i1 g N fs sB j acc s' ∧ finM is (3 - j) j acc = told is ∧ acc.length = j + 1 ∧ (j = 0 → acc = [0]) ∧ (0 < j → isErr (grAt is 0) = false)
theorem marks_for (P : LP (CM c0 Lm out k) m L G z TI TO i1 g N fs sB) {s : Shared} (S : LS is (CM c0 Lm out k) m L G z TI TO i1 g N fs sB 0 [0] s) (hf : finM is 3 0 [0] = told is) (he1 : isErr (grAt is 1) = false) (he2 : isErr (grAt is 2) = false)
    {E : Value → Shared → Prop} {Qf : Flow → Shared → Prop} (hE : ∀ e s', isErr (grAt is 0) = true → HE (CM c0 Lm out k) m fs sB [0] e s' → E e s') (hQ : ∀ s', isErr (grAt is 0) = false → LR (CM c0 Lm out k) m sB (told is) s' → Qf .next s') :
    codeAny (model PG c0.w) (CM c0 Lm out k).A (.forLoop mTgt (.ref z) mBody [] (CM c0 Lm out k).env) (fun r s' => match r with
      | .ok f => Qf f s'
      | .error e => cameBackBy (model PG c0.w) (CM c0 Lm out k).A (CM c0 Lm out k).env E e s') s := by
  refine codeAny_forLoop_any (MInv is (CM c0 Lm out k) m L G z TI TO i1 g N fs sB) ?_ 4
    ⟨0, [0], by decide, rfl, S, hf, rfl, fun uu => rfl, fun h => absurd h (Nat.lt_irrefl _)⟩
  rintro n s' ⟨j, acc, hj, rfl, S', hfin, hlen, h0, h1⟩
  by_cases hlt : j < 3
  · refine wpAny_mono (draw P S' hlt) (fun r s₁ hr => ?_) fun e s₁ ⟨hg, sx, R, fl⟩ => ?_
    · cases r with
      | none =>
        obtain ⟨hg, R⟩ := hr
        obtain ⟨q, hq⟩ : ∃ q, 3 - j = q + 1 := ⟨2 - j, by (clear R hg h1 h0 hlen hfin S' hj hQ hE he2 he1 hf S P; lia)⟩
        have e1 : acc = told is := by
          rw [hq] at hfin
          unfold finM at hfin
          rw [hg] at hfin
          exact hfin
        refine wpAny_execs_nil (hQ _ ?_ (e1 ▸ R))
        by_cases hj0 : j = 0
        · subst hj0; rw [hg]; rfl
        · exact h1 (Nat.pos_of_ne_zero hj0)
      | some v =>
        obtain ⟨T, x, t, u, rfl, hg, hz, hT, hNT, next⟩ := hr
        refine wpAny_letOwnedTupleGo_zip hz fun h' hz' sb' => ?_
        have S₂ := next h' hz' sb'
        have hTz : T ≠ z := fun q => by rw [q, ← P.zN] at hNT; exact absurd hNT (Nat.not_succ_le_self _)
        have hT₂ : IsPair h' T (.int (j : Int) t) (.int x u) := (sb'.2 T hTz).trans hT
        have hTw : T ∉ wof (CM c0 Lm out k) [(m, acc.map .int)] := fun hm => by
          have : ∃ o, sB.heap.get? T = some o := P.al T (by simpa [wof] using hm)
          have h9 := (P.neB this).2.2.2.2.2.2
          exact absurd h9 (Nat.not_lt.mpr hNT)
        have hX : VR c0.w (wof (CM c0 Lm out k) [(m, acc.map .int)]) { s₁ with heap := h' } (.tup [.int (j : Int), .int x]) (.ref T) :=
          ⟨T, [.int (j : Int) t, .int x u], rfl, hTw, ⟨_, hT₂, rfl, _, rfl⟩, ⟨_, _, rfl, ⟨t, rfl⟩, _, _, rfl, ⟨u, rfl⟩, rfl⟩⟩
        have hne : acc ≠ [] := fun q => by rw [q] at hlen; cases hlen
        refine goA (add_mark (c0 := c0) (Lm := Lm) (out := out) (k := k) (m := m) hne (by exact Nat.not_lt.mp fun hn => absurd (Nat.add_le_add (Nat.le_of_eq hlen) (Nat.add_le_add hlt hn)) (by simp +arith)) (j : Int) x _ (.ref T) S₂.lr.rel hX) fun uu s₃ ρ₃ R₃ k₃ hb => ?_
        refine goX (hb s₃ R₃) fun f s₄ F ρ₄ σ₄ hF R₄ k₄ hpt => ?_
        obtain ⟨e1, e2, e3⟩ := hpt
        subst e1 e2
        cases hF
        have kv : ∀ b o, b ≠ m → b ∉ (CM c0 Lm out k).own → h'.get? b = some o → s₄.heap.get? b = some o := fun b o q1 q2 e => by
          have hv : ∀ xs : List V, b ∉ vol (CM c0 Lm out k) [(m, xs)] := fun xs hm => by
            rcases List.mem_append.mp hm with q | q
            · exact q1 (List.mem_singleton.mp q)
            · exact q2 q
          exact k₄.2.1 b o (hv _) (k₃.2.1 b o (hv _) e)
        have S₄ := LS.step P S₂ (R₄.less e3) (k₃.1.trans k₄.1) kv
        refine ⟨4 - (j + 1), by exact Nat.not_le.mp fun hn => absurd (Nat.add_le_add hn (Nat.add_le_add (Nat.le_of_eq (Nat.sub_add_cancel (show j + 1 ≤ 4 from Nat.not_lt.mp fun hn => absurd (Nat.add_le_add hlt hn) (by simp +arith)))) (Nat.le_of_eq (Nat.sub_add_cancel (show j ≤ 4 from Nat.not_lt.mp fun hn => absurd (Nat.add_le_add hlt hn) (by simp +arith))).symm))) (by simp +arith), j + 1, _, hlt, rfl, S₄, ?_, by rw [List.length_append, hlen]; rfl, (fun h => nomatch h), fun uu => ?_⟩
        · obtain ⟨q, hq⟩ : ∃ q, 3 - j = q + 1 := ⟨2 - j, by (clear S₄ kv k₄ R₄ e3 hb k₃ R₃ hne hX hTw hT₂ hTz S₂ sb' hz' next hNT hT hz hg h1 h0 hlen hfin S' hj hQ hE he2 he1 hf S P; omega)⟩
          have hq' : 3 - (j + 1) = q := by exact Nat.le_antisymm (Nat.not_lt.mp fun hn => absurd (Nat.add_le_add (Nat.le_of_eq hq) (Nat.add_le_add hn (Nat.add_le_add (Nat.le_of_eq (Nat.sub_add_cancel (show j ≤ 3 from Nat.not_lt.mp fun hn => absurd (Nat.add_le_add hlt hn) (by simp +arith))).symm) (Nat.le_of_eq (Nat.sub_add_cancel (show j + 1 ≤ 3 from Nat.not_lt.mp fun hn => absurd (Nat.add_le_add hlt hn) (by simp +arith))))))) (by simp +arith)) (Nat.not_lt.mp fun hn => absurd (Nat.add_le_add (Nat.le_of_eq hq.symm) (Nat.add_le_add hn (Nat.add_le_add (Nat.le_of_eq (Nat.sub_add_cancel (show j ≤ 3 from Nat.not_lt.mp fun hn => absurd (Nat.add_le_add hlt hn) (by simp +arith)))) (Nat.le_of_eq (Nat.sub_add_cancel (show j + 1 ≤ 3 from Nat.not_lt.mp fun hn => absurd (Nat.add_le_add hlt hn) (by simp +arith))).symm)))) (by simp +arith))
          rw [hq] at hfin
          rw [hq', ← hfin]
          conv => rhs; unfold finM
          rw [hg]
        · by_cases hj0 : j = 0
          · subst hj0; rw [hg]; rfl
          · exact h1 (Nat.pos_of_ne_zero hj0)
    · have hj0 : j = 0 := by
        have : j = 0 ∨ j = 1 ∨ j = 2 := by (clear fl R hg h1 h0 hlen hfin S' hj hQ hE he2 he1 hf S P; lia)
        rcases this with q | q | q
        · exact q
        · rw [q] at hg; rw [hg] at he1; cases he1
        · rw [q] at hg; rw [hg] at he2; cases he2
      have ha := h0 hj0
      subst ha hj0
      exact held_of P (fun s' h => hE _ s' (by rw [hg]; rfl) h) R fl
  · have e3 : j = 3 := by exact Nat.le_antisymm hj (Nat.not_lt.mp hlt)
    subst e3
    have e1 : acc = told is := hfin
    obtain ⟨a, b, hTO⟩ := S'.to_
    refine pyNext_zipG (a := a) (b := b) P.TIz P.TOz S'.zz S'.ti fun h₁ z₁ sb₁ => ?_
    refine nextOf_range_end (s := { s' with heap := h₁ }) S'.lr.rel.ok.hand ((sb₁.2 i1 P.i1z).trans S'.it) (by decide) fun h₂ e sb₂ he => ?_
    have z₂ : IsZip h₂ z TI TO .ellipsis := sb₂ z _ P.i1z.symm z₁
    refine ⟨z₂, fun h₃ z₃ sb₃ => .inl ⟨?_, ?_⟩⟩
    · obtain ⟨o, ho, hc⟩ := he
      refine ⟨o, (sb₃.2 e fun q => ?_).trans ho, hc⟩
      rw [q, z₂] at ho; cases ho; exact absurd hc (by simp)
    · refine wpAny_execs_nil (hQ _ (h1 (by decide)) (e1 ▸ S'.lr.quiet P (S'.lr.st.trans (.mk' _ _ (Nat.le_refl _))) (Nat.le_refl _) fun b o hb e => ?_))
      obtain ⟨q1, _, _, q4, _⟩ := P.neB hb
      exact (sb₃.2 b q1).trans (sb₂ b o q4 ((sb₁.2 b q1).trans e))
end
end
section
open PySem PySem.W PySem.Calls PyProof PyProof.Rows PySem.SeqAt
structure FinQ (c : Cx) (m : Nat) (fs : List Env) (sB : Shared) (acc : List Int) (s : Shared) : Prop where
  ls : ∃ vs, s.heap.PlainList m (List.toArray vs) ∧ IntsAre vs acc
  st : Stp sB s
  old : ∀ b o, b ≠ m → b ∉ c.own → b ∉ fad fs → sB.heap.get? b = some o → s.heap.get? b = some o
  sl : ∀ b ∈ fad fs, ∀ o, sB.heap.get? b = some o → ∃ sl, s.heap.get? b = some { o with slots := sl }
section
variable {c : Cx} {m L G z TI TO i1 g N : Nat} {fs : List Env} {sB : Shared}
theorem LR.fin (P : LP c m L G z TI TO i1 g N fs sB) {acc : List Int} {s : Shared} (R : LR c m sB acc s) : FinQ c m fs sB acc s := by
  obtain ⟨_, _, vs, l, r⟩ := R.rel.muts _ (.head _)
  exact ⟨⟨vs, l, ints_are r⟩, R.st, fun b o h1 h2 uu e => R.old b o h1 h2 e, fun b hb o e => ⟨o.slots, R.old b o (P.fa b hb).2.2 (P.fa b hb).2.1 e⟩⟩
theorem caught_ret (P : LP c m L G z TI TO i1 g N fs sB) (hh : ∀ b ∈ fad fs, c.h₀.get? b = none) {acc : List Int} {e : Value} {s' : Shared} (H : HE c m fs sB acc e s') (hk : c.env.kindOf "marks" = some .local) (hkv : c.env.kindOf "ValueError" = some .globalImplicit)
    {np p1 p2 p3 p4 hp : Pos} {k1 k2 : Nat} {Q : Flow → Shared → Prop} {E : Value → Shared → Prop} (hE : ∀ e s, E e s ↔ False)
    (h : ∀ T s'', IsPair s''.heap T (.bool true) (.ref m) → sB.heap.get? T = none → FinQ c m fs sB acc s'' → Q (.ret (.ref T)) s'')
    (he1 : starEach [.Constant (.bool true) k1 p1, .Name "marks" p2] c.env = (false, eval (.Constant (.bool true) k1 p1) c.env) :: starEach [.Name "marks" p2] c.env := by walk_at "r")
    (he2 : starEach [.Name "marks" p2] c.env = (false, eval (.Name "marks" p2) c.env) :: starEach [] c.env := by walk_at "r") :
    wpAny (model PG c.w) c.A (noteFrame e c.env) (fun uu s₂ => wpAny (model PG c.w) c.A (setFlight e none) (fun uu s₃ =>
      wpAny (model PG c.w) c.A (handleBy e c.env [.ExceptHandler (some (.Name "ValueError" np)) none [.Return (some (.Tuple [.Constant (.bool true) k1 p1, .Name "marks" p2] k2 p3)) p4] hp]) Q E s₃) E s₂) E s' := by
  obtain rfl : E = fun uu uu => False := funext fun e => funext fun s => propext (hE e s)
  obtain ⟨sx, ea, a0, rfl, R, st, hh₁, hup⟩ := H
  refine wpAny_noteFrame_againW P.hf hh₁.2.2.2 ?_
  refine wpAny_landsW hh₁ fun h₅ hfl₅ hsm₅ => ?_
  have Fmem : ∀ b ∈ fad (c.env :: fs), b = c.env.locals ∨ b ∈ fad fs := fun b hb => by
    unfold fad at hb
    rw [List.filterMap_cons, P.hf] at hb
    exact List.mem_cons.mp hb
  have keep : ∀ {h' : Heap}, (hideAll sx.heap (fad (c.env :: fs))).StaysIn h' → ∀ b o, b ∉ fad (c.env :: fs) → sx.heap.get? b = some o → h'.get? b = some o := fun st b o hb e => st b o (hideAll_get _ e hb)
  have ffa : FF (c.env :: fs) sx.heap := LR.ff P R
  have rel : ∀ {h' : Heap} {e0 a0}, Heap.FlyingW (hideAll sx.heap (fad (c.env :: fs))) (c.env :: fs) e0 VE a0 h' → sx.heap.UpToSlots h' → Rel c [("marks", .mu m)] [(m, acc.map .int)] { s' with heap := h' } := fun hf hs =>
    R.rel.slots (F := fad (c.env :: fs)) (fun b hb => (Fmem b hb).imp id fun q => ⟨(P.fa b q).1, (P.fa b q).2.1, (by rw [P.cl]; intro z; cases z), hh b q⟩)
      (fun b hb => by
        obtain ⟨env, he, hf'⟩ := List.mem_filterMap.mp hb
        obtain ⟨_, L, o, hf2, ho, _⟩ := (ffa.slots hs) env he
        rw [hf'] at hf2
        exact ⟨o, (Option.some.inj hf2) ▸ ho⟩) (st.trans (.mk' _ _ (Nat.le_refl _))) (keep hf.1) hs
  have R₅ := rel hfl₅ (hup.trans hsm₅)
  obtain ⟨ob, hob, hobc⟩ := hfl₅.there
  refine wpAny_handleBy_builtin (X := "ValueError") (T := "ValueError") (b := true) F.isExc_ValueError F.notTuple_ValueError (by rw [isSubtype_type]; kernel_rfl) ?_
  refine Name_function_global R₅.ok.kind hkv (loadGlobal_builtin (s := { s' with heap := h₅ }) (R₅.ok.glob ▸ R₅.stat.T.g) (mg_none_of R₅.stat.K R₅.stat.T.g rfl) (R₅.ok.blt ▸ R₅.stat.T.b) ((R₅.stat.T.builtins "ValueError" (by decide)).trans Boot.«ValueError») ⟨rfl, ⟨ob, hob, hobc⟩, ?_⟩) (by decide)
  show wpAny _ _ (setFlight (.ref ea) none) _ _ _
  refine lands_againW (s := { s' with heap := h₅ }) hfl₅ fun h₆ hfl₆ hsm₆ => ?_
  have hup₆ : sx.heap.UpToSlots h₆ := (hup.trans hsm₅).trans hsm₆
  have R₆ := rel hfl₆ hup₆
  obtain ⟨mm, hN, hl⟩ := R₆.loc
  obtain ⟨v, hv, hvm⟩ := (hl "marks" (.mu m) rfl).1 hk
  have hvm' : v = .ref m := hvm
  subst hvm'
  refine wpAny_execs_cons (wpAny_Return_some (Tuple_ (wpAny_items_cons (wpAny_Constant_bool ?_) he1)))
  refine wpAny_items_cons (wpAny_Name (wpAny_loadName_local (s := { s' with heap := h₆ }) R₆.ok.kind hk hN hv ?_) (by decide)) he2
  refine wpAny_items_nil (wpAny_newTuple ?_)
  have kp : KeepE { s' with heap := h₆ } { s' with heap := h₆.push { cls := .type "tuple", data := .seq #[.bool true, .ref m] } } := .mk' (stays_push _ _) (Nat.le_refl _)
  have fT : sB.heap.get? h₆.objs.size = none := by
    cases e : sB.heap.get? h₆.objs.size with
    | none => rfl
    | some o =>
      have hb : ∃ o', h₆.get? h₆.objs.size = some o' := by
        by_cases q : h₆.objs.size ∈ fad (c.env :: fs)
        · obtain ⟨env, he, hf'⟩ := List.mem_filterMap.mp q
          obtain ⟨_, L', o', hf2, ho, _⟩ := (ffa.slots hup₆) env he
          rw [hf'] at hf2
          exact ⟨o', (Option.some.inj hf2) ▸ ho⟩
        · by_cases q2 : h₆.objs.size ∈ wof c [(m, acc.map .int)]
          · exact R₆.al _ q2
          · exact ⟨o, keep hfl₆.1 _ o q (R.old _ o (fun q3 => q2 (q3 ▸ .head _)) (fun q3 => q2 (List.mem_append_right _ (List.mem_append_left _ q3))) e)⟩
      obtain ⟨o', e'⟩ := hb
      exact absurd (Heap.lt_size e') (Nat.lt_irrefl _)
  obtain ⟨_, _, vs, l, r⟩ := R₆.muts _ (.head _)
  refine h _ _ (Heap.get?_push_size _ rfl) fT ⟨⟨vs, l.at fun o e => kp.2 _ o e, ints_are r⟩, (R.st.trans st).trans ((Stp.mk' _ _ (Nat.le_refl _)).trans kp.1), fun b o h1 h2 h3 e => kp.2 b o (keep hfl₆.1 b o (fun q => (Fmem b q).elim (fun z => h2 (z ▸ R.rel.ok.lown)) h3) (R.old b o h1 h2 e)), fun b hb o e => ?_⟩
  obtain ⟨env, he, hf'⟩ := List.mem_filterMap.mp hb
  obtain ⟨_, L', o', hf2, ho, hd⟩ := P.ff env he
  rw [hf'] at hf2
  obtain rfl := Option.some.inj hf2
  rw [e] at ho; cases ho
  obtain ⟨sl, e2⟩ := hup₆ b o (R.old b o (P.fa b hb).2.2 (P.fa b hb).2.1 e) hd
  exact ⟨sl, kp.2 b _ e2⟩
end
end
section
open PySem PySem.W PySem.Calls PyProof PyProof.Rows PySem.SeqAt
theorem kp193 : Kp (.ref 193) := Kp.stat fun w => by kernel_rfl
noncomputable abbrev mIter : Expr := match mFor with | .For _ i _ _ _ => i | _ => default
theorem gens_le {a b : Array GenState} (h : GOk a b) : a.size ≤ b.size := by
  by_cases h0 : a.size = 0
  · exact Nat.not_lt.mp fun hn => absurd (Nat.add_le_add (Nat.le_of_eq h0) hn) (by simp +arith)
  · have hi : a.size - 1 < a.size := by exact Nat.not_le.mp fun hn => (Nat.le_total 1 a.size).elim (fun hs2 => absurd (Nat.add_le_add hn (Nat.le_of_eq (Nat.sub_add_cancel hs2))) (by simp +arith)) (fun hs2 => (Nat.lt_or_gt_of_ne h0).elim (fun hd1 => absurd hd1 (by simp +arith)) (fun hd1 => absurd (Nat.add_le_add hn (Nat.add_le_add (Nat.le_of_eq (Nat.sub_eq_zero_of_le hs2)) hd1)) (by simp +arith)))
    have h1 := h.2 (a.size - 1) _ (Array.getElem?_eq_getElem hi)
    have := (Array.getElem?_eq_some_iff.mp h1).1
    omega
section
variable {is : List Int} {c0 : Cx} {Lm : Addr} {out : List Addr} {m : Nat} {fs : List Env} {sB : Shared}
theorem eval_zip (hlen : is.length = 3) (hfr : (CM c0 Lm out 3).A.frames = some ((CM c0 Lm out 3).env :: fs)) (ff : FF fs sB.heap) (fa : ∀ b ∈ fad fs, b ∈ out ∧ b ∉ (CM c0 Lm out 3).own ∧ b ≠ m)
    (R : Rel (CM c0 Lm out 3) [("marks", .mu m), ("sizes", .list (is.map .int))] [(m, [0].map .int)] sB) :
    wpAny (model PG c0.w) (CM c0 Lm out 3).A (eval mIter (CM c0 Lm out 3).env) (fun zv s => ∃ L G z TI TO i1 g N, zv = .ref z ∧ LP (CM c0 Lm out 3) m L G z TI TO i1 g N fs sB ∧ LS is (CM c0 Lm out 3) m L G z TI TO i1 g N fs sB 0 [0] s) (fun uu uu => False) sB := by
  refine wpAny_Call_NameR (goV ((WE_blt (c := CM c0 Lm out 3) (x := "zip") (v := .type "zip") (Q := fun X => X = .stat (.type "zip")) rfl (fun w => rfl) (by with_unfolding_all rfl) rfl) sB R) fun fv s₁ X hX k₁ e => ?_)
  subst e
  cases hX
  have R₁ := R.keepE k₁
  refine callWith_gen (c := CM c0 Lm out 3) (first := []) Kp.type R₁ (by with_unfolding_all rfl) (wpAny_items_cons ?_ (by with_unfolding_all rfl))
  refine goV ((show WE (CM c0 Lm out 3) _ [("marks", .mu m), ("sizes", .list (is.map .int))] [(m, [0].map .int)] (fun X => X = .rng 0 3 1) by walk_at "v"; rfl) s₁ R₁) fun rv s₂ X hX k₂ e => ?_
  subst e
  obtain ⟨r, t, u, w, rfl, hrW, hrng⟩ := hX
  have R₂ := R₁.keepE k₂
  refine wpAny_items_cons ?_ (by with_unfolding_all rfl)
  refine wpAny_Call_NameR (goV ((WE_glob (c := CM c0 Lm out 3) (x := "_grouping_intervals") (v := .ref 193) (X := .stat (.ref 193)) (Q := fun X => X = .stat (.ref 193)) rfl (fun w => rfl) (fun uu uu uu => rfl) rfl) s₂ R₂) fun fv s₃ X hX k₃ e => ?_)
  subst e
  cases hX
  have R₃ := R₂.keepE k₃
  refine callWith_gen (c := CM c0 Lm out 3) (first := []) kp193 R₃ (by with_unfolding_all rfl) (wpAny_items_cons ?_ (by with_unfolding_all rfl))
  refine goV ((show WE (CM c0 Lm out 3) _ [("marks", .mu m), ("sizes", .list (is.map .int))] [(m, [0].map .int)] (fun X => X = .list (is.map .int)) by walk_at "v"; rfl) s₃ R₃) fun sv s₄ X hX k₄ e => ?_
  subst e
  have R₄ := R₃.keepE k₄
  refine wpAny_items_nil ⟨R₄.stat.K, ?_⟩
  show wpAny _ _ (call (.ref 193) [sv]) _ _ s₄
  refine call_gen (c := CM c0 Lm out 3) R₄ hX fun L G s₅ k₅ hL hG hLG hgen hgens RG₅ => ?_
  refine wpAny_items_nil ⟨(R₄.keepE k₅).stat.K, ?_⟩
  show wpAny _ _ (call (.type "zip") [.ref r, .ref G]) _ _ s₅
  have hr₅ : IsRange s₅.heap r 0 3 1 t u w := k₅.2 _ _ (k₄.2 _ _ (k₃.2 _ _ hrng))
  refine call_zipG hr₅ hgen (by decide) fun h' zz ti to_ it hsz keep => ?_
  have K : KeepE sB s₅ := (((k₁.trans k₂).trans k₃).trans k₄).trans k₅
  have Kz : KeepE s₅ { s₅ with heap := h' } := .mk' keep (Nat.le_refl _)
  have new : ∀ b, s₅.heap.objs.size ≤ b → sB.heap.get? b = none := fun b hb => by
    cases e : sB.heap.get? b with
    | none => rfl
    | some o => exact absurd (Heap.lt_size (K.2 _ _ e)) (Nat.not_lt.mpr hb)
  have old4 : ∀ b, s₄.heap.get? b = none → sB.heap.get? b = none := fun b hb => by
    cases e : sB.heap.get? b with
    | none => rfl
    | some o => have := (((k₁.trans k₂).trans k₃).trans k₄).2 _ _ e; rw [hb] at this; cases this
  have Lal : ∃ o, s₅.heap.get? L = some o := (RG₅ (CM c0 Lm out 3).A R₄.ok.hand (by have := R₄.ok.depth; exact Nat.le_trans (Nat.le_add_right _ _) this) (by have := R₄.ok.units; exact Nat.le_trans (Nat.le_add_right _ _) this)).al L (List.mem_append_right _ (.head _))
  have Lt : L < s₅.heap.objs.size := by obtain ⟨o, e⟩ := Lal; exact Heap.lt_size e
  have Gt : G < s₅.heap.objs.size := by obtain ⟨o, _, _, e, _⟩ := hgen; exact Heap.lt_size e
  generalize hn : s₅.heap.objs.size = n at *
  have P : LP (CM c0 Lm out 3) m L G (n + 3) (n + 1) (n + 2) n s₄.gens.size (n + 4) fs sB := by
    have Lt' : @LT.lt Nat _ L n := Lt
    have Gt' : @LT.lt Nat _ G n := Gt
    have hLn : ∀ k, @Ne Nat L (n + k) := fun k => Nat.ne_of_lt (Nat.lt_of_lt_of_le Lt' (Nat.le_add_right n k))
    have hGn : ∀ k, @Ne Nat G (n + k) := fun k => Nat.ne_of_lt (Nat.lt_of_lt_of_le Gt' (Nat.le_add_right n k))
    refine ⟨hfr, rfl, Nat.le_refl _, rfl, ?_, ?_, ?_, ?_, ?_, ?_, ?_, ?_, ?_, ?_, ?_, ?_, ?_, hLG, new _ (Nat.le_add_right _ _), new _ (Nat.le_add_right _ _), new _ (Nat.le_add_right _ _), new _ (Nat.le_refl _), old4 L hL, old4 G hG, rfl, ?_, ?_, ?_, ?_, fun b o e => ?_, ?_, R.base, fun a ha => R.al a ha, ff, fa⟩
    all_goals first
      | exact hLn _
      | exact hGn _
      | exact hLn 0
      | exact hGn 0
      | exact fun q => absurd (Nat.add_left_cancel q) (by decide)
      | exact Nat.ne_of_lt (Nat.lt_add_of_pos_right (by decide))
      | exact Nat.ne_of_gt (Nat.lt_add_of_pos_right (by decide))
      | exact Nat.add_lt_add_left (by decide) n
      | exact Nat.lt_add_of_pos_right (by decide)
      | exact Nat.lt_of_lt_of_le Gt' (Nat.le_add_right _ _)
      | skip
    · have := Heap.lt_size (K.2 _ _ e)
      rw [hn] at this
      exact Nat.lt_of_lt_of_le this (Nat.le_add_right _ _)
    · exact gens_le (((k₁.trans k₂).trans k₃).trans k₄).1.gens
  refine ⟨L, G, n + 3, n + 1, n + 2, n, s₄.gens.size, n + 4, rfl, P, ⟨⟨(R.keepE (K.trans Kz)).less ?_, K.1.trans Kz.1, fun b o uu uu e => Kz.2 _ _ (K.2 _ _ e)⟩, zz, ti, ⟨_, _, to_⟩, it, hgen.keeps keep, fun uu => hsz, fun uu => ?_⟩⟩
  · walk_at "sub"
  refine ⟨.fresh (.func gBody (gEnv L)), ?_, fun s'' aw h0 => ⟨rfl, ?_⟩⟩
  · show s₅.gens[_]? = _
    rw [hgens]; simp
  obtain ⟨hs'', ff''⟩ := h0 rfl
  have RGz : RelG (cZ (CM c0 Lm out 3) m L (n + 3) (n + 1) (n + 2) n) [("grouping", .list (is.map .int))] { s₅ with heap := h' } := fun A' a b d =>
    Rel.up (o := oZ (n + 3) (n + 1) (n + 2) n) (RG₅ A' a b d) Kz (fun x hx => by
      have hx' : n ≤ x := by
        simp only [List.mem_cons, List.not_mem_nil, or_false] at hx
        rcases hx with q | q | q | q <;> rw [q] <;> first | exact Nat.le_refl _ | exact Nat.le_add_right _ _
      exact size_fresh (by rw [hn]; exact hx')) (fun x hx => by
      simp only [List.mem_cons, List.not_mem_nil, or_false] at hx
      rcases hx with q | q | q | q
      · exact ⟨_, q ▸ zz⟩
      · exact ⟨_, q ▸ ti⟩
      · exact ⟨_, q ▸ to_⟩
      · exact ⟨_, q ▸ it⟩)
  have hLo : L ∉ (cZ (CM c0 Lm out 3) m L (n + 3) (n + 1) (n + 2) n).out := fun hm => by
    rcases List.mem_append.mp hm with q | q
    · simp only [List.mem_cons, List.not_mem_nil, or_false] at q
      rcases q with q | q | q | q
      · exact absurd Lt (by rw [q]; exact Nat.not_lt.mpr (Nat.le_add_right _ _))
      · exact absurd Lt (by rw [q]; exact Nat.not_lt.mpr (Nat.le_add_right _ _))
      · exact absurd Lt (by rw [q]; exact Nat.not_lt.mpr (Nat.le_add_right _ _))
      · exact absurd Lt (by rw [q]; exact Nat.lt_irrefl _)
    · obtain ⟨o, e⟩ := P.al L (by simpa [wof] using q)
      rw [P.bL] at e; cases e
  have hgf := gen_fresh (is := is) (c := CM c0 Lm out 3) (σ := [(m, [])]) (L := L) (o := oZ (n + 3) (n + 1) (n + 2) n) (outer := (CM c0 Lm out 3).env :: fs) (A := (CM c0 Lm out 3).A.in1.in1) (s := s'') hlen R.ok.hand
    (by have := R.ok.depth; show (CM c0 Lm out 3).A.depth ≤ 580; have e3 : (CM c0 Lm out 3).k = 3 := rfl; rw [e3] at this; exact Nat.not_lt.mp fun hn => absurd (Nat.add_le_add this hn) (by simp +arith)) (by have := R.ok.units; show (CM c0 Lm out 3).A.units + 1 + 1 ≤ 8900; have e3 : (CM c0 Lm out 3).k = 3 := rfl; rw [e3] at this; exact Nat.not_lt.mp fun hn => absurd (Nat.add_le_add this hn) (by simp +arith)) hfr
    (aw.rel (fun b hb => by rw [List.mem_singleton.mp hb]; exact hLo) rfl RGz) hLo ff'' (by
      obtain ⟨o, e⟩ := aw.2.1 (n + 3) (List.mem_append_left _ (.head _))
      exact ⟨n + 3, o, e, hs''.symm⟩)
  rw [hs''] at hgf
  exact hgf
end
end
section
open PySem PySem.W PySem.Calls PyProof PyProof.Rows PySem.SeqAt
noncomputable def held {K : Type} [DecidableEq K] (ks : List K) : (K → Bool) × Nat :=
  ks.foldl (fun p x => (fun y => p.1 y || decide (y = x), if p.1 x = true then p.2 else p.2 + 1)) (fun uu => false, 0)
theorem held_snoc {K : Type} [DecidableEq K] (ks : List K) (x : K) : held (ks ++ [x]) = (fun y => (held ks).1 y || decide (y = x), if (held ks).1 x = true then (held ks).2 else (held ks).2 + 1) := by
  unfold held
  rw [List.foldl_append]
  rfl
theorem held_take {K : Type} [DecidableEq K] (ks : List K) (d : K) (i : Nat) (h : i < ks.length) : held (ks.take (i + 1)) = (fun y => (held (ks.take i)).1 y || decide (y = ks.getD i d), if (held (ks.take i)).1 (ks.getD i d) = true then (held (ks.take i)).2 else (held (ks.take i)).2 + 1) := by
  have e : ks.take (i + 1) = ks.take i ++ [ks.getD i d] := by
    rw [List.take_add_one, List.getElem?_eq_getElem h, List.getD_eq_getElem?_getD, List.getElem?_eq_getElem h]; rfl
  rw [e, held_snoc]
theorem held_le {K : Type} [DecidableEq K] (ks : List K) (d : K) : ∀ i, i ≤ ks.length → (held (ks.take i)).2 ≤ i
  | 0, _ => by rw [List.take_zero]; exact Nat.le_refl _
  | i + 1, h => by
    rw [held_take ks d i h]
    have ih := held_le ks d i (by exact Nat.le_of_succ_le h)
    show (if (held (ks.take i)).1 (ks.getD i d) = true then (held (ks.take i)).2 else (held (ks.take i)).2 + 1) ≤ i + 1
    split <;> omega
section
variable {K : Type} [DecidableEq K] {w : World} {knd : KeyKind PG w K} {A : Around} {I S : Addr} {items : Array Value} {l : Addr}
theorem fill_set (hh : A.handled = none) (hlI : l ≠ I) (hSI : S ≠ I) (hSl : S ≠ l) (ks : List K) (d : K) (hsz : items.size = ks.length) (hks : ∀ i v, items[i]? = some v → knd.is (ks.getD i d) v = true ∧ v.scannable = true) (hb : ks.length + 1 < scanBound) {R : Result → Shared → Prop} :
    ∀ (k i : Nat) (s : Shared), ks.length - i = k → i ≤ ks.length → s.heap.IsListIter I l i → s.heap.IsList l items → s.heap.SetOf knd S (held (ks.take i)).1 (held (ks.take i)).2 →
      (∀ h' tk, @LE.le Nat _ s.toks tk → (∀ b o, b ≠ S → b ≠ I → s.heap.get? b = some o → h'.get? b = some o) → h'.SetOf knd S (held ks).1 (held ks).2 → R (.ok (.ret .none)) { s with heap := h', toks := tk }) →
      codeAny (model PG w) A (.builtin "set.update.loop" ⟨[.ref S, .ref I], []⟩) R s := by
  intro k
  induction k with
  | zero =>
    intro i s hk hi hit hl hS hR
    obtain rfl : i = ks.length := by (clear hR hS hl hit hb hks hsz hSl hSI hlI hh; lia)
    refine codeAny_builtin F.entry_set_update_loop ?_
    rw [Around.under_plainId F.plain_set_update_loop _]
    show wpAny _ A.in1 (pyNext (.ref I) >>= _) _ _ s
    refine wpAny_bind (wpAny_pyNext_list_end hh hit hl (by rw [← hsz]; simp) fun h' he => ?_)
    refine wpAny_pure (hR h' s.toks (Nat.le_refl _) (fun b o uu h2 e => he b o h2 e) ?_)
    rw [List.take_of_length_le (Nat.le_refl _)] at hS
    obtain ⟨o, es, ep, t, ho, rest⟩ := hS
    exact ⟨o, es, ep, t, he S o hSI ho, rest⟩
  | succ k ih =>
    intro i s hk hi hit hl hS hR
    have hlt : i < ks.length := by exact Nat.not_le.mp fun hn => absurd (Nat.add_le_add (Nat.le_of_eq hk.symm) (Nat.add_le_add hn (Nat.le_of_eq (Nat.sub_add_cancel (show i ≤ ks.length from Nat.not_lt.mp fun hn => absurd (Nat.add_le_add hi hn) (by simp +arith)))))) (by simp +arith)
    have hx : items[i]? = some (items[i]'(by exact Nat.not_le.mp fun hn => absurd (Nat.add_le_add (Nat.le_of_eq hsz.symm) (Nat.add_le_add hlt hn)) (by simp +arith))) := Array.getElem?_eq_getElem (by exact Nat.not_le.mp fun hn => absurd (Nat.add_le_add (Nat.le_of_eq hsz.symm) (Nat.add_le_add hlt hn)) (by simp +arith))
    obtain ⟨hkey, hsc⟩ := hks i _ hx
    generalize items[i]'(by exact Nat.not_le.mp fun hn => absurd (Nat.add_le_add (Nat.le_of_eq hsz.symm) (Nat.add_le_add hlt hn)) (by simp +arith)) = v at hx hkey hsc
    refine codeAny_builtin F.entry_set_update_loop ?_
    rw [Around.under_plainId F.plain_set_update_loop _]
    show wpAny _ A.in1 (pyNext (.ref I) >>= _) _ _ s
    refine wpAny_bind (wpAny_pyNext_list_item hit hl hx fun h₁ hit₁ hs₁ => ?_)
    have hS₁ : h₁.SetOf knd S (held (ks.take i)).1 (held (ks.take i)).2 := by
      obtain ⟨o, es, ep, t, ho, rest⟩ := hS
      exact ⟨o, es, ep, t, (hs₁.2 S hSI).trans ho, rest⟩
    show wpAny _ A.in1 (holding [v] (setAdd S v) >>= _) _ _ _
    refine wpAny_bind (wpAny_holding ?_)
    unfold setAdd
    refine wpAny_holding (wpAny_bind (knd.pyHash (s := { s with heap := h₁ }) hkey ?_))
    have hn := held_le ks d i hi
    refine wpAny_setAddHashed_of (s := { s with heap := h₁, toks := s.toks + 1 }) hkey hsc hS₁ (by omega) fun h₂ hs₂ hS₂ => ?_
    refine wpAny_pure ⟨plainId_quiet F.plain_set_update_loop _, ih (i + 1) _ (by exact Nat.le_antisymm (Nat.not_lt.mp fun hn => absurd (Nat.add_le_add (Nat.le_of_eq hk) (Nat.add_le_add hn (Nat.add_le_add (Nat.le_of_eq (Nat.sub_add_cancel (show i ≤ ks.length from Nat.not_lt.mp fun hn => absurd (Nat.add_le_add hlt hn) (by simp +arith))).symm) (Nat.le_of_eq (Nat.sub_add_cancel (show i + 1 ≤ ks.length from Nat.not_lt.mp fun hn => absurd (Nat.add_le_add hlt hn) (by simp +arith))))))) (by simp +arith)) (Nat.not_lt.mp fun hn => absurd (Nat.add_le_add (Nat.le_of_eq hk.symm) (Nat.add_le_add hn (Nat.add_le_add (Nat.le_of_eq (Nat.sub_add_cancel (show i ≤ ks.length from Nat.not_lt.mp fun hn => absurd (Nat.add_le_add hlt hn) (by simp +arith)))) (Nat.le_of_eq (Nat.sub_add_cancel (show i + 1 ≤ ks.length from Nat.not_lt.mp fun hn => absurd (Nat.add_le_add hlt hn) (by simp +arith))).symm)))) (by simp +arith))) hlt (hit₁.extBut hs₂.extBut hSI.symm) ((hl.extBut hs₁.extBut hlI).extBut hs₂.extBut hSl.symm) ?_ fun h' tk htk hk' hS' => ?_⟩
    · rw [held_take ks d i hlt]
      exact hS₂
    · exact hR h' tk (Nat.le_trans (Nat.le_succ _) htk) (fun b o h1 h2 e => hk' b o h1 h2 ((hs₂.2 b h1).trans ((hs₁.2 b h2).trans e))) hS'
end
theorem set_of_list {K : Type} [DecidableEq K] {w : World} {knd : KeyKind PG w K} {A : Around} {E : Value → Shared → Prop} {s : Shared} {l : Addr} {items : Array Value} (hh : A.handled = none) (hl : s.heap.IsList l items) (ks : List K) (d : K) (hsz : items.size = ks.length)
    (hks : ∀ i v, items[i]? = some v → knd.is (ks.getD i d) v = true ∧ v.scannable = true) (hb : ks.length + 1 < scanBound) {Q : Value → Shared → Prop}
    (hQ : ∀ h' tk, @LE.le Nat _ s.toks tk → StaysIn s.heap h' → h'.SetOf knd s.heap.objs.size (held ks).1 (held ks).2 → Q (.ref s.heap.objs.size) { s with heap := h', toks := tk }) :
    wpAny (model PG w) A (call (.type "set") [.ref l]) Q E s := by
  obtain ⟨_, _, hmro⟩ := F.called_set.mro
  have hmade := F.called_set.made
  have hsub := F.called_set.sub
  have hnt := F.called_set.notType
  have hcc := F.called_set.canCreate
  have htc := F.typeCall_set_1 (.ref l)
  generalize hS : s.heap.objs.size = S at *
  have hlS : l < S := by obtain ⟨o, e, _⟩ := hl; rw [← hS]; exact Heap.lt_size e
  refine wpAny_call (codeAny_of_tree ?_)
  show wpAny _ _ (callAny (.type "set") _) _ _ _
  refine wpAny_pure ⟨Code.quiet_builtin _ (by decide +kernel), codeAny_builtin F.entry_type_call ?_⟩
  rw [Around.under_plain (weight_type_call_type "set" [.ref l] []) rfl]
  wp_delta
  with_reducible refine wpAny_ite_false ?_ ?_
  · rfl
  with_reducible refine wpAny_ite_false ?_ ?_
  · rfl
  with_reducible refine wpAny_bind ?_
  with_reducible refine wpAny_of_eq htc ?_
  with_reducible refine wpAny_bind ?_
  with_reducible refine wpAny_of_eq hmro ?_
  with_reducible refine wpAny_ite_false ?_ ?_
  · rfl
  with_reducible refine wpAny_bind ?_
  with_reducible refine wpAny_of_eq hmade ?_
  with_reducible refine wpAny_bind ?_
  with_reducible refine wpAny_pure ?_
  with_reducible refine wpAny_bind ?_
  with_reducible refine wpAny_holding ?_
  with_reducible refine wpAny_call ?_
  refine codeAny_mono (code_set_new_1 (.ref l) (E := E) (Q₁ := fun obj s₁ => ∃ led : Bool, obj = .ref S ∧ s₁ = { s with heap := s.heap.push { cls := .type "set", dict := none, data := .set #[] 0 (.fresh 0 0 led) } }) fun led => ⟨led, by rw [hS], rfl⟩) fun r s₁ hr => ?_
  cases r with
  | error e => exact hr
  | ok fl =>
  cases fl with
  | ret obj =>
    obtain ⟨led, rfl, rfl⟩ := hr
    generalize hh1 : s.heap.push { cls := .type "set", dict := none, data := .set #[] 0 (.fresh 0 0 led) } = h₁
    have st₁ : StaysIn s.heap h₁ := hh1 ▸ stays_push _ _
    have hS₁ : h₁.get? S = some { cls := .type "set", dict := none, data := .set #[] 0 (.fresh 0 0 led) } := by rw [← hh1, ← hS]; exact Heap.get?_push_size _ rfl
    have sz₁ : h₁.objs.size = S + 1 := by rw [← hh1, Heap.size_push, hS]
    have hT : Shared.TypeIs { s with heap := h₁ } (.ref S) "set" := ⟨_, hS₁, rfl⟩
    have hli := F.called_set.init.lookup
    have hbi := F.called_set.init.bind (.ref S)
    with_reducible refine wpAny_bind ?_
    with_reducible refine wpAny_isInstance hT hsub ?_
    with_reducible refine wpAny_ite_false ?_ ?_
    · rfl
    with_reducible refine wpAny_bind ?_
    with_reducible refine wpAny_holding ?_
    wp_delta
    with_reducible refine wpAny_bind ?_
    with_reducible refine wpAny_specialOf hT hli ?_
    with_reducible refine wpAny_holding ?_
    with_reducible refine wpAny_bind ?_
    with_reducible refine wpAny_of_eq hbi ?_
    with_reducible refine wpAny_bind ?_
    with_reducible refine wpAny_call ?_
    refine codeAny_mono (codeAny_call_builtin (R := wants (fun r s₂ => r = .none ∧ ∃ h' tk, s₂ = { s with heap := h', toks := tk } ∧ @LE.le Nat _ s.toks tk ∧ StaysIn s.heap h' ∧ h'.SetOf knd S (held ks).1 (held ks).2) E) F.called_set.init.plain F.entry_set_init (check_set_init_1 hT ?_)) fun r₂ s₂ hr₂ => ?_
    · obtain ⟨⟨oc, od, odt, os⟩, hol, hoc, nl, hod⟩ := hl
      simp only at hoc hod
      subst hoc; subst hod
      have hol' := st₁ _ _ hol
      have hsls := F.sub_list_set
      have hslf := F.sub_list_frozenset
      have hne : (Value.type "list" == Value.type "dict") = false := by decide
      have hl1 : h₁.IsList l items := ⟨_, hol', rfl, nl, rfl⟩
      unfold Builtin.«set.__init__» noKeywords Builtin.Frozenset.updateFrom
      generalize hPI : pyIter = PI
      repeat (first
        | with_reducible first
          | refine wpAny_pure ?_
          | refine wpAny_bind ?_
          | refine wpAny_holding ?_
          | refine wpAny_typeOf hT ?_
          | refine wpAny_load' hS₁ ?_
          | refine wpAny_load' hol' ?_
          | refine wpAny_load' hl1 ?_
        | (with_reducible refine wpAny_ite_false ?_ ?_; focus (rfl; done))
        | (with_reducible refine wpAny_ite_true ?_ ?_; focus (rfl; done))
        | wp_delta
        | wp_step)
      subst hPI
      refine wpAny_pyIter_list hl1 ?_
      refine wpAny_bind (wpAny_runValue ?_)
      show codeAny _ _ (.builtin "set.update.loop" ⟨[.ref S, .ref h₁.objs.size], []⟩) _ _
      rw [sz₁]
      have hit : (h₁.push { cls := .type "list_iterator", data := .fields #[.ref l, .int 0 0] }).IsListIter (S + 1) l 0 := ⟨_, by rw [← sz₁]; exact Heap.get?_push_size _ rfl, rfl, rfl⟩
      refine fill_set (A := A.in1.in1) (knd := knd) (by simp [hh]) (fun e => ?_) (fun e => absurd e (Nat.ne_of_lt (Nat.lt_succ_self S))) (fun e => absurd e (Nat.ne_of_gt hlS)) ks d hsz hks hb (ks.length - 0) 0 { s with heap := h₁.push { cls := .type "list_iterator", data := .fields #[.ref l, .int 0 0] } } rfl (Nat.zero_le _) hit (hl1.push _) ?_ fun h' tk htk hk hS' => ?_
      · exact absurd e (Nat.ne_of_lt (Nat.lt_succ_of_lt hlS))
      · rw [List.take_zero]
        exact (setObjOf_fresh (knd := knd) led).setOf (Heap.get?_push_of_some _ hS₁) (by unfold scanBound; exact Nat.succ_pos _)
      · refine wpAny_pure ?_
        show wpAny _ _ (ret Value.none) _ _ _
        refine wpAny_pure ⟨rfl, h', tk, rfl, htk, fun b o e => hk b o (fun q => ?_) (fun q => ?_) (Heap.get?_push_of_some _ (st₁ _ _ e)), hS'⟩
        · have := Heap.lt_size e; rw [q, hS] at this; exact absurd this (Nat.lt_irrefl _)
        · have := Heap.lt_size e; rw [q, hS] at this; exact absurd this (Nat.not_lt.mpr (Nat.le_succ _))
    · cases r₂ with
      | error e => exact hr₂
      | ok fl₂ =>
        cases fl₂ with
        | ret r =>
          obtain ⟨rfl, h', tk, rfl, htk, hst, hS'⟩ := hr₂
          with_reducible refine wpAny_pure ?_
          with_reducible refine wpAny_ite_false ?_ ?_
          · rfl
          wp_delta
          wp_delta
          with_reducible refine wpAny_pure ?_
          exact hQ h' tk htk hst hS'
        | _ => exact hr₂.elim
  | _ => exact hr.elim
end
section
open PySem PySem.W PySem.Calls PyProof PyProof.Rows PySem.SeqAt
theorem conv_run {X Y : V} {y : Str} (hX : IsH X) (hY : SV Y y) (b : Bool) (hp : PlainT y) (hsz : y.cps.size ≤ 2 ^ 60) {c : Cx} {ρ : Rho} {σ : Sig} {s : Shared} {v u : Value} (hk : 1 ≤ c.k) (R : Rel c ρ σ s) (zX : VR c.w (wof c σ) s X v) (zY : VR c.w (wof c σ) s Y u) :
    wpAny (model PG c.w) c.A (call (.ref 83) [v, u] [("name", .bool b)]) (OV c σ s (fun Z => Z = .str y)) (fun uu uu => False) s := by
  refine enter (Q := RetQ fun Z => Z = Y) (ρ₀ := [("self", X), ("value", Y), ("name", .bool b)]) (k := 0) R atConv (BindsTo.of_eq (binds := [("self", v), ("value", u), ("name", .bool b)]) rfl) ⟨v, _, rfl, zX, u, _, rfl, zY, _, _, rfl, rfl, rfl⟩ (nodup_of rfl) (kindsOk_of fun n => rfl) (.inl ⟨rfl, rfl⟩) hk (fun L => ?_) ?_
  · refine WS_cons (W1_if ?_)
    walk_at "v"
    refine WC_typeS hY ?_
    walk_at "v"
    refine ite_b (fun e => ?_) fun e => ?_
    · refine WE_glob (v := .ref 48) (X := .stat (.ref 48)) rfl (fun w => rfl) (fun uu uu uu => rfl) ?_
      walk_at "v"
      refine WS_cons (W1_if ?_)
      walk_at "v"
      refine WE_search patN ?_
      walk_at "v"
      refine ⟨rfl, ?_⟩
      walk_at "v"
      refine ⟨y, hY, hsz, noFind_N hp, ?_⟩
      walk_at "v"
      rfl
    · refine WE_glob (v := .ref 53) (X := .stat (.ref 53)) rfl (fun w => rfl) (fun uu uu uu => rfl) ?_
      walk_at "v"
      refine WS_cons (W1_if ?_)
      walk_at "v"
      refine WE_search patV ?_
      walk_at "v"
      refine ⟨rfl, ?_⟩
      walk_at "v"
      refine ⟨y, hY, hsz, noFind_V hp, ?_⟩
      walk_at "v"
      rfl
  · intro L fl F' ρ' σ' s' fresh hf R' ks q
    have hke : KeepE s s' := ⟨ks.1, fun b o e => ks.2.1 b o (fun h => by
      rcases List.mem_append.mp h with h | h
      · cases h
      · rw [fresh b h] at e; cases e) e⟩
    cases F' with
    | next => subst q; cases hf; exact absurd hY (by rintro (h | h) <;> cases h)
    | ret Z =>
      obtain ⟨v, rfl, hv⟩ := hf
      subst q
      obtain ⟨t, rfl⟩ := hY.is hv
      exact ⟨.str y, ⟨t, rfl⟩, hke, rfl⟩
    | brk => exact q.elim
    | cont => exact q.elim
end
section
open PySem PySem.W PySem.Calls PyProof PyProof.Rows PySem.SeqAt
theorem getall_run (rs : List (Str × Str)) {N : V} {nm : Str} (hN : SV N nm) (hn : rs.length ≤ 1000) (hr : ∀ r ∈ rs, r.1.length ≤ 5592405) (hl : nm.length ≤ 5592405) (hp : PlainT (Txt.lower nm)) (hsz : (Txt.lower nm).cps.size ≤ 2 ^ 60) :
    Pure 121 2 [.hdr (rs.map rowV), N] (fun Z => Z = .list ((rs.filter fun r => Txt.lower r.1 == Txt.lower nm).map fun r => .str r.2)) := by
  refine pure_of atGetAll [("self", .hdr (rs.map rowV)), ("name", N)] ?_ (nodup_of rfl) (kindsOk_of fun n => rfl) fun c L out hk => ?_
  · rintro w W s vs ⟨v, _, rfl, hv, u, _, rfl, hu, rfl⟩
    exact ⟨_, rfl, v, _, rfl, hv, u, _, rfl, hu, rfl⟩
  refine WS_cons (W1_assign (by walk_at "stb") ?_)
  refine WE_conv mConv ?_
  walk_at "v"
  refine ⟨.inr ⟨_, rfl⟩, ?_⟩
  refine WE_smeth F.slot_str_lower F.type_str_lower ?_
  walk_at "v"
  refine ⟨⟨_, hN⟩, ?_⟩
  walk_at "v"
  refine WC_lower hN hl ?_
  intro s v y R zX zY
  refine goV (conv_run (.inr ⟨_, rfl⟩) (SV.str _) true hp hsz (Nat.le_refl _) R zX zY) fun u s' Z hZ k e => ⟨Z, hZ, k, ?_⟩
  subst e
  walk_at "v"
  refine WE_compF (cl := [("name", L + 1)]) (by walk_at "ck") [("name", .str (Txt.lower nm))] (by walk_at "cap") ?_
  refine WE_rows ?_
  walk_at "v"
  refine .inr ⟨_, rfl, _, src_list (.inl ⟨_, _, rfl⟩), ?_, fun i => Txt.lower (rs.getD i default).1 == Txt.lower nm, fun i => .str (rs.getD i default).2, ?_, ?_⟩
  · rw [List.length_map]; unfold sizeLine; exact Nat.le_trans hn (Nat.le_add_left _ _)
  · intro C h₀ o i Y hY
    obtain ⟨hi, rfl⟩ := map_at (d := default) hY
    have hm := hr _ (getD_in (d := default) hi)
    generalize hg : rs.getD i default = r at *
    walk_at "v"
    refine ⟨sub.one rfl (.refl _), ?_⟩
    walk_at "v"
    refine WE_smeth F.slot_str_lower F.type_str_lower ?_
    walk_at "v"
    refine O2_itemT (k := 0) (by decide) rfl ?_
    refine ⟨⟨_, SV.str _⟩, ?_⟩
    walk_at "v"
    refine WC_lower (SV.str _) hm ?_
    walk_at "v"
    refine O2_eq_str (SV.str _) (SV.str _) ?_
    walk_at "v"
    refine ⟨by show _ = (Txt.lower (rs.getD i default).1 == Txt.lower nm); rw [hg], fun uu => ?_⟩
    walk_at "v"
    refine O2_itemT (k := 1) (by decide) rfl ?_
    show V.str r.2 = .str (rs.getD i default).2
    rw [hg]
  · rw [List.length_map]
    show V.list _ = _
    rw [picks_list rs default (fun r => Txt.lower r.1 == Txt.lower nm) (fun r => .str r.2)]
theorem keys_run (rs : List (Str × Str)) (hn : rs.length ≤ 1000) : Pure 134 1 [.hdr (rs.map rowV)] (fun Z => Z = .list (rs.map fun r => .str r.1)) := by
  refine pure_of atKeys [("self", .hdr (rs.map rowV))] ?_ (nodup_of rfl) (kindsOk_of fun n => rfl) fun c L out hk => ?_
  · rintro w W s vs ⟨v, _, rfl, hv, rfl⟩
    exact ⟨_, rfl, v, _, rfl, hv, rfl⟩
  refine WS_cons ?_
  walk_at "v"
  refine WE_compF (cl := []) (by walk_at "ck") [] (by walk_at "cap") ?_
  refine WE_rows ?_
  walk_at "v"
  refine .inr ⟨_, rfl, _, src_list (.inr ⟨_, _, _, rfl⟩), ?_, fun i => true, fun i => .str (rs.getD i default).1, ?_, ?_⟩
  · rw [List.length_map]; unfold sizeLine; exact Nat.le_trans hn (Nat.le_add_left _ _)
  · intro C h₀ o i Y hY
    obtain ⟨hi, rfl⟩ := map_at (d := default) hY
    generalize hg : rs.getD i default = r at *
    refine WAs_unpack (Xs := [.str r.1, .str r.2]) (.inr rfl) rfl rfl ?_
    refine WAss_cons ?_
    walk_at "v"
    refine WAss_cons ?_
    walk_at "v"
    refine WAss_nil ⟨sub.one rfl (sub.one rfl (.refl _)), WTs_nil ⟨rfl, fun uu => ?_⟩⟩
    walk_at "v"
    show V.str r.1 = .str (rs.getD i default).1
    rw [hg]
  · rw [List.length_map]
    show V.list _ = _
    rw [picks_list rs default (fun uu => true) (fun r => .str r.1), List.filter_eq_self.mpr fun uu uu => rfl]
end
section
open PySem PySem.W PySem.Calls PyProof PyProof.Rows PySem.SeqAt
theorem add_run {rs : List (Str × Str)} {N U : V} {n u : Str} (hN : SV N n) (hU : SV U u) (hpn : PlainT n) (hpu : PlainT u) (hsn : n.cps.size ≤ 2 ^ 60) (hsu : u.length ≤ 1000) (hrs : rs.length ≤ 1000) {c : Cx} {ρ : Rho} {σ σ' : Sig} {s : Shared} {l : Addr} {v a b : Value} (hk : 2 ≤ c.k) (R : Rel c ρ σ s)
    (up : UpdAt σ l (rs.map rowV) ((rs ++ [(n, u)]).map rowV) σ') (zX : VR c.w (wof c σ) s (.mh l) v) (zN : VR c.w (wof c σ) s N a) (zU : VR c.w (wof c σ) s U b) :
    wpAny (model PG c.w) c.A (call (.ref 179) [v, a, b]) (fun z s' => z = .none ∧ Rel c ρ σ' s' ∧ KS c σ σ' s s') (fun uu uu => False) s := by
  refine enterG (Q := fun F ρ' σ'' => F = .next ∧ ∃ p xs, σ'' = (p, xs) :: σ') (ρ₀ := [("self", .mh l), ("_name", N), ("_value", U), ("_params", .edict)]) (σc := σ) (out := c.own ++ c.out) (k := 1) (vs := [v, a, b]) (kw := []) R atAdd (fun A E Q h => ?_) (nodup_of rfl) (kindsOk_of fun n => rfl) (.inr ⟨rfl, rfl⟩) hk (fun L => ?_) ?_
  · show wpAny _ A (alloc { cls := .type "dict", data := .dict #[] } >>= fun d => pure ([("self", v), ("_name", a), ("_value", b), ("_params", .ref d)] : List (Str × Value))) Q E s
    have kk : KeepE s { s with heap := s.heap.push { cls := .type "dict", data := .dict #[] } } := .mk' (stays_push _ _) (Nat.le_refl _)
    refine wpAny_bind (wpAny_alloc (wpAny_pure (h _ _ kk ?_)))
    obtain ⟨o, hl, _⟩ := atLaw.at_ c.w
    have h253 := Heap.lt_size (R.stat.K _ _ hl)
    refine ⟨v, _, rfl, zX.keeps (kk.keepW _), a, _, rfl, zN.keeps (kk.keepW _), b, _, rfl, zU.keeps (kk.keepW _), _, _, rfl, ⟨s.heap.objs.size, rfl, R.new, ?_, Heap.get?_push_size _ rfl⟩, rfl⟩
    have : s.heap.objs.size ≠ 1 := fun e => by rw [e] at h253; exact absurd h253 (by decide)
    exact beq_eq_false_iff_ne.mpr this
  · have hm : (l, rs.map rowV) ∈ σ := up.mem
    refine WS_cons (W1_assignM (by walk_at "stb") ?_)
    walk_at "v"
    intro p
    refine WS_join [("parts", .mu p), ("self", .mh l), ("_name", N), ("_params", .edict)] ((p, [.str u]) :: σ) (W1_if ?_) ?_
    · walk_at "v"
      refine O2_isNot_none_of (fun w W s v z e => ?_) ?_
      · obtain ⟨t, rfl⟩ := hU.is z; cases e
      walk_at "v"
      refine WE_conv mConv ?_
      walk_at "v"
      refine ⟨.inl ⟨_, rfl⟩, ?_⟩
      walk_at "v"
      intro s v y R zX zY
      refine goV (conv_run (.inl ⟨_, rfl⟩) hU false hpu (by have : u.cps.size = u.length := rfl; exact Nat.le_trans hsu (Nat.le_add_left _ _)) (Nat.le_refl _) R zX zY) fun r s' Z hZ k e => ⟨Z, hZ, k, ?_⟩
      subst e
      walk_at "v"
      refine ⟨p, [], rfl, .head _, ?_⟩
      walk_at "v"
      refine ⟨(p, [.str u]) :: σ, by decide, .head, ?_⟩
      walk_at "v"
      refine ⟨rfl, rfl, ?_⟩
      walk_at "sub"
    refine WS_cons (W1_for_items0 ?_)
    walk_at "v"
    refine ⟨rfl, ?_⟩
    walk_at "v"
    refine WE_rows ?_
    walk_at "v"
    refine .inl ⟨l, rfl, l, rs.map rowV, rfl, .tail _ hm, ?_⟩
    walk_at "v"
    refine WE_conv mConv ?_
    walk_at "v"
    refine ⟨.inl ⟨_, rfl⟩, ?_⟩
    walk_at "v"
    intro s v y R zX zY
    refine goV (conv_run (.inl ⟨_, rfl⟩) hN true hpn hsn (Nat.le_refl _) R zX zY) fun r s' Z hZ k e => ⟨Z, hZ, k, ?_⟩
    subst e
    walk_at "v"
    refine WE_smeth F.slot_str_join F.type_str_join ?_
    walk_at "v"
    refine ⟨⟨_, SV.lit _⟩, ?_⟩
    walk_at "v"
    refine WC_join (SV.lit _) (.inr ⟨p, rfl, .head _⟩) (SVs.map [u]) ?_ ?_
    · show (u.length + 0) + 1 * 2 ≤ 16777216
      exact Nat.not_lt.mp fun hn => absurd (Nat.add_le_add hsu hn) (by simp +arith)
    walk_at "v"
    refine ⟨(p, [.str u]) :: σ', by rw [List.length_map]; unfold sizeLine; exact Nat.le_trans hrs (Nat.le_add_left _ _), ?_, ?_⟩
    · have e : rs.map rowV ++ [V.tup [V.str n, V.str (Txt.join (Str.ofString "; ") [u])]] = (rs ++ [(n, u)]).map rowV := by
        have ej : Txt.join (Str.ofString "; ") [u] = u := by rfl
        rw [ej, List.map_append]; rfl
      rw [e]
      exact .tail up
    · walk_at "v"
      exact ⟨rfl, p, _, rfl⟩
  · intro L fl F' ρ' σ'' s' fresh hf R' ks ⟨e1, p, xs, e2⟩
    subst e1; subst e2
    cases hf
    have hw : ∀ b ∈ wof c σ, b ∈ wof (c.call fdAdd 179 L (c.own ++ c.out) 1) ((p, xs) :: σ') := fun b hb => by
      refine .tail _ ?_
      rcases List.mem_append.mp hb with q | q
      · exact List.mem_append_left _ (up.fst ▸ q)
      · exact List.mem_append_right _ (List.mem_append_right _ q)
    obtain ⟨R₂, K₂⟩ := R.back R' ks rfl rfl fresh (fun p hp => .tail _ hp) up.fst hw
    exact ⟨rfl, R₂, K₂⟩
end
section
open PySem PySem.W PySem.Calls PyProof PyProof.Rows PySem.SeqAt
theorem set_headers {w : World} {A : Around} {E : Value → Shared → Prop} {s : Shared} {x dx : Addr} {v : Value} {Q : Unit → Shared → Prop} (X : (Kf w).In s.heap) (hx : s.heap.get? x = some (instObj HC dx)) (hd : s.heap.get? dx = some emptyDict)
    (h : ∀ h', h'.get? dx = some (dictOf [⟨PyData.keyHash w.params (Str.ofString "_headers"), .str (Str.ofString "_headers") (s.toks + 1), v⟩] 1) → Heap.SameBut dx s.heap h' → Q () { s with heap := h', toks := s.toks + 2 }) :
    wpAny (model PG w) A (setAttr (.ref x) "_headers" v) Q E s := by
  have I : InstAt s.heap x (instObj HC dx) HC (some emptyDict) := ⟨hx, rfl, rfl, hd⟩
  refine set_plain X I (by kernel_rfl) ?_
  refine osa_open (s := { s with toks := s.toks + 1 }) X I (by kernel_rfl) (r := none) (by kernel_rfl) fun b => ?_
  have hh : (clsIn (Kf w) HC).any (·.hasDict) = true := by kernel_rfl
  obtain ⟨cd, hc, hd'⟩ := any_some hh
  refine wpAny_bind (wpAny_pure (wpAny_bind (wpAny_bind (wpAny_loadPart hx (wpAny_bind (Looks.here (s := { s with toks := s.toks + 1 }) (looks_clsIn X hc) ?_))))))
  rw [hd']
  refine wpAny_pure (a := some dx) (wpAny_bind (wpAny_pure (wpAny_bind ?_)))
  unfold nsSet
  refine wpAny_bind (wpAny_bind (wpAny_askSetting (wpAny_pure (wpAny_bind (wpAny_mkText (wpAny_bind (wpAny_loadPart hd ?_)))))))
  dsimp only
  have c : (!(#[] : Array DictEntry).any (·.key.isStr "_headers") && (#[] : Array DictEntry).any (·.refKey)) = false := by simp
  rw [aRefKeyMayBeTheName_at, c]
  refine wpAny_updatePart hd ?_
  have e : Obj.putName (Str.ofString "_headers") (PyData.keyHash w.params (Str.ofString "_headers")) (.str (Str.ofString "_headers") (s.toks + 1)) v emptyDict = dictOf [⟨PyData.keyHash w.params (Str.ofString "_headers"), .str (Str.ofString "_headers") (s.toks + 1), v⟩] 1 := by
    have := putName_dict (Str.ofString "_headers") (PyData.keyHash w.params (Str.ofString "_headers")) (.str (Str.ofString "_headers") (s.toks + 1)) v [] 0
    exact this
  have D' := Heap.get?_update_self (Obj.putName (Str.ofString "_headers") (PyData.keyHash w.params (Str.ofString "_headers")) (.str (Str.ofString "_headers") (s.toks + 1)) v) hd (by rw [e]; rfl)
  rw [e] at D'
  refine wpAny_bind (wpAny_lookBehind D' (pastItsLine_dict (Nat.le_of_ble_eq_true rfl)) ?_)
  exact wpAny_pure (h _ D' (Heap.SameBut.update ..))
theorem Rel.reval {c ρ σ s x X X'} (R : Rel c ρ σ s) (e : ρ.lookup x = some X) (h : ∀ v, VR c.w (wof c σ) s X v → VR c.w (wof c σ) s X' v) : Rel c ((x, X') :: ρ) σ s :=
  have hloc : ∃ m, s.heap.Ns c.env.locals m ∧ ∀ y Y, List.lookup y ((x, X') :: ρ) = some Y → Loc c σ s m y Y := by
    obtain ⟨m, hN, hl⟩ := R.loc
    refine ⟨m, hN, fun y Y ey => ?_⟩
    rw [lookup_head] at ey
    by_cases q : y = x
    · subst q
      rw [if_pos rfl] at ey; cases ey
      obtain ⟨a, b⟩ := hl _ _ e
      exact ⟨fun q => let ⟨v, p, z⟩ := a q; ⟨v, p, h v z⟩, fun q => let ⟨d, v, p, f, z⟩ := b q; ⟨d, v, p, f, h v z⟩⟩
    · rw [if_neg q] at ey; exact hl y Y ey
  ⟨R.ok, R.base, R.al, hloc, R.cel, R.muts, R.nd, R.tk⟩
theorem W1_assignIfM {c x px t b es lp ip pos ρ σ} {Q : Fl → Rho → Sig → Prop} (hk : Stb c x) (h : WI c t ρ σ (fun z => z = false ∧ WL c lp es ρ σ (fun Xs => Xs.length ≤ sizeLine ∧ ∀ a, Q .next ((x, .mu a) :: ρ) ((a, Xs) :: σ))))
    (hs : swapsWith (.IfExp t b (.List es lp) ip) (some (.Name x px)) pos.line c.env = pure false := by walk_at "r") : W1 c (.Assign [.Name x px] (.IfExp t b (.List es lp) ip) pos) ρ σ Q := fun s R => by
  refine wpAny_Assign_Name (wpAny_IfExp (wpAny_mono (h s R) (fun z s₀ hpt => ?_) fun uu uu x => x)) hs
  obtain ⟨k₀, e, h₀⟩ := hpt
  subst e
  have R₀ := R.keepE k₀
  refine wpAny_List (goL (h₀ s₀ R₀) fun vs s₁ Xs hXs k₁ ⟨hl, h₁⟩ => ⟨hXs.length ▸ hl, ?_⟩)
  have R₁ := R₀.keepE k₁
  have kp : KeepE s₁ { s₁ with heap := s₁.heap.push { cls := .type "list", data := .seq vs.toArray } } := .mk' (stays_push _ _) (Nat.le_refl _)
  have hf := fresh_none s₁.heap
  obtain ⟨R₂, K₂⟩ := R₁.alloc kp hf ⟨_, Heap.get?_push_size _ rfl⟩ (hXs.keeps (kp.keepW _)) (hXs.keep (kp.keepW _) fun b hb ⟨o, e⟩ hm => by
    rcases List.mem_cons.mp hm with q | q
    · rw [q, hf] at e; cases e
    · exact hb q)
  exact storeName_rel (X := .mu s₁.heap.objs.size) R₂ rfl hk fun s' R' k => ⟨.next, _, _, rfl, R', .trans R₁ (k₀.trans k₁).ks (.trans R₂ K₂ k), h₁ _⟩
theorem W1_expr {c e pos ρ σ} {Q : Fl → Rho → Sig → Prop} (h : WE c e ρ σ (fun uu => Q .next ρ σ)) (hi : interactive c.env = false := by walk_at "r") (hsw : swapsWith e none pos.line c.env = pure false := by walk_at "r") :
    W1 c (.Expr e pos) ρ σ Q := fun s R =>
  wpAny_Expr_any (goV (h s R) fun v s₁ X hX k₁ q => ⟨.next, _, _, rfl, R.keepE k₁, k₁.ks, q⟩) hi hsw
theorem WC_typeL {c ρ σ X xs} {Q : V → Prop} (hX : LV σ X xs) (h : Q (.stat (.type "list"))) : WC c (.type "type") [] [X] ρ σ Q := by
  rintro s _ R ⟨v, _, rfl, z, rfl⟩
  obtain ⟨a, vs, rfl, hl, _⟩ := hX.is R z
  exact call_type_of hl.typeIs (by decide) ⟨.stat _, rfl, .refl _, h⟩
end
section
open PySem PySem.W PySem.Calls PyProof PyProof.Rows PySem.SeqAt
theorem init_loop {rs : List (Str × Str)} {c : Cx} {L : Addr} {out : List Addr} {k : Nat} (hk : 1 ≤ k) (hn : rs.length ≤ 1000) (hr : ∀ r ∈ rs, PlainT r.1 ∧ PlainT r.2 ∧ r.1.length ≤ 1000 ∧ r.2.length ≤ 1000) {H : V} (hH : H = .hdr (rs.map rowV)) :
    WS (c.call fdInit 76 L out k) ((sBody (metS 0)).drop 3) [("self", H), ("headers", .list (rs.map rowV))] [] (fun F uu σ' => F = .next ∧ σ' = []) := by
  refine WS_cons (W1_if ?_)
  refine WI_val (e := .Constant _ _ _) ?_
  walk_at "v"
  refine WS_cons (W1_for ?_)
  walk_at "v"
  refine ⟨_, src_list (.inr ⟨_, _, _, rfl⟩), fun i ρ σ => σ = [] ∧ sub [("self", H)] ρ, ⟨rfl, ?_⟩, ?_, ?_⟩
  · walk_at "sub"
  · rintro o i Y ρ' σ' hY ⟨rfl, hs⟩
    obtain ⟨hi, rfl⟩ := map_at (d := default) hY
    have hm := hr _ (getD_in (d := default) hi)
    generalize rs.getD i default = r at *
    refine WAs.less ?_ hs
    refine WAs_unpack (Xs := [.str r.1, .str r.2]) (.inr rfl) rfl rfl ?_
    refine WAss_cons ?_
    walk_at "v"
    refine WAss_cons ?_
    walk_at "v"
    refine WAss_nil ?_
    subst hH
    refine WS_cons (W1_expr (WE_conv mConv ?_))
    walk_at "v"
    refine ⟨.inr ⟨_, rfl⟩, ?_⟩
    walk_at "v"
    intro s v y R zX zY
    refine goV (conv_run (.inr ⟨_, rfl⟩) (SV.str _) true hm.1 (by have : r.1.cps.size = r.1.length := rfl; exact Nat.le_trans hm.2.2.1 (Nat.le_add_left _ _)) hk R zX zY) fun u s' Z hZ k e => ⟨Z, hZ, k, ?_⟩
    refine WS_cons (W1_expr (WE_conv mConv ?_))
    walk_at "v"
    refine ⟨.inr ⟨_, rfl⟩, ?_⟩
    walk_at "v"
    intro s v y R zX zY
    refine goV (conv_run (.inr ⟨_, rfl⟩) (SV.str _) false hm.2.1 (by have : r.2.cps.size = r.2.length := rfl; exact Nat.le_trans hm.2.2.2 (Nat.le_add_left _ _)) hk R zX zY) fun u s' Z hZ k e => ⟨Z, hZ, k, ?_⟩
    walk_at "v"
    exact ⟨rfl, by walk_at "sub"⟩
  · rintro ρ' σ' ⟨rfl, hs⟩
    walk_at "v"
    exact ⟨rfl, rfl⟩
end
section
open PySem PySem.W PySem.Calls PyProof PyProof.Rows PySem.SeqAt
theorem under_make (A : Around) (rest : List Value) : (A.under (.builtin "type.__call__" ⟨.ref HC :: rest, []⟩)).depth = A.depth + 1 ∧ (A.under (.builtin "type.__call__" ⟨.ref HC :: rest, []⟩)).units ≤ A.units + 5 ∧ (A.under (.builtin "type.__call__" ⟨.ref HC :: rest, []⟩)).handled = A.handled := by
  refine ⟨?_, ?_, rfl⟩
  · have : (Code.builtin "type.__call__" ⟨.ref HC :: rest, []⟩).weight = 1 := by kernel_rfl
    show A.depth + _ = _
    rw [this]
  · have : (Code.builtin "type.__call__" ⟨.ref HC :: rest, []⟩).cUnits ≤ 5 := by
      have e : (Code.builtin "type.__call__" ⟨.ref HC :: rest, []⟩).cUnits = (Code.builtin "type.__call__" ⟨.ref HC :: [], []⟩).cUnits := by kernel_rfl
      rw [e]; decide +kernel
    exact Nat.add_le_add_left this _
theorem head_rows {c : Cx} {L : Addr} {out : List Addr} {k : Nat} {S : V} {xs : List V} :
    W1 (c.call fdInit 76 L out k) ((sBody (metS 0)).getD 0 default) [("self", S), ("headers", .list xs)] [] (fun F ρ' σ' => F = .next ∧ W1 (c.call fdInit 76 L out k) ((sBody (metS 0)).getD 1 default) ρ' σ' (fun F ρ' σ' => F = .next ∧ σ' = [] ∧ sub [("self", S), ("headers", .list xs)] ρ')) := by
  refine W1_assign (by walk_at "stb") ?_
  walk_at "v"
  refine O2_isNot_none_of (fun w W s v z e => ?_) ?_
  · obtain ⟨a, vs, rfl, _⟩ := z; cases e
  walk_at "v"
  refine ⟨rfl, ?_⟩
  refine W1_if ?_
  refine WI_cmp' ?_
  walk_at "v"
  refine WC_typeL .list ?_
  walk_at "v"
  refine ⟨rfl, rfl, ?_⟩
  walk_at "sub"
theorem head_none {c : Cx} {L : Addr} {out : List Addr} {k : Nat} {S : V} :
    W1 (c.call fdInit 76 L out k) ((sBody (metS 0)).getD 0 default) [("self", S), ("headers", .none)] [] (fun F ρ' σ' => F = .next ∧ W1 (c.call fdInit 76 L out k) ((sBody (metS 0)).getD 1 default) ρ' σ' (fun F ρ' σ' => F = .next ∧ ∃ l, σ' = [(l, [])] ∧ sub [("self", S), ("headers", .mu l)] ρ')) := by
  refine W1_assignIfM (by walk_at "stb") ?_
  walk_at "v"
  refine O2_isNot_none ?_
  walk_at "v"
  refine ⟨rfl, ?_⟩
  walk_at "v"
  intro l
  refine ⟨rfl, ?_⟩
  refine W1_if ?_
  refine WI_cmp' ?_
  walk_at "v"
  refine WC_typeL (.inr ⟨_, rfl, .head _⟩) ?_
  walk_at "v"
  refine ⟨rfl, l, rfl, ?_⟩
  walk_at "sub"
noncomputable def MadeH (w : World) (W : List Addr) (s : Shared) (vs : List Value) (rs : List (Str × Str)) (u : Value) (s' : Shared) : Prop :=
  ∃ x, u = .ref x ∧ ((vs = [] ∧ ∃ l, HdrAt w W s'.heap x l ∧ s'.heap.PlainList l #[] ∧ s.heap.get? l = none) ∨ (vs ≠ [] ∧ VR w W s' (.hdr (rs.map rowV)) (.ref x)))
noncomputable def HeadEnd (c : Cx) (s₁ : Shared) (dx : Addr) (vs : List Value) (rs : List (Str × Str)) (f : Flow) (s₃ : Shared) : Prop :=
  f = .next ∧ ∃ l ρ₃ σ₃, Rel c ρ₃ σ₃ s₃ ∧ KS c [] σ₃ s₁ s₃ ∧
    ((σ₃ = [] ∧ vs = [.ref l] ∧ sub [("self", .stat (.ref (dx + 1))), ("headers", .list (rs.map rowV))] ρ₃) ∨ (σ₃ = [(l, [])] ∧ vs = [] ∧ rs = [] ∧ sub [("self", .stat (.ref (dx + 1))), ("headers", .mu l)] ρ₃))
noncomputable def InitEnd (c cU : Cx) (σ : Sig) (s : Shared) (h' : Heap) (dx l : Addr) (rs : List (Str × Str)) (fl : Flow) (s₆ : Shared) : Prop :=
  fl = .next ∧ KeepE s s₆ ∧ HdrAt cU.w (wof cU σ) s₆.heap (dx + 1) l ∧ VR cU.w (wof cU σ) s₆ (.hdr (rs.map rowV)) (.ref (dx + 1)) ∧
    (∀ b o, b ∉ c.own → h'.get? b = some o → s₆.heap.get? b = some o)
noncomputable def Stored (w : World) (W : List Addr) (s₃ : Shared) (dx : Addr) (Hm : V) (f : Flow) (s₅ : Shared) : Prop :=
  f = .next ∧ ∃ (s₄ : Shared) (v : Value) (h' : Heap) (tk : Nat), KeepE s₃ s₄ ∧ VR w W s₄ Hm v ∧ s₅ = { s₄ with heap := h', toks := tk } ∧ @LE.le Nat _ s₄.toks tk ∧
    Heap.SameBut dx s₄.heap h' ∧ ∃ t, h'.get? dx = some (dictOf [⟨PyData.keyHash w.params (Str.ofString "_headers"), .str (Str.ofString "_headers") t, v⟩] 1)
noncomputable abbrev CI (cU : Cx) (dx L : Addr) (out : List Addr) (k : Nat) : Cx := (cU.up [dx]).call fdInit 76 L out k
theorem init_core {c : Cx} {ρ : Rho} {σ : Sig} {s : Shared} (R : Rel c ρ σ s) (hk : 4 ≤ c.k) {vs : List Value} {H : V} {rs : List (Str × Str)} (hn : rs.length ≤ 1000) (hr : ∀ r ∈ rs, PlainT r.1 ∧ PlainT r.2 ∧ r.1.length ≤ 1000 ∧ r.2.length ≤ 1000)
    (hcase : (vs = [] ∧ H = .none ∧ rs = []) ∨ (∃ a, vs = [.ref a] ∧ H = .list (rs.map rowV) ∧ VR c.w (wof c σ) s H (.ref a))) :
    wpAny (model PG c.w) c.A (call (.ref 182) vs) (fun u s' => KeepE s s' ∧ MadeH c.w (wof c σ) s vs rs u s') (fun uu uu => False) s := by
  obtain ⟨hu1, hu2, hu3⟩ := under_make c.A vs
  have hlt : s.heap.objs.size = s.heap.objs.size := rfl
  refine wpAny_call ?_
  have key : ∀ (hh : Heap) (g : Array GenState) (d : Drawn) (t : Nat) (os : OsState), s = ⟨hh, g, d, t, os⟩ → codeAny (model PG c.w) c.A (.call (.ref 182) ⟨vs, []⟩) (fun r s' => match r with | .ok (.ret u) => KeepE s s' ∧ MadeH c.w (wof c σ) s vs rs u s' | .ok _ => False | .error e => False) ⟨hh, g, d, t, os⟩ := by
    intro hh g d t os es
    have X : (Kf c.w).In hh := by have := R.stat.K; rw [es] at this; exact this
    refine make_core (makes_of X (by kernel_rfl)) (looks_findIn X (r := some (.ref 76)) (by kernel_rfl)) (fun self => bind_fn X self (by kernel_rfl)) (.inl rfl) ?_
    show codeAny _ (c.A.under (.builtin "type.__call__" ⟨.ref HC :: vs, []⟩)) (.call (.ref 76) ⟨.ref (hh.objs.size + 1) :: vs, []⟩) (InitBack (hh.objs.size + 1) _) ⟨(hh.push emptyDict).push (instObj HC hh.objs.size), g, d, t, os⟩
    have k0 : KeepE s ⟨(hh.push emptyDict).push (instObj HC hh.objs.size), g, d, t, os⟩ := by
      subst es
      exact ⟨⟨_, t, g, rfl, .refl _, Nat.le_refl _⟩, fun b o e => Heap.get?_push_of_some _ (Heap.get?_push_of_some _ e)⟩
    have fdx : s.heap.get? hh.objs.size = none := by subst es; exact fresh_none hh
    have fx : s.heap.get? (hh.objs.size + 1) = none := by subst es; exact size_fresh (Nat.le_succ _)
    generalize hs0 : (⟨(hh.push emptyDict).push (instObj HC hh.objs.size), g, d, t, os⟩ : Shared) = s0 at k0 ⊢
    have hx0 : s0.heap.get? (hh.objs.size + 1) = some (instObj HC hh.objs.size) := by
      subst hs0
      have := Heap.get?_push_size (o := instObj HC hh.objs.size) (hh.push emptyDict) rfl
      rwa [Heap.size_push] at this
    have hd0 : s0.heap.get? hh.objs.size = some emptyDict := by
      subst hs0
      exact Heap.get?_push_of_some _ (Heap.get?_push_size _ rfl)
    generalize hdx : hh.objs.size = dx at *
    have hxd : dx + 1 ≠ dx := Nat.succ_ne_self _
    clear hs0 X
    have okU : Cx.Ok { c with A := c.A.under (.builtin "type.__call__" ⟨.ref HC :: vs, []⟩), k := c.k - 1 } := by
      refine ⟨R.ok.kind, R.ok.glob, R.ok.blt, hu3.trans R.ok.hand, ?_, ?_, R.ok.stat, R.ok.lown, R.ok.ownh, R.ok.cdist, R.ok.cloc, R.ok.cin⟩
      · have := R.ok.depth
        show (c.A.under _).depth + 20 * (c.k - 1) ≤ 600
        rw [hu1]; exact Nat.not_lt.mp fun hn => absurd (Nat.add_le_add this (Nat.add_le_add hn (Nat.mul_le_mul_left 20 (Nat.le_of_eq (Nat.sub_add_cancel (show 1 ≤ c.k from Nat.not_lt.mp fun hn => absurd (Nat.add_le_add hk hn) (by simp +arith))))))) (by simp +arith)
      · have := R.ok.units
        show (c.A.under _).units + 100 * (c.k - 1) ≤ 9000
        exact Nat.not_lt.mp fun hn => absurd (Nat.add_le_add hu2 (Nat.add_le_add this (Nat.add_le_add hn (Nat.mul_le_mul_left 100 (Nat.le_of_eq (Nat.sub_add_cancel (show 1 ≤ c.k from Nat.not_lt.mp fun hn => absurd (Nat.add_le_add hk hn) (by simp +arith)))))))) (by simp +arith)
    generalize hcU : ({ c with A := c.A.under (.builtin "type.__call__" ⟨.ref HC :: vs, []⟩), k := c.k - 1 } : Cx) = cU at okU
    have RU : Rel cU ρ σ s := by subst hcU; exact ⟨okU, R.base, R.al, R.loc, R.cel, R.muts, R.nd, R.tk⟩
    have eA : cU.A = c.A.under (.builtin "type.__call__" ⟨.ref HC :: vs, []⟩) := by subst hcU; rfl
    have ew : cU.w = c.w := by subst hcU; rfl
    have ek : cU.k = c.k - 1 := by subst hcU; rfl
    have ewof : wof cU σ = wof c σ := by subst hcU; rfl
    rw [← eA, ← ew, ← ewof]
    rw [← ew, ← ewof] at hcase
    clear hcU
    have R0 : Rel (cU.up [dx]) ρ σ s0 := RU.up k0 (fun b hb => List.mem_singleton.mp hb ▸ fdx) (fun b hb => ⟨_, List.mem_singleton.mp hb ▸ hd0⟩)
    have nW : ∀ b ∈ wof cU σ, b ≠ dx ∧ b ≠ dx + 1 := fun b hb => by
      obtain ⟨o, e⟩ := RU.al b hb
      exact ⟨fun q => (by rw [q, fdx] at e; cases e), fun q => (by rw [q, fx] at e; cases e)⟩
    refine codeAny_mono (enterC0 (c := cU.up [dx]) (ρ₀ := [("self", .stat (.ref (dx + 1))), ("headers", H)]) (σc := []) (out := [dx] ++ wof cU σ) (k := c.k - 2) (vs := .ref (dx + 1) :: vs) (kw := []) (P := fun u s' => u = .none ∧ KeepE s s' ∧ MadeH cU.w (wof cU σ) s vs rs (.ref (dx + 1)) s') R0 atInit (fun A E Q hQ => ?_) (nodup_of rfl) (kindsOk_of fun n => rfl) (.inl ⟨rfl, fun b => (wof_up.trans List.mem_append.symm).symm⟩) (by show c.k - 2 + 1 ≤ cU.k; exact Nat.not_lt.mp fun hn => absurd (Nat.add_le_add (Nat.le_of_eq ek.symm) (Nat.add_le_add hn (Nat.add_le_add (Nat.le_of_eq (Nat.sub_add_cancel (show 1 ≤ c.k from Nat.not_lt.mp fun hn => absurd (Nat.add_le_add hk hn) (by simp +arith))).symm) (Nat.le_of_eq (Nat.sub_add_cancel (show 2 ≤ c.k from Nat.not_lt.mp fun hn => absurd (Nat.add_le_add hk hn) (by simp +arith))))))) (by simp +arith)) fun L s₁ fresh k₁ R₁ => ?_) fun r s' h => ?_
    · obtain ⟨o, n, h69, hs69⟩ : ∃ o n, (Kf cU.w).lookup 69 = some o ∧ o.data = .seq #[.none] n := ⟨_, _, rfl, rfl⟩
      have h69' := R0.stat.K _ _ h69
      rcases hcase with ⟨e1, e2, _⟩ | ⟨a, e1, e2, hv⟩
      · subst e1; subst e2
        exact BindsTo.of_defaults (s := s0) (fd := fdInit) (binds := [("self", .ref (dx + 1)), ("headers", .none)]) (T := 69) rfl h69' hs69 rfl rfl _ _ _ _ (hQ _ _ (.refl _) ⟨_, _, rfl, rfl, _, _, rfl, rfl, rfl⟩)
      · subst e1
        have hv0 : VR cU.w (wof (cU.up [dx]) σ) s0 H (.ref a) := hv.keep (k0.keepW _) fun b hb ⟨ob, e⟩ hm => by
          rcases wof_up.mp hm with q | q
          · rw [List.mem_singleton.mp q, fdx] at e; cases e
          · exact hb q
        exact BindsTo.of_defaults (s := s0) (fd := fdInit) (binds := [("self", .ref (dx + 1)), ("headers", .ref a)]) (T := 69) rfl h69' hs69 rfl rfl _ _ _ _ (hQ _ _ (.refl _) ⟨_, _, rfl, rfl, _, _, rfl, hv0, rfl⟩)
    ·
      have hx1 := k₁.2 _ _ hx0
      have hd1 := k₁.2 _ _ hd0
      have own_ne : ∀ b ∈ (CI cU dx L ([dx] ++ wof cU σ) (c.k - 2)).own, b ≠ dx ∧ b ≠ dx + 1 := fun b hb =>
        ⟨fun q => (by have := fresh b hb; rw [q, hd0] at this; cases this), fun q => (by have := fresh b hb; rw [q, hx0] at this; cases this)⟩
      have two : wpAny (model PG cU.w) (CI cU dx L ([dx] ++ wof cU σ) (c.k - 2)).A (exec ((sBody (metS 0)).getD 0 default) (CI cU dx L ([dx] ++ wof cU σ) (c.k - 2)).env) (fun f s₂ => f = .next ∧
          wpAny (model PG cU.w) (CI cU dx L ([dx] ++ wof cU σ) (c.k - 2)).A (exec ((sBody (metS 0)).getD 1 default) (CI cU dx L ([dx] ++ wof cU σ) (c.k - 2)).env) (HeadEnd (CI cU dx L ([dx] ++ wof cU σ) (c.k - 2)) s₁ dx vs rs) (fun uu uu => False) s₂) (fun uu uu => False) s₁ := by
        rcases hcase with ⟨e1, e2, e3⟩ | ⟨a, e1, e2, hv⟩
        · subst e1; subst e2; subst e3
          refine goX (head_none s₁ R₁) fun f s₂ F ρ₂ σ₂ hf R₂ ks₂ hpt => ?_
          obtain ⟨e, h₂⟩ := hpt
          subst e; cases hf
          refine ⟨rfl, goX (h₂ s₂ R₂) fun f s₃ F ρ₃ σ₃ hf R₃ ks₃ hpt => ?_⟩
          obtain ⟨e, l, e', hs⟩ := hpt
          subst e; cases hf
          exact ⟨rfl, l, ρ₃, σ₃, R₃, .trans R₂ ks₂ ks₃, .inr ⟨e', rfl, rfl, hs⟩⟩
        · subst e1; subst e2
          refine goX (head_rows s₁ R₁) fun f s₂ F ρ₂ σ₂ hf R₂ ks₂ hpt => ?_
          obtain ⟨e, h₂⟩ := hpt
          subst e; cases hf
          refine ⟨rfl, goX (h₂ s₂ R₂) fun f s₃ F ρ₃ σ₃ hf R₃ ks₃ hpt => ?_⟩
          obtain ⟨e, e', hs⟩ := hpt
          subst e; cases hf
          exact ⟨rfl, a, ρ₃, σ₃, R₃, .trans R₂ ks₂ ks₃, .inl ⟨e', rfl, hs⟩⟩
      show wpAny _ _ (execs ((sBody (metS 0)).getD 0 default :: (sBody (metS 0)).getD 1 default :: (sBody (metS 0)).getD 2 default :: (sBody (metS 0)).drop 3) _) _ _ _
      refine wpAny_execs_cons (wpAny_mono two (fun f s₂ hpt => ?_) fun uu uu x => x)
      obtain ⟨e, h₂⟩ := hpt
      subst e
      refine wpAny_execs_cons (wpAny_mono h₂ (fun f s₃ hpt => ?_) fun uu uu x => x)
      obtain ⟨e, l, ρ₃, σ₃, R₃, ks₃, hc⟩ := hpt
      subst e
      have hdW : dx ∉ wof (CI cU dx L (wof cU σ) (c.k - 2)) [] := fun h => by
        rcases List.mem_append.mp h with q | q
        · cases q
        · rcases List.mem_append.mp q with q | q
          · exact (own_ne _ q).1 rfl
          · exact (nW _ q).1 rfl
      have hxW : dx + 1 ∉ wof (CI cU dx L (wof cU σ) (c.k - 2)) [] := fun h => by
        rcases List.mem_append.mp h with q | q
        · cases q
        · rcases List.mem_append.mp q with q | q
          · exact (own_ne _ q).2 rfl
          · exact (nW _ q).2 rfl
      have stay3 : ∀ b o, b ∉ (CI cU dx L (wof cU σ) (c.k - 2)).own → s₁.heap.get? b = some o → s₃.heap.get? b = some o := fun b o hb e => ks₃.2.1 b o (fun h => by
        rcases List.mem_append.mp h with q | q
        · cases q
        · exact hb q) e
      have hx3 := stay3 _ _ (fun q => (own_ne _ q).2 rfl) hx1
      have hd3 := stay3 _ _ (fun q => (own_ne _ q).1 rfl) hd1
      have hok1 : (CI cU dx L (wof cU σ) (c.k - 2)).Ok := by
        have o := R₃.ok
        exact ⟨o.kind, o.glob, o.blt, o.hand, o.depth, o.units, o.stat, o.lown, o.ownh, o.cdist, o.cloc, fun p hp => .inl (.tail _ (List.mem_map_of_mem hp))⟩
      have hval : ∃ Hm, sub [("self", .stat (.ref (dx + 1))), ("headers", Hm)] ρ₃ ∧ ((Hm = .list (rs.map rowV) ∧ σ₃ = [] ∧ vs ≠ []) ∨ ∃ l, Hm = .mu l ∧ σ₃ = [(l, [])] ∧ vs = [] ∧ rs = []) := by
        rcases hc with ⟨a1, a2, a3⟩ | ⟨a1, a2, a3, a4⟩
        · exact ⟨_, a3, .inl ⟨rfl, a1, by rw [a2]; exact List.cons_ne_nil _ _⟩⟩
        · exact ⟨_, a4, .inr ⟨_, rfl, a1, a2, a3⟩⟩
      obtain ⟨Hm, hsub, hHm⟩ := hval
      have R₃' := R₃.less hsub
      refine wpAny_execs_cons (wpAny_mono (Q := Stored cU.w (wof (CI cU dx L ([dx] ++ wof cU σ) (c.k - 2)) σ₃) s₃ dx Hm) (E := fun uu uu => False) ?_ (fun f s₅ hpt => ?_) fun uu uu x => x)
      · refine plainObj_wpAny_Assign_Attribute ?_ rfl
        refine goV ((WE_name (x := "headers") (X := Hm) (Q := fun X => X = Hm) rfl rfl (.inl rfl)) s₃ R₃') fun v s₄ X hX k₄ e => ?_
        subst e
        refine goV ((WE_name (x := "self") (X := .stat (.ref (dx + 1))) (Q := fun X => X = .stat (.ref (dx + 1))) rfl rfl (.inl rfl)) s₄ (R₃'.keepE k₄)) fun u s₅ X hX' k₅ e => ?_
        subst e
        cases hX'
        refine set_headers (R₃'.keepE (k₄.trans k₅)).stat.K (k₅.2 _ _ (k₄.2 _ _ hx3)) (k₅.2 _ _ (k₄.2 _ _ hd3)) fun h' hd hsb => ?_
        exact ⟨rfl, s₅, v, h', _, k₄.trans k₅, hX.keeps (k₅.keepW _), rfl, Nat.le_add_right _ 2, hsb, _, hd⟩
      · obtain ⟨e, s₄, v, h', tk, k₄, hv, e5, ht, hsb, t, hd5⟩ := hpt
        subst e; subst e5
        have R₄ : Rel (Cx.up (CI cU dx L (wof cU σ) (c.k - 2)) [dx]) [("self", .stat (.ref (dx + 1))), ("headers", Hm)] σ₃ s₄ := R₃'.keepE k₄
        have ne5 : ∀ b ob, b ≠ dx → s₄.heap.get? b = some ob → h'.get? b = some ob := fun b ob hb e => (hsb.2 b hb).trans e
        have R₅ := R₄.moved (h' := h') (tk := tk) (fun b hb => by
          have hb' := List.mem_singleton.mp hb
          subst hb'
          refine ⟨fun hm => ?_, ?_, fun h => by cases (show b ∈ ([] : List Addr) from h)⟩
          · rcases List.mem_append.mp hm with q | q
            · obtain ⟨p, hp, e⟩ := List.mem_map.mp q
              exact (R₄.muts p hp).2.1 (List.mem_append_right _ (e ▸ .head _))
            · exact (own_ne _ q).1 rfl
          · cases e : cU.h₀.get? b with
            | none => rfl
            | some o => have := RU.base _ _ e; rw [fdx] at this; cases this) (fun b ob hb e => ne5 b ob (fun q => hb (List.mem_singleton.mpr q)) e) (fun b hb => ⟨_, List.mem_singleton.mp hb ▸ hd5⟩) ht
        have R₆ := R₅.down hok1
        have hx5 : h'.get? (dx + 1) = some (instObj HC dx) := ne5 _ _ hxd (k₄.2 _ _ hx3)
        have upW : ∀ b, b ∈ wof (CI cU dx L (wof cU σ) (c.k - 2)) σ₃ → b ∈ wof (CI cU dx L ([dx] ++ wof cU σ) (c.k - 2)) σ₃ := fun b h => (wof_up (c := (cU.up [dx]).call fdInit 76 L (wof cU σ) (c.k - 2)) (o := [dx])).mpr (.inr h)
        have dxW : dx ∈ wof (CI cU dx L ([dx] ++ wof cU σ) (c.k - 2)) σ₃ := (wof_up (c := (cU.up [dx]).call fdInit 76 L (wof cU σ) (c.k - 2)) (o := [dx])).mpr (.inl (.head _))
        have hv5' : VR cU.w (wof (CI cU dx L (wof cU σ) (c.k - 2)) σ₃) { s₄ with heap := h', toks := tk } Hm v :=
          (hv.keeps (h' := { s₄ with heap := h', toks := tk }) ⟨fun b o hb e => ne5 b o (fun q => hb (q ▸ dxW)) e, ht⟩).less upW
        have keepAll : ∀ (s₆ : Shared), KS (CI cU dx L (wof cU σ) (c.k - 2)) [] [] { s₄ with heap := h', toks := tk } s₆ → KeepE s s₆ := fun s₆ ks₆ => by
          refine ⟨(((((k0.1.trans k₁.1).trans ks₃.1).trans k₄.1).trans (.mk' h' tk ht)).trans ks₆.1), fun b o e => ?_⟩
          have e0 := k0.2 _ _ e
          have nb : b ≠ dx := fun q => by rw [q, fdx] at e; cases e
          have no : b ∉ (CI cU dx L (wof cU σ) (c.k - 2)).own := fun q => by rw [fresh b q] at e0; cases e0
          exact ks₆.2.1 b o (fun h => by
            rcases List.mem_append.mp h with q | q
            · cases q
            · exact no q) (ne5 b o nb (k₄.2 _ _ (stay3 _ _ no (k₁.2 _ _ e0))))
        have fin : ∀ l us, v = .ref l → Rel (CI cU dx L (wof cU σ) (c.k - 2)) [("self", .stat (.ref (dx + 1))), ("headers", .list (rs.map rowV))] [] { s₄ with heap := h', toks := tk } →
            l ∉ wof (CI cU dx L (wof cU σ) (c.k - 2)) [] → h'.IsList l (List.toArray us) → VRs cU.w (wof (CI cU dx L (wof cU σ) (c.k - 2)) []) { s₄ with heap := h', toks := tk } (rs.map rowV) us →
            wpAny (model PG cU.w) (CI cU dx L (wof cU σ) (c.k - 2)).A (execs ((sBody (metS 0)).drop 3) (CI cU dx L (wof cU σ) (c.k - 2)).env) (InitEnd (CI cU dx L (wof cU σ) (c.k - 2)) cU σ s h' dx l rs) (fun uu uu => False) { s₄ with heap := h', toks := tk } := by
          intro l us ev R₇ hl hli hus
          subst ev
          have hdr : HdrAt cU.w (wof (CI cU dx L (wof cU σ) (c.k - 2)) []) h' (dx + 1) l := ⟨hxW, dx, 1, t, hdW, hx5, hd5⟩
          have R₈ := R₇.reval (x := "self") (X' := .hdr (rs.map rowV)) rfl (fun u hu => by cases hu; exact ⟨dx + 1, l, us, rfl, hdr, hl, hli, hus⟩)
          have R₉ := R₈.less (ρ' := [("self", .hdr (rs.map rowV)), ("headers", .list (rs.map rowV))]) (by walk_at "sub")
          refine goX (init_loop (c := cU.up [dx]) (by exact Nat.not_lt.mp fun hn => absurd (Nat.add_le_add hk (Nat.add_le_add hn (Nat.le_of_eq (Nat.sub_add_cancel (show 2 ≤ c.k from Nat.not_lt.mp fun hn => absurd (Nat.add_le_add hk hn) (by simp +arith))).symm))) (by simp +arith)) hn hr rfl _ R₉) fun fl s₆ F r g' hf R₁₀ ks₆ hpt => ?_
          obtain ⟨e1, e2⟩ := hpt
          subst e1; subst e2
          cases hf
          have hz : VR cU.w (wof (CI cU dx L (wof cU σ) (c.k - 2)) []) s₆ (.hdr (rs.map rowV)) (.ref (dx + 1)) := ks₆.vr (c := (cU.up [dx]).call fdInit 76 L (wof cU σ) (c.k - 2)) ⟨dx + 1, l, us, rfl, hdr, hl, hli, hus⟩
          have lw : ∀ b, b ∈ wof cU σ → b ∈ wof (CI cU dx L (wof cU σ) (c.k - 2)) [] := fun b h => List.mem_append_right _ (List.mem_append_right _ h)
          exact ⟨rfl, keepAll s₆ ks₆, hdr.keep (s := { s₄ with heap := h', toks := tk }) (s' := s₆) ks₆.keepW (fun b hb uu h => hb (lw b h)), hz.less lw, fun b o hb e => ks₆.2.1 b o (fun h => by
            rcases List.mem_append.mp h with q | q
            · cases q
            · exact hb q) e⟩
        rcases hHm with ⟨a1, a2, a3⟩ | ⟨l, a1, a2, a3, a4⟩
        · subst a1; subst a2
          obtain ⟨l, us, ev, hl, hli, hus⟩ := hv5'
          refine wpAny_mono (fin l us ev R₆ hl hli hus) (fun fl s₆ hpt => ?_) fun uu uu x => x
          obtain ⟨e, b1, b2, b3, b4⟩ := hpt
          subst e
          exact ⟨rfl, b1, _, rfl, .inr ⟨a3, b3⟩⟩
        · subst a1; subst a2; subst a4
          obtain ⟨c1, c2, us, c3, c4⟩ := R₆.muts _ (.head _)
          have hus : us = [] := c4
          subst hus
          have R₇ := (R₆.freeze (ρ' := [("self", .stat (.ref (dx + 1))), ("headers", .list [])]) (FrzR.at (.cons rfl (.inl rfl) (.cons rfl (.inr (.inl ⟨rfl, rfl⟩)) .nil)))).1
          have hlW : l ∉ wof (CI cU dx L (wof cU σ) (c.k - 2)) [] := fun h => (List.mem_append.mp h).elim (fun q => nomatch q) c2
          have fl0 : s.heap.get? l = none := by
            have f1 : s₁.heap.get? l = none := (ks₃.2.2 (l, []) (.head _)).elim (fun q => nomatch q) id
            cases e : s.heap.get? l with
            | none => rfl
            | some o => rw [k₁.2 _ _ (k0.2 _ _ e)] at f1; cases f1
          refine wpAny_mono (fin l [] hv5' R₇ hlW c3.isList rfl) (fun fl s₆ hpt => ?_) fun uu uu x => x
          obtain ⟨e, b1, b2, b3, b4⟩ := hpt
          subst e
          refine ⟨rfl, b1, _, rfl, .inl ⟨a3, l, b2, c3.at fun o e => b4 l o (fun q => hlW (List.mem_append_right _ (List.mem_append_left _ q))) e, fl0⟩⟩
    · rcases r with e | (v | _ | _ | _) <;> first | exact h.elim | skip
      obtain ⟨rfl, h⟩ := h
      exact ⟨rfl, h⟩
  exact key s.heap s.gens s.drawn s.toks s.os rfl
theorem make_rows {c : Cx} {ρ : Rho} {σ : Sig} {rs : List (Str × Str)} (hk : 4 ≤ c.k) (hn : rs.length ≤ 1000) (hr : ∀ r ∈ rs, PlainT r.1 ∧ PlainT r.2 ∧ r.1.length ≤ 1000 ∧ r.2.length ≤ 1000) : WC c (.ref 182) [] [.list (rs.map rowV)] ρ σ (fun Z => Z = .hdr (rs.map rowV)) := by
  rintro s _ R ⟨v, _, rfl, z, rfl⟩
  obtain ⟨a, vs, rfl, z'⟩ := id z
  refine wpAny_mono (init_core R hk hn hr (.inr ⟨a, rfl, rfl, z⟩)) (fun u s' hpt => ?_) fun uu uu x => x
  obtain ⟨k, x, e, h⟩ := hpt
  subst e
  rcases h with ⟨h, _⟩ | ⟨_, h⟩
  · cases h
  · exact ⟨_, h, k, rfl⟩
theorem kpH : Kp (.ref 182) := Kp.stat fun w => by kernel_rfl
theorem W1_newH {c : Cx} {x : Str} {px np cp pos : Pos} {ρ : Rho} {σ : Sig} {Q : Fl → Rho → Sig → Prop} (hk : Stb c x) (h4 : 4 ≤ c.k) (hg : c.env.kindOf "Headers" = some .globalImplicit)
    (h : ∀ l, Q .next ((x, .mh l) :: ρ) ((l, []) :: σ)) (hs : swapsWith (.Call (.Name "Headers" np) [] [] cp) (some (.Name x px)) pos.line c.env = pure false := by walk_at "r") :
    W1 c (.Assign [.Name x px] (.Call (.Name "Headers" np) [] [] cp) pos) ρ σ Q := fun s R => by
  refine wpAny_Assign_Name ?_ hs
  refine wpAny_Call_NameR (goV ((WE_glob (x := "Headers") (v := .ref 182) (X := .stat (.ref 182)) (Q := fun X => X = .stat (.ref 182)) hg (fun w => rfl) (fun uu uu uu => rfl) rfl) s R) fun f s₁ X hX k₁ e => ?_)
  subst e
  cases hX
  have R₁ := R.keepE k₁
  refine callWith_gen (es := []) kpH R₁ rfl ?_
  refine spliced_nil ⟨R₁.stat.K, ?_⟩
  refine wpAny_mono (init_core (rs := []) R₁ h4 (by decide) (fun uu h => nomatch h) (.inl ⟨rfl, rfl, rfl⟩)) (fun u s₂ hpt => ?_) fun uu uu x => x
  obtain ⟨k, y, e, h'⟩ := hpt
  subst e
  rcases h' with ⟨_, l, hh, hl, hf⟩ | ⟨h', _⟩
  · obtain ⟨R₂, K₂⟩ := R₁.alloc (xs := []) (vs := []) k hf hl rfl rfl
    refine storeName_rel (X := .mh l) R₂ ⟨y, rfl, ?_⟩ hk fun s' R' k' => ⟨.next, _, _, rfl, R', .trans R₁ k₁.ks (.trans R₂ K₂ k'), h l⟩
    obtain ⟨n, el⟩ := hl
    obtain ⟨a1, dx, m, t, a2, a3, a4⟩ := hh
    refine ⟨fun hm => ?_, dx, m, t, fun hm => ?_, a3, a4⟩
    · rcases List.mem_cons.mp hm with q | q
      · rw [show y = l from q, el] at a3; cases a3
      · exact a1 q
    · rcases List.mem_cons.mp hm with q | q
      · rw [show dx = l from q, el] at a4
        have e : Value.type "list" = Value.type "dict" := congrArg Obj.cls (Option.some.inj a4)
        exact absurd e (by decide)
      · exact a2 q
  · exact absurd rfl h'
end
section
open PySem PySem.W PySem.Calls PyProof PyProof.Rows PySem.SeqAt
open PySem.Builtin.Re
noncomputable def A1 (text : Array Nat) (lim s : Nat) (first mu : Bool) (sn : Sre.Seen) : Sre.M :=
  { code := code1.toArray, text, lim, start := s, lastStart := lim, mustAdvance := mu, pc := 5, pos := s, handed := s, outermost := first, marks := #[],
    frames := [{ wait := .nextStart, pc := 5, pos := s, outermost := first }], weight := 1, seen := sn }
theorem A1_no {text : Array Nat} {lim s : Nat} {first mu : Bool} {sn : Sre.Seen} (h : (s == 0 || text.getD (s - 1) 0 == 10) = false) (hs : s < lim) :
    ∃ sn', it 2 (A1 text lim s first mu sn) = A1 text lim (s + 1) false false sn' := by
  refine ⟨(sn.add 6).add (43 + 1), ?_⟩
  have e1 : (A1 text lim s first mu sn).step = { (A1 text lim s first mu sn) with seen := (sn.add 6).add (43 + 1), answer := some false } := by
    show (if (s == 0 || text.getD (s - 1) 0 == 10) = true then _ else _) = _
    rw [h]; rfl
  show ((A1 text lim s first mu sn).step).step = _
  rw [e1]
  show (if s < lim then _ else _) = _
  rw [if_pos hs]
  rfl
theorem A1_lit {text : Array Nat} {lim s : Nat} {first mu : Bool} {sn : Sre.Seen} (h : (s == 0 || text.getD (s - 1) 0 == 10) = true) (hd : text.getD s 0 ≠ 46) (hs : s < lim) :
    ∃ sn', it 3 (A1 text lim s first mu sn) = A1 text lim (s + 1) false false sn' := by
  refine ⟨(((sn.add 6).add (43 + 1)).add 16), ?_⟩
  have e1 : (A1 text lim s first mu sn).step = { (A1 text lim s first mu sn) with seen := (sn.add 6).add (43 + 1), pc := 7 } := by
    show (if (s == 0 || text.getD (s - 1) 0 == 10) = true then _ else _) = _
    rw [h]; rfl
  have e2 : ({ (A1 text lim s first mu sn) with seen := (sn.add 6).add (43 + 1), pc := 7 } : Sre.M).step = { (A1 text lim s first mu sn) with seen := ((sn.add 6).add (43 + 1)).add 16, pc := 7, answer := some false } := by
    show (if s ≥ lim then _ else match (Except.ok (text.getD s 0 == 46, ((sn.add 6).add (43 + 1)).add 16) : Except String (Bool × Sre.Seen)) with | .error _ => _ | .ok (false, _) => _ | .ok (true, _) => _) = _
    rw [if_neg (by exact Nat.not_le_of_lt hs)]
    have : (text.getD s 0 == 46) = false := by simpa using hd
    rw [this]; rfl
  show ((A1 text lim s first mu sn).step).step.step = _
  rw [e1, e2]
  show (if s < lim then _ else _) = _
  rw [if_pos hs]
  rfl
theorem A1_yes {text : Array Nat} {lim s : Nat} {first mu : Bool} {sn : Sre.Seen} (h : (s == 0 || text.getD (s - 1) 0 == 10) = true) (hd : text.getD s 0 = 46) (hs : s < lim) :
    (it 5 (A1 text lim s first mu sn)).outcome = some .matched ∧ (it 5 (A1 text lim s first mu sn)).start = s ∧ (it 5 (A1 text lim s first mu sn)).handed = s + 1 := by
  have e1 : (A1 text lim s first mu sn).step = { (A1 text lim s first mu sn) with seen := (sn.add 6).add (43 + 1), pc := 7 } := by
    show (if (s == 0 || text.getD (s - 1) 0 == 10) = true then _ else _) = _
    rw [h]; rfl
  have e2 : ({ (A1 text lim s first mu sn) with seen := (sn.add 6).add (43 + 1), pc := 7 } : Sre.M).step = { (A1 text lim s first mu sn) with seen := ((sn.add 6).add (43 + 1)).add 16, pc := 9, pos := s + 1 } := by
    show (if s ≥ lim then _ else match (Except.ok (text.getD s 0 == 46, ((sn.add 6).add (43 + 1)).add 16) : Except String (Bool × Sre.Seen)) with | .error _ => _ | .ok (false, _) => _ | .ok (true, _) => _) = _
    rw [if_neg (by exact Nat.not_le_of_lt hs)]
    have : (text.getD s 0 == 46) = true := by simpa using hd
    rw [this]; rfl
  have e3 : ({ (A1 text lim s first mu sn) with seen := ((sn.add 6).add (43 + 1)).add 16, pc := 9, pos := s + 1 } : Sre.M).step = { (A1 text lim s first mu sn) with seen := (((sn.add 6).add (43 + 1)).add 16).add 1, pc := 9, pos := s + 1, handed := s + 1, answer := some true } := by
    show (if (first && ((false && _) || (mu && s + 1 == s))) = true then _ else _) = _
    have : (s + 1 == s) = false := by simp
    rw [this, Bool.and_false, Bool.false_and, Bool.false_or, Bool.and_false]
    rfl
  have e : it 5 (A1 text lim s first mu sn) = ({ (A1 text lim s first mu sn) with seen := (((sn.add 6).add (43 + 1)).add 16).add 1, pc := 9, pos := s + 1, handed := s + 1, answer := some true } : Sre.M).step.step := by
    show ((A1 text lim s first mu sn).step).step.step.step.step = _
    rw [e1, e2, e3]
  rw [e]
  exact ⟨rfl, rfl, rfl⟩
theorem A1_end {text : Array Nat} {lim : Nat} {first mu : Bool} {sn : Sre.Seen} : ∃ n, n ≤ 4 ∧ (it n (A1 text lim lim first mu sn)).outcome = some .failed := by
  cases h : (lim == 0 || text.getD (lim - 1) 0 == 10) with
  | false =>
    have e1 : (A1 text lim lim first mu sn).step = { (A1 text lim lim first mu sn) with seen := (sn.add 6).add (43 + 1), answer := some false } := by
      show (if (lim == 0 || text.getD (lim - 1) 0 == 10) = true then _ else _) = _
      rw [h]; rfl
    have e2 : ({ (A1 text lim lim first mu sn) with seen := (sn.add 6).add (43 + 1), answer := some false } : Sre.M).step = { (A1 text lim lim first mu sn) with seen := (sn.add 6).add (43 + 1), answer := some false, frames := [], weight := 0 } := by
      show (if lim < lim then _ else _) = _
      rw [if_neg (Nat.lt_irrefl _)]
      rfl
    refine ⟨3, by decide, ?_⟩
    show ((A1 text lim lim first mu sn).step.step.step).outcome = _
    rw [e1, e2]
    rfl
  | true =>
    have e1 : (A1 text lim lim first mu sn).step = { (A1 text lim lim first mu sn) with seen := (sn.add 6).add (43 + 1), pc := 7 } := by
      show (if (lim == 0 || text.getD (lim - 1) 0 == 10) = true then _ else _) = _
      rw [h]; rfl
    have e2 : ({ (A1 text lim lim first mu sn) with seen := (sn.add 6).add (43 + 1), pc := 7 } : Sre.M).step = { (A1 text lim lim first mu sn) with seen := ((sn.add 6).add (43 + 1)).add 16, pc := 7, answer := some false } := by
      show (if lim ≥ lim then _ else _) = _
      rw [if_pos (Nat.le_refl _)]
      rfl
    have e3 : ({ (A1 text lim lim first mu sn) with seen := ((sn.add 6).add (43 + 1)).add 16, pc := 7, answer := some false } : Sre.M).step = { (A1 text lim lim first mu sn) with seen := ((sn.add 6).add (43 + 1)).add 16, answer := some false, frames := [], weight := 0 } := by
      show (if lim < lim then _ else _) = _
      rw [if_neg (Nat.lt_irrefl _)]
      rfl
    refine ⟨4, by decide, ?_⟩
    show ((A1 text lim lim first mu sn).step.step.step.step).outcome = _
    rw [e1, e2, e3]
    rfl
noncomputable def hit1 (text : Array Nat) (p : Nat) : Bool := (p == 0 || text.getD (p - 1) 0 == 10) && text.getD p 0 == 46
noncomputable def nxt1 (text : Array Nat) (lim : Nat) : Nat → Nat → Option Nat
  | 0, _ => none
  | f + 1, s => if s < lim then (if hit1 text s then some s else nxt1 text lim f (s + 1)) else none
noncomputable def Ans (m : Sre.M) (B : Nat) (r : Option Nat) (w : Nat → Nat) : Prop := ∃ n, n ≤ B ∧ match r with
  | none => (it n m).outcome = some .failed
  | some p => (it n m).outcome = some .matched ∧ (it n m).start = p ∧ (it n m).handed = w p
theorem Ans.after {m : Sre.M} {B r w k} (h : Ans (it k m) B r w) : Ans m (k + B) r w := by
  obtain ⟨n, hn, h⟩ := h
  refine ⟨k + n, by exact Nat.add_le_add_left hn _, ?_⟩
  rw [it_add]; exact h
theorem A1_run (text : Array Nat) (lim : Nat) : ∀ (f s : Nat) (first mu : Bool) (sn : Sre.Seen), f = lim - s + 1 → s ≤ lim → Ans (A1 text lim s first mu sn) (4 * f + 1) (nxt1 text lim f s) (· + 1)
  | 0, s, _, _, _, e, _ => by exact False.elim (absurd (Nat.le_of_eq e.symm) (by simp +arith))
  | f + 1, s, first, mu, sn, e, hs => by
    unfold nxt1
    by_cases hlt : s < lim
    · rw [if_pos hlt]
      cases h1 : (s == 0 || text.getD (s - 1) 0 == 10) with
      | false =>
        have : hit1 text s = false := by unfold hit1; rw [h1]; rfl
        rw [this]
        obtain ⟨sn', e'⟩ := A1_no (first := first) (mu := mu) (sn := sn) h1 hlt
        have ih := A1_run text lim f (s + 1) false false sn' (by exact Nat.le_antisymm (Nat.not_lt.mp fun hn => absurd (Nat.add_le_add (Nat.le_of_eq e) (Nat.add_le_add hn (Nat.add_le_add (Nat.le_of_eq (Nat.sub_add_cancel (show s ≤ lim from Nat.not_lt.mp fun hn => absurd (Nat.add_le_add hlt hn) (by simp +arith)))) (Nat.le_of_eq (Nat.sub_add_cancel (show s + 1 ≤ lim from Nat.not_lt.mp fun hn => absurd (Nat.add_le_add hlt hn) (by simp +arith))).symm)))) (by simp +arith)) (Nat.not_lt.mp fun hn => absurd (Nat.add_le_add (Nat.le_of_eq e.symm) (Nat.add_le_add hn (Nat.add_le_add (Nat.le_of_eq (Nat.sub_add_cancel (show s ≤ lim from Nat.not_lt.mp fun hn => absurd (Nat.add_le_add hlt hn) (by simp +arith))).symm) (Nat.le_of_eq (Nat.sub_add_cancel (show s + 1 ≤ lim from Nat.not_lt.mp fun hn => absurd (Nat.add_le_add hlt hn) (by simp +arith))))))) (by simp +arith))) hlt
        rw [← e'] at ih
        obtain ⟨n, hn, z⟩ := ih.after
        exact ⟨n, by (clear z ih e' this h1 hlt hs e; lia), z⟩
      | true =>
        by_cases hd : text.getD s 0 = 46
        · have : hit1 text s = true := by unfold hit1; rw [h1, hd]; rfl
          rw [this]
          exact ⟨5, by exact Nat.le_add_left _ _, A1_yes h1 hd hlt⟩
        · have : hit1 text s = false := by unfold hit1; rw [h1]; simpa using hd
          rw [this]
          obtain ⟨sn', e'⟩ := A1_lit (first := first) (mu := mu) (sn := sn) h1 hd hlt
          have ih := A1_run text lim f (s + 1) false false sn' (by exact Nat.le_antisymm (Nat.not_lt.mp fun hn => absurd (Nat.add_le_add (Nat.le_of_eq e) (Nat.add_le_add hn (Nat.add_le_add (Nat.le_of_eq (Nat.sub_add_cancel (show s ≤ lim from Nat.not_lt.mp fun hn => absurd (Nat.add_le_add hlt hn) (by simp +arith)))) (Nat.le_of_eq (Nat.sub_add_cancel (show s + 1 ≤ lim from Nat.not_lt.mp fun hn => absurd (Nat.add_le_add hlt hn) (by simp +arith))).symm)))) (by simp +arith)) (Nat.not_lt.mp fun hn => absurd (Nat.add_le_add (Nat.le_of_eq e.symm) (Nat.add_le_add hn (Nat.add_le_add (Nat.le_of_eq (Nat.sub_add_cancel (show s ≤ lim from Nat.not_lt.mp fun hn => absurd (Nat.add_le_add hlt hn) (by simp +arith))).symm) (Nat.le_of_eq (Nat.sub_add_cancel (show s + 1 ≤ lim from Nat.not_lt.mp fun hn => absurd (Nat.add_le_add hlt hn) (by simp +arith))))))) (by simp +arith))) hlt
          rw [← e'] at ih
          obtain ⟨n, hn, z⟩ := ih.after
          exact ⟨n, by (clear z ih e' this hd h1 hlt hs e; lia), z⟩
    · rw [if_neg hlt]
      have : s = lim := by exact Nat.le_antisymm hs (Nat.not_lt.mp hlt)
      subst this
      obtain ⟨n, hn, z⟩ := A1_end (text := text) (lim := s) (first := first) (mu := mu) (sn := sn)
      exact ⟨n, by exact Nat.le_trans hn (Nat.le_add_left _ _), z⟩
theorem search1 (text : Array Nat) (lim s : Nat) (mu : Bool) (hs : s ≤ lim) : Ans (Sre.forSearch code1.toArray text 0 s lim mu) (4 * (lim - s + 1) + 2) (nxt1 text lim (lim - s + 1) s) (· + 1) := by
  by_cases hlt : s < lim
  · have e : Sre.forSearch code1.toArray text 0 s lim mu = A1 text lim s true mu (({} : Sre.Seen).add 14) := by
      show (if (decide (s > lim) || decide (lim - s < 1)) = true then _ else _) = _
      rw [if_neg (by simp; exact ⟨Nat.not_lt.mp fun hn => absurd (Nat.add_le_add hlt hn) (by simp +arith), fun hn => absurd (Nat.add_le_add hlt (Nat.add_le_add (Nat.le_of_eq hn) (Nat.le_of_eq (Nat.sub_add_cancel (show s ≤ lim from Nat.not_lt.mp fun hn => absurd (Nat.add_le_add hlt hn) (by simp +arith))).symm))) (by simp +arith)⟩)]
      rfl
    rw [e]
    obtain ⟨n, hn, z⟩ := A1_run text lim (lim - s + 1) s true mu (({} : Sre.Seen).add 14) rfl hs
    exact ⟨n, by exact Nat.le_succ_of_le hn, z⟩
  · have e : nxt1 text lim (lim - s + 1) s = none := by unfold nxt1; rw [if_neg hlt]
    rw [e]
    refine ⟨1, by exact Nat.succ_pos _, ?_⟩
    show (it 1 (if (decide (s > lim) || decide (lim - s < 1)) = true then _ else _)).outcome = _
    rw [if_pos (by simp; exact .inr (Nat.le_antisymm (Nat.not_lt.mp fun hn => absurd (Nat.add_le_add (Nat.not_lt.mp hlt) (Nat.add_le_add hn (Nat.le_of_eq (Nat.sub_add_cancel (show s ≤ lim from Nat.not_lt.mp fun hn => absurd (Nat.add_le_add hs hn) (by simp +arith)))))) (by simp +arith)) (Nat.not_lt.mp fun hn => absurd hn (by simp +arith))))]
    rfl
end
section
open PySem PySem.W PySem.Calls PyProof PyProof.Rows PySem.SeqAt
open PySem.Builtin.Re
theorem wpAny_whole {w : World} {s : Shared} {P : Addr} {code : List Nat} {x : Str} {t : Tok} {A : Around} {E : Value → Shared → Prop} {Q : ReTarget → Shared → Prop} (K : (Kf w).In s.heap) (hp : PatAt P code)
    (h : Q { pattern := .ref P, string := .str x t, code := code.toArray, text := x.cps, kind := 0, groups := 0, pos := 0, lim := x.cps.size } s) :
    wpAny (model PG w) A (reWholeTarget (.ref P) (.str x t)) Q E s := by
  obtain ⟨p, f, T, h1, h2⟩ := hp.at_ w
  have hP := K _ _ h1
  have hT := K _ _ h2
  unfold reWholeTarget
  refine wpAny_bind (wpAny_fieldsOf hP rfl ?_)
  refine wpAny_bind (m := reTextOf (.str x t)) (wpAny_of_eq (show reTextOf (.str x t) = pure (x.cps, 0) from rfl) ?_)
  dsimp only
  refine wpAny_bind (m := reNoCollectionInside (.str x t) 0) (wpAny_of_eq (show reNoCollectionInside (.str x t) 0 = pure () from rfl) ?_)
  refine wpAny_bind (rawItems_code hT (wpAny_pure ?_))
  have e1 : Array.map (fun x => x.toNat) (code.map fun n : Nat => (n : Int)).toArray = code.toArray := by simp [Function.comp_def]
  rw [e1]
  exact h
structure Finder (code : List Nat) (text : Array Nat) where
  nx : Nat → Option Nat
  w : Nat → Nat
  ok : ∀ s, s ≤ text.size → Ans (Sre.forSearch code.toArray text 0 s text.size false) (2 ^ 50) (nx s) w
  lt : ∀ s p, nx s = some p → s ≤ p ∧ p < w p ∧ w p ≤ text.size
noncomputable def subT {code text} (F : Finder code text) (rp : List Nat) : Nat → Nat → List Nat
  | 0, _ => []
  | f + 1, d => match F.nx d with
    | none => (text.extract d text.size).toList
    | some p => (text.extract d p).toList ++ rp ++ subT F rp f (F.w p)
theorem plain_push {prog : Program} {w : World} {A : Around} {E : Value → Shared → Prop} {s : Shared} {D : Addr} {items : Array Value} {v : Value} {Q : Unit → Shared → Prop} (hl : s.heap.PlainList D items)
    (h : ∀ h', h'.PlainList D (items.push v) → Heap.SameBut D s.heap h' → Q () { s with heap := h' }) (hsz : items.size ≤ sizeLine) : wpAny (model prog w) A (updateSeq D (·.push v)) Q E s := by
  obtain ⟨n, ho⟩ := id hl
  exact wpAny_updateSeq ho rfl (h _ ⟨_, Heap.get?_update_self _ ho rfl⟩ (Heap.SameBut.update ..)) hsz (by rw [Array.size_push]; exact Nat.lt_succ_of_le hsz)
theorem strs_snoc : ∀ {vs : List Value} {ys : List Str}, StrsAre vs ys → ∀ (y : Str) (t : Tok), StrsAre (vs ++ [.str y t]) (ys ++ [y])
  | _, _, .nil, y, t => .cons y t .nil
  | _, _, .cons z u h, y, t => .cons z u (strs_snoc h y t)
theorem strs_len : ∀ {vs : List Value} {ys : List Str}, StrsAre vs ys → vs.length = ys.length
  | _, _, .nil => rfl
  | _, _, .cons z u h => by simp [strs_len h]
theorem slice0 {M : Model} {A : Around} {E : Value → Shared → Prop} {s : Shared} {text : Array Nat} {b e : Nat} {Q : Value → Shared → Prop} (hsz : text.size ≤ 100000) (h : Q (.str ⟨text.extract b e⟩ s.toks) { s with toks := s.toks + 1 }) : wpAny M A (reSlice text 0 b e) Q E s := by
  unfold reSlice
  rw [if_pos (by rfl)]
  refine wpAny_mkStr h ?_
  show (text.extract b e).size ≤ sizeLine
  rw [Array.size_extract]; unfold sizeLine; exact Nat.not_lt.mp fun hn => (Nat.le_total b (Min.min e text.size)).elim (fun hs2 => absurd (Nat.add_le_add hsz (Nat.add_le_add hn (Nat.add_le_add (Nat.min_le_right e text.size) (Nat.le_of_eq (Nat.sub_add_cancel hs2))))) (by simp +arith)) (fun hs2 => absurd (Nat.add_le_add hn (Nat.le_of_eq (Nat.sub_eq_zero_of_le hs2))) (by simp +arith))
theorem sub_end {w : World} {A A' : Around} {s : Shared} {x : Str} {D : Addr} {R : Result → Shared → Prop} (hx : x.cps.size ≤ 100000) (ys : List Str) (vs : List Value) (hl : s.heap.PlainList D (List.toArray vs)) (hs : StrsAre vs ys)
    (hsum : (ys.map (·.length)).sum ≤ 16777216) (hR : ∀ tk t', R (.ok (.ret (.str (Txt.join ⟨#[]⟩ ys) t'))) { s with toks := tk }) :
    wpAny (model PG w) A' (do
      let joiner ← reSlice x.cps 0 0 0
      let items ← seqItems? (.ref D)
      if (items.getD #[]).isEmpty = true then ret joiner else do
        let text ← call (.builtin "str.join") [joiner, .ref D]
        ret text) (fun fin s' => match fin with | .done f => R (.ok f) s' | .again c' => c'.quiet = true ∧ codeAny (model PG w) A c' R s') (fun e s' => R (.error e) s') s := by
  refine wpAny_bind (slice0 hx ?_)
  have ej : (⟨x.cps.extract 0 0⟩ : Str) = ⟨#[]⟩ := by simp
  rw [ej]
  obtain ⟨n, ho⟩ := id hl
  refine wpAny_bind (wpAny_seqItems (s := { s with toks := s.toks + 1 }) ho rfl ?_)
  by_cases he : (((some (List.toArray vs)).getD #[]).isEmpty) = true
  · rw [if_pos he]
    have : vs = [] := by simpa using he
    subst this
    cases hs
    exact wpAny_pure (hR _ s.toks)
  · rw [if_neg he]
    refine wpAny_bind (join_list (s := { s with toks := s.toks + 1 }) hl.isList (by simpa using hs) (by show _ + ys.length * 0 ≤ _; rw [Nat.mul_zero]; exact hsum) fun t' k => wpAny_pure (hR k t'))
theorem sub_loop {w : World} {A : Around} {R : Result → Shared → Prop} {P : Addr} {code : List Nat} {x rp : Str} {t u : Tok} {D : Addr} (hp : PatAt P code) (F : Finder code x.cps) (hKD : ∀ b o, (Kf w).lookup b = some o → b ≠ D)
    (hx : x.cps.size ≤ 100000) (hrp : rp.length ≤ 100) :
    ∀ (f d n : Nat) (s : Shared) (ys : List Str) (vs : List Value), d ≤ x.cps.size → x.cps.size - d < f → (Kf w).In s.heap → s.heap.PlainList D (List.toArray vs) → StrsAre vs ys → ys.length ≤ 2 * d → (ys.map (·.length)).sum ≤ d + d * 100 →
      (∀ h' tk t' ys', (∀ b o, b ≠ D → s.heap.get? b = some o → h'.get? b = some o) → (ys'.map (·.cps.toList)).flatten = (ys.map (·.cps.toList)).flatten ++ subT F rp.cps.toList f d → R (.ok (.ret (.str (Txt.join ⟨#[]⟩ ys') t'))) { s with heap := h', toks := tk }) →
      codeAny (model PG w) A (.builtin "re.Pattern.sub.loop" ⟨[.ref P, .str x t, .str rp u, .int 0 0, .int 0 0, .int n 0, .int d 0, .int d 0, .bool false, .ref D, .bool false], []⟩) R s
  | 0, d, n, s, ys, vs, hd, hf, _, _, _, _, _, _ => by exact (Nat.not_lt_zero _ hf).elim
  | f + 1, d, n, s, ys, vs, hd, hf, K, hl, hs, hy1, hy2, hR => by
    refine codeAny_builtin entry_sub_loop ?_
    unfold Builtin.«re.Pattern.sub.loop»
    dsimp only
    refine wpAny_bind (wpAny_whole K hp ?_)
    have e00 : ((0 : Int) == 0) = true := rfl
    have e01 : ((0 : Int) != 0 && decide ((n : Int) ≥ 0)) = false := rfl
    rw [if_pos e00]
    refine wpAny_bind (m := reLiteralCannotBeTurned (.str rp u)) (wpAny_of_eq (show reLiteralCannotBeTurned (.str rp u) = pure () from rfl) ?_)
    simp only [e00, e01, Bool.false_eq_true, if_false, if_true]
    obtain ⟨m, hm, hans⟩ := F.ok d hd
    unfold reNextFound
    simp only [Int.toNat_natCast]
    cases hnx : F.nx d with
    | none =>
      rw [hnx] at hans
      refine wpAny_bind (wpAny_reRun (yes := false) (by exact Nat.le_trans hm (Nat.le_add_left _ _)) hans ?_)
      have esub : subT F rp.cps.toList (f + 1) d = (x.cps.extract d x.cps.size).toList := by unfold subT; rw [hnx]
      rw [esub] at hR
      simp only [Bool.false_eq_true, if_false]
      by_cases hlt : d < x.cps.size
      · rw [if_pos hlt]
        refine wpAny_bind (slice0 hx ?_)
        refine wpAny_bind (plain_push (s := { s with toks := s.toks + 1 }) hl (fun h' hl' hsb => ?_) (by rw [List.size_toArray, strs_len hs]; unfold sizeLine; exact Nat.not_lt.mp fun hn => absurd (Nat.add_le_add (Nat.mul_le_mul_left 2 hx) (Nat.add_le_add hy1 (Nat.add_le_add (Nat.mul_le_mul_left 2 hlt) hn))) (by simp +arith)))
        have el : (List.toArray vs).push (.str ⟨x.cps.extract d x.cps.size⟩ s.toks) = List.toArray (vs ++ [.str ⟨x.cps.extract d x.cps.size⟩ s.toks]) := by simp
        rw [el] at hl'
        refine sub_end (s := { s with heap := h', toks := s.toks + 1 }) hx (ys ++ [⟨x.cps.extract d x.cps.size⟩]) _ hl' (strs_snoc hs _ _) ?_ fun tk t' => hR h' tk t' _ (fun b o hb e => (hsb.2 b hb).trans e) (by simp)
        rw [List.map_append, List.sum_append]
        show _ + ((x.cps.extract d x.cps.size).size + 0) ≤ _
        rw [Array.size_extract]
        exact Nat.not_lt.mp fun hn => (Nat.le_total d (Min.min x.cps.size x.cps.size)).elim (fun hs2 => absurd (Nat.add_le_add (Nat.mul_le_mul_left 101 hx) (Nat.add_le_add hy2 (Nat.add_le_add (Nat.mul_le_mul_left 100 hlt) (Nat.add_le_add hn (Nat.add_le_add (Nat.min_le_left x.cps.size x.cps.size) (Nat.le_of_eq (Nat.sub_add_cancel hs2))))))) (by simp +arith)) (fun hs2 => absurd (Nat.add_le_add (Nat.mul_le_mul_left 101 hx) (Nat.add_le_add hy2 (Nat.add_le_add (Nat.mul_le_mul_left 101 hlt) (Nat.add_le_add hn (Nat.le_of_eq (Nat.sub_eq_zero_of_le hs2)))))) (by simp +arith))
      · rw [if_neg hlt]
        refine sub_end hx ys vs hl hs (by exact Nat.not_lt.mp fun hn => absurd (Nat.add_le_add (Nat.mul_le_mul_left 101 hx) (Nat.add_le_add (Nat.mul_le_mul_left 101 hd) (Nat.add_le_add hy2 hn))) (by simp +arith)) fun tk t' => hR s.heap tk t' ys (fun uu uu uu e => e) ?_
        have : d = x.cps.size := by exact Nat.le_antisymm hd (Nat.not_lt.mp hlt)
        subst this
        simp
    | some p =>
      rw [hnx] at hans
      obtain ⟨hp1, hp2, hp3⟩ := F.lt d p hnx
      refine wpAny_bind (wpAny_reRun (yes := true) (by exact Nat.le_trans hm (Nat.le_add_left _ _)) hans.1 ?_)
      have esub : subT F rp.cps.toList (f + 1) d = (x.cps.extract d p).toList ++ rp.cps.toList ++ subT F rp.cps.toList f (F.w p) := by
        show (match F.nx d with | none => _ | some p => _) = _
        rw [hnx]
      rw [esub] at hR
      simp only [if_true, hans.2.1, hans.2.2]
      have eq1 : (F.w p == p) = false := by simp; exact Nat.ne_of_gt hp2
      have eitem : (Value.str rp u != Value.none) = true := rfl
      have back : ∀ (s' : Shared) (ys' : List Str) (vs' : List Value), s'.heap.PlainList D (List.toArray vs') → StrsAre vs' ys' → ys'.length ≤ 2 * d + 1 → (ys'.map (·.length)).sum ≤ p + d * 100 → (∃ h' tk, s' = { s with heap := h', toks := tk } ∧ ∀ b o, b ≠ D → s.heap.get? b = some o → h'.get? b = some o) →
          (ys'.map (·.cps.toList)).flatten = (ys.map (·.cps.toList)).flatten ++ (x.cps.extract d p).toList →
          wpAny (model PG w) (A.under (Code.builtin "re.Pattern.sub.loop" ⟨[.ref P, .str x t, .str rp u, .int 0 0, .int 0 0, .int n 0, .int d 0, .int d 0, .bool false, .ref D, .bool false], []⟩)) (do
            updateSeq D (·.push (.str rp u))
            again (Code.builtin "re.Pattern.sub.loop" ⟨[.ref P, .str x t, .str rp u, rawInt 0, rawInt 0, rawInt ((n : Int) + 1), rawInt ((F.w p : Nat) : Int), rawInt ((F.w p : Nat) : Int), .bool false, .ref D, .bool false], []⟩))
            (fun fin s' => match fin with | .done f => R (.ok f) s' | .again c' => c'.quiet = true ∧ codeAny (model PG w) A c' R s') (fun e s' => R (.error e) s') s' := by
        rintro s' ys' vs' hl' hs' hy1' hy2' ⟨h1, tk1, rfl, hk1⟩ hfl
        refine wpAny_bind (plain_push hl' (fun h' hl'' hsb => wpAny_pure ⟨by kernel_rfl, ?_⟩) (by rw [List.size_toArray, strs_len hs']; unfold sizeLine; exact Nat.not_lt.mp fun hn => absurd (Nat.add_le_add (Nat.mul_le_mul_left 2 hx) (Nat.add_le_add (Nat.mul_le_mul_left 2 hd) (Nat.add_le_add hy1' hn))) (by simp +arith)))
        have el : (List.toArray vs').push (.str rp u) = List.toArray (vs' ++ [.str rp u]) := by simp
        rw [el] at hl''
        have hkk : ∀ b o, b ≠ D → s.heap.get? b = some o → h'.get? b = some o := fun b o hb e => (hsb.2 b hb).trans (hk1 b o hb e)
        refine sub_loop hp F hKD hx hrp f (F.w p) (n + 1) { s with heap := h', toks := tk1 } (ys' ++ [rp]) _ hp3 (by exact Nat.not_le.mp fun hn => absurd (Nat.add_le_add hf (Nat.add_le_add hp1 (Nat.add_le_add hp2 (Nat.add_le_add hn (Nat.add_le_add (Nat.le_of_eq (Nat.sub_add_cancel (show d ≤ x.cps.size from Nat.not_lt.mp fun hn => absurd (Nat.add_le_add hd hn) (by simp +arith))).symm) (Nat.le_of_eq (Nat.sub_add_cancel (show F.w p ≤ x.cps.size from Nat.not_lt.mp fun hn => absurd (Nat.add_le_add hp3 hn) (by simp +arith))))))))) (by simp +arith)) (fun b o e => hkk b o (hKD b o e) (K b o e)) hl'' (strs_snoc hs' _ _) (by simp; exact Nat.not_lt.mp fun hn => absurd (Nat.add_le_add (Nat.mul_le_mul_left 2 hp1) (Nat.add_le_add (Nat.mul_le_mul_left 2 hp2) (Nat.add_le_add hy1' hn))) (by simp +arith)) ?_ fun h2 tk2 t2 ys2 hk2 hfl2 => hR h2 tk2 t2 ys2 (fun b o hb e => hk2 b o hb (hkk b o hb e)) ?_
        · rw [List.map_append, List.sum_append]
          show _ + (rp.length + 0) ≤ _
          exact Nat.not_lt.mp fun hn => absurd (Nat.add_le_add hrp (Nat.add_le_add (Nat.mul_le_mul_left 100 hp1) (Nat.add_le_add (Nat.mul_le_mul_left 101 hp2) (Nat.add_le_add hy2' hn)))) (by simp +arith)
        · rw [hfl2, List.map_append, List.flatten_append, hfl]
          simp
      by_cases hlt : d < p
      · rw [if_pos hlt]
        refine wpAny_bind (slice0 hx ?_)
        refine wpAny_bind (plain_push (s := { s with toks := s.toks + 1 }) hl (fun h' hl' hsb => ?_) (by rw [List.size_toArray, strs_len hs]; unfold sizeLine; exact Nat.not_lt.mp fun hn => absurd (Nat.add_le_add (Nat.mul_le_mul_left 2 hx) (Nat.add_le_add (Nat.mul_le_mul_left 2 hd) (Nat.add_le_add hy1 hn))) (by simp +arith)))
        have el : (List.toArray vs).push (.str ⟨x.cps.extract d p⟩ s.toks) = List.toArray (vs ++ [.str ⟨x.cps.extract d p⟩ s.toks]) := by simp
        rw [el] at hl'
        refine wpAny_bind (wpAny_pure ?_)
        rw [if_pos eitem]
        rw [eq1]
        refine back _ _ _ hl' (strs_snoc hs _ _) (by simp; assumption) ?_ ⟨h', s.toks + 1, rfl, fun b o hb e => (hsb.2 b hb).trans e⟩ (by simp)
        rw [List.map_append, List.sum_append]
        show _ + ((x.cps.extract d p).size + 0) ≤ _
        rw [Array.size_extract]
        exact Nat.not_lt.mp fun hn => (Nat.le_total d (Min.min p x.cps.size)).elim (fun hs2 => absurd (Nat.add_le_add hy2 (Nat.add_le_add hn (Nat.add_le_add (Nat.min_le_left p x.cps.size) (Nat.le_of_eq (Nat.sub_add_cancel hs2))))) (by simp +arith)) (fun hs2 => absurd (Nat.add_le_add hy2 (Nat.add_le_add hlt (Nat.add_le_add hn (Nat.le_of_eq (Nat.sub_eq_zero_of_le hs2))))) (by simp +arith))
      · rw [if_neg hlt]
        refine wpAny_bind (wpAny_pure ?_)
        rw [if_pos eitem]
        rw [eq1]
        refine back s ys vs hl hs (by exact Nat.le_succ_of_le hy1) (by exact Nat.not_lt.mp fun hn => absurd (Nat.add_le_add hy2 (Nat.add_le_add hp1 hn)) (by simp +arith)) ⟨s.heap, s.toks, rfl, fun uu uu uu e => e⟩ ?_
        have : d = p := by exact Nat.le_antisymm hp1 (Nat.not_lt.mp hlt)
        subst this
        simp
theorem noCall_str : typeLookup (.type "str") "__call__" = pure none := by rw [typeLookup_type, builtinLookup_eq_fast]; kernel_rfl
theorem call_sub {w : World} {A : Around} {E : Value → Shared → Prop} {s : Shared} {P : Addr} {code : List Nat} {x rp : Str} {t u : Tok} {Q : Value → Shared → Prop} (K : (Kf w).In s.heap) (hp : PatAt P code) (F : Finder code x.cps) (hx : x.cps.size ≤ 100000) (hrp : rp.length ≤ 100) (h92 : rp.cps.contains 92 = false)
    (hQ : ∀ h' tk t' ys', StaysIn s.heap h' → (ys'.map (·.cps.toList)).flatten = subT F rp.cps.toList (x.cps.size + 1) 0 → Q (.str (Txt.join ⟨#[]⟩ ys') t') { s with heap := h', toks := tk }) :
    wpAny (model PG w) A (call (.builtin "re.Pattern.sub") [.ref P, .str rp u, .str x t]) Q E s := by
  obtain ⟨p, f, T, h1, h2⟩ := hp.at_ w
  have hP := K _ _ h1
  refine wpAny_call (codeAny_call_builtin slot_sub.plain entry_sub (slot_sub.check _ _ _ _ _ _ _ _ ⟨_, hP, rfl⟩ (args_sub _ _ _) ?_))
  unfold Builtin.«re.Pattern.sub» reSubstitute
  dsimp only
  have e : reNamed "re.Pattern.sub" "sub" ["repl", "string", "count"] 2 [.str rp u, .str x t] [] = pure [some (.str rp u), some (.str x t), none] := by rfl
  refine wpAny_bind (wpAny_of_eq e ?_)
  dsimp only
  refine wpAny_bind (wpAny_pure ?_)
  refine wpAny_bind (wpAny_specialOf (typeIs_str _ _ _) noCall_str ?_)
  simp only [Option.isSome_none, Bool.false_eq_true, if_false]
  refine wpAny_bind (wpAny_of_eq (show asStr? (.str rp u) = pure (some rp) from rfl) ?_)
  dsimp only
  refine wpAny_bind (wpAny_pure ?_)
  simp only [h92, Bool.not_false, if_true]
  refine wpAny_bind (wpAny_pure ?_)
  refine wpAny_bind (wpAny_holding (wpAny_whole K hp ?_))
  show wpAny _ _ (newList [] >>= fun D => again (Code.builtin "re.Pattern.sub.loop" ⟨[.ref P, .str x t, .str rp u, .int 0 0, .int 0 0, .int ((0 : Nat) : Int) 0, .int ((0 : Nat) : Int) 0, .int ((0 : Nat) : Int) 0, .bool false, D, .bool false], []⟩)) _ _ _
  refine wpAny_bind (wpAny_newObj_type (wpAny_pure ⟨by kernel_rfl, ?_⟩))
  have hf := fresh_none s.heap
  refine sub_loop (D := s.heap.objs.size) hp F (fun b o e q => by have := K _ _ e; rw [q, hf] at this; cases this) hx hrp (x.cps.size + 1) 0 0 _ [] [] (Nat.zero_le _) (by exact Nat.lt_succ_self _) (fun b o e => Heap.get?_push_of_some _ (K b o e)) ⟨_, Heap.get?_push_size _ rfl⟩ .nil (by simp) (by simp) fun h' tk t' ys' hk hfl => ?_
  refine hQ h' tk t' ys' (fun b o e => hk b o (fun q => by rw [q, hf] at e; cases e) (Heap.get?_push_of_some _ e)) (by simpa using hfl)
theorem nxt1_lt (text : Array Nat) (lim : Nat) : ∀ (f s p : Nat), nxt1 text lim f s = some p → s ≤ p ∧ p < lim ∧ hit1 text p = true
  | 0, _, _, h => by cases h
  | f + 1, s, p, h => by
    unfold nxt1 at h
    by_cases hs : s < lim
    · rw [if_pos hs] at h
      cases hh : hit1 text s with
      | true => rw [hh] at h; cases h; exact ⟨Nat.le_refl _, hs, hh⟩
      | false =>
        rw [hh] at h
        obtain ⟨a, b, d⟩ := nxt1_lt text lim f (s + 1) p h
        exact ⟨by exact Nat.le_of_succ_le a, b, d⟩
    · rw [if_neg hs] at h; cases h
noncomputable def finder1 (text : Array Nat) (hx : text.size ≤ 100000) : Finder code1 text where
  nx := fun s => nxt1 text text.size (text.size - s + 1) s
  w := (· + 1)
  ok := fun s hs => by
    obtain ⟨n, hn, z⟩ := search1 text text.size s false hs
    exact ⟨n, by (clear z hs; lia), z⟩
  lt := fun s p h => by
    obtain ⟨a, b, _⟩ := nxt1_lt _ _ _ _ _ h
    exact ⟨a, Nat.lt_succ_self _, b⟩
end
section
open PySem PySem.W PySem.Calls PyProof PyProof.Rows PySem.SeqAt
open PySem.Builtin.Re
noncomputable def A2 (text : Array Nat) (lim s : Nat) (sn : Sre.Seen) : Sre.M :=
  { code := code2.toArray, text, lim, start := s, lastStart := lim, pc := 10, pos := s, handed := s, outermost := true, marks := #[],
    frames := [{ wait := .nextStart, pc := 10, pos := s, outermost := true }], weight := 1, seen := sn }
noncomputable def B2 (text : Array Nat) (lim s : Nat) (sn : Sre.Seen) (a pc pos : Nat) : Sre.M :=
  { code := code2.toArray, text, lim, start := s, lastStart := lim, pc, pos, handed := s, outermost := true, marks := #[],
    frames := [{ wait := .nextBranch, pc := a, pos := s, outermost := true, kept := { lastmark := -1, lastindex := -1 } }, { wait := .nextStart, pc := 10, pos := s, outermost := true }], weight := 2, seen := sn }
theorem A2_branch {text lim s sn} : (A2 text lim s sn).step = B2 text lim s (sn.add 7) 11 12 s := rfl
theorem B2_12_yes {text : Array Nat} {lim s sn pos} (hp : pos < lim) (h : text.getD pos 0 = 13) : (B2 text lim s sn 11 12 pos).step = B2 text lim s (sn.add 16) 11 14 (pos + 1) := by
  show (if pos ≥ lim then _ else match (Except.ok (text.getD pos 0 == 13, sn.add 16) : Except String (Bool × Sre.Seen)) with | .error _ => _ | .ok (false, _) => _ | .ok (true, _) => _) = _
  rw [if_neg (by exact Nat.not_le_of_lt hp), h]; rfl
theorem B2_12_no {text : Array Nat} {lim s sn pos} (h : lim ≤ pos ∨ text.getD pos 0 ≠ 13) : (B2 text lim s sn 11 12 pos).step = { (B2 text lim s (sn.add 16) 11 12 pos) with answer := some false } := by
  show (if pos ≥ lim then _ else match (Except.ok (text.getD pos 0 == 13, sn.add 16) : Except String (Bool × Sre.Seen)) with | .error _ => _ | .ok (false, _) => _ | .ok (true, _) => _) = _
  by_cases hp : pos ≥ lim
  · rw [if_pos hp]; rfl
  · rw [if_neg hp]
    have : (text.getD pos 0 == 13) = false := by
      rcases h with h | h
      · exact absurd (Nat.not_le.mp hp) (Nat.not_lt_of_le h)
      · simpa using h
    rw [this]; rfl
theorem B2_14_yes {text : Array Nat} {lim s sn pos} (hp : pos < lim) (h : text.getD pos 0 = 10) : (B2 text lim s sn 11 14 pos).step = B2 text lim s (sn.add 16) 11 16 (pos + 1) := by
  show (if pos ≥ lim then _ else match (Except.ok (text.getD pos 0 == 10, sn.add 16) : Except String (Bool × Sre.Seen)) with | .error _ => _ | .ok (false, _) => _ | .ok (true, _) => _) = _
  rw [if_neg (by exact Nat.not_le_of_lt hp), h]; rfl
theorem B2_14_no {text : Array Nat} {lim s sn pos} (h : lim ≤ pos ∨ text.getD pos 0 ≠ 10) : (B2 text lim s sn 11 14 pos).step = { (B2 text lim s (sn.add 16) 11 14 pos) with answer := some false } := by
  show (if pos ≥ lim then _ else match (Except.ok (text.getD pos 0 == 10, sn.add 16) : Except String (Bool × Sre.Seen)) with | .error _ => _ | .ok (false, _) => _ | .ok (true, _) => _) = _
  by_cases hp : pos ≥ lim
  · rw [if_pos hp]; rfl
  · rw [if_neg hp]
    have : (text.getD pos 0 == 10) = false := by
      rcases h with h | h
      · exact absurd (Nat.not_le.mp hp) (Nat.not_lt_of_le h)
      · simpa using h
    rw [this]; rfl
theorem B2_19_yes {text : Array Nat} {lim s sn pos} (hp : pos < lim) (h : text.getD pos 0 = 10) : (B2 text lim s sn 18 19 pos).step = B2 text lim s (sn.add 16) 18 21 (pos + 1) := by
  show (if pos ≥ lim then _ else match (Except.ok (text.getD pos 0 == 10, sn.add 16) : Except String (Bool × Sre.Seen)) with | .error _ => _ | .ok (false, _) => _ | .ok (true, _) => _) = _
  rw [if_neg (by exact Nat.not_le_of_lt hp), h]; rfl
theorem B2_19_no {text : Array Nat} {lim s sn pos} (h : lim ≤ pos ∨ text.getD pos 0 ≠ 10) : (B2 text lim s sn 18 19 pos).step = { (B2 text lim s (sn.add 16) 18 19 pos) with answer := some false } := by
  show (if pos ≥ lim then _ else match (Except.ok (text.getD pos 0 == 10, sn.add 16) : Except String (Bool × Sre.Seen)) with | .error _ => _ | .ok (false, _) => _ | .ok (true, _) => _) = _
  by_cases hp : pos ≥ lim
  · rw [if_pos hp]; rfl
  · rw [if_neg hp]
    have : (text.getD pos 0 == 10) = false := by
      rcases h with h | h
      · exact absurd (Nat.not_le.mp hp) (Nat.not_lt_of_le h)
      · simpa using h
    rw [this]; rfl
theorem B2_24_yes {text : Array Nat} {lim s sn pos} (hp : pos < lim) (h : text.getD pos 0 = 13) : (B2 text lim s sn 23 24 pos).step = B2 text lim s (sn.add 16) 23 26 (pos + 1) := by
  show (if pos ≥ lim then _ else match (Except.ok (text.getD pos 0 == 13, sn.add 16) : Except String (Bool × Sre.Seen)) with | .error _ => _ | .ok (false, _) => _ | .ok (true, _) => _) = _
  rw [if_neg (by exact Nat.not_le_of_lt hp), h]; rfl
theorem B2_jump1 {text : Array Nat} {lim s sn pos} : (B2 text lim s sn 11 16 pos).step = B2 text lim s (sn.add 15) 11 35 pos := rfl
theorem B2_jump2 {text : Array Nat} {lim s sn pos} : (B2 text lim s sn 18 21 pos).step = B2 text lim s (sn.add 15) 18 35 pos := rfl
theorem B2_back1 {text : Array Nat} {lim s sn pc pos} : ({ (B2 text lim s sn 11 pc pos) with answer := some false } : Sre.M).step = B2 text lim s sn 18 19 s := rfl
theorem B2_back2 {text : Array Nat} {lim s sn pc pos} : ({ (B2 text lim s sn 18 pc pos) with answer := some false } : Sre.M).step = B2 text lim s sn 23 24 s := rfl
theorem B2_done {text : Array Nat} {lim s sn a pos} : (it 4 (B2 text lim s sn a 35 pos)).outcome = some .matched ∧ (it 4 (B2 text lim s sn a 35 pos)).start = s ∧ (it 4 (B2 text lim s sn a 35 pos)).handed = pos := by
  have e : (B2 text lim s sn a 35 pos).step = { (B2 text lim s (sn.add 1) a 35 pos) with handed := pos, answer := some true } := rfl
  show ((B2 text lim s sn a 35 pos).step.step.step.step).outcome = _ ∧ ((B2 text lim s sn a 35 pos).step.step.step.step).start = _ ∧ ((B2 text lim s sn a 35 pos).step.step.step.step).handed = _
  rw [e]
  exact ⟨rfl, rfl, rfl⟩
noncomputable def L2 (text : Array Nat) (lim s : Nat) (sn : Sre.Seen) (pos : Nat) : Sre.M :=
  { code := code2.toArray, text, lim, start := s, lastStart := lim, pc := 29, pos, handed := pos, outermost := false, marks := #[],
    frames := [{ wait := .lookNot, pc := 26, pos, outermost := true, kept := { lastmark := -1, lastindex := -1 } }, { wait := .nextBranch, pc := 23, pos := s, outermost := true, kept := { lastmark := -1, lastindex := -1 } }, { wait := .nextStart, pc := 10, pos := s, outermost := true }], weight := 3, seen := sn }
theorem B2_look {text : Array Nat} {lim s sn pos} : (B2 text lim s sn 23 26 pos).step = L2 text lim s (sn.add 5) pos := by
  show (if pos < 0 then (B2 text lim s (sn.add 5) 23 32 pos) else L2 text lim s (sn.add 5) pos) = _
  rw [if_neg (Nat.not_lt_zero _)]
theorem L2_no {text : Array Nat} {lim s sn pos} (h : lim ≤ pos ∨ text.getD pos 0 ≠ 10) : (L2 text lim s sn pos).step.step = { (B2 text lim s (sn.add 16) 23 32 pos) with handed := pos } := by
  have e : (L2 text lim s sn pos).step = { (L2 text lim s (sn.add 16) pos) with answer := some false } := by
    show (if pos ≥ lim then _ else match (Except.ok (text.getD pos 0 == 10, sn.add 16) : Except String (Bool × Sre.Seen)) with | .error _ => _ | .ok (false, _) => _ | .ok (true, _) => _) = _
    by_cases hp : pos ≥ lim
    · rw [if_pos hp]; rfl
    · rw [if_neg hp]
      have : (text.getD pos 0 == 10) = false := by
        rcases h with h | h
        · exact absurd (Nat.not_le.mp hp) (Nat.not_lt_of_le h)
        · simpa using h
      rw [this]; rfl
  rw [e]
  rfl
theorem B2_done3 {text : Array Nat} {lim s sn pos} : (it 5 { (B2 text lim s sn 23 32 pos) with handed := pos }).outcome = some .matched ∧ (it 5 { (B2 text lim s sn 23 32 pos) with handed := pos }).start = s ∧ (it 5 { (B2 text lim s sn 23 32 pos) with handed := pos }).handed = pos := ⟨by kernel_rfl, by kernel_rfl, by kernel_rfl⟩
noncomputable def end2 (text : Array Nat) (lim s : Nat) : Nat := if text.getD s 0 = 13 ∧ s + 1 < lim ∧ text.getD (s + 1) 0 = 10 then s + 2 else s + 1
theorem A2_run {text : Array Nat} {lim s : Nat} {sn : Sre.Seen} (hs : s < lim) (h : text.getD s 0 = 10 ∨ text.getD s 0 = 13) :
    ∃ n, n ≤ 20 ∧ (it n (A2 text lim s sn)).outcome = some .matched ∧ (it n (A2 text lim s sn)).start = s ∧ (it n (A2 text lim s sn)).handed = end2 text lim s := by
  by_cases h13 : text.getD s 0 = 13
  · by_cases hrn : s + 1 < lim ∧ text.getD (s + 1) 0 = 10
    · have e : it 4 (A2 text lim s sn) = B2 text lim s ((((sn.add 7).add 16).add 16).add 15) 11 35 (s + 2) := by
        show (A2 text lim s sn).step.step.step.step = _
        rw [A2_branch, B2_12_yes hs h13, B2_14_yes hrn.1 hrn.2, B2_jump1]
      refine ⟨4 + 4, by decide, ?_⟩
      rw [it_add, e]
      unfold end2
      rw [if_pos ⟨h13, hrn⟩]
      exact B2_done
    · have hno : lim ≤ s + 1 ∨ text.getD (s + 1) 0 ≠ 10 := by
        by_cases hl : s + 1 < lim
        · exact .inr fun q => hrn ⟨hl, q⟩
        · exact .inl (by exact (Nat.not_lt.mp hl))
      have e : it 10 (A2 text lim s sn) = { (B2 text lim s (((((((sn.add 7).add 16).add 16).add 16).add 16).add 5).add 16) 23 32 (s + 1)) with handed := s + 1 } := by
        show ((A2 text lim s sn).step.step.step.step.step.step.step.step).step.step = _
        rw [A2_branch, B2_12_yes hs h13, B2_14_no hno, B2_back1, B2_19_no (.inr (by rw [h13]; decide)), B2_back2, B2_24_yes hs h13, B2_look, L2_no hno]
      refine ⟨10 + 5, by decide, ?_⟩
      rw [it_add, e]
      unfold end2
      rw [if_neg (fun q => hrn q.2)]
      exact B2_done3
  · have h10 : text.getD s 0 = 10 := h.resolve_right h13
    have e : it 5 (A2 text lim s sn) = B2 text lim s ((((sn.add 7).add 16).add 16).add 15) 18 35 (s + 1) := by
      show (A2 text lim s sn).step.step.step.step.step = _
      rw [A2_branch, B2_12_no (.inr h13), B2_back1, B2_19_yes hs h10, B2_jump2]
    refine ⟨5 + 4, by decide, ?_⟩
    rw [it_add, e]
    unfold end2
    rw [if_neg (fun q => h13 q.1)]
    exact B2_done
end
section
open PySem PySem.W PySem.Calls PyProof PyProof.Rows PySem.SeqAt
open PySem.Builtin.Re
noncomputable def eol (c : Nat) : Bool := c == 10 || c == 13
theorem inSet_2 (c : Nat) (seen : Sre.Seen) : ∃ seen', Sre.inSet code2.toArray c code2.toArray.size 5 true seen = .ok (eol c, seen') := by
  cases h1 : c == 10 with
  | true =>
    refine ⟨seen.add 16, ?_⟩
    show (if (c == 10) = true then Except.ok (true, seen.add 16) else _) = _
    unfold eol
    rw [h1]; rfl
  | false =>
    cases h2 : c == 13 with
    | true =>
      refine ⟨(seen.add 16).add 16, ?_⟩
      show (if (c == 10) = true then Except.ok (true, seen.add 16) else if (c == 13) = true then Except.ok (true, (seen.add 16).add 16) else Except.ok (!true, ((seen.add 16).add 16).add 0)) = _
      unfold eol
      rw [h1, h2]; rfl
    | false =>
      refine ⟨((seen.add 16).add 16).add 0, ?_⟩
      show (if (c == 10) = true then Except.ok (true, seen.add 16) else if (c == 13) = true then Except.ok (true, (seen.add 16).add 16) else Except.ok (!true, ((seen.add 16).add 16).add 0)) = _
      unfold eol
      rw [h1, h2]; rfl
noncomputable def nxt2 (text : Array Nat) (lim : Nat) : Nat → Nat → Option Nat
  | 0, _ => none
  | f + 1, s => if s < lim then (if eol (text.getD s 0) then some s else nxt2 text lim f (s + 1)) else none
theorem admitted_2 (m : Sre.M) (hc : m.code = code2.toArray) : ∀ (f s : Nat) (seen : Sre.Seen), ∃ seen', m.admitted f s seen = .ok (nxt2 m.text m.lim f s, seen')
  | 0, s, seen => ⟨seen, rfl⟩
  | f + 1, s, seen => by
    unfold Sre.M.admitted nxt2
    by_cases hs : s < m.lim
    · rw [if_neg (by exact Nat.not_le_of_lt hs), if_pos hs, hc]
      obtain ⟨seen', e⟩ := inSet_2 (m.text.getD s 0) seen
      rw [e]
      cases h : eol (m.text.getD s 0) with
      | true => exact ⟨seen', rfl⟩
      | false => exact admitted_2 m hc f (s + 1) seen'
    · rw [if_pos (by exact (Nat.not_lt.mp hs)), if_neg hs]
      exact ⟨seen, rfl⟩
theorem nxt2_at (text : Array Nat) (lim : Nat) : ∀ (f s p : Nat), nxt2 text lim f s = some p → s ≤ p ∧ p < lim ∧ eol (text.getD p 0) = true
  | 0, _, _, h => by cases h
  | f + 1, s, p, h => by
    unfold nxt2 at h
    by_cases hs : s < lim
    · rw [if_pos hs] at h
      cases hh : eol (text.getD s 0) with
      | true => rw [hh] at h; cases h; exact ⟨Nat.le_refl _, hs, hh⟩
      | false =>
        rw [hh] at h
        obtain ⟨a, b, d⟩ := nxt2_at text lim f (s + 1) p h
        exact ⟨by exact Nat.le_of_succ_le a, b, d⟩
    · rw [if_neg hs] at h; cases h
theorem search2 (text : Array Nat) (lim s : Nat) (hs : s ≤ lim) : Ans (Sre.forSearch code2.toArray text 0 s lim false) 30 (nxt2 text lim (lim + 1 - s) s) (end2 text lim) := by
  by_cases hlt : s < lim
  · unfold Sre.forSearch
    have hc : (Sre.header code2.toArray).1 = 1 := rfl
    simp only [hc]
    rw [if_neg (by simp; exact ⟨Nat.not_lt.mp fun hn => absurd (Nat.add_le_add hlt hn) (by simp +arith), fun hn => absurd (Nat.add_le_add hlt (Nat.add_le_add (Nat.le_of_eq hn) (Nat.le_of_eq (Nat.sub_add_cancel (show s ≤ lim from Nat.not_lt.mp fun hn => absurd (Nat.add_le_add hlt hn) (by simp +arith))).symm))) (by simp +arith)⟩)]
    unfold Sre.M.attemptFrom
    have hfs : ∀ m : Sre.M, m.code = code2.toArray → m.hasFirstSet = true := fun m hm => by unfold Sre.M.hasFirstSet; rw [hm]; rfl
    rw [hfs _ rfl]
    simp only [Bool.not_true, Bool.false_eq_true, if_false]
    generalize hA : Sre.M.admitted _ _ _ _ = r
    have key : ∃ seen', r = .ok (nxt2 text lim (lim + 1 - s) s, seen') := by
      rw [← hA]
      exact admitted_2 _ rfl _ _ _
    obtain ⟨seen', rfl⟩ := key
    cases hn : nxt2 text lim (lim + 1 - s) s with
    | none => exact ⟨1, by decide, rfl⟩
    | some p =>
      obtain ⟨_, hp, he⟩ := nxt2_at _ _ _ _ _ hn
      have he' : text.getD p 0 = 10 ∨ text.getD p 0 = 13 := by
        unfold eol at he
        rcases Bool.or_eq_true_iff.mp he with h | h
        · exact .inl (by simpa using h)
        · exact .inr (by simpa using h)
      obtain ⟨n, hn', z⟩ := A2_run (sn := seen') hp he'
      exact ⟨n, by exact Nat.le_add_left_of_le hn', z⟩
  · have e : nxt2 text lim (lim + 1 - s) s = none := by
      cases h : lim + 1 - s with
      | zero => rfl
      | succ f => unfold nxt2; rw [if_neg hlt]
    rw [e]
    refine ⟨1, by decide, ?_⟩
    show (it 1 (if (decide (s > lim) || decide (lim - s < 1)) = true then _ else _)).outcome = _
    rw [if_pos (by simp; exact .inr (Nat.le_antisymm (Nat.not_lt.mp fun hn => absurd (Nat.add_le_add (Nat.not_lt.mp hlt) (Nat.add_le_add hn (Nat.le_of_eq (Nat.sub_add_cancel (show s ≤ lim from Nat.not_lt.mp fun hn => absurd (Nat.add_le_add hs hn) (by simp +arith)))))) (by simp +arith)) (Nat.not_lt.mp fun hn => absurd hn (by simp +arith))))]
    rfl
theorem end2_le (text : Array Nat) (lim p : Nat) (hp : p < lim) : p < end2 text lim p ∧ end2 text lim p ≤ lim := by
  unfold end2
  by_cases h : text.getD p 0 = 13 ∧ p + 1 < lim ∧ text.getD (p + 1) 0 = 10
  · rw [if_pos h]; exact ⟨by exact Nat.le_succ _, by have := h.2.1; assumption⟩
  · rw [if_neg h]; exact ⟨by exact Nat.lt_succ_self _, by assumption⟩
noncomputable def finder2 (text : Array Nat) (hx : text.size ≤ 100000) : Finder code2 text where
  nx := fun s => nxt2 text text.size (text.size + 1 - s) s
  w := end2 text text.size
  ok := fun s hs => by
    obtain ⟨n, hn, z⟩ := search2 text text.size s hs
    exact ⟨n, by exact Nat.le_trans hn (Nat.le_add_left _ _), z⟩
  lt := fun s p h => by
    obtain ⟨a, b, _⟩ := nxt2_at _ _ _ _ _ h
    have h2 := end2_le text text.size p b
    exact ⟨a, h2.1, h2.2⟩
end
section
open PySem PySem.W PySem.Calls PyProof PyProof.Rows PySem.SeqAt
noncomputable def sub2 : List Nat → List Nat
  | [] => []
  | [c] => if eol c then [13, 10] else [c]
  | a :: b :: r => if a = 13 ∧ b = 10 then [13, 10] ++ sub2 r else (if eol a then [13, 10] else [a]) ++ sub2 (b :: r)
noncomputable def sub1 : Bool → List Nat → List Nat
  | _, [] => []
  | b, c :: r => (if b && c == 46 then [46, 46] else [c]) ++ sub1 (c == 10) r
theorem getD_list (text : List Nat) (p : Nat) : text.toArray.getD p 0 = text.getD p 0 := by simp [List.getD_eq_getElem?_getD]
theorem extract_cons (text : Array Nat) (d e : Nat) (h : d < e) (he : e ≤ text.size) : (text.extract d e).toList = text.getD d 0 :: (text.extract (d + 1) e).toList := by
  have hd : d < text.size := Nat.lt_of_lt_of_le h he
  have e1 : (text.extract d e).toList = (text.toList.drop d).take (e - d) := by simp [Array.toList_extract, List.extract]
  have e2 : (text.extract (d + 1) e).toList = (text.toList.drop (d + 1)).take (e - (d + 1)) := by simp [Array.toList_extract, List.extract]
  have e3 : e - d = (e - (d + 1)) + 1 := by (clear e2 e1 hd he; lia)
  have hl : d < text.toList.length := by simpa using hd
  rw [e1, e2, e3, List.drop_eq_getElem_cons hl, List.take_succ_cons]
  congr 1
  rw [Array.getD_eq_getD_getElem?, Array.getElem?_eq_getElem hd]
  simp
theorem subT_skip {code : List Nat} {text : Array Nat} (F : Finder code text) (rp : List Nat) (f d : Nat) (hd : d < text.size) (h : F.nx d = F.nx (d + 1)) : subT F rp (f + 1) d = text.getD d 0 :: subT F rp (f + 1) (d + 1) := by
  unfold subT
  rw [h]
  cases hn : F.nx (d + 1) with
  | none => exact extract_cons text d text.size hd (Nat.le_refl _)
  | some p =>
    obtain ⟨a, b, c⟩ := F.lt _ _ hn
    show (text.extract d p).toList ++ rp ++ _ = _
    rw [extract_cons text d p (by assumption) (by exact Nat.le_trans (Nat.le_of_lt b) c)]
    rfl
theorem subT_fuel {code : List Nat} {text : Array Nat} (F : Finder code text) (rp : List Nat) : ∀ (f g d : Nat), d ≤ text.size → text.size - d < f → text.size - d < g → subT F rp f d = subT F rp g d
  | 0, _, _, _, h, _ => by exact (Nat.not_lt_zero _ h).elim
  | _, 0, _, _, _, h => by exact (Nat.not_lt_zero _ h).elim
  | f + 1, g + 1, d, hd, hf, hg => by
    unfold subT
    cases hn : F.nx d with
    | none => rfl
    | some p =>
      obtain ⟨a, b, c⟩ := F.lt _ _ hn
      show _ ++ _ ++ _ = _ ++ _ ++ _
      rw [subT_fuel F rp f g (F.w p) c (by exact Nat.not_le.mp fun hn => absurd (Nat.add_le_add hf (Nat.add_le_add a (Nat.add_le_add b (Nat.add_le_add hn (Nat.add_le_add (Nat.le_of_eq (Nat.sub_add_cancel (show d ≤ text.size from Nat.not_lt.mp fun hn => absurd (Nat.add_le_add hd hn) (by simp +arith))).symm) (Nat.le_of_eq (Nat.sub_add_cancel (show F.w p ≤ text.size from Nat.not_lt.mp fun hn => absurd (Nat.add_le_add c hn) (by simp +arith))))))))) (by simp +arith)) (by exact Nat.not_le.mp fun hn => absurd (Nat.add_le_add hg (Nat.add_le_add a (Nat.add_le_add b (Nat.add_le_add hn (Nat.add_le_add (Nat.le_of_eq (Nat.sub_add_cancel (show d ≤ text.size from Nat.not_lt.mp fun hn => absurd (Nat.add_le_add hd hn) (by simp +arith))).symm) (Nat.le_of_eq (Nat.sub_add_cancel (show F.w p ≤ text.size from Nat.not_lt.mp fun hn => absurd (Nat.add_le_add c hn) (by simp +arith))))))))) (by simp +arith))]
theorem subT1 (text : Array Nat) (hx : text.size ≤ 100000) : ∀ (k d f : Nat), text.size - d = k → d ≤ text.size → k < f → subT (finder1 text hx) [46, 46] f d = sub1 (d == 0 || text.getD (d - 1) 0 == 10) (text.toList.drop d)
  | 0, d, f, hk, hd, hf => by
    obtain ⟨f, rfl⟩ : ∃ g, f = g + 1 := ⟨f - 1, by exact (Nat.sub_add_cancel hf).symm⟩
    have e : d = text.size := by (clear hf hx; lia)
    subst e
    have hn : (finder1 text hx).nx text.size = none := by
      show nxt1 text text.size (text.size - text.size + 1) text.size = none
      unfold nxt1; rw [if_neg (Nat.lt_irrefl _)]
    have e0 : text.toList.drop text.size = [] := List.drop_of_length_le (by simp)
    rw [e0]
    unfold subT
    rw [hn]
    show (text.extract text.size text.size).toList = []
    simp
  | k + 1, d, f, hk, hd, hf => by
    obtain ⟨f, rfl⟩ : ∃ g, f = g + 1 := ⟨f - 1, by exact Nat.le_antisymm (Nat.not_lt.mp fun hn => absurd (Nat.add_le_add hn (Nat.le_of_eq (Nat.sub_add_cancel (show 1 ≤ f from Nat.not_lt.mp fun hn => absurd (Nat.add_le_add hf hn) (by simp +arith))).symm)) (by simp +arith)) (Nat.not_lt.mp fun hn => absurd (Nat.add_le_add hn (Nat.le_of_eq (Nat.sub_add_cancel (show 1 ≤ f from Nat.not_lt.mp fun hn => absurd (Nat.add_le_add hf hn) (by simp +arith))))) (by simp +arith))⟩
    have hlt : d < text.size := by exact Nat.not_le.mp fun hn => absurd (Nat.add_le_add (Nat.le_of_eq hk.symm) (Nat.add_le_add hn (Nat.le_of_eq (Nat.sub_add_cancel (show d ≤ text.size from Nat.not_lt.mp fun hn => absurd (Nat.add_le_add hd hn) (by simp +arith)))))) (by simp +arith)
    have hl : d < text.toList.length := by simpa using hlt
    have ec : text.toList[d] = text.getD d 0 := by
      rw [Array.getD_eq_getD_getElem?, Array.getElem?_eq_getElem hlt]; simp
    rw [List.drop_eq_getElem_cons hl, ec]
    have ih := subT1 text hx k (d + 1) (f + 1) (by exact Nat.le_antisymm (Nat.not_lt.mp fun hn => absurd (Nat.add_le_add (Nat.le_of_eq hk) (Nat.add_le_add hn (Nat.add_le_add (Nat.le_of_eq (Nat.sub_add_cancel (show d ≤ text.size from Nat.not_lt.mp fun hn => absurd (Nat.add_le_add hlt hn) (by simp +arith))).symm) (Nat.le_of_eq (Nat.sub_add_cancel (show d + 1 ≤ text.size from Nat.not_lt.mp fun hn => absurd (Nat.add_le_add hlt hn) (by simp +arith))))))) (by simp +arith)) (Nat.not_lt.mp fun hn => absurd (Nat.add_le_add (Nat.le_of_eq hk.symm) (Nat.add_le_add hn (Nat.add_le_add (Nat.le_of_eq (Nat.sub_add_cancel (show d ≤ text.size from Nat.not_lt.mp fun hn => absurd (Nat.add_le_add hlt hn) (by simp +arith)))) (Nat.le_of_eq (Nat.sub_add_cancel (show d + 1 ≤ text.size from Nat.not_lt.mp fun hn => absurd (Nat.add_le_add hlt hn) (by simp +arith))).symm)))) (by simp +arith))) hlt (by exact Nat.lt_of_succ_lt hf)
    have eb : ((d + 1 == 0) || text.getD (d + 1 - 1) 0 == 10) = (text.getD d 0 == 10) := by
      rw [Nat.add_sub_cancel]; rfl
    rw [eb] at ih
    show _ = (if ((d == 0 || text.getD (d - 1) 0 == 10) && text.getD d 0 == 46) = true then [46, 46] else [text.getD d 0]) ++ sub1 (text.getD d 0 == 10) (text.toList.drop (d + 1))
    cases hh : ((d == 0 || text.getD (d - 1) 0 == 10) && text.getD d 0 == 46) with
    | true =>
      have hn : (finder1 text hx).nx d = some d := by
        show nxt1 text text.size (text.size - d + 1) d = some d
        unfold nxt1 hit1; rw [if_pos hlt, hh]; rfl
      have e1 : subT (finder1 text hx) [46, 46] (f + 1) d = [46, 46] ++ subT (finder1 text hx) [46, 46] f (d + 1) := by
        show (match (finder1 text hx).nx d with | none => _ | some p => _) = _
        rw [hn]
        show (text.extract d d).toList ++ [46, 46] ++ _ = _
        simp
        rfl
      rw [e1, subT_fuel _ _ f (f + 1) (d + 1) hlt (by exact Nat.not_le.mp fun hn => absurd (Nat.add_le_add (Nat.le_of_eq hk) (Nat.add_le_add hf (Nat.add_le_add hn (Nat.add_le_add (Nat.le_of_eq (Nat.sub_add_cancel (show d ≤ text.size from Nat.not_lt.mp fun hn => absurd (Nat.add_le_add hlt hn) (by simp +arith))).symm) (Nat.le_of_eq (Nat.sub_add_cancel (show d + 1 ≤ text.size from Nat.not_lt.mp fun hn => absurd (Nat.add_le_add hlt hn) (by simp +arith)))))))) (by simp +arith)) (by exact Nat.not_le.mp fun hn => absurd (Nat.add_le_add (Nat.le_of_eq hk) (Nat.add_le_add hf (Nat.add_le_add hn (Nat.add_le_add (Nat.le_of_eq (Nat.sub_add_cancel (show d ≤ text.size from Nat.not_lt.mp fun hn => absurd (Nat.add_le_add hlt hn) (by simp +arith))).symm) (Nat.le_of_eq (Nat.sub_add_cancel (show d + 1 ≤ text.size from Nat.not_lt.mp fun hn => absurd (Nat.add_le_add hlt hn) (by simp +arith)))))))) (by simp +arith)), ih]
      rfl
    | false =>
      have hn : (finder1 text hx).nx d = (finder1 text hx).nx (d + 1) := by
        show nxt1 text text.size (text.size - d + 1) d = nxt1 text text.size (text.size - (d + 1) + 1) (d + 1)
        have e : text.size - (d + 1) + 1 = text.size - d := by omega
        rw [e]
        conv => lhs; unfold nxt1 hit1
        rw [if_pos hlt, hh]; rfl
      rw [subT_skip _ _ f d hlt hn, ih]
      rfl
theorem sub2_no {a : Nat} {r : List Nat} (h : eol a = false) : sub2 (a :: r) = a :: sub2 r := by
  cases r with
  | nil => unfold sub2; rw [h]; rfl
  | cons b r =>
    have h13 : ¬ (a = 13 ∧ b = 10) := by rintro ⟨rfl, _⟩; cases h
    rw [sub2, if_neg h13, h]; rfl
theorem sub2_two {r : List Nat} : sub2 (13 :: 10 :: r) = 13 :: 10 :: sub2 r := by rw [sub2, if_pos ⟨rfl, rfl⟩]; rfl
theorem sub2_one {a : Nat} {r : List Nat} (h : eol a = true) (hn : ¬ (a = 13 ∧ r.head? = some 10)) : sub2 (a :: r) = 13 :: 10 :: sub2 r := by
  cases r with
  | nil => unfold sub2; rw [h]; rfl
  | cons b r =>
    have : ¬ (a = 13 ∧ b = 10) := fun ⟨x, y⟩ => hn ⟨x, by rw [y]; rfl⟩
    rw [sub2, if_neg this, h]; rfl
theorem subT2 (text : Array Nat) (hx : text.size ≤ 100000) : ∀ (k d f : Nat), text.size - d ≤ k → d ≤ text.size → text.size - d < f → subT (finder2 text hx) [13, 10] f d = sub2 (text.toList.drop d)
  | k, d, 0, hk, hd, hf => by exact (Nat.not_lt_zero _ hf).elim
  | k, d, f + 1, hk, hd, hf => by
    by_cases hlt : d < text.size
    · cases k with
      | zero => exact False.elim (absurd (Nat.add_le_add hlt (Nat.add_le_add hk (Nat.le_of_eq (Nat.sub_add_cancel (show d ≤ text.size from Nat.not_lt.mp fun hn => absurd (Nat.add_le_add hlt hn) (by simp +arith))).symm))) (by simp +arith))
      | succ k =>
        have hl : d < text.toList.length := by simpa using hlt
        have ec : text.toList[d] = text.getD d 0 := by
          rw [Array.getD_eq_getD_getElem?, Array.getElem?_eq_getElem hlt]; simp
        rw [List.drop_eq_getElem_cons hl, ec]
        have nx_eq : ∀ s, (finder2 text hx).nx s = nxt2 text text.size (text.size + 1 - s) s := fun uu => rfl
        have efu : text.size + 1 - d = (text.size - d) + 1 := by exact Nat.le_antisymm (Nat.not_lt.mp fun hn => absurd (Nat.add_le_add hn (Nat.add_le_add (Nat.le_of_eq (Nat.sub_add_cancel (show d ≤ text.size from Nat.not_lt.mp fun hn => absurd (Nat.add_le_add hlt hn) (by simp +arith))).symm) (Nat.le_of_eq (Nat.sub_add_cancel (show d ≤ text.size + 1 from Nat.not_lt.mp fun hn => absurd (Nat.add_le_add hlt hn) (by simp +arith)))))) (by simp +arith)) (Nat.not_lt.mp fun hn => absurd (Nat.add_le_add hn (Nat.add_le_add (Nat.le_of_eq (Nat.sub_add_cancel (show d ≤ text.size from Nat.not_lt.mp fun hn => absurd (Nat.add_le_add hlt hn) (by simp +arith)))) (Nat.le_of_eq (Nat.sub_add_cancel (show d ≤ text.size + 1 from Nat.not_lt.mp fun hn => absurd (Nat.add_le_add hlt hn) (by simp +arith))).symm))) (by simp +arith))
        cases he : eol (text.getD d 0) with
        | false =>
          have hn : (finder2 text hx).nx d = (finder2 text hx).nx (d + 1) := by
            rw [nx_eq, nx_eq, efu]
            have e : text.size + 1 - (d + 1) = text.size - d := by simp +arith
            rw [e]
            conv => lhs; unfold nxt2
            rw [if_pos hlt, he]; rfl
          rw [subT_skip _ _ f d hlt hn, sub2_no he, subT2 text hx k (d + 1) (f + 1) (by exact Nat.not_lt.mp fun hn => absurd (Nat.add_le_add hk (Nat.add_le_add hn (Nat.add_le_add (Nat.le_of_eq (Nat.sub_add_cancel (show d ≤ text.size from Nat.not_lt.mp fun hn => absurd (Nat.add_le_add hlt hn) (by simp +arith))).symm) (Nat.le_of_eq (Nat.sub_add_cancel (show d + 1 ≤ text.size from Nat.not_lt.mp fun hn => absurd (Nat.add_le_add hlt hn) (by simp +arith))))))) (by simp +arith)) hlt (by exact Nat.not_le.mp fun hn => absurd (Nat.add_le_add hf (Nat.add_le_add hn (Nat.add_le_add (Nat.le_of_eq (Nat.sub_add_cancel (show d ≤ text.size from Nat.not_lt.mp fun hn => absurd (Nat.add_le_add hlt hn) (by simp +arith))).symm) (Nat.le_of_eq (Nat.sub_add_cancel (show d + 1 ≤ text.size from Nat.not_lt.mp fun hn => absurd (Nat.add_le_add hlt hn) (by simp +arith))))))) (by simp +arith))]
        | true =>
          have hn : (finder2 text hx).nx d = some d := by
            rw [nx_eq, efu]; unfold nxt2; rw [if_pos hlt, he]; rfl
          have hw := end2_le text text.size d hlt
          have e1 : subT (finder2 text hx) [13, 10] (f + 1) d = 13 :: 10 :: subT (finder2 text hx) [13, 10] f (end2 text text.size d) := by
            show (match (finder2 text hx).nx d with | none => _ | some p => _) = _
            rw [hn]
            show (text.extract d d).toList ++ [13, 10] ++ _ = _
            simp
            rfl
          rw [e1, subT2 text hx k (end2 text text.size d) f (by exact Nat.not_lt.mp fun hn => absurd (Nat.add_le_add hk (Nat.add_le_add hw.1 (Nat.add_le_add hn (Nat.add_le_add (Nat.le_of_eq (Nat.sub_add_cancel (show d ≤ text.size from Nat.not_lt.mp fun hn => absurd (Nat.add_le_add hlt hn) (by simp +arith))).symm) (Nat.le_of_eq (Nat.sub_add_cancel (show Mine.end2 text text.size d ≤ text.size from Nat.not_lt.mp fun hn => absurd (Nat.add_le_add hw.2 hn) (by simp +arith)))))))) (by simp +arith)) hw.2 (by exact Nat.not_le.mp fun hn => absurd (Nat.add_le_add hf (Nat.add_le_add hw.1 (Nat.add_le_add hn (Nat.add_le_add (Nat.le_of_eq (Nat.sub_add_cancel (show d ≤ text.size from Nat.not_lt.mp fun hn => absurd (Nat.add_le_add hlt hn) (by simp +arith))).symm) (Nat.le_of_eq (Nat.sub_add_cancel (show Mine.end2 text text.size d ≤ text.size from Nat.not_lt.mp fun hn => absurd (Nat.add_le_add hw.2 hn) (by simp +arith)))))))) (by simp +arith))]
          by_cases h2 : text.getD d 0 = 13 ∧ d + 1 < text.size ∧ text.getD (d + 1) 0 = 10
          · have hl2 : d + 1 < text.toList.length := by simpa using h2.2.1
            have ec2 : text.toList[d + 1] = 10 := by
              rw [← h2.2.2, Array.getD_eq_getD_getElem?, Array.getElem?_eq_getElem h2.2.1]; simp
            rw [List.drop_eq_getElem_cons hl2, ec2, h2.1, sub2_two]
            unfold end2
            rw [if_pos h2]
          · rw [sub2_one he]
            · unfold end2; rw [if_neg h2]
            · rintro ⟨a1, a2⟩
              rw [List.head?_drop] at a2
              have hl2 : d + 1 < text.toList.length := (List.getElem?_eq_some_iff.mp a2).1
              have hs2 : d + 1 < text.size := by simpa using hl2
              refine h2 ⟨a1, hs2, ?_⟩
              have := (List.getElem?_eq_some_iff.mp a2).2
              rw [Array.getD_eq_getD_getElem?, Array.getElem?_eq_getElem hs2]
              simpa using this
    · have e : d = text.size := by exact Nat.le_antisymm hd (Nat.not_lt.mp hlt)
      subst e
      have hn : (finder2 text hx).nx text.size = none := by
        show nxt2 text text.size (text.size + 1 - text.size) text.size = none
        have : text.size + 1 - text.size = 0 + 1 := by simp +arith
        rw [this]; unfold nxt2; rw [if_neg (Nat.lt_irrefl _)]
      have e0 : text.toList.drop text.size = [] := List.drop_of_length_le (by simp)
      rw [e0]
      unfold subT
      rw [hn]
      show (text.extract text.size text.size).toList = []
      simp
end
section
open PySem PySem.W PySem.Calls PyProof PyProof.Rows PySem.SeqAt
noncomputable def IsEnd (e : List Nat) : Prop := e = [10] ∨ e = [13] ∨ e = [13, 10]
noncomputable def lineT (r : Nat × Nat) : List Nat := List.replicate r.1 46 ++ [120, 58, 32, r.2]
noncomputable def pageT (e : List Nat) : List (Nat × Nat) → List Nat
  | [] => e
  | r :: rs => lineT r ++ (e ++ pageT e rs)
theorem eol_iff (c : Nat) : eol c = false ↔ c ≠ 10 ∧ c ≠ 13 := by
  unfold eol; simp
theorem sub2_dots (n : Nat) (r : List Nat) : sub2 (List.replicate n 46 ++ r) = List.replicate n 46 ++ sub2 r := by
  induction n with
  | zero => rfl
  | succ n ih => rw [List.replicate_succ, List.cons_append, sub2_no rfl, ih]; rfl
theorem sub2_line (r : Nat × Nat) (h : eol r.2 = false) (rest : List Nat) : sub2 (lineT r ++ rest) = lineT r ++ sub2 rest := by
  unfold lineT
  rw [List.append_assoc, sub2_dots, List.append_assoc]
  show _ ++ sub2 (120 :: 58 :: 32 :: r.2 :: rest) = _ ++ (120 :: 58 :: 32 :: r.2 :: sub2 rest)
  rw [sub2_no rfl, sub2_no rfl, sub2_no rfl, sub2_no h]
theorem page_head (rows : List (Nat × Nat)) : (pageT [13] rows).head? ≠ some 10 := by
  cases rows with
  | nil => exact fun h => by cases h
  | cons r rs =>
    unfold pageT lineT
    rcases r with ⟨d, l⟩
    cases d with
    | zero => exact fun h => by cases h
    | succ d => exact fun h => by cases h
theorem sub2_end {e : List Nat} (he : IsEnd e) (rows : List (Nat × Nat)) : sub2 (e ++ pageT e rows) = 13 :: 10 :: sub2 (pageT e rows) := by
  rcases he with rfl | rfl | rfl
  · exact sub2_one rfl (by rintro ⟨h, _⟩; cases h)
  · exact sub2_one rfl (by rintro ⟨_, h⟩; exact page_head rows h)
  · exact sub2_two
theorem sub2_page {e : List Nat} (he : IsEnd e) : ∀ (rows : List (Nat × Nat)), (∀ r ∈ rows, eol r.2 = false) → sub2 (pageT e rows) = pageT [13, 10] rows
  | [], _ => by rcases he with rfl | rfl | rfl <;> rfl
  | r :: rs, h => by
    show sub2 (lineT r ++ (e ++ pageT e rs)) = lineT r ++ ([13, 10] ++ pageT [13, 10] rs)
    rw [sub2_line r (h r (List.mem_cons_self ..)), sub2_end he, sub2_page he rs (fun x hx => h x (List.mem_cons_of_mem _ hx))]
    rfl
theorem sub1_no (c : Nat) (r : List Nat) : sub1 false (c :: r) = c :: sub1 (c == 10) r := rfl
theorem sub1_dots (n : Nat) (r : List Nat) : sub1 false (List.replicate n 46 ++ r) = List.replicate n 46 ++ sub1 false r := by
  induction n with
  | zero => rfl
  | succ n ih =>
    rw [List.replicate_succ, List.cons_append, sub1_no]
    show 46 :: sub1 false _ = _
    rw [ih]; rfl
theorem sub1_line (r : Nat × Nat) (h : eol r.2 = false) (h0 : 0 < r.1) (rest : List Nat) : sub1 true (lineT r ++ rest) = lineT (r.1 + 1, r.2) ++ sub1 false rest := by
  obtain ⟨d, l⟩ := r
  obtain ⟨d, rfl⟩ : ∃ k, d = k + 1 := ⟨d - 1, by simp only at h0; exact (Nat.sub_add_cancel h0).symm⟩
  have hl : (l == 10) = false := by
    have := ((eol_iff l).mp h).1
    simpa using this
  unfold lineT
  show sub1 true (46 :: (List.replicate d 46 ++ [120, 58, 32, l] ++ rest)) = _
  show 46 :: 46 :: sub1 false (List.replicate d 46 ++ [120, 58, 32, l] ++ rest) = _
  rw [List.append_assoc, sub1_dots]
  show 46 :: 46 :: (List.replicate d 46 ++ sub1 false (120 :: 58 :: 32 :: l :: rest)) = (List.replicate (d + 1 + 1) 46 ++ [120, 58, 32, l]) ++ _
  show 46 :: 46 :: (List.replicate d 46 ++ (120 :: 58 :: 32 :: l :: sub1 (l == 10) rest)) = _
  rw [hl, List.append_assoc]
  rfl
theorem sub1_page : ∀ (rows : List (Nat × Nat)), (∀ r ∈ rows, eol r.2 = false ∧ 0 < r.1) → sub1 true (pageT [13, 10] rows) = pageT [13, 10] (rows.map fun r => (r.1 + 1, r.2))
  | [], _ => rfl
  | r :: rs, h => by
    obtain ⟨a, b⟩ := h r (List.mem_cons_self ..)
    show sub1 true (lineT r ++ ([13, 10] ++ pageT [13, 10] rs)) = lineT (r.1 + 1, r.2) ++ ([13, 10] ++ pageT [13, 10] (rs.map fun r => (r.1 + 1, r.2)))
    rw [sub1_line r a b]
    show _ ++ (13 :: 10 :: sub1 true (pageT [13, 10] rs)) = _
    rw [sub1_page rs (fun x hx => h x (List.mem_cons_of_mem _ hx))]
    rfl
theorem page_cons (e : List Nat) (r : Nat × Nat) (rs : List (Nat × Nat)) : pageT e (r :: rs) = lineT r ++ (e ++ pageT e rs) := rfl
theorem line_len (r : Nat × Nat) : (lineT r).length = r.1 + 4 := by unfold lineT; simp
theorem page_len (e : List Nat) (D : Nat) (he : e.length ≤ 2) : ∀ rows : List (Nat × Nat), (∀ r ∈ rows, r.1 ≤ D) → (pageT e rows).length ≤ rows.length * (D + 6) + 2
  | [], _ => by show e.length ≤ _; exact Nat.le_add_left_of_le he
  | r :: rs, h => by
    have h1 := h r (List.mem_cons_self ..)
    have h2 := page_len e D he rs (fun x hx => h x (List.mem_cons_of_mem _ hx))
    rw [page_cons, List.length_append, List.length_append, line_len, List.length_cons, Nat.succ_mul]
    exact Nat.not_lt.mp fun hn => absurd (Nat.add_le_add he (Nat.add_le_add h1 (Nat.add_le_add h2 hn))) (by simp +arith)
end
section
open PySem PySem.W PySem.Calls PyProof PyProof.Rows PySem.SeqAt
theorem txt_join (sep : Str) (ys : List Str) : Txt.join sep ys = Str.join sep ys := StrLaws.glued_eq_join ..
theorem app_toList (a b : Str) : (a ++ b).cps.toList = a.cps.toList ++ b.cps.toList := by
  show (a.cps ++ b.cps).toList = _
  simp
theorem join0 : ∀ ys : List Str, (Str.join ⟨#[]⟩ ys).cps.toList = (ys.map (·.cps.toList)).flatten
  | [] => rfl
  | [x] => by show x.cps.toList = _; simp
  | x :: y :: r => by
    show (x ++ ⟨#[]⟩ ++ Str.join ⟨#[]⟩ (y :: r)).cps.toList = _
    rw [app_toList, app_toList, join0 (y :: r)]
    simp
theorem tx_of {y : Str} {l : List Nat} (h : y.cps.toList = l) : y = tx l := by
  rcases y with ⟨a⟩
  show Str.mk a = Str.mk l.toArray
  rw [← h]
theorem tx_list (l : List Nat) : (tx l).cps.toList = l := by simp [tx]
theorem WE_subn {c o apos pos es ρ σ} {Q : V → Prop} {P : Addr} {code : List Nat} (hp : PatAt P code)
    (h : WE c o ρ σ (fun X => X = .stat (.ref P) ∧ WL c pos es ρ σ (fun Xs => ∃ X Y rp x, ∃ F : Finder code x.cps, Xs = [X, Y] ∧ SV X rp ∧ SV Y x ∧ x.cps.size ≤ 100000 ∧ rp.length ≤ 100 ∧ rp.cps.contains 92 = false ∧
      Q (.str (tx (subT F rp.cps.toList (x.cps.size + 1) 0))))))
    (hbase : attributeBase o "sub" c.env (eval o c.env) = eval o c.env := by walk_at "r")
    (hfew : ((backTo pos (starEach es c.env)).all (fun x => !x.1) && (backToKw pos (keywordEach [] c.env)).all (fun x => x.1.isSome)
      && decide (es.length + ([] : List Keyword).length + (if ([] : List Keyword).isEmpty then 0 else 1) < 30)) = true := by walk_at "r")
    (hline : (apos.endLine == pos.line) = true := by walk_at "r")
    (hplain : (backTo pos (starEach es c.env)).any (·.1) = false := by walk_at "r") : WE c (.Call (.Attribute o "sub" apos) es [] pos) ρ σ Q := fun s R => by
  refine wpAny_Call_method hbase hfew hline plainAttrs_pat slot_sub type_sub (goV (h s R) fun ov s₁ X hX k₁ hpt => ?_)
  obtain ⟨e1, h₁⟩ := hpt
  subst e1
  have hX' : ov = .ref P := hX
  subst hX'
  have R₁ := R.keepE k₁
  obtain ⟨p, f, T, h1, h2⟩ := hp.at_ c.w
  have hP := R₁.stat.K _ _ h1
  refine ⟨⟨_, hP, rfl⟩, fun a ea => by cases ea; exact ⟨_, hP, rfl⟩, ?_⟩
  refine callWith_gen (first := [.ref P]) Kp.builtin R₁ hplain (goL (h₁ s₁ R₁) fun vs s₂ Xs hXs k₂ hpt => ?_)
  obtain ⟨X, Y, rp, x, F, e, hX, hY, hx, hrp, h92, q⟩ := hpt
  have R₂ := R₁.keepE k₂
  subst e
  obtain ⟨v, _, rfl, hv, u, _, rfl, hu, rfl⟩ := hXs
  obtain ⟨tv, rfl⟩ := hX.is hv
  obtain ⟨tu, rfl⟩ := hY.is hu
  refine ⟨R₂.stat.K, with_toks (call_sub R₂.stat.K hp F hx hrp h92 fun h' tk t' ys' hst hfl htk => ?_)⟩
  refine ⟨.str (Txt.join ⟨#[]⟩ ys'), ⟨t', rfl⟩, (k₁.trans k₂).trans (.mk' hst htk), ?_⟩
  have e : Txt.join ⟨#[]⟩ ys' = tx (subT F rp.cps.toList (x.cps.size + 1) 0) := tx_of (by rw [txt_join, join0, hfl])
  rw [e]; exact q
theorem subT2_tx (l : List Nat) (hl : l.toArray.size ≤ 100000) : subT (finder2 l.toArray hl) [13, 10] (l.toArray.size + 1) 0 = sub2 l := by
  rw [subT2 l.toArray hl l.toArray.size 0 (l.toArray.size + 1) (by exact Nat.sub_le _ _) (by exact Nat.zero_le _) (by exact Nat.lt_succ_self _)]
  simp
theorem subT1_tx (l : List Nat) (hl : l.toArray.size ≤ 100000) : subT (finder1 l.toArray hl) [46, 46] (l.toArray.size + 1) 0 = sub1 true l := by
  rw [subT1 l.toArray hl l.toArray.size 0 (l.toArray.size + 1) (by exact Nat.sub_zero _) (by exact Nat.zero_le _) (by exact Nat.lt_succ_self _)]
  simp
end
section
open PySem PySem.W PySem.Calls PyProof PyProof.Rows PySem.SeqAt
theorem quote_run {e : List Nat} (he : IsEnd e) (rows : List (Nat × Nat)) (hr : ∀ r ∈ rows, eol r.2 = false ∧ 0 < r.1 ∧ r.1 ≤ 1000) (hn : rows.length ≤ 50) {X : V} (hX : SV X (tx (pageT e rows))) :
    Pure 217 1 [X] (fun Z => Z = .str (tx (pageT [13, 10] (rows.map fun r => (r.1 + 1, r.2))))) := by
  have hel : e.length ≤ 2 := by rcases he with rfl | rfl | rfl <;> decide
  have hs1 : (pageT e rows).length ≤ 100000 := by
    have h1 := page_len e 1000 hel rows fun r h => (hr r h).2.2
    have h2 : rows.length * 1006 ≤ 50 * 1006 := Nat.mul_le_mul_right _ hn
    exact Nat.not_lt.mp fun hn => absurd (Nat.add_le_add h1 (Nat.add_le_add h2 hn)) (by simp +arith)
  have hs2 : (pageT [13, 10] rows).length ≤ 100000 := by
    have h1 := page_len [13, 10] 1000 (by decide) rows fun r h => (hr r h).2.2
    have h2 : rows.length * 1006 ≤ 50 * 1006 := Nat.mul_le_mul_right _ hn
    exact Nat.not_lt.mp fun hn => absurd (Nat.add_le_add h1 (Nat.add_le_add h2 hn)) (by simp +arith)
  refine pure_of atQuote [("data", X)] ?_ (nodup_of rfl) (kindsOk_of fun n => rfl) fun c L out hk => ?_
  · rintro w W s vs ⟨v, _, rfl, hv, rfl⟩
    exact ⟨_, rfl, v, _, rfl, hv, rfl⟩
  refine WS_cons ?_
  walk_at "v"
  refine WE_subn pat1 ?_
  refine WE_glob (v := .ref 205) (X := .stat (.ref 205)) rfl (fun w => rfl) (fun uu uu uu => rfl) ⟨rfl, ?_⟩
  walk_at "v"
  refine WE_subn pat2 ?_
  refine WE_glob (v := .ref 210) (X := .stat (.ref 210)) rfl (fun w => rfl) (fun uu uu uu => rfl) ⟨rfl, ?_⟩
  refine WL_cons ?_
  refine WE_glob (X := .str (tx [13, 10])) rfl (fun w => rfl) (fun uu uu uu => ⟨_, rfl⟩) ?_
  walk_at "v"
  refine ⟨_, _, _, _, finder2 _ (by simpa [tx] using hs1), rfl, SV.str _, hX, by simpa [tx] using hs1, by decide, by decide +kernel, ?_⟩
  walk_at "v"
  have e1 : tx (subT (finder2 (tx (pageT e rows)).cps (by simpa [tx] using hs1)) (tx [13, 10]).cps.toList ((tx (pageT e rows)).cps.size + 1) 0) = tx (pageT [13, 10] rows) := by
    rw [← sub2_page he rows fun r h => (hr r h).1, ← subT2_tx _ (by simpa using hs1)]
    rfl
  rw [e1]
  refine ⟨_, _, _, _, finder1 _ (by simpa [tx] using hs2), rfl, SV.lit _, SV.str _, by simpa [tx] using hs2, by decide, by decide +kernel, ?_⟩
  show V.str _ = V.str _
  rw [← sub1_page rows fun r h => ⟨(hr r h).1, (hr r h).2.1⟩, ← subT1_tx _ (by simpa using hs2)]
  rfl
end
section
open PySem PySem.W PySem.Calls PyProof PyProof.Rows PySem.SeqAt
noncomputable def fmt2 : Str := ⟨#[37, 115, 58, 32, 37, 115]⟩
theorem mod_pair {x y : Str} {t tx1 ty : Tok} {b : Addr} (hx : x.length ≤ 1000000) (hy : y.length ≤ 1000000) : Meets (Builtin.«str.__mod__» ⟨[.str ⟨#[37, 115, 58, 32, 37, 115]⟩ t, .ref b], []⟩)
    (fun uu R s => IsTup s.heap b #[.str x tx1, .str y ty] ∧ ∀ t' k, R (.ok (.ret (.str (x ++ Str.ofString ": " ++ y) t'))) { s with toks := k }) := by
  kpt_run
theorem O2_mod_pair {c ρ σ X G x y} {Q : V → Prop} (hF : SV G fmt2) (hX : X = rowV (x, y)) (hx : x.length ≤ 1000000) (hy : y.length ≤ 1000000) (h : Q (.str (x ++ Str.ofString ": " ++ y))) : O2 c (binaryOp .Mod) G X ρ σ Q := by
  subst hX
  rintro s v u R hv hu
  obtain ⟨t, rfl⟩ := hF.is hv
  obtain ⟨b, vs, rfl, _, ht, hvs⟩ := hu
  obtain ⟨v1, _, rfl, ⟨t1, rfl⟩, v2, _, rfl, ⟨t2, rfl⟩, rfl⟩ := hvs
  have hT : s.TypeIs (.ref b) "tuple" := by
    obtain ⟨o, ho, hc, _⟩ := ht
    exact ⟨o, ho, hc⟩
  refine with_toks (KPt.bin_left (T := "str") (U := "tuple") (op := .Mod) (by decide) (typeIs_str s fmt2 t) hT F.fills_str_mod KPt.fills_tuple F.slot_str_mod
    (call_meets F.slot_str_mod (typeIs_str s fmt2 t) F.entry_str_mod (F.args_str_mod_2 _ _) (mod_pair hx hy) ⟨ht, fun t' k => ⟨(fun e => nomatch e), fun htk => ?_⟩⟩))
  exact ⟨.str _, ⟨t', rfl⟩, .mk' (.refl _) htk, h⟩
end
section
open PySem PySem.W PySem.Calls PyProof PyProof.Rows PySem.SeqAt
noncomputable def rowOf (r : Nat × Nat) : Str × Str := (tx (List.replicate r.1 46 ++ [120]), tx [r.2])
theorem page_ljoin (e : List Nat) : ∀ rows : List (Nat × Nat), ljoin e (rows.map lineT ++ [[], []]) = pageT e rows
  | [] => by show [] ++ (e ++ []) = e; simp
  | [r] => by
    show lineT r ++ (e ++ ljoin e [[], []]) = lineT r ++ (e ++ pageT e [])
    rw [show ljoin e [[], []] = pageT e [] from page_ljoin e []]
  | r :: q :: rs => by
    show lineT r ++ (e ++ ljoin e ((q :: rs).map lineT ++ [[], []])) = _
    rw [page_ljoin e (q :: rs)]
    rfl
theorem row_line (r : Nat × Nat) : (rowOf r).1 ++ Str.ofString ": " ++ (rowOf r).2 = tx (lineT r) := by
  have e : Str.ofString ": " = tx [58, 32] := by decide
  rw [e]
  show tx _ ++ tx _ ++ tx _ = _
  rw [tx_app, tx_app]
  unfold lineT
  congr 1
  simp
theorem str_run (rows : List (Nat × Nat)) (hn : rows.length ≤ 50) (hr : ∀ r ∈ rows, r.1 ≤ 1000) : Pure 158 1 [.hdr (rows.map fun r => rowV (rowOf r))] (fun Z => Z = .str (tx (pageT [13, 10] rows))) := by
  refine pure_of atStr [("self", .hdr (rows.map fun r => rowV (rowOf r)))] ?_ (nodup_of rfl) (kindsOk_of fun n => rfl) fun c L out hk => ?_
  · rintro w W s vs ⟨v, _, rfl, hv, rfl⟩
    exact ⟨_, rfl, v, _, rfl, hv, rfl⟩
  refine WS_cons ?_
  walk_at "v"
  refine WE_smeth F.slot_str_join F.type_str_join ?_
  walk_at "v"
  refine ⟨⟨_, SV.lit _⟩, ?_⟩
  walk_at "v"
  refine WE_compF (cl := []) (by walk_at "ck") [] (by walk_at "cap") ?_
  refine WE_rows ?_
  walk_at "v"
  refine .inr ⟨_, rfl, _, src_list (.inl ⟨_, _, rfl⟩), ?_, fun i => true, fun i => .str (tx (lineT (rows.getD i default))), ?_, ?_⟩
  · rw [List.length_map]; unfold sizeLine; exact Nat.le_trans hn (Nat.le_add_left _ _)
  · intro C h₀ o i Y hY
    obtain ⟨hi, rfl⟩ := map_at (d := default) hY
    have hm := hr _ (getD_in (d := default) hi)
    generalize hg : rows.getD i default = r at *
    walk_at "v"
    refine ⟨sub.one rfl (.refl _), ?_⟩
    walk_at "v"
    refine ⟨rfl, fun uu => ?_⟩
    walk_at "v"
    refine O2_mod_pair (SV.lit _) rfl ?_ ?_ ?_
    · show (tx _).length ≤ _
      rw [tx_len]; simp; exact Nat.le_add_left_of_le hm
    · show (tx _).length ≤ _
      rw [tx_len]; simp
    · show V.str ((rowOf r).1 ++ Str.ofString ": " ++ (rowOf r).2) = .str (tx (lineT (rows.getD i default)))
      rw [row_line, hg]
  · rw [List.length_map]
    have e1 : picks rows.length (fun uu => true) (fun i => V.str (tx (lineT (rows.getD i default)))) = (rows.map fun r => .str (tx (lineT r))) := by
      rw [picks_list rows default (fun uu => true) (fun r => .str (tx (lineT r))), List.filter_eq_self.mpr fun uu uu => rfl]
    rw [e1]
    walk_at "v"
    refine O2_add_list .list .list ?_ ?_
    · rw [List.length_map]; unfold sizeLine; show _ + 2 ≤ _; (clear e1 hk hr; lia)
    walk_at "v"
    have e2 : SVs ((rows.map fun r => V.str (tx (lineT r))) ++ [.lit "", .lit ""]) ((rows.map lineT ++ [[], []]).map tx) := by
      have : ∀ l : List (Nat × Nat), SVs ((l.map fun r => V.str (tx (lineT r))) ++ [.lit "", .lit ""]) ((l.map lineT ++ [[], []]).map tx) := by
        intro l
        induction l with
        | nil => exact SVs.cons (SV.lit _) (SVs.cons (SV.lit _) SVs.nil)
        | cons r l ih => exact SVs.cons (SV.str _) ih
      exact this rows
    refine WC_join (SV.lit _) .list e2 ?_ ?_
    · have hs : ∀ l : List (Nat × Nat), (∀ r ∈ l, r.1 ≤ 1000) → (((l.map lineT ++ [[], []]).map tx).map (fun x : Str => x.length)).sum ≤ l.length * 1004 := by
        intro l
        induction l with
        | nil => intro _; decide
        | cons r l ih =>
          intro h
          have h1 := ih fun x hx => h x (List.mem_cons_of_mem _ hx)
          have h2 := h r (List.mem_cons_self ..)
          have h3 : (tx (lineT r)).length = r.1 + 4 := by rw [tx_len, line_len]
          simp only [List.map_cons, List.cons_append, List.sum_cons, List.length_cons]
          rw [h3]; exact Nat.not_lt.mp fun hn => absurd (Nat.add_le_add h1 (Nat.add_le_add h2 hn)) (by simp +arith)
      have h1 := hs rows hr
      have h2 : ((rows.map lineT ++ [[], []]).map tx).length = rows.length + 2 := by simp
      rw [h2]
      have h3 : (Str.length "\r\n") = 2 := by decide
      show _ + _ * Str.length "\r\n" ≤ _
      rw [h3]
      (clear h3 h2 hs e2 e1 hk hr; lia)
    · show V.str (Txt.join (tx [13, 10]) _) = _
      rw [txt_join, join_tx, page_ljoin]
end
section
open PySem PySem.W PySem.Calls PyProof PyProof.Rows PySem.SeqAt
noncomputable def zipV (xs ys : List V) : List V := (List.zip xs ys).map fun p => .tup [p.1, p.2]
theorem zipV_len (xs ys) : (zipV xs ys).length = min xs.length ys.length := by simp [zipV]
theorem src_zip {c : Cx} {es : List Expr} {k : Nat} {tp : Pos} {ρ : Rho} {σ : Sig} {s₁ : Shared} {l1 l2 : Addr} {xs ys : List V} {vs us : List Value} (R : Rel c ρ σ s₁) (hn1 : l1 ∉ wof c σ) (hn2 : l2 ∉ wof c σ) (hl1 : s₁.heap.IsList l1 (List.toArray vs)) (hl2 : s₁.heap.IsList l2 (List.toArray us))
    (hv : VRs c.w (wof c σ) s₁ xs vs) (hu : VRs c.w (wof c σ) s₁ ys us) :
    Src c.w c.A (wof c σ) s₁ (s₁.heap.objs.size + 4) (.Tuple es k tp) [s₁.heap.objs.size + 4, s₁.heap.objs.size + 2, s₁.heap.objs.size + 3, s₁.heap.objs.size, s₁.heap.objs.size + 1, l1, l2]
      [s₁.heap.objs.size + 4, s₁.heap.objs.size + 2, s₁.heap.objs.size + 3, s₁.heap.objs.size, s₁.heap.objs.size + 1] (zipV xs ys)
      (fun i h => IsZip h (s₁.heap.objs.size + 4) (s₁.heap.objs.size + 2) (s₁.heap.objs.size + 3) .none ∧ IsPair h (s₁.heap.objs.size + 2) (.ref s₁.heap.objs.size) (.ref (s₁.heap.objs.size + 1)) ∧ (∃ a b, IsPair h (s₁.heap.objs.size + 3) a b) ∧
        h.IsListIter s₁.heap.objs.size l1 i ∧ h.IsListIter (s₁.heap.objs.size + 1) l2 i ∧ h.IsList l1 (List.toArray vs) ∧ h.IsList l2 (List.toArray us)) := by
  have lt1 : l1 < s₁.heap.objs.size := by obtain ⟨o, e, _⟩ := hl1; exact Heap.lt_size e
  have lt2 : l2 < s₁.heap.objs.size := by obtain ⟨o, e, _⟩ := hl2; exact Heap.lt_size e
  have e1 := hv.length
  have e2 := hu.length
  have W := WalksT.zip2 (prog := PG) (w := c.w) R.ok.hand _ _ _ _ _ _ _ (zipApart_new lt1 lt2) (List.toArray vs) (List.toArray us)
  have esz : min (List.toArray vs).size (List.toArray us).size = (zipV xs ys).length := by rw [zipV_len, List.size_toArray, List.size_toArray, e1, e2]
  generalize hN : s₁.heap.objs.size = N at *
  have wider : ∀ b, b ∉ [N + 4, N + 2, N + 3, N, N + 1] → b ∉ [N + 4, N + 3, N, N + 1] := fun b hb hm => hb (by simp at hm ⊢; rcases hm with h | h | h | h <;> simp [h])
  refine ⟨fun b hb => ?_, fun i h st b hb => ?_, fun b hb => ?_, fun i h h' st k => W.frame i h h' st k, fun s Q st hq => W.self _ _ _ _ st hq, fun i s Q hi st K hQ => ?_, fun s Q st hQ => ?_⟩
  · refine size_fresh ?_
    rw [hN]
    simp at hb
    rcases hb with rfl | rfl | rfl | rfl | rfl <;> first | exact Nat.le_add_right _ _ | exact Nat.le_refl _
  · obtain ⟨a1, a2, ⟨a, b', a3⟩, ⟨_, a4, _⟩, ⟨_, a5, _⟩, _, _⟩ := st
    simp at hb
    rcases hb with rfl | rfl | rfl | rfl | rfl
    · exact ⟨_, a1⟩
    · exact ⟨_, a2⟩
    · exact ⟨_, a3⟩
    · exact ⟨_, a4⟩
    · exact ⟨_, a5⟩
  · have ex1 : ∃ o, s₁.heap.get? l1 = some o := by obtain ⟨o, e, _⟩ := hl1; exact ⟨o, e⟩
    have ex2 : ∃ o, s₁.heap.get? l2 = some o := by obtain ⟨o, e, _⟩ := hl2; exact ⟨o, e⟩
    simp only [List.mem_cons, List.not_mem_nil, or_false] at hb ⊢
    rcases hb with h | h | h | h | h | h | h
    · exact .inl (.inl h)
    · exact .inl (.inr (.inl h))
    · exact .inl (.inr (.inr (.inl h)))
    · exact .inl (.inr (.inr (.inr (.inl h))))
    · exact .inl (.inr (.inr (.inr (.inr h))))
    · exact .inr ⟨h ▸ hn1, h ▸ ex1⟩
    · exact .inr ⟨h ▸ hn2, h ▸ ex2⟩
  · refine wpAny_with_toks (n := s.toks) (Nat.le_refl _) (W.item i s _ _ (by rw [esz]; exact hi) st fun T vals h' tk hP hT hTup hMid hk htk => ?_)
    show wpAny _ _ (letOwnedTupleGo (.Tuple es k tp) (.ref (N + 4)) (.ref T)) _ _ _
    refine W.go es k tp i T _ _ _ hMid fun h'' st' hk' => ?_
    obtain ⟨x, y, hx, hy, rfl⟩ := hP
    have hx' : vs[i]? = some x := by simpa using hx
    have hy' : us[i]? = some y := by simpa using hy
    obtain ⟨X, hX, vX⟩ := hv.get' hx'
    obtain ⟨Y, hY, vY⟩ := hu.get' hy'
    have hZ : (zipV xs ys)[i]? = some (.tup [X, Y]) := by
      unfold zipV
      rw [List.getElem?_map, (List.getElem?_zip_eq_some (z := (X, Y))).mpr ⟨hX, hY⟩]
      rfl
    have hTap : T ∉ [N + 4, N + 2, N + 3, N, N + 1] := by
      have h1 := W.apart _ _ _ hMid
      intro hm
      simp at hm h1
      rcases hm with h | h | h | h | h
      · exact h1.1 h
      ·
        obtain ⟨_, a2, _⟩ := st
        have := Heap.lt_size a2
        rw [← h] at this
        exact absurd hT (Nat.not_le.mpr this)
      · exact h1.2.1 h
      · exact h1.2.2.1 h
      · exact h1.2.2.2 h
    refine hQ (.tup [X, Y]) (.ref T) h'' tk hZ htk (fun W' hW' hal => ?_) st' (fun b o hb e => hk' b o (wider b hb) (hk b o (wider b hb) e))
    have kp : KeepW (wof c σ) s₁ { s with heap := h'', toks := tk } := by
      refine ⟨fun b o hb e => hk' b o (wider b fun hm => ?_) (hk b o (wider b fun hm => ?_) (K.1 b o hb e)), Nat.le_trans K.2 htk⟩
      all_goals
        have := Heap.lt_size e
        rw [hN] at this
        simp at hm
        rcases hm with rfl | rfl | rfl | rfl | rfl <;> exact absurd (show @LT.lt Nat _ _ _ from this) (Nat.not_lt.mpr (by first | exact Nat.le_add_right _ _ | exact Nat.le_refl _))
    refine ⟨T, [x, y], rfl, fun hm => ?_, ?_, ⟨x, _, rfl, vX.keep kp hW', y, _, rfl, vY.keep kp hW', rfl⟩⟩
    · obtain ⟨o, e⟩ := hal T hm
      exact absurd hT (Nat.not_le.mpr (Heap.lt_size e))
    · obtain ⟨o, e, r⟩ := hTup
      exact ⟨o, hk' T o (wider T hTap) e, r⟩
  · rw [← esz] at st
    exact wpAny_with_toks (n := s.toks) (Nat.le_refl _) (W.done s _ _ st fun h' tk hk htk => ⟨rfl, hQ h' tk htk fun b o hb e => hk b o (wider b hb) e⟩)
theorem W1_forZip {c : Cx} {es ts : List Expr} {k : Nat} {tp np cp pos : Pos} {body : List Stmt} {ρ : Rho} {σ : Sig} {Q : Fl → Rho → Sig → Prop}
    (hz : ∀ Q' : V → Prop, Q' (.stat (.type "zip")) → WE c (.Name "zip" np) ρ σ Q')
    (h : WL c cp es ρ σ (fun Xs => ∃ xs ys, Xs = [.list xs, .list ys] ∧ ∃ J : Nat → Rho → Sig → Prop, J 0 ρ σ ∧
      (∀ o i Y ρ' σ', (zipV xs ys)[i]? = some Y → J i ρ' σ' → WAs (c.up o) (.Tuple ts k tp) Y ρ' σ' (fun ρ'' => WS (c.up o) body ρ'' σ' (fun F ρ₃ σ₃ => match F with
        | .next | .cont => J (i + 1) ρ₃ σ₃
        | .brk => Q .next ρ₃ σ₃
        | .ret X => Q (.ret X) ρ₃ σ₃))) ∧ ∀ ρ' σ', J (zipV xs ys).length ρ' σ' → Q .next ρ' σ'))
    (hplain : (backTo cp (starEach es c.env)).any (·.1) = false := by walk_at "r")
    (hs : ∀ x, foldedSetIterable (.Call (.Name "zip" np) es [] cp) c.env x = pure x := by intro _; with_unfolding_all rfl) : W1 c (.For (.Tuple ts k tp) (.Call (.Name "zip" np) es [] cp) body [] pos) ρ σ Q := fun s R => by
  refine wpAny_For ?_ hs
  refine wpAny_Call_NameR (goV (hz (fun X => X = .stat (.type "zip")) rfl s R) fun fv s₁ X hX k₁ e => ?_)
  subst e
  cases hX
  have R₁ := R.keepE k₁
  refine callWith_gen (first := []) Kp.type R₁ hplain (goL (h s₁ R₁) fun vs s₂ Xs hXs k₂ hpt => ?_)
  obtain ⟨xs, ys, e, J, h0, turn, fin⟩ := hpt
  subst e
  have R₂ := R₁.keepE k₂
  obtain ⟨_, _, rfl, ⟨l1, us1, rfl, hn1, hl1, hv1⟩, _, _, rfl, ⟨l2, us2, rfl, hn2, hl2, hv2⟩, rfl⟩ := hXs
  refine ⟨R₂.stat.K, ?_⟩
  show wpAny _ _ (call (.type "zip") [.ref l1, .ref l2]) _ _ _
  refine call_zip_2 hl1 hl2 fun h' a1 a2 a3 a4 a5 a6 a7 => ?_
  refine wpAny_pyIter_zip (s := { s₂ with heap := h' }) a1 ?_
  exact W1_forS R₂ (.mk' a7 (Nat.le_refl _)) (src_zip R₂ hn1 hn2 hl1 hl2 hv1 hv2) ⟨a1, a2, ⟨_, _, a3⟩, a4, a5, hl1.at fun o e => a7 _ o e, hl2.at fun o e => a7 _ o e⟩ J h0 turn fin (k₁.trans k₂)
end
section
open PySem PySem.W PySem.Calls PyProof PyProof.Rows PySem.SeqAt
noncomputable abbrev nv (l : List Nat) : List Int := l.map fun n : Nat => (n : Int)
theorem nv_at (l : List Nat) (k : Nat) : (nv l).getD k 0 = ((l.getD k 0 : Nat) : Int) := by
  rw [List.getD_eq_getElem?_getD, List.getD_eq_getElem?_getD, List.getElem?_map]
  cases l[k]? <;> rfl
theorem nv_len (l : List Nat) : (nv l).length = l.length := by simp
noncomputable def lets (lows : List Nat) : List (Nat × Nat) := (List.range lows.length).map fun k => (lows.getD k 0, 97 + k)
noncomputable def rowsP (lows : List Nat) (t : Nat) : List (Nat × Nat) := (lets lows).map fun r => (r.1 + 1 + t, r.2)
noncomputable def pgE (e : List Nat) (t : Nat) : List Nat := if t = 0 then e else [13, 10]
noncomputable def pg (e lows : List Nat) (t : Nat) : List Nat := pageT (pgE e t) (rowsP lows t)
noncomputable def xo (p : Nat) : Nat := if p % 2 = 1 then 88 else 120
noncomputable def padc (c a b : Nat) : List Nat := List.replicate a 32 ++ c :: List.replicate b 32
noncomputable def upRow (h p : Nat) (r : Nat × Nat) : Str × Str := (tx (List.replicate (r.1 + 2 + h) 46 ++ [xo p]), tx [r.2])
noncomputable def dnRow (H h p : Nat) (r : Nat × Nat) : Str × Str := (tx (padc (xo p) (r.1 - h) (H - (h - r.1))), tx [r.2])
noncomputable def ups (lows hs : List Nat) (p : Nat) : List (Str × Str) := ((List.range p).map fun q => (lets lows).map (upRow (hs.getD q 0) q)).flatten
noncomputable def dns (lows hs : List Nat) (p : Nat) : List (Str × Str) := ((List.range p).map fun q => (lets lows).map (dnRow (hs.getD (hs.length - 1) 0) (hs.getD q 0) q)).flatten
theorem lets_len (lows) : (lets lows).length = lows.length := by simp [lets]
theorem lets_at {lows : List Nat} {k : Nat} (h : k < lows.length) : (lets lows)[k]? = some (lows.getD k 0, 97 + k) := by simp [lets, h]
theorem ups_succ (lows hs : List Nat) (p : Nat) : ups lows hs (p + 1) = ups lows hs p ++ (lets lows).map (upRow (hs.getD p 0) p) := by
  simp [ups, List.range_succ]
theorem dns_succ (lows hs : List Nat) (p : Nat) : dns lows hs (p + 1) = dns lows hs p ++ (lets lows).map (dnRow (hs.getD (hs.length - 1) 0) (hs.getD p 0) p) := by
  simp [dns, List.range_succ]
theorem ups_len (lows hs : List Nat) (p : Nat) : (ups lows hs p).length = p * lows.length := by
  induction p with
  | zero => simp [ups]
  | succ p ih => rw [ups_succ, List.length_append, ih, List.length_map, lets_len, Nat.succ_mul]
theorem dns_len (lows hs : List Nat) (p : Nat) : (dns lows hs p).length = p * lows.length := by
  induction p with
  | zero => simp [dns]
  | succ p ih => rw [dns_succ, List.length_append, ih, List.length_map, lets_len, Nat.succ_mul]
noncomputable def cum (hs : List Nat) (p : Nat) : Nat := if p = 0 then 0 else hs.getD (p - 1) 0
noncomputable def quo (hs : List Nat) (p : Nat) : Nat := cum hs p + (if p = 0 then 0 else 1)
theorem upper_tx (l : List Nat) (h : ∀ c ∈ l, c < 128) : Txt.upper (tx l) = tx (l.map up1) := by
  rw [upper_ascii (by rw [tx_toList]; exact h)]
  simp [tx]
theorem lower_tx (l : List Nat) (h : ∀ c ∈ l, c < 128) : Txt.lower (tx l) = tx (l.map lo1) := by
  rw [lower_ascii (by rw [tx_toList]; exact h)]
  simp [tx]
theorem upper_name (n : Nat) : Txt.upper (tx (List.replicate n 46 ++ [120])) = tx (List.replicate n 46 ++ [88]) := by
  rw [upper_tx _ fun c hc => ?_, List.map_append, List.map_replicate]
  · rfl
  · rcases List.mem_append.mp hc with h | h
    · rw [(List.mem_replicate.mp h).2]; decide
    · rw [List.mem_singleton.mp h]; decide
theorem upper_pad (a b : Nat) : Txt.upper (tx (pad a b)) = tx (padc 88 a b) := by
  unfold pad padc
  rw [upper_tx _ fun c hc => ?_, List.map_append, List.map_replicate, List.map_cons, List.map_replicate]
  · rfl
  · rcases List.mem_append.mp hc with h | h
    · rw [(List.mem_replicate.mp h).2]; decide
    · rcases List.mem_cons.mp h with h | h
      · rw [h]; decide
      · rw [(List.mem_replicate.mp h).2]; decide
theorem split_page (lows : List Nat) (t : Nat) (hl : lows.length ≤ 4) : Txt.split (tx (pageT [13, 10] (rowsP lows t))) (tx [13, 10]) = ((rowsP lows t).map lineT ++ [[], []]).map tx := by
  rw [← page_ljoin]
  refine split_tx 13 [10] (by decide +kernel) _ (by simp) fun p hp => ?_
  rcases List.mem_append.mp hp with h | h
  · obtain ⟨r, hr, rfl⟩ := List.mem_map.mp h
    obtain ⟨q, hq, rfl⟩ := List.mem_map.mp hr
    obtain ⟨k, hk, rfl⟩ := List.mem_map.mp hq
    have := List.mem_range.mp hk
    unfold lineT
    intro hm
    rcases List.mem_append.mp hm with h | h
    · have := (List.mem_replicate.mp h).2; lia
    · simp at h; exact absurd (Nat.le_of_eq h.symm) (by simp +arith)
  · simp at h; subst h; simp
theorem split_line (r : Nat × Nat) (h : r.2 ≠ 58) : Txt.split (tx (lineT r)) (tx [58, 32]) = [tx (List.replicate r.1 46 ++ [120]), tx [r.2]] := by
  have e : lineT r = ljoin [58, 32] [List.replicate r.1 46 ++ [120], [r.2]] := by
    unfold lineT
    show _ = (List.replicate r.1 46 ++ [120]) ++ ([58, 32] ++ [r.2])
    simp
  rw [e]
  refine split_tx 58 [32] (by decide +kernel) _ (by simp) fun p hp => ?_
  simp only [List.mem_cons, List.not_mem_nil, or_false] at hp
  rcases hp with rfl | rfl
  · intro hm
    rcases List.mem_append.mp hm with h | h
    · have := (List.mem_replicate.mp h).2; exact absurd this (by decide)
    · simp at h
  · simp; exact fun q => h q.symm
theorem replace_page (lows e : List Nat) (hl : lows.length ≤ 4) : Txt.replace (tx (pageT [13, 10] (rowsP lows 0))) (tx [13, 10]) (tx e) = tx (pg e lows 0) := by
  have e0 : pg e lows 0 = pageT e (rowsP lows 0) := rfl
  rw [e0, ← page_ljoin, ← page_ljoin]
  refine replace_tx 13 [10] e _ (by simp) fun p hp => ?_
  rcases List.mem_append.mp hp with h | h
  · obtain ⟨r, hr, rfl⟩ := List.mem_map.mp h
    obtain ⟨q, hq, rfl⟩ := List.mem_map.mp hr
    obtain ⟨k, hk, rfl⟩ := List.mem_map.mp hq
    have := List.mem_range.mp hk
    unfold lineT
    intro hm
    rcases List.mem_append.mp hm with h | h
    · have := (List.mem_replicate.mp h).2; lia
    · simp at h; exact absurd (Nat.le_of_eq h.symm) (by simp +arith)
  · simp at h; subst h; simp
theorem W1_addH {c : Cx} {o : Expr} {apos cpos pos : Pos} {es : List Expr} {ρ : Rho} {σ : Sig} {Q : Fl → Rho → Sig → Prop} (hk : 2 ≤ c.k)
    (h : WE c o ρ σ (fun X => ∃ l, X = .mh l ∧ WL c cpos es ρ σ (fun Xs => ∃ rs N U n u σ', Xs = [N, U] ∧ SV N n ∧ SV U u ∧ PlainT n ∧ PlainT u ∧ n.cps.size ≤ 2 ^ 60 ∧ u.length ≤ 1000 ∧ rs.length ≤ 1000 ∧
      UpdAt σ l (rs.map rowV) ((rs ++ [(n, u)]).map rowV) σ' ∧ Q .next ρ σ')))
    {pl : Sem Bool} (he : eval (.Call (.Attribute o "add_header" apos) es [] cpos) c.env = (do
      let ov ← eval o c.env
      standAt apos.atName
      let (f, first) ← holding [ov] (getMethod ov "add_header" pl)
      callWith cpos f first (backTo cpos (starEach es c.env)) (backToKw cpos (keywordEach [] c.env))) := by walk_at "r")
    (hplain : (backTo cpos (starEach es c.env)).any (·.1) = false := by walk_at "r")
    (hi : interactive c.env = false := by walk_at "r") (hsw : swapsWith (.Call (.Attribute o "add_header" apos) es [] cpos) none pos.line c.env = pure false := by walk_at "r") :
    W1 c (.Expr (.Call (.Attribute o "add_header" apos) es [] cpos) pos) ρ σ Q := fun s R => by
  refine wpAny_Expr_any (methodCall_KW (goV (h s R) fun v s₁ X hX k₁ hpt => ?_) he) hi hsw
  obtain ⟨l, e, h₁⟩ := hpt
  subst e
  have R₁ := R.keepE k₁
  refine get_meth R₁ hX (.inl ⟨l, rfl⟩) mAdd ?_
  refine callWith_gen (first := [v]) (Kp.stat mAdd.keep) R₁ hplain (goL (h₁ s₁ R₁) fun vs s₂ Xs hXs k₂ hpt => ?_)
  obtain ⟨rs, N, U, n, u, σ', e, hN, hU, pn, pu, sn, su, hrs, up, q⟩ := hpt
  subst e
  obtain ⟨a, _, rfl, za, b, _, rfl, zb, rfl⟩ := hXs
  have R₂ := R₁.keepE k₂
  refine ⟨R₂.stat.K, wpAny_mono (add_run hN hU pn pu sn su hrs hk R₂ up (hX.keeps (k₂.keepW _)) za zb) (fun z s₃ ⟨_, R₃, K₃⟩ => ⟨.next, _, _, rfl, R₃, .trans R₂ (k₁.trans k₂).ks K₃, q⟩) fun uu uu x => x⟩
end
section
open PySem PySem.W PySem.Calls PyProof PyProof.Rows PySem.SeqAt
noncomputable def forBody : Stmt → List Stmt
  | .For _ _ b _ _ => b
  | _ => []
theorem plain_one {n : Nat} (h1 : 32 ≤ n) (h2 : n < 127) : PlainT (tx [n]) := fun c hc => by
  rw [tx_toList, List.mem_singleton] at hc; subst hc; exact ⟨h1, h2⟩
theorem plain_up {n : Nat} (p : Nat) : PlainT (tx (List.replicate n 46 ++ [xo p])) := fun c hc => by
  rw [tx_toList] at hc
  rcases List.mem_append.mp hc with h | h
  · rw [(List.mem_replicate.mp h).2]; decide
  · rw [List.mem_singleton.mp h]; unfold xo; split <;> decide
theorem plain_dn {a b : Nat} (p : Nat) : PlainT (tx (padc (xo p) a b)) := fun c hc => by
  rw [tx_toList] at hc
  unfold padc at hc
  rcases List.mem_append.mp hc with h | h
  · rw [(List.mem_replicate.mp h).2]; decide
  · rcases List.mem_cons.mp h with h | h
    · rw [h]; unfold xo; split <;> decide
    · rw [(List.mem_replicate.mp h).2]; decide
theorem zip_turn {r : Nat × Nat} {h H p : Nat} (b1 : r.1 ≤ 100) (b2 : 97 ≤ r.2) (b3 : r.2 ≤ 100) (hh : h ≤ 100) (hH : H ≤ 100) (hp : p < 4) {us ds : List (Str × Str)} (hu : us.length ≤ 900) (hd : ds.length ≤ 900) {c : Cx} {L : Addr} {out o o' : List Addr} {ld lu : Addr} {FV P G : V} :
    WS (((c.call fdTables 241 L out 4).up o).up o') (forBody ((forBody ((sBody (topS 21)).getD 5 default)).getD 5 default))
      [("field", .str (tx (pad (r.1 - h) (H - (h - r.1))))), ("row", .str (tx (lineT (r.1 + 2 + h, r.2)))), ("fields", FV), ("place", .int p), ("page", P), ("down", .mh ld), ("up", .mh lu), ("high", G)] [(ld, ds.map rowV), (lu, us.map rowV)]
      (fun F' ρ' σ' => F' = .next ∧ σ' = [(ld, (ds ++ [dnRow H h p r]).map rowV), (lu, (us ++ [upRow h p r]).map rowV)] ∧ sub [("fields", FV), ("place", .int p), ("page", P), ("down", .mh ld), ("up", .mh lu), ("high", G)] ρ') := by
  refine WS_cons ?_
  walk_at "v"
  refine WE_smeth F.slot_str_split F.type_str_split ?_
  walk_at "v"
  refine ⟨⟨_, SV.str _⟩, ?_⟩
  walk_at "v"
  refine WC_split (y := tx [58, 32]) (SV.str _) (SV.lit _) (by decide) (by rw [tx_len, line_len]; exact Nat.not_lt.mp fun hn => absurd (Nat.add_le_add b1 (Nat.add_le_add hh hn)) (by simp +arith)) ?_
  rw [split_line _ (by show r.2 ≠ 58; exact fun hn => absurd (Nat.add_le_add b2 (Nat.le_of_eq hn)) (by simp +arith))]
  refine WAs_unpack (.inl rfl) rfl rfl ?_
  refine WAss_cons ?_
  walk_at "v"
  refine WAss_cons ?_
  walk_at "v"
  refine WAss_nil ?_
  refine WS_join [("name", .str (tx (List.replicate (r.1 + 2 + h) 46 ++ [xo p]))), ("field", .str (tx (padc (xo p) (r.1 - h) (H - (h - r.1))))), ("letter", .str (tx [r.2])), ("fields", FV), ("place", .int p), ("page", P), ("down", .mh ld), ("up", .mh lu), ("high", G)]
    [(ld, ds.map rowV), (lu, us.map rowV)] (W1_if ?_) ?_
  · walk_at "v"
    have em : ((p : Nat) : Int).fmod 2 = ((p % 2 : Nat) : Int) := by
      rw [Int.fmod_eq_emod_of_nonneg _ (by decide)]; rfl
    rw [em]
    refine ite_b (fun q => ?_) fun q => ?_
    · have q' : p % 2 = 1 := by
        have := eq_of_beq q
        exact Nat.le_antisymm (Nat.not_lt.mp fun hn => absurd (Int.add_le_add (Int.le_of_eq this) (Int.ofNat_le.mpr (Nat.succ_le_of_lt hn))) (by simp +arith)) (Nat.not_lt.mp fun hn => absurd (Int.add_le_add (Int.le_of_eq this.symm) (Int.ofNat_le.mpr (Nat.succ_le_of_lt hn))) (by simp +arith))
      have ex : xo p = 88 := by unfold xo; rw [if_pos q']
      rw [ex]
      refine WS_cons ?_
      walk_at "v"
      refine WE_smeth F.slot_str_upper F.type_str_upper ?_
      walk_at "v"
      refine ⟨⟨_, SV.str _⟩, ?_⟩
      walk_at "v"
      refine WC_upper (SV.str _) (by rw [tx_len, List.length_append, List.length_replicate]; show _ + 1 ≤ _; exact Nat.not_lt.mp fun hn => absurd (Nat.add_le_add b1 (Nat.add_le_add hh hn)) (by simp +arith)) ?_
      rw [upper_name]
      walk_at "v"
      refine WE_smeth F.slot_str_upper F.type_str_upper ?_
      walk_at "v"
      refine ⟨⟨_, SV.str _⟩, ?_⟩
      walk_at "v"
      refine WC_upper (SV.str _) (by rw [tx_len, pad_len]; exact Nat.not_lt.mp fun hn => (Nat.le_total h r.fst).elim (fun hs2 => (Nat.le_total (h - r.fst) H).elim (fun hs1 => absurd (Nat.add_le_add b1 (Nat.add_le_add hH (Nat.add_le_add hn (Nat.add_le_add (Nat.le_of_eq (Nat.sub_add_cancel hs2)) (Nat.le_of_eq (Nat.sub_add_cancel hs1)))))) (by simp +arith)) (fun hs1 => absurd (Nat.add_le_add b1 (Nat.add_le_add hn (Nat.add_le_add (Nat.le_of_eq (Nat.sub_add_cancel hs2)) (Nat.le_of_eq (Nat.sub_eq_zero_of_le hs1))))) (by simp +arith))) (fun hs2 => (Nat.le_total (h - r.fst) H).elim (fun hs1 => absurd (Nat.add_le_add hH (Nat.add_le_add hn (Nat.add_le_add (Nat.le_of_eq (Nat.sub_eq_zero_of_le hs2)) (Nat.le_of_eq (Nat.sub_add_cancel hs1))))) (by simp +arith)) (fun hs1 => absurd (Nat.add_le_add hn (Nat.add_le_add (Nat.le_of_eq (Nat.sub_eq_zero_of_le hs2)) (Nat.le_of_eq (Nat.sub_eq_zero_of_le hs1)))) (by simp +arith)))) ?_
      rw [upper_pad]
      walk_at "v"
      exact ⟨rfl, rfl, by walk_at "sub"⟩
    · have q' : ¬ p % 2 = 1 := by
        have := ne_of_beq_false q
        exact fun hn => (Int.lt_or_gt_of_ne this).elim (fun hd2 => absurd (Int.add_le_add (Int.ofNat_le.mpr (Nat.le_of_eq hn.symm)) (Int.add_one_le_of_lt hd2)) (by simp +arith)) (fun hd2 => absurd (Int.add_le_add (Int.ofNat_le.mpr (Nat.le_of_eq hn)) (Int.add_one_le_of_lt hd2)) (by simp +arith))
      have ex : xo p = 120 := by unfold xo; rw [if_neg q']
      rw [ex]
      walk_at "v"
      refine ⟨rfl, rfl, ?_⟩
      show sub [("name", .str (tx (List.replicate (r.1 + 2 + h) 46 ++ [120]))), ("field", .str (tx (pad (r.1 - h) (H - (h - r.1))))), ("letter", .str (tx [r.2])), ("fields", FV), ("place", .int p), ("page", P), ("down", .mh ld), ("up", .mh lu), ("high", G)] _
      walk_at "sub"
  refine WS_cons ?_
  refine W1_addH (by show 2 ≤ 4; exact Nat.le_add_left _ _) ?_
  walk_at "v"
  refine ⟨lu, rfl, ?_⟩
  walk_at "v"
  refine ⟨us, _, _, _, _, _, rfl, SV.str _, SV.str _, plain_up p, plain_one (by exact Nat.le_trans (Nat.le_add_left _ _) b2) (by exact Nat.lt_of_le_of_lt b3 (by decide)), ?_, by rw [tx_len]; exact (by decide : 1 ≤ 1000), by exact Nat.le_add_left_of_le hu, .tail .head, ?_⟩
  · show (tx _).length ≤ _
    rw [tx_len, List.length_append, List.length_replicate]; show _ + 1 ≤ _; exact Nat.not_lt.mp fun hn => absurd (Nat.add_le_add b1 (Nat.add_le_add hh hn)) (by simp +arith)
  refine WS_cons ?_
  refine W1_addH (by show 2 ≤ 4; exact Nat.le_add_left _ _) ?_
  walk_at "v"
  refine ⟨ld, rfl, ?_⟩
  walk_at "v"
  refine ⟨ds, _, _, _, _, _, rfl, SV.str _, SV.str _, plain_dn p, plain_one (by exact Nat.le_trans (Nat.le_add_left _ _) b2) (by exact Nat.lt_of_le_of_lt b3 (by decide)), ?_, by rw [tx_len]; exact (by decide : 1 ≤ 1000), by exact Nat.le_add_left_of_le hd, .head, ?_⟩
  · show (tx _).length ≤ _
    rw [tx_len]; unfold padc; simp; exact Nat.not_lt.mp fun hn => (Nat.le_total h r.fst).elim (fun hs2 => (Nat.le_total (h - r.fst) H).elim (fun hs1 => absurd (Nat.add_le_add b1 (Nat.add_le_add hH (Nat.add_le_add hn (Nat.add_le_add (Nat.le_of_eq (Nat.sub_add_cancel hs2)) (Nat.le_of_eq (Nat.sub_add_cancel hs1)))))) (by simp +arith)) (fun hs1 => absurd (Nat.add_le_add b1 (Nat.add_le_add hn (Nat.add_le_add (Nat.le_of_eq (Nat.sub_add_cancel hs2)) (Nat.le_of_eq (Nat.sub_eq_zero_of_le hs1))))) (by simp +arith))) (fun hs2 => (Nat.le_total (h - r.fst) H).elim (fun hs1 => absurd (Nat.add_le_add hH (Nat.add_le_add hn (Nat.add_le_add (Nat.le_of_eq (Nat.sub_eq_zero_of_le hs2)) (Nat.le_of_eq (Nat.sub_add_cancel hs1))))) (by simp +arith)) (fun hs1 => absurd (Nat.add_le_add hn (Nat.add_le_add (Nat.le_of_eq (Nat.sub_eq_zero_of_le hs2)) (Nat.le_of_eq (Nat.sub_eq_zero_of_le hs1)))) (by simp +arith)))
  walk_at "v"
  exact ⟨rfl, rfl, by walk_at "sub"⟩
end
section
open PySem PySem.W PySem.Calls PyProof PyProof.Rows PySem.SeqAt
theorem foldl_rep (c : Nat) : ∀ (n : Nat) (a : Array Nat), (List.replicate n #[c]).foldl (· ++ ·) a = a ++ (List.replicate n c).toArray
  | 0, a => by simp
  | n + 1, a => by
    rw [List.replicate_succ, List.foldl_cons, foldl_rep c n, List.replicate_succ]
    apply Array.toList_inj.mp
    simp
theorem mul_tx (c n : Nat) : Txt.mul (tx [c]) (n : Int) = tx (List.replicate n c) := by
  unfold Txt.mul
  by_cases h : (n : Int) < 1
  · rw [if_pos h]
    have : n = 0 := by exact Nat.le_antisymm (Nat.not_lt.mp fun hn => absurd (Int.add_le_add (Int.add_one_le_of_lt h) (Int.ofNat_le.mpr (Nat.succ_le_of_lt hn))) (by simp +arith)) (Nat.not_lt.mp fun hn => absurd hn (by simp +arith))
    subst this; rfl
  · rw [if_neg h]
    by_cases h1 : n = 1
    · subst h1
      rw [if_pos (by rfl)]
      rfl
    · rw [if_neg (by simp [tx_len]; (clear h; lia))]
      rw [Int.toNat_natCast]
      show Str.mk ((List.replicate n #[c]).foldl (· ++ ·) #[]) = _
      rw [foldl_rep]
      simp [tx]
theorem mulOk_tx (c n : Nat) (h : n ≤ 100000) : MulOk (tx [c]) (n : Int) := by
  refine ⟨by simp; exact Int.lt_of_le_of_lt (Int.ofNat_le.mpr h) (by decide), fun h1 h2 => ?_, fun h1 h2 => ?_⟩
  · rw [tx_len]
    show ¬ ((1 : Int) > _)
    have : (1 : Int) ≤ (2 ^ 63 - 1) / (n : Int) := by
      rw [Int.le_ediv_iff_mul_le (by exact (Int.not_lt.mp h1))]
      exact Int.not_lt.mp fun hn => absurd (Int.add_le_add (Int.ofNat_le.mpr h) (Int.add_one_le_of_lt hn)) (by simp +arith)
    exact Int.not_lt_of_ge this
  · rw [tx_len, Int.toNat_natCast]
    unfold Builtin.Str.tooLong
    rw [sizeLine_eq]
    simp
    exact Nat.le_add_left_of_le h
theorem pickV_last2 {α : Type} (l : List α) (a b : α) : pickV (l ++ [a, b]) (some (-2)) none = [a, b] := by
  have e : clipAt (l ++ [a, b]).length (-2) = l.length := by
    have := clipAt_neg (l ++ [a, b]).length 2 (by decide)
    rw [List.length_append] at this ⊢
    exact this
  unfold pickV
  simp only [Option.elim]
  rw [e, List.drop_left, List.take_of_length_le (by simp)]
theorem pickV_but2 {α : Type} (l : List α) (a b : α) : pickV (l ++ [a, b]) none (some (-2)) = l := by
  have e : clipAt (l ++ [a, b]).length (-2) = l.length := by
    have := clipAt_neg (l ++ [a, b]).length 2 (by decide)
    rw [List.length_append] at this ⊢
    exact this
  unfold pickV
  simp only [Option.elim]
  rw [e, List.drop_zero, Nat.sub_zero, List.take_left]
theorem rowsP_succ (lows : List Nat) (t : Nat) : rowsP lows (t + 1) = (rowsP lows t).map fun r => (r.1 + 1, r.2) := by
  unfold rowsP
  rw [List.map_map]; rfl
noncomputable def sz (hs : List Nat) (p : Nat) : Nat := if p = 0 then 0 else hs.getD p 0 - hs.getD (p - 1) 0
theorem plain_tx {l : List Nat} (h : ∀ c ∈ l, 32 ≤ c ∧ c < 127) : PlainT (tx l) := fun c hc => h c (by rwa [tx_toList] at hc)
noncomputable def fieldsP (lows hs : List Nat) (s : Nat) : List V := (lets lows).map fun r => .str (tx (pad (r.1 - s) (hs.getD (hs.length - 1) 0 - (s - r.1))))
theorem zipV_map {α : Type} (l : List α) (f g : α → V) : zipV (l.map f) (l.map g) = l.map fun r => .tup [f r, g r] := by
  unfold zipV
  rw [List.zip_map', List.map_map]
  rfl
theorem lets_le {lows : List Nat} (hl : ∀ k, lows.getD k 0 ≤ 100) (l2 : lows.length ≤ 4) {r : Nat × Nat} (h : r ∈ lets lows) : r.1 ≤ 100 ∧ 97 ≤ r.2 ∧ r.2 ≤ 100 := by
  obtain ⟨k, hk, rfl⟩ := List.mem_map.mp h
  have := List.mem_range.mp hk
  exact ⟨hl k, by show 97 ≤ 97 + k; exact Nat.le_add_right _ _, by show 97 + k ≤ 100; exact Nat.not_lt.mp fun hn => absurd (Nat.add_le_add l2 (Nat.add_le_add this hn)) (by simp +arith)⟩
theorem kp200 : Kp (.ref 200) := Kp.stat fun w => by kernel_rfl
theorem kp217 : Kp (.ref 217) := Kp.stat fun w => by kernel_rfl
theorem sub.trans' {a b c : Rho} (x : sub a b) (y : sub b c) : sub a c := fun k X e => y k X (x k X e)
theorem take_snoc {α : Type} (l : List α) (d : α) (i : Nat) (h : i < l.length) : l.take (i + 1) = l.take i ++ [l.getD i d] := by
  rw [List.take_add_one, List.getElem?_eq_getElem h, List.getD_eq_getElem?_getD, List.getElem?_eq_getElem h]; rfl
noncomputable def rhoP (lows hs e : List Nat) (ld lu : Addr) (s q : Nat) : Rho := [("down", .mh ld), ("up", .mh lu), ("page", .str (tx (pg e lows q))), ("fields", .list (fieldsP lows hs s)), ("high", .list ((nv hs).map .int))]
theorem cut1 (r q z g : Nat) (h : q + z = g) : r - q - z = r - g := by rw [Nat.sub_sub, h]
theorem cut2 (T q z r g : Nat) (h : q + z = g) : T - (q - r) - (z - (r - q)) = T - (g - r) := by
  rw [Nat.sub_sub, ← h]
  congr 1
  rcases Nat.le_total r q with k | k
  · rw [Nat.sub_eq_zero_of_le k, Nat.sub_zero, Nat.sub_add_comm k]
  · rw [Nat.sub_eq_zero_of_le k, Nat.zero_add]
    obtain ⟨m, rfl⟩ := Nat.le.dest k
    rw [Nat.add_sub_cancel_left, Nat.add_sub_add_left]
theorem tab_turn {lows hs e : List Nat} (he : IsEnd e) (l1 : 1 ≤ lows.length) (l2 : lows.length ≤ 4) (h1 : 1 ≤ hs.length) (h2 : hs.length ≤ 4) (hl : ∀ k, lows.getD k 0 ≤ 100) (hh : ∀ k, hs.getD k 0 ≤ 100)
    (mono : ∀ p, p + 1 < hs.length → hs.getD p 0 ≤ hs.getD (p + 1) 0) (h0 : hs.getD 0 0 = 0) (p : Nat) (hp : p < hs.length) {c : Cx} {L : Addr} {out o : List Addr} {ld lu : Addr} :
    WS ((c.call fdTables 241 L out 4).up o) (forBody ((sBody (topS 21)).getD 5 default)) (("place", .int p) :: rhoP lows hs e ld lu (cum hs p) (quo hs p)) [(ld, (dns lows hs p).map rowV), (lu, (ups lows hs p).map rowV)]
      (fun F ρ₃ σ₃ => F = .next ∧ σ₃ = [(ld, (dns lows hs (p + 1)).map rowV), (lu, (ups lows hs (p + 1)).map rowV)] ∧ sub (rhoP lows hs e ld lu (cum hs (p + 1)) (quo hs (p + 1))) ρ₃) := by
  have hsz : cum hs p + sz hs p = hs.getD p 0 := by
    unfold cum sz
    by_cases h : p = 0
    · subst h; rw [if_pos rfl, if_pos rfl, h0]
    · rw [if_neg h, if_neg h]
      have := mono (p - 1) (by exact Nat.not_le.mp fun hn => (Nat.le_total 1 p).elim (fun hs2 => absurd (Nat.add_le_add hp (Nat.add_le_add hn (Nat.le_of_eq (Nat.sub_add_cancel hs2)))) (by simp +arith)) (fun hs2 => (Nat.lt_or_gt_of_ne h).elim (fun hd1 => absurd hd1 (by simp +arith)) (fun hd1 => absurd (Nat.add_le_add hp (Nat.add_le_add hn (Nat.add_le_add (Nat.le_of_eq (Nat.sub_eq_zero_of_le hs2)) hd1))) (by simp +arith))))
      rw [Nat.sub_add_cancel (by exact Nat.pos_of_ne_zero h)] at this
      exact Nat.add_sub_cancel' this
  have hq1 : quo hs (p + 1) = hs.getD p 0 + 1 := by
    unfold quo cum
    rw [if_neg (Nat.succ_ne_zero p), if_neg (Nat.succ_ne_zero p), Nat.add_sub_cancel]
  have hq0 : quo hs p + (if p = 0 then 1 else sz hs p) = hs.getD p 0 + 1 := by
    unfold quo
    by_cases h : p = 0
    · subst h; rw [if_pos rfl, if_pos rfl, h0]; rfl
    · rw [if_neg h, if_neg h]; (clear h hq1 hp h0 mono hh hl h2 h1 l2 l1 he; lia)
  have hc1 : cum hs (p + 1) = hs.getD p 0 := by
    unfold cum
    rw [if_neg (Nat.succ_ne_zero p), Nat.add_sub_cancel]
  have hhp := hh p
  have hH : ((nv hs).map V.int).length = hs.length := by simp
  unfold rhoP
  refine WS_join [("size", .int ((sz hs p : Nat) : Int)), ("place", .int p), ("down", .mh ld), ("up", .mh lu), ("page", .str (tx (pg e lows (quo hs p)))), ("fields", .list (fieldsP lows hs (cum hs p))), ("high", .list ((nv hs).map .int))]
    [(ld, (dns lows hs p).map rowV), (lu, (ups lows hs p).map rowV)] ?_ ?_
  · walk_at "v"
    refine ite_b (fun h => ?_) fun h => ?_
    · have hp0 : 0 < p := by simpa using h
      walk_at "v"
      refine O2_itemI (.inl rfl) (by exact Int.natCast_nonneg _) (by simp; assumption) (by exact Int.not_le.mp fun hn => absurd (Int.add_le_add (Int.ofNat_le.mpr h2) (Int.add_le_add (Int.ofNat_le.mpr (Nat.succ_le_of_lt hp)) hn)) (by simp +arith)) ?_
      walk_at "v"
      have ep : ((p : Nat) : Int) - 1 = ((p - 1 : Nat) : Int) := by exact Int.le_antisymm (Int.not_lt.mp fun hn => absurd (Int.add_le_add (Int.add_one_le_of_lt hn) (Int.ofNat_le.mpr (Nat.le_of_eq (Nat.sub_add_cancel (show 1 ≤ p from Nat.not_lt.mp fun hn => absurd (Nat.add_le_add hp0 hn) (by simp +arith))).symm))) (by simp +arith)) (Int.not_lt.mp fun hn => absurd (Int.add_le_add (Int.add_one_le_of_lt hn) (Int.ofNat_le.mpr (Nat.le_of_eq (Nat.sub_add_cancel (show 1 ≤ p from Nat.not_lt.mp fun hn => absurd (Nat.add_le_add hp0 hn) (by simp +arith)))))) (by simp +arith))
      rw [ep]
      refine O2_itemI (.inl rfl) (by exact Int.natCast_nonneg _) (by simp; exact Nat.lt_of_le_of_lt (Nat.sub_le _ _) hp) (by exact Int.not_le.mp fun hn => absurd (Int.add_le_add (Int.ofNat_le.mpr h2) (Int.add_le_add (Int.ofNat_le.mpr (Nat.succ_le_of_lt hp)) (Int.add_le_add (Int.le_of_eq ep.symm) hn))) (by simp +arith)) ?_
      rw [Int.toNat_natCast, Int.toNat_natCast, nv_at, nv_at]
      walk_at "v"
      have hm := mono (p - 1) (by exact Nat.not_le.mp fun hn => absurd (Int.add_le_add (Int.ofNat_le.mpr (Nat.succ_le_of_lt hp)) (Int.add_le_add (Int.le_of_eq ep.symm) (Int.ofNat_le.mpr hn))) (by simp +arith))
      rw [Nat.sub_add_cancel (by assumption)] at hm
      have es : ((hs.getD p 0 : Nat) : Int) - ((hs.getD (p - 1) 0 : Nat) : Int) = ((sz hs p : Nat) : Int) := by
        unfold sz; rw [if_neg (by exact Nat.ne_of_gt hp0)]; exact Int.le_antisymm (Int.not_lt.mp fun hn => absurd (Int.add_le_add (Int.add_one_le_of_lt hn) (Int.ofNat_le.mpr (Nat.le_of_eq (Nat.sub_add_cancel (show hs.getD (p - 1) 0 ≤ hs.getD p 0 from Nat.not_lt.mp fun hn => absurd (Nat.add_le_add hm hn) (by simp +arith))).symm))) (by simp +arith)) (Int.not_lt.mp fun hn => absurd (Int.add_le_add (Int.add_one_le_of_lt hn) (Int.ofNat_le.mpr (Nat.le_of_eq (Nat.sub_add_cancel (show hs.getD (p - 1) 0 ≤ hs.getD p 0 from Nat.not_lt.mp fun hn => absurd (Nat.add_le_add hm hn) (by simp +arith)))))) (by simp +arith))
      rw [es]
      exact ⟨rfl, rfl, by walk_at "sub"⟩
    · have hp0 : p = 0 := by simpa using h
      walk_at "v"
      have es : (0 : Int) = ((sz hs p : Nat) : Int) := by
        unfold sz; rw [if_pos hp0]; rfl
      rw [es]
      exact ⟨rfl, rfl, by walk_at "sub"⟩
  refine WS_join [("size", .int ((sz hs p : Nat) : Int)), ("place", .int p), ("page", .str (tx (pg e lows (hs.getD p 0 + 1)))), ("down", .mh ld), ("up", .mh lu), ("fields", .list (fieldsP lows hs (cum hs p))), ("high", .list ((nv hs).map .int))]
    [(ld, (dns lows hs p).map rowV), (lu, (ups lows hs p).map rowV)] (W1_for ?_) ?_
  · refine WE_call (x := "range") (.type "range") Kp.type (fun uu h => WE_blt (by with_unfolding_all rfl) (fun w => by with_unfolding_all rfl) (by with_unfolding_all rfl) h) ?_
    refine WL_cons ?_
    refine WT.mono (Q := fun X => X = .int ((if p = 0 then 1 else sz hs p : Nat) : Int)) ?_ fun X eX => ?_
    · refine WE_ifexp ?_
      walk_at "v"
      refine ite_b (fun h => ?_) fun h => ?_
      · have hp0 : 0 < p := by simpa using h
        walk_at "v"
        rw [if_neg (by exact Nat.ne_of_gt hp0)]
      · have hp0 : p = 0 := by simpa using h
        walk_at "v"
        rw [if_pos hp0]; rfl
    subst eX
    walk_at "v"
    have hup : (if p = 0 then 1 else sz hs p) ≤ 1000000 := by split <;> omega
    refine ⟨_, src_up hup, fun j ρ' σ' => σ' = [(ld, (dns lows hs p).map rowV), (lu, (ups lows hs p).map rowV)] ∧ sub [("page", .str (tx (pg e lows (quo hs p + j)))), ("size", .int ((sz hs p : Nat) : Int)), ("place", .int p), ("down", .mh ld), ("up", .mh lu), ("fields", .list (fieldsP lows hs (cum hs p))), ("high", .list ((nv hs).map .int))] ρ', ⟨rfl, by walk_at "sub"⟩, fun o' j Y ρ' σ' hY hJ => ?_, fun ρ' σ' hJ => ?_⟩
    · obtain ⟨hj, rfl⟩ := upto_at hY
      obtain ⟨rfl, hs'⟩ := hJ
      refine WAs.less ?_ hs'
      walk_at "v"
      refine WE_call (x := "quotedata") (.ref 217) kp217 (fun uu h => WE_glob (v := .ref 217) (X := .stat (.ref 217)) rfl (fun w => rfl) (fun uu uu uu => rfl) h) ?_
      walk_at "v"
      have hE : IsEnd (pgE e (quo hs p + j)) := by
        unfold pgE
        split
        · exact he
        · exact .inr (.inr rfl)
      have hjq : quo hs p + j ≤ 101 := by exact Nat.not_lt.mp fun hn => absurd (Nat.add_le_add (Nat.le_of_eq hq0) (Nat.add_le_add hhp (Nat.add_le_add hj hn))) (by simp +arith)
      refine (quote_run hE (rowsP lows (quo hs p + j)) (fun r hr => ?_) (by simp [rowsP, lets]; exact Nat.le_add_left_of_le l2) (SV.str _) _ _ _ (by show 1 ≤ 4; exact Nat.succ_pos _)).mono fun X hX => ?_
      · obtain ⟨q, hq, rfl⟩ := List.mem_map.mp hr
        obtain ⟨b1, b2, b3⟩ := lets_le hl l2 hq
        refine ⟨(eol_iff _).mpr ⟨by show q.2 ≠ 10; exact fun hn => absurd (Nat.add_le_add b2 (Nat.le_of_eq hn)) (by simp +arith), by show q.2 ≠ 13; exact fun hn => absurd (Nat.add_le_add b2 (Nat.le_of_eq hn)) (by simp +arith)⟩, ?_, ?_⟩
        · show 0 < q.1 + 1 + _; simp +arith
        · show q.1 + 1 + _ ≤ 1000; exact Nat.not_lt.mp fun hn => absurd (Nat.add_le_add hjq (Nat.add_le_add b1 hn)) (by simp +arith)
      subst hX
      rw [← rowsP_succ]
      walk_at "v"
      refine ⟨rfl, ?_⟩
      show sub [("page", .str (tx (pageT [13, 10] (rowsP lows (quo hs p + j + 1))))), ("size", .int ((sz hs p : Nat) : Int)), ("place", .int p), ("down", .mh ld), ("up", .mh lu), ("fields", .list (fieldsP lows hs (cum hs p))), ("high", .list ((nv hs).map .int))] _
      walk_at "sub"
    · obtain ⟨rfl, hs'⟩ := hJ
      rw [upto_len, hq0] at hs'
      refine ⟨rfl, rfl, fun x X hx => hs' x X ?_⟩
      exact (show sub [("size", .int ((sz hs p : Nat) : Int)), ("place", .int p), ("page", .str (tx (pg e lows (hs.getD p 0 + 1)))), ("down", .mh ld), ("up", .mh lu), ("fields", .list (fieldsP lows hs (cum hs p))), ("high", .list ((nv hs).map .int))]
        [("page", .str (tx (pg e lows (hs.getD p 0 + 1)))), ("size", .int ((sz hs p : Nat) : Int)), ("place", .int p), ("down", .mh ld), ("up", .mh lu), ("fields", .list (fieldsP lows hs (cum hs p))), ("high", .list ((nv hs).map .int))] by walk_at "sub") x X hx
  have hfl : (fieldsP lows hs (cum hs p)).length = lows.length := by simp [fieldsP, lets]
  refine WS_cons (W1_assignCompF (cl := [("size", L + 3)]) rfl (by with_unfolding_all rfl) (by walk_at "ck") [("size", .int ((sz hs p : Nat) : Int))] (by walk_at "cap") ?_)
  walk_at "v"
  refine ⟨_, src_list (.inl ⟨_, _, rfl⟩), by rw [hfl]; unfold sizeLine; exact Nat.le_trans l2 (Nat.le_add_left _ _), fun k => true, fun k => .str (tx (pad (((lets lows).getD k default).1 - hs.getD p 0) (hs.getD (hs.length - 1) 0 - (hs.getD p 0 - ((lets lows).getD k default).1)))), ?_, ?_⟩
  · intro C h₀ o i Y hY
    obtain ⟨hi, rfl⟩ := map_at (d := default) hY
    obtain ⟨b1, b2, b3⟩ := lets_le hl l2 (getD_in (d := default) hi)
    generalize hg : (lets lows).getD i default = r at *
    have hhl := hh (hs.length - 1)
    walk_at "v"
    refine ⟨sub.one rfl (.refl _), ?_⟩
    walk_at "v"
    refine ⟨rfl, fun uu => ?_⟩
    refine WE_call (x := "_strip_padding") (.ref 200) kp200 (fun uu h => WE_glob (v := .ref 200) (X := .stat (.ref 200)) rfl (fun w => rfl) (fun uu uu uu => rfl) h) ?_
    walk_at "v"
    refine (strip_run (r.1 - cum hs p) (hs.getD (hs.length - 1) 0 - (cum hs p - r.1)) (sz hs p) (by exact Nat.le_trans (Nat.le_trans (Nat.sub_le _ _) b1) (by decide)) (by exact Nat.le_trans (Nat.le_trans (Nat.sub_le _ _) hhl) (by decide)) _ _ _ (by show 1 ≤ 4; exact Nat.succ_pos _)).mono fun X hX => ?_
    subst hX
    show V.str _ = V.str (tx (pad (((lets lows).getD i default).1 - hs.getD p 0) (hs.getD (hs.length - 1) 0 - (hs.getD p 0 - ((lets lows).getD i default).1))))
    rw [hg]
    congr 3
    · exact cut1 _ _ _ _ hsz
    · exact cut2 _ _ _ _ _ hsz
  have efl : picks (fieldsP lows hs (cum hs p)).length (fun uu => true) (fun k => V.str (tx (pad (((lets lows).getD k default).1 - hs.getD p 0) (hs.getD (hs.length - 1) 0 - (hs.getD p 0 - ((lets lows).getD k default).1))))) = fieldsP lows hs (hs.getD p 0) := by
    rw [hfl, ← lets_len, picks_list (lets lows) default (fun uu => true) (fun r => V.str (tx (pad (r.1 - hs.getD p 0) (hs.getD (hs.length - 1) 0 - (hs.getD p 0 - r.1))))), List.filter_eq_self.mpr fun uu uu => rfl]
    rfl
  rw [efl]
  refine WS_cons ?_
  walk_at "v"
  refine WE_smeth F.slot_str_split F.type_str_split ?_
  walk_at "v"
  refine ⟨⟨_, SV.str _⟩, ?_⟩
  walk_at "v"
  have hrT : ∀ r ∈ rowsP lows (hs.getD p 0 + 1), r.1 ≤ 1000 := fun r hr => by
    obtain ⟨q, hq, rfl⟩ := List.mem_map.mp hr
    obtain ⟨b1, b2, b3⟩ := lets_le hl l2 hq
    show q.1 + 1 + _ ≤ 1000
    exact Nat.not_lt.mp fun hn => absurd (Nat.add_le_add hhp (Nat.add_le_add b1 hn)) (by simp +arith)
  have hrlT : (rowsP lows (hs.getD p 0 + 1)).length = lows.length := by simp [rowsP, lets]
  have hpl := page_len [13, 10] 1000 (by decide) (rowsP lows (hs.getD p 0 + 1)) hrT
  have hpl2 : (rowsP lows (hs.getD p 0 + 1)).length * 1006 ≤ 50 * 1006 := Nat.mul_le_mul_right _ (by exact Nat.not_lt.mp fun hn => absurd (Nat.add_le_add l2 (Nat.add_le_add (Nat.le_of_eq hrlT) hn)) (by simp +arith))
  have epg : pg e lows (hs.getD p 0 + 1) = pageT [13, 10] (rowsP lows (hs.getD p 0 + 1)) := rfl
  rw [epg]
  refine WC_split (y := tx [13, 10]) (SV.str _) (SV.lit _) (by decide) (by rw [tx_len]; exact Nat.not_lt.mp fun hn => absurd (Nat.add_le_add hpl (Nat.add_le_add hpl2 hn)) (by simp +arith)) ?_
  rw [split_page lows _ l2]
  have erw : (((rowsP lows (hs.getD p 0 + 1)).map lineT ++ [[], []]).map tx).map V.str = ((lets lows).map fun r => V.str (tx (lineT (r.1 + 2 + hs.getD p 0, r.2)))) ++ [.str (tx []), .str (tx [])] := by
    unfold rowsP
    rw [List.map_append, List.map_append, List.map_map, List.map_map, List.map_map]
    congr 1
    refine List.map_congr_left fun r hr => ?_
    show V.str (tx (lineT (r.1 + 1 + (hs.getD p 0 + 1), r.2))) = _
    congr 4
    simp +arith only
  rw [erw]
  refine WS_cons (W1_if ?_)
  refine WI_cmp' ?_
  refine WE_sliceL ?_
  walk_at "v"
  have hnl : (((lets lows).map fun r : Nat × Nat => V.str (tx (lineT (r.1 + 2 + hs.getD p 0, r.2)))) ++ [V.str (tx []), V.str (tx [])]).length ≤ sizeLine := by
    rw [List.length_append, List.length_map, lets_len]; unfold sizeLine; show _ + 2 ≤ _; exact Nat.not_lt.mp fun hn => absurd (Nat.add_le_add l2 hn) (by simp +arith)
  refine ⟨_, .inl rfl, hnl, ?_⟩
  walk_at "v"
  refine ⟨_, .int _, ?_⟩
  walk_at "v"
  refine ⟨_, .none, ?_⟩
  rw [pickV_last2]
  walk_at "v"
  refine O2_ne_list (b := true) .list .list (LEq.strs (ss := [tx [], tx []]) (tt := ["", ""]) (.cons (SV.str _) (.cons (SV.str _) .nil)) (.cons (SV.lit _) (.cons (SV.lit _) .nil))) ?_
  refine Bo.mk ?_
  refine ite_f (A := ?_) ?_
  walk_at "v"
  refine WS_cons ?_
  refine W1_forZip (fun uu h => WE_blt (by with_unfolding_all rfl) (fun w => by with_unfolding_all rfl) (by with_unfolding_all rfl) h) ?_
  refine WL_cons ?_
  refine WE_sliceL ?_
  walk_at "v"
  refine ⟨_, .inl rfl, hnl, ?_⟩
  walk_at "v"
  refine ⟨_, .none, ?_⟩
  walk_at "v"
  refine ⟨_, .int _, ?_⟩
  rw [pickV_but2]
  walk_at "v"
  refine ⟨_, _, rfl, fun i ρ' σ' => σ' = [(ld, (dns lows hs p ++ ((lets lows).take i).map (dnRow (hs.getD (hs.length - 1) 0) (hs.getD p 0) p)).map rowV), (lu, (ups lows hs p ++ ((lets lows).take i).map (upRow (hs.getD p 0) p)).map rowV)] ∧
    sub [("fields", .list (fieldsP lows hs (hs.getD p 0))), ("place", .int p), ("page", .str (tx (pageT [13, 10] (rowsP lows (hs.getD p 0 + 1))))), ("down", .mh ld), ("up", .mh lu), ("high", .list ((nv hs).map .int))] ρ', ⟨?_, ?_⟩, fun o' i Y ρ' σ' hY hJ => ?_, fun ρ' σ' hJ => ?_⟩
  · simp
  · walk_at "sub"
  · obtain ⟨rfl, hs'⟩ := hJ
    unfold fieldsP at hY
    rw [zipV_map] at hY
    obtain ⟨hi, rfl⟩ := map_at (d := default) hY
    obtain ⟨b1, b2, b3⟩ := lets_le hl l2 (getD_in (d := default) hi)
    generalize hg : (lets lows).getD i default = r at *
    refine WAs.less ?_ hs'
    refine WAs_unpack (.inr rfl) rfl rfl ?_
    refine WAss_cons ?_
    walk_at "v"
    refine WAss_cons ?_
    walk_at "v"
    refine WAss_nil ?_
    have hulen : (ups lows hs p ++ ((lets lows).take i).map (upRow (hs.getD p 0) p)).length ≤ 900 := by
      rw [List.length_append, ups_len, List.length_map, List.length_take, lets_len]
      have : p * lows.length ≤ 4 * 4 := Nat.mul_le_mul (by exact Nat.le_trans (Nat.le_of_lt hp) h2) l2
      exact Nat.not_lt.mp fun hn => absurd (Nat.add_le_add l2 (Nat.add_le_add this (Nat.add_le_add hn (Nat.min_le_right i lows.length)))) (by simp +arith)
    have hdlen : (dns lows hs p ++ ((lets lows).take i).map (dnRow (hs.getD (hs.length - 1) 0) (hs.getD p 0) p)).length ≤ 900 := by
      rw [List.length_append, dns_len, List.length_map, List.length_take, lets_len]
      have : p * lows.length ≤ 4 * 4 := Nat.mul_le_mul (by exact Nat.le_trans (Nat.le_of_lt hp) h2) l2
      exact Nat.not_lt.mp fun hn => absurd (Nat.add_le_add l2 (Nat.add_le_add this (Nat.add_le_add hn (Nat.min_le_right i lows.length)))) (by simp +arith)
    refine (zip_turn b1 b2 b3 hhp (hh (hs.length - 1)) (by exact Nat.lt_of_lt_of_le hp h2) hulen hdlen).mono fun F r' g hpt => ?_
    obtain ⟨e1, e2, e3⟩ := hpt
    subst e1
    refine ⟨?_, e3⟩
    have ed : ∀ (f : Nat × Nat → Str × Str) (us : List (Str × Str)), us ++ ((lets lows).take i).map f ++ [f r] = us ++ ((lets lows).take (i + 1)).map f := fun f us => by
      rw [take_snoc _ default _ hi, hg, List.map_append, List.append_assoc]; rfl
    rw [e2, ed, ed]
  · obtain ⟨rfl, hs'⟩ := hJ
    have el : (zipV ((lets lows).map fun r => V.str (tx (lineT (r.1 + 2 + hs.getD p 0, r.2)))) (fieldsP lows hs (hs.getD p 0))).length = (lets lows).length := by
      unfold fieldsP
      rw [zipV_map, List.length_map]
    rw [el, List.take_of_length_le (Nat.le_refl _), ← ups_succ, ← dns_succ]
    refine WS_nil ⟨rfl, rfl, ?_⟩
    rw [hc1, hq1]
    refine sub.trans' ?_ hs'
    show sub [("down", .mh ld), ("up", .mh lu), ("page", .str (tx (pageT [13, 10] (rowsP lows (hs.getD p 0 + 1))))), ("fields", .list (fieldsP lows hs (hs.getD p 0))), ("high", .list ((nv hs).map .int))] _
    walk_at "sub"
end
section
open PySem PySem.W PySem.Calls PyProof PyProof.Rows PySem.SeqAt
theorem tables_run (lows hs : List Nat) (e : List Nat) (he : IsEnd e) (l1 : 1 ≤ lows.length) (l2 : lows.length ≤ 4) (h1 : 1 ≤ hs.length) (h2 : hs.length ≤ 4) (hl : ∀ k, lows.getD k 0 ≤ 100) (hh : ∀ k, hs.getD k 0 ≤ 100)
    (mono : ∀ p, p + 1 < hs.length → hs.getD p 0 ≤ hs.getD (p + 1) 0) (h0 : hs.getD 0 0 = 0) :
    Pure 241 5 [.list ((nv lows).map .int), .list ((nv hs).map .int), .lit (tx e)] (fun Z => Z = .tup [.hdrP ((ups lows hs hs.length).map rowV), .hdrP ((dns lows hs hs.length).map rowV)]) := by
  have hL : ((nv lows).map V.int).length = lows.length := by simp
  have hH : ((nv hs).map V.int).length = hs.length := by simp
  refine pure_of atTables [("low", .list ((nv lows).map .int)), ("high", .list ((nv hs).map .int)), ("end", .lit (tx e))] ?_ (nodup_of rfl) (kindsOk_of fun n => rfl) fun c L out hk => ?_
  · rintro w W s vs ⟨v, _, rfl, hv, u, _, rfl, hu, x, _, rfl, hx, rfl⟩
    exact ⟨_, rfl, v, _, rfl, hv, u, _, rfl, hu, x, _, rfl, hx, rfl⟩
  refine WS_cons ?_
  walk_at "v"
  refine WE_call (.ref 182) kpH (fun uu h => WE_glob (v := .ref 182) (X := .stat (.ref 182)) rfl (fun w => rfl) (fun uu uu uu => rfl) h) ?_
  walk_at "v"
  refine WE_compF (cl := [("low", L + 1)]) (by walk_at "ck") [("low", .list ((nv lows).map .int))] (by walk_at "cap") ?_
  walk_at "v"
  refine WC_len (.inl rfl) (by simp; exact Nat.le_add_left_of_le l2) ?_
  rw [hL]
  walk_at "v"
  refine ⟨_, src_up (n := lows.length) (by exact Nat.le_add_left_of_le l2), by rw [upto_len]; unfold sizeLine; exact Nat.le_trans l2 (Nat.le_add_left _ _), fun k => true, fun k => rowV (rowOf (lows.getD k 0 + 1, 97 + k)), ?_, ?_⟩
  · intro C h₀ o i Y hY
    obtain ⟨hi, rfl⟩ := upto_at hY
    walk_at "v"
    refine ⟨sub.one rfl (.refl _), ?_⟩
    walk_at "v"
    refine ⟨rfl, fun uu => ?_⟩
    walk_at "v"
    refine O2_itemI (.inl rfl) (by exact Int.natCast_nonneg _) (by simp; assumption) (by exact Int.not_le.mp fun hn => absurd (Int.add_le_add (Int.ofNat_le.mpr l2) (Int.add_le_add (Int.ofNat_le.mpr (Nat.succ_le_of_lt hi)) hn)) (by simp +arith)) ?_
    rw [Int.toNat_natCast, nv_at]
    walk_at "v"
    have hlk := hl i
    have ei : ((lows.getD i 0 : Nat) : Int) + 1 = ((lows.getD i 0 + 1 : Nat) : Int) := by exact Int.natCast_add _ _
    rw [ei]
    refine O2_mul_str (x := tx [46]) (SV.lit _) (mulOk_tx _ _ (by exact Nat.lt_of_le_of_lt hlk (by decide))) ?_
    rw [mul_tx]
    walk_at "v"
    refine O2_add_str (y := tx [120]) (SV.str _) (SV.lit _) ?_ ?_
    · rw [tx_len, tx_len, List.length_replicate]; show _ + 1 ≤ _; unfold sizeLine; exact Nat.not_lt.mp fun hn => absurd (Nat.add_le_add hlk hn) (by simp +arith)
    rw [tx_app]
    walk_at "v"
    refine O2_itemS (x := tx [97, 98, 99, 100]) (SV.lit _) (by unfold fitsSsize; simp; exact Int.not_le.mp fun hn => absurd (Int.add_le_add (Int.ofNat_le.mpr l2) (Int.add_le_add (Int.ofNat_le.mpr (Nat.succ_le_of_lt hi)) hn)) (by simp +arith)) (by rw [tx_len]; show -(4 : Int) ≤ _; exact Int.natCast_nonneg _) (by rw [tx_len]; show _ < (4 : Int); exact Int.not_le.mp fun hn => absurd (Int.add_le_add (Int.ofNat_le.mpr l2) (Int.add_le_add (Int.ofNat_le.mpr (Nat.succ_le_of_lt hi)) hn)) (by simp +arith)) ?_
    rw [tx_item _ _ (by simp; exact Nat.lt_of_lt_of_le hi l2)]
    walk_at "v"
    have e4 : [97, 98, 99, 100].getD i 0 = 97 + i := by
      have : i < 4 := by exact Nat.lt_of_lt_of_le hi l2
      match i, this with
      | 0, _ => rfl
      | 1, _ => rfl
      | 2, _ => rfl
      | 3, _ => rfl
    rw [e4]
    rfl
  · rw [upto_len]
    have e1 : picks lows.length (fun uu => true) (fun k => rowV (rowOf (lows.getD k 0 + 1, 97 + k))) = ((rowsP lows 0).map rowOf).map rowV := by
      rw [picks_all]
      simp [rowsP, lets]
    rw [e1]
    walk_at "v"
    refine (make_rows (c := c.call fdTables 241 L out 4) (Nat.le_refl 4) ?_ ?_).mono fun X hX => ?_
    · simp [rowsP, lets]; exact Nat.le_add_left_of_le l2
    · intro r hr
      obtain ⟨q, hq, rfl⟩ := List.mem_map.mp hr
      obtain ⟨q', hq', rfl⟩ := List.mem_map.mp hq
      obtain ⟨k, hk, rfl⟩ := List.mem_map.mp hq'
      have hk := List.mem_range.mp hk
      have hlk := hl k
      refine ⟨plain_tx fun c hc => ?_, plain_tx fun c hc => ?_, ?_, ?_⟩
      · rcases List.mem_append.mp hc with h | h
        · rw [(List.mem_replicate.mp h).2]; decide
        · rw [List.mem_singleton.mp h]; decide
      · rw [List.mem_singleton.mp hc]; exact ⟨by simp +arith, by exact Nat.not_le.mp fun hn => absurd (Nat.add_le_add l2 (Nat.add_le_add hk hn)) (by simp +arith)⟩
      · show (tx _).length ≤ _
        rw [tx_len, List.length_append, List.length_replicate]; show _ + 1 ≤ _; exact Nat.not_lt.mp fun hn => absurd (Nat.add_le_add hlk hn) (by simp +arith)
      · show (tx _).length ≤ _
        rw [tx_len]; show 1 ≤ _; exact Nat.succ_pos _
    subst hX
    refine WS_cons ?_
    walk_at "v"
    refine WE_replace (z := "end") (zt := tx e) (x := tx (pageT [13, 10] (rowsP lows 0))) rfl rfl ?_
    refine WE_call (.type "str") Kp.type (fun uu h => WE_blt (by with_unfolding_all rfl) (fun w => by with_unfolding_all rfl) (by with_unfolding_all rfl) h) ?_
    walk_at "v"
    have hrows : ∀ r ∈ rowsP lows 0, r.1 ≤ 1000 := fun r hr => by
      obtain ⟨q, hq, rfl⟩ := List.mem_map.mp hr
      obtain ⟨k, hk, rfl⟩ := List.mem_map.mp hq
      have hlk := hl k
      show lows.getD k 0 + 1 + 0 ≤ 1000
      exact Nat.lt_of_le_of_lt hlk (by decide)
    have hrl : (rowsP lows 0).length ≤ 50 := by simp [rowsP, lets]; exact Nat.le_add_left_of_le l2
    have hel : e.length ≤ 2 := by rcases he with rfl | rfl | rfl <;> decide
    have hlen0 := page_len [13, 10] 1000 (by decide) (rowsP lows 0) hrows
    have hlen1 : (rowsP lows 0).length * 1006 ≤ 50 * 1006 := Nat.mul_le_mul_right _ hrl
    have hsr : Pure 158 1 [.hdr (((rowsP lows 0).map rowOf).map rowV)] (fun Z => Z = .str (tx (pageT [13, 10] (rowsP lows 0)))) := by rw [List.map_map]; exact str_run (rowsP lows 0) hrl hrows
    refine WC_strH hsr (by show 2 ≤ 4; exact Nat.le_add_left _ _) ?_
    refine ⟨SV.str _, ?_, ?_⟩
    · rw [tx_len, tx_len]
      have : ((pageT [13, 10] (rowsP lows 0)).length + 1) * e.length ≤ 50303 * 2 := Nat.mul_le_mul (by exact Nat.not_lt.mp fun hn => absurd (Nat.add_le_add hlen0 (Nat.add_le_add hlen1 hn)) (by simp +arith)) hel
      exact Nat.not_lt.mp fun hn => absurd (Nat.add_le_add hlen0 (Nat.add_le_add hlen1 (Nat.add_le_add this hn))) (by simp +arith)
    have erp : Txt.replace (tx (pageT [13, 10] (rowsP lows 0))) (Str.ofString "\r\n") (tx e) = tx (pg e lows 0) := replace_page lows e l2
    rw [erp]
    walk_at "v"
    refine W1_assignCompF (cl := [("high", L + 2)]) rfl (by with_unfolding_all rfl) (by walk_at "ck") [("high", .list ((nv hs).map .int))] (by walk_at "cap") ?_
    walk_at "v"
    refine ⟨_, src_list (.inl ⟨_, _, rfl⟩), by rw [hL]; unfold sizeLine; exact Nat.le_trans l2 (Nat.le_add_left _ _), fun k => true, fun k => .str (tx (pad (lows.getD k 0) (hs.getD (hs.length - 1) 0))), ?_, ?_⟩
    · intro C h₀ o i Y hY
      obtain ⟨hi, rfl⟩ := map_at (d := 0) hY
      rw [nv_len] at hi
      rw [nv_at]
      have hlk := hl i
      have hhk := hh (hs.length - 1)
      walk_at "v"
      refine ⟨sub.one rfl (.refl _), ?_⟩
      walk_at "v"
      refine ⟨rfl, fun uu => ?_⟩
      walk_at "v"
      refine O2_mul_str (x := tx [32]) (SV.lit _) (mulOk_tx _ _ (by exact Nat.le_add_left_of_le hlk)) ?_
      rw [mul_tx]
      walk_at "v"
      refine O2_add_str (y := tx [120]) (SV.str _) (SV.lit _) ?_ ?_
      · rw [tx_len, tx_len, List.length_replicate]; show _ + 1 ≤ _; unfold sizeLine; exact Nat.lt_of_le_of_lt hlk (by decide)
      rw [tx_app]
      walk_at "v"
      refine O2_itemL (.inl rfl) rfl (by intro q; rw [List.map_eq_nil_iff] at q; rw [q] at h1; exact absurd h1 (by decide)) ?_
      rw [nv_at, nv_len]
      refine O2_mul_str (x := tx [32]) (SV.lit _) (mulOk_tx _ _ (by exact Nat.le_add_left_of_le hhk)) ?_
      rw [mul_tx]
      refine O2_add_str (SV.str _) (SV.str _) ?_ ?_
      · rw [tx_len, tx_len, List.length_append, List.length_replicate, List.length_replicate]; show _ + 1 + _ ≤ _; unfold sizeLine; exact Nat.not_lt.mp fun hn => absurd (Nat.add_le_add hlk (Nat.add_le_add hhk hn)) (by simp +arith)
      rw [tx_app]
      unfold pad
      simp
    have ef0 : ((List.range lows.length).map fun k => V.str (tx (pad (lows.getD k 0) (hs.getD (hs.length - 1) 0)))) = fieldsP lows hs 0 := by
      unfold fieldsP lets
      rw [List.map_map]
      refine List.map_congr_left fun k hk => ?_
      show _ = V.str (tx (pad (lows.getD k 0 - 0) (hs.getD (hs.length - 1) 0 - (0 - lows.getD k 0))))
      rw [Nat.sub_zero, Nat.zero_sub, Nat.sub_zero]
    rw [hL, picks_all, ef0]
    refine WS_cons (W1_newH (by walk_at "stb") (Nat.le_refl 4) rfl fun lu => ?_)
    refine WS_cons (W1_newH (by walk_at "stb") (Nat.le_refl 4) rfl fun ld => ?_)
    refine WS_cons (W1_for ?_)
    walk_at "v"
    refine WC_len (.inl rfl) (by simp; exact Nat.le_add_left_of_le h2) ?_
    rw [hH]
    walk_at "v"
    refine ⟨_, src_up (n := hs.length) (by exact Nat.le_add_left_of_le h2), fun p ρ' σ' => σ' = [(ld, (dns lows hs p).map rowV), (lu, (ups lows hs p).map rowV)] ∧
      sub (rhoP lows hs e ld lu (cum hs p) (quo hs p)) ρ', ⟨?_, ?_⟩, fun o p Y ρ' σ' hY hJ => ?_, fun ρ' σ' hJ => ?_⟩
    · rfl
    · show sub [("down", .mh ld), ("up", .mh lu), ("page", .str (tx (pg e lows 0))), ("fields", .list (fieldsP lows hs 0)), ("high", .list ((nv hs).map .int))] _
      walk_at "sub"
    · obtain ⟨hp, rfl⟩ := upto_at hY
      obtain ⟨rfl, hs'⟩ := hJ
      refine WAs.less ?_ hs'
      refine WAs_name (by walk_at "stb") ?_
      exact (tab_turn he l1 l2 h1 h2 hl hh mono h0 p hp).mono fun F r g ⟨e1, e2, e3⟩ => by subst e1; exact ⟨e2, e3⟩
    · obtain ⟨rfl, hs'⟩ := hJ
      rw [upto_len]
      refine WS_keep _ hs' ?_
      refine WS_freeze (ρ' := [("down", .hdrP ((dns lows hs hs.length).map rowV)), ("up", .mh lu)]) (.cons rfl (.inr (.inr (.inr ⟨rfl, rfl⟩))) (.cons rfl (.inl rfl) .nil)) ?_
      refine WS_freeze (ρ' := [("down", .hdrP ((dns lows hs hs.length).map rowV)), ("up", .hdrP ((ups lows hs hs.length).map rowV))]) (.cons rfl (.inl rfl) (.cons rfl (.inr (.inr (.inr ⟨rfl, rfl⟩))) .nil)) ?_
      refine WS_cons ?_
      walk_at "v"
      rfl
end
section
open PySem PySem.W PySem.Calls PyProof PyProof.Rows PySem.SeqAt
theorem held_spec {K : Type} [DecidableEq K] (ks : List K) : ∃ c : List K, c.Nodup ∧ (∀ x, x ∈ c ↔ x ∈ ks) ∧ (∀ x, (held ks).1 x = decide (x ∈ ks)) ∧ (held ks).2 = c.length := by
  have key : ∀ n, n ≤ ks.length → ∃ c : List K, c.Nodup ∧ (∀ x, x ∈ c ↔ x ∈ ks.take n) ∧ (∀ x, (held (ks.take n)).1 x = decide (x ∈ ks.take n)) ∧ (held (ks.take n)).2 = c.length := by
    intro n
    induction n with
    | zero => intro _; exact ⟨[], List.nodup_nil, by simp, fun x => by rw [List.take_zero]; rfl, by rw [List.take_zero]; rfl⟩
    | succ n ih =>
      intro hn
      obtain ⟨c, h1, h2, h3, h4⟩ := ih (by exact Nat.le_of_succ_le hn)
      have hlt : n < ks.length := hn
      have ee : ks.take (n + 1) = ks.take n ++ [ks[n]] := by rw [List.take_add_one, List.getElem?_eq_getElem hlt]; rfl
      rw [ee, held_snoc]
      generalize ks[n] = x at *
      refine ⟨if x ∈ ks.take n then c else c ++ [x], ?_, fun y => ?_, fun y => ?_, ?_⟩
      · split
        · exact h1
        · rename_i hx
          rw [List.nodup_append]
          exact ⟨h1, by simp, fun a ha b hb => by rw [List.mem_singleton.mp hb]; intro q; exact hx ((h2 x).mp (q ▸ ha))⟩
      · split
        · rename_i hx
          rw [h2, List.mem_append, List.mem_singleton]
          exact ⟨.inl, fun q => q.elim id fun z => z ▸ hx⟩
        · rw [List.mem_append, List.mem_append, h2]
      · show ((held (ks.take n)).1 y || decide (y = x)) = _
        rw [h3, Bool.eq_iff_iff]
        simp
      · show (if (held (ks.take n)).1 x = true then (held (ks.take n)).2 else (held (ks.take n)).2 + 1) = _
        rw [h3]
        by_cases hx : x ∈ ks.take n
        · simp [hx, h4]
        · simp [hx, h4]
  have := key ks.length (Nat.le_refl _)
  rwa [List.take_of_length_le (Nat.le_refl _)] at this
theorem nodup_le {K : Type} [DecidableEq K] : ∀ {c d : List K}, c.Nodup → (∀ x ∈ c, x ∈ d) → c.length ≤ d.length
  | [], _, _, _ => Nat.zero_le _
  | x :: c, d, hn, hs => by
    obtain ⟨h1, h2⟩ := List.nodup_cons.mp hn
    have hx := hs x (.head _)
    have ih : c.length ≤ (d.erase x).length := nodup_le h2 fun y hy => by
      have hne : y ≠ x := fun q => h1 (q ▸ hy)
      exact (List.mem_erase_of_ne hne).mpr (hs y (.tail _ hy))
    rw [List.length_erase_of_mem hx] at ih
    have := List.length_pos_of_mem hx
    rw [List.length_cons]; exact Nat.add_le_of_le_sub (by assumption) ih
theorem held_len {K : Type} [DecidableEq K] {ks c : List K} (hn : c.Nodup) (h : ∀ x, x ∈ c ↔ x ∈ ks) : (held ks).2 = c.length := by
  obtain ⟨d, h1, h2, _, h4⟩ := held_spec ks
  rw [h4]
  exact Nat.le_antisymm (nodup_le h1 fun x hx => (h x).mpr ((h2 x).mp hx)) (nodup_le hn fun x hx => (h2 x).mpr ((h x).mp hx))
theorem held_map {K J : Type} [DecidableEq K] [DecidableEq J] (f : K → J) (hf : ∀ a b, f a = f b → a = b) (ks : List K) : (held (ks.map f)).2 = (held ks).2 := by
  obtain ⟨d, h1, h2, _, h4⟩ := held_spec ks
  rw [h4, ← List.length_map (f := f)]
  refine held_len ?_ fun x => ?_
  · rw [List.nodup_iff_pairwise_ne, List.pairwise_map]
    exact (List.nodup_iff_pairwise_ne.mp h1).imp fun h q => h (hf _ _ q)
  · rw [List.mem_map, List.mem_map]
    exact ⟨fun ⟨y, a, b⟩ => ⟨y, (h2 y).mp a, b⟩, fun ⟨y, a, b⟩ => ⟨y, (h2 y).mpr a, b⟩⟩
theorem sorted_ext {R : Nat → Nat → Prop} (asym : ∀ a b, R a b → R b a → False) : ∀ {l m : List Nat}, l.Pairwise R → m.Pairwise R → (∀ x, x ∈ l ↔ x ∈ m) → l = m
  | [], [], _, _, _ => rfl
  | [], y :: m, _, _, h => nomatch (h y).mpr (.head _)
  | x :: l, [], _, _, h => nomatch (h x).mp (.head _)
  | x :: l, y :: m, hl, hm, h => by
    obtain ⟨a1, a2⟩ := List.pairwise_cons.mp hl
    obtain ⟨b1, b2⟩ := List.pairwise_cons.mp hm
    have irr : ∀ a, ¬ R a a := fun a r => asym a a r r
    have exy : x = y := by
      rcases List.mem_cons.mp ((h x).mp (.head _)) with q | q
      · exact q
      · rcases List.mem_cons.mp ((h y).mpr (.head _)) with q' | q'
        · exact q'.symm
        · exact (asym _ _ (a1 y q') (b1 x q)).elim
    subst exy
    congr 1
    refine sorted_ext asym a2 b2 fun z => ⟨fun hz => ?_, fun hz => ?_⟩
    · rcases List.mem_cons.mp ((h z).mp (.tail _ hz)) with q | q
      · exact (irr x (by have := a1 z hz; rwa [q] at this)).elim
      · exact q
    · rcases List.mem_cons.mp ((h z).mpr (.tail _ hz)) with q | q
      · exact (irr x (by have := b1 z hz; rwa [q] at this)).elim
      · exact q
end
section
open PySem PySem.W PySem.Calls PyProof PyProof.Rows PySem.SeqAt
noncomputable def mkm : List Nat → Nat → List Nat
  | [], a => [a]
  | s :: r, a => a :: mkm r (a + s)
noncomputable def msk (l : List Nat) : Nat := l.foldr (fun v m => Nat.lor (Nat.shiftLeft 1 v) m) 0
noncomputable def smsk (m : Nat) (l : List Nat) : Nat := l.foldr (fun v r => Nat.lor (Nat.shiftLeft m v) r) 0
noncomputable def bits (n : Nat) : Nat → Nat :=
  Nat.rec (fun uu => 0) (fun uu ih m => Nat.add (Nat.mod m 2) (ih (Nat.div m 2))) n
noncomputable def evn : List Nat → Bool
  | [] => false
  | x :: r => r.all (Nat.beq x)
noncomputable def chk (s : List Nat) (m : Nat) (t : List Nat) : Bool :=
  let n := bits 25 (smsk m (mkm t 0))
  let f := s.length + t.length + 1
  Nat.ble f n && ((Nat.beq n f) == (s.isEmpty || t.isEmpty || evn (s ++ t)))
noncomputable def steps3 : List (List Nat) := [[]] ++ ([1,2,3,4].map fun a => [a]) ++ ([1,2,3,4].flatMap fun a => [1,2,3,4].map fun b => [a, b]) ++ ([1,2,3,4].flatMap fun a => [1,2,3,4].flatMap fun b => [1,2,3,4].map fun c => [a, b, c])
theorem chk_all : (steps3.all fun s => steps3.all fun t => chk s (msk (mkm s 0)) t) = true := by decide +kernel
theorem msk_bit (l : List Nat) (v : Nat) : (msk l).testBit v = decide (v ∈ l) := by
  induction l with
  | nil => simp [msk]
  | cons a l ih =>
    show ((1 <<< a) ||| msk l).testBit v = _
    rw [Nat.testBit_or, ih, Nat.testBit_shiftLeft, Bool.eq_iff_iff]
    simp
    constructor
    · rintro (⟨h1, h2⟩ | h)
      · left
        have : v - a = 0 := by
          by_cases e : v - a = 0
          · exact e
          · obtain ⟨k, hk⟩ : ∃ k, v - a = k + 1 := ⟨v - a - 1, by (clear h2 h1 ih; lia)⟩
            rw [hk, Nat.testBit_succ] at h2
            have : Nat.testBit (1 / 2) k = false := Nat.zero_testBit k
            rw [this] at h2; cases h2
        (clear h2 ih; lia)
      · exact .inr h
    · rintro (rfl | h)
      · left; simp
      · exact .inr h
theorem smsk_bit (m : Nat) (l : List Nat) (v : Nat) : (smsk m l).testBit v = decide (∃ y ∈ l, y ≤ v ∧ m.testBit (v - y) = true) := by
  induction l with
  | nil => simp [smsk]
  | cons a l ih =>
    show ((m <<< a) ||| smsk m l).testBit v = _
    rw [Nat.testBit_or, ih, Nat.testBit_shiftLeft, Bool.eq_iff_iff]
    simp
theorem bits_eq : ∀ (n m : Nat), bits n m = ((List.range n).filter fun v => m.testBit v).length
  | 0, _ => rfl
  | n + 1, m => by
    show (m % 2) + bits n (m / 2) = _
    have e1 : (((List.range n).map Nat.succ).filter fun v => m.testBit v).length = ((List.range n).filter fun v => (m / 2).testBit v).length := by
      rw [List.filter_map, List.length_map]
      congr 2
      funext v
      exact Nat.testBit_succ m v
    rw [bits_eq n (m / 2), List.range_succ_eq_map, List.filter_cons, ← e1]
    by_cases h : m % 2 = 1
    · have : m.testBit 0 = true := by rw [Nat.testBit_zero]; exact decide_eq_true h
      rw [if_pos this, List.length_cons, h]; exact Nat.add_comm _ _
    · have : m.testBit 0 = false := by rw [Nat.testBit_zero]; exact decide_eq_false h
      rw [if_neg (by rw [this]; decide)]
      have : m % 2 = 0 := by (clear this e1; lia)
      rw [this, Nat.zero_add]
theorem count_sums {la lb : List Nat} (hb : ∀ x ∈ la, ∀ y ∈ lb, x + y < 25) {T : List Nat} (hT : ∀ v, v ∈ T ↔ ∃ x ∈ la, ∃ y ∈ lb, x + y = v) : (held T).2 = bits 25 (smsk (msk la) lb) := by
  rw [bits_eq]
  refine held_len ((List.nodup_iff_pairwise_ne.mpr (List.pairwise_lt_range.imp fun h => Nat.ne_of_lt h)).filter _) fun v => ?_
  rw [List.mem_filter, List.mem_range, smsk_bit, decide_eq_true_iff, hT]
  constructor
  · rintro ⟨_, y, hy, hle, hm⟩
    rw [msk_bit, decide_eq_true_iff] at hm
    exact ⟨v - y, hm, y, hy, by exact Nat.sub_add_cancel hle⟩
  · rintro ⟨x, hx, y, hy, rfl⟩
    refine ⟨hb x hx y hy, y, hy, by exact Nat.le_add_left _ _, ?_⟩
    rw [msk_bit, decide_eq_true_iff, Nat.add_sub_cancel]
    exact hx
end
section
open PySem PySem.W PySem.Calls PyProof PyProof.Rows PySem.SeqAt
theorem conv_throw {X Y : V} {y : Str} (hX : IsH X) (hY : SV Y y) (b : Bool) (hbad : SFind (if b = true then codeN else codeV) y) (hsz : y.cps.size ≤ 2 ^ 60) {c : Cx} {ρ : Rho} {σ : Sig} {s : Shared} {v u : Value} {fs : List Env} (hk : 1 ≤ c.k) (R : Rel c ρ σ s)
    (zX : VR c.w (wof c σ) s X v) (zY : VR c.w (wof c σ) s Y u) (hfr : c.A.frames = some fs) (ff : FF fs s.heap) (hfw : ∀ b ∈ fad fs, b ∈ wof c σ) :
    wpAny (model PG c.w) c.A (call (.ref 83) [v, u] [("name", .bool b)]) (fun uu uu => False) (fun e s' => Fly fs s s' e) s := by
  refine call_throw (ρ₀ := [("self", X), ("value", Y), ("name", .bool b)]) (k := 0) R hfr ff hfw atConv (fun A E Q h => ?_) (nodup_of rfl) (kindsOk_of fun n => rfl) hk fun L ap => ?_
  · exact BindsTo.of_eq (s := s) (fd := fdConv) (args := ⟨[v, u], [("name", .bool b)]⟩) (binds := [("self", v), ("value", u), ("name", .bool b)]) rfl _ _ _ _ (h _ s (.refl s) ⟨v, _, rfl, zX, u, _, rfl, zY, _, _, rfl, rfl, rfl⟩)
  refine th_head ?_
  refine th_if ?_
  walk_at "v"
  refine WC_typeS hY ?_
  walk_at "v"
  refine ⟨rfl, ?_⟩
  refine th_next ap ?_
  cases b with
  | true =>
    walk_at "v"
    refine WE_glob (v := .ref 48) (X := .stat (.ref 48)) rfl (fun w => rfl) (fun uu uu uu => rfl) ?_
    refine ⟨rfl, th_head ?_⟩
    refine th_if ?_
    refine WI_search patN ?_
    walk_at "v"
    refine ⟨rfl, ?_⟩
    walk_at "v"
    exact ⟨y, hY, hsz, hbad, rfl, th_head (th_raise rfl)⟩
  | false =>
    walk_at "v"
    refine WE_glob (v := .ref 53) (X := .stat (.ref 53)) rfl (fun w => rfl) (fun uu uu uu => rfl) ?_
    refine ⟨rfl, th_head ?_⟩
    refine th_if ?_
    refine WI_search patV ?_
    walk_at "v"
    refine ⟨rfl, ?_⟩
    walk_at "v"
    exact ⟨y, hY, hsz, hbad, rfl, th_head (th_raise rfl)⟩
theorem getall_throw {X N : V} {nm : Str} (hX : IsH X) (hN : SV N nm) (hl : nm.length ≤ 5592405) (hbad : SFind codeN (Txt.lower nm)) (hsz : (Txt.lower nm).cps.size ≤ 2 ^ 60) {c : Cx} {ρ : Rho} {σ : Sig} {s : Shared} {v u : Value} {fs : List Env} (hk : 2 ≤ c.k) (R : Rel c ρ σ s)
    (zX : VR c.w (wof c σ) s X v) (zN : VR c.w (wof c σ) s N u) (hfr : c.A.frames = some fs) (ff : FF fs s.heap) (hfw : ∀ b ∈ fad fs, b ∈ wof c σ) :
    wpAny (model PG c.w) c.A (call (.ref 121) [v, u]) (fun uu uu => False) (fun e s' => Fly fs s s' e) s := by
  refine call_throw (ρ₀ := [("self", X), ("name", N)]) (k := 1) R hfr ff hfw atGetAll (fun A E Q h => ?_) (nodup_of rfl) (kindsOk_of fun n => rfl) hk fun L ap => ?_
  · exact BindsTo.of_eq (s := s) (fd := fdGetAll) (args := ⟨[v, u], []⟩) (binds := [("self", v), ("name", u)]) rfl _ _ _ _ (h _ s (.refl s) ⟨v, _, rfl, zX, u, _, rfl, zN, rfl⟩)
  refine th_head ?_
  refine th_assign ?_
  refine WTe.th (te_conv mConv ?_)
  walk_at "v"
  refine ⟨hX, ?_⟩
  refine WE_smeth F.slot_str_lower F.type_str_lower ?_
  walk_at "v"
  refine ⟨⟨_, hN⟩, ?_⟩
  walk_at "v"
  refine WC_lower hN hl ?_
  intro s v y R ff' zX zY
  refine conv_throw hX (SV.str _) true hbad hsz (Nat.le_refl _) R zX zY (Around.frames_deeper hfr) ?_ ?_
  · obtain ⟨m, hN, _⟩ := R.loc
    exact FF.cons (show ScopeKind.function ≠ ScopeKind.module by decide) rfl hN ff'
  · intro b hb
    unfold fad at hb
    rw [List.filterMap_cons] at hb
    rcases List.mem_cons.mp hb with q | q
    · exact List.mem_append_right _ (List.mem_append_left _ (q ▸ .head _))
    · exact List.mem_append_right _ (List.mem_append_right _ (ap b q).1)
theorem frames_in {c : Cx} {fs : List Env} {σ : Sig} (ap : Apart c fs) (hl : c.env.frame = some c.env.locals) (ho : c.env.locals ∈ c.own) : ∀ b ∈ fad (c.env :: fs), b ∈ wof c σ := fun b hb => by
  unfold fad at hb
  rw [List.filterMap_cons, hl] at hb
  rcases List.mem_cons.mp hb with q | q
  · exact List.mem_append_right _ (List.mem_append_left _ (q ▸ ho))
  · exact List.mem_append_right _ (List.mem_append_right _ (ap b q).1)
theorem add_throw {rs : List V} {N U : V} {n u : Str} (hN : SV N n) (hU : SV U u) (hbad : SFind codeV u ∨ (PlainT u ∧ u.length ≤ 1000 ∧ SFind codeN n)) (hsn : n.cps.size ≤ 2 ^ 60) (hsu : u.cps.size ≤ 2 ^ 60) {c : Cx} {ρ : Rho} {σ : Sig} {s : Shared} {v a b : Value} {fs : List Env} (hk : 2 ≤ c.k) (R : Rel c ρ σ s)
    (zX : VR c.w (wof c σ) s (.hdrP rs) v) (zN : VR c.w (wof c σ) s N a) (zU : VR c.w (wof c σ) s U b) (hfr : c.A.frames = some fs) (ff : FF fs s.heap) (hfw : ∀ b ∈ fad fs, b ∈ wof c σ) :
    wpAny (model PG c.w) c.A (call (.ref 179) [v, a, b]) (fun uu uu => False) (fun e s' => Fly fs s s' e) s := by
  refine call_throw (ρ₀ := [("self", .hdrP rs), ("_name", N), ("_value", U), ("_params", .edict)]) (k := 1) (vs := [v, a, b]) (kw := []) R hfr ff hfw atAdd (fun A E Q h => ?_) (nodup_of rfl) (kindsOk_of fun n => rfl) hk fun L ap => ?_
  · show wpAny _ A (alloc { cls := .type "dict", data := .dict #[] } >>= fun d => pure ([("self", v), ("_name", a), ("_value", b), ("_params", .ref d)] : List (Str × Value))) Q E s
    have kk : KeepE s { s with heap := s.heap.push { cls := .type "dict", data := .dict #[] } } := .mk' (stays_push _ _) (Nat.le_refl _)
    refine wpAny_bind (wpAny_alloc (wpAny_pure (h _ _ kk ?_)))
    obtain ⟨o, hl, _⟩ := atLaw.at_ c.w
    have h253 := Heap.lt_size (R.stat.K _ _ hl)
    refine ⟨v, _, rfl, zX.keeps (kk.keepW _), a, _, rfl, zN.keeps (kk.keepW _), b, _, rfl, zU.keeps (kk.keepW _), _, _, rfl, ⟨s.heap.objs.size, rfl, R.new, ?_, Heap.get?_push_size _ rfl⟩, rfl⟩
    have : s.heap.objs.size ≠ 1 := fun e => by rw [e] at h253; exact absurd h253 (by decide)
    exact beq_eq_false_iff_ne.mpr this
  have hfr' := Around.frames_deeper (env := (c.call fdAdd 179 L (wof c σ) 1).env) hfr
  have ffc : ∀ {ρ' σ' s'}, Rel (c.call fdAdd 179 L (wof c σ) 1) ρ' σ' s' → FF fs s'.heap → FF ((c.call fdAdd 179 L (wof c σ) 1).env :: fs) s'.heap := fun R' ff' => by
    obtain ⟨m, hN, _⟩ := R'.loc
    exact FF.cons (show ScopeKind.function ≠ ScopeKind.module by decide) rfl hN ff'
  have hfw' : ∀ {σ' : Sig}, ∀ b ∈ fad ((c.call fdAdd 179 L (wof c σ) 1).env :: fs), b ∈ wof (c.call fdAdd 179 L (wof c σ) 1) σ' := frames_in ap rfl (.head _)
  refine th_next ap (W1_assignM (by walk_at "stb") ?_)
  walk_at "v"
  intro p
  refine ⟨rfl, ?_⟩
  rcases hbad with hbad | ⟨hpu, hul, hbad⟩
  · refine th_head ?_
    refine th_if ?_
    walk_at "v"
    refine O2_isNot_none_of (fun w W s v z e => ?_) ?_
    · obtain ⟨t, rfl⟩ := hU.is z; cases e
    walk_at "v"
    refine ⟨rfl, th_head ?_⟩
    refine th_assign ?_
    refine WTe.th (te_conv mConv ?_)
    refine WE_hdr (xs := rs) rfl ?_ (by walk_at "kd")
    refine ⟨.inr ⟨_, rfl⟩, ?_⟩
    walk_at "v"
    intro s v y R ff' zX zY
    exact conv_throw (.inr ⟨_, rfl⟩) hU false hbad hsu (Nat.le_refl _) R zX zY hfr' (ffc R ff') hfw'
  · refine th_next ap ?_
    refine W1_if ?_
    walk_at "v"
    refine O2_isNot_none_of (fun w W s v z e => ?_) ?_
    · obtain ⟨t, rfl⟩ := hU.is z; cases e
    walk_at "v"
    refine WE_conv mConv ?_
    refine WE_hdr (xs := rs) rfl ?_ (by walk_at "kd")
    refine ⟨.inr ⟨_, rfl⟩, ?_⟩
    walk_at "v"
    intro s v y R zX zY
    refine goV (conv_run (.inr ⟨_, rfl⟩) hU false hpu hsu (Nat.le_refl _) R zX zY) fun r s' Z hZ k e => ⟨Z, hZ, k, ?_⟩
    subst e
    walk_at "v"
    refine ⟨p, [], rfl, .head _, ?_⟩
    walk_at "v"
    refine ⟨[(p, [.str u])], by decide, .head, ?_⟩
    walk_at "v"
    refine ⟨rfl, ?_⟩
    refine th_next ap (W1_for_items0 ?_)
    walk_at "v"
    refine ⟨rfl, rfl, ?_⟩
    refine th_head (th_append ?_)
    walk_at "v"
    refine ⟨⟨_, rfl⟩, ?_⟩
    refine te_conv mConv ?_
    refine WE_hdr (xs := rs) rfl ?_ (by walk_at "kd")
    refine ⟨.inr ⟨_, rfl⟩, ?_⟩
    walk_at "v"
    intro s v y R ff' zX zY
    exact conv_throw (.inr ⟨_, rfl⟩) hN true hbad hsn (Nat.le_refl _) R zX zY hfr' (ffc R ff') hfw'
end
section
open PySem PySem.W PySem.Calls PyProof PyProof.Rows PySem.SeqAt
theorem plain_x : PlainT (Str.ofString "x") := fun c hc => by
  have : c ∈ [120] := hc
  rw [List.mem_singleton.mp this]; decide
theorem lower_xn : Txt.lower (Str.ofString "x\n") = tx [120, 10] := by
  have ex : Str.ofString "x\n" = tx [120, 10] := by decide
  rw [ex, lower_ascii (fun c hc => ?_)]
  · simp [tx, lo1]
  · rw [tx_toList] at hc
    simp at hc
    rcases hc with rfl | rfl <;> decide
theorem shut_run {rs : List V} {c : Cx} {ρ : Rho} {σ : Sig} {s : Shared} {v : Value} {fs : List Env} (hk : 3 ≤ c.k) (R : Rel c ρ σ s) (z : VR c.w (wof c σ) s (.hdrP rs) v) (hfr : c.A.frames = some fs) (ff : FF fs s.heap) (hfw : ∀ b ∈ fad fs, b ∈ wof c σ) (hfh : ∀ b ∈ fad fs, c.h₀.get? b = none) :
    wpAny (model PG c.w) c.A (call (.ref 248) [v]) (fun u s' => ∃ Z, VR c.w (wof c σ) s' Z u ∧ KCl fs s s' ∧ Z = .bool true) (fun uu uu => False) s := by
  refine call_caught (ρ₀ := [("table", .hdrP rs)]) (k := 2) R hfr ff hfw hfh atShut (binds := [("table", v)]) rfl ⟨v, _, rfl, z, rfl⟩ (nodup_of rfl) (kindsOk_of fun n => rfl) hk fun L ap hfr' => ?_
  have ffc : ∀ {o ρ' s'}, Rel ((c.call fdShut 248 L (wof c σ) 2).up o) ρ' [] s' → FF fs s'.heap → FF ((c.call fdShut 248 L (wof c σ) 2).env :: fs) s'.heap := fun R' ff' => by
    obtain ⟨m, hN, _⟩ := R'.loc
    exact FF.cons (show ScopeKind.function ≠ ScopeKind.module by decide) rfl hN ff'
  have ffc0 : ∀ {ρ' s'}, Rel (c.call fdShut 248 L (wof c σ) 2) ρ' [] s' → FF fs s'.heap → FF ((c.call fdShut 248 L (wof c σ) 2).env :: fs) s'.heap := fun R' ff' => by
    obtain ⟨m, hN, _⟩ := R'.loc
    exact FF.cons (show ScopeKind.function ≠ ScopeKind.module by decide) rfl hN ff'
  refine wl_cons (wl_lift ap ?_)
  walk_at "v"
  refine ⟨rfl, ?_⟩
  refine wl_cons (wl_for ap ?_)
  walk_at "v"
  refine ⟨_, src_list (.inr ⟨_, _, _, rfl⟩), fun i ρ' => sub [("count", .int i), ("table", .hdrP rs)] ρ', by walk_at "sub", fun o i Y ρ' hY hs => ?_, fun ρ' hs => ?_⟩
  · refine WAs.less ?_ hs
    rcases i with _ | _ | i
    · cases hY
      refine WAs_unpack (.inr rfl) rfl rfl ?_
      refine WAss_cons ?_
      walk_at "v"
      refine WAss_cons ?_
      walk_at "v"
      refine WAss_nil ?_
      refine wl_cons (wl_try (n := ((0 : Nat) : Int)) (ap.up o) hfr' rfl hfh rfl ?_ rfl rfl rfl ?_)
      · refine te_expr (te_meth mAdd ?_)
        walk_at "v"
        refine ⟨rs, rfl, ?_⟩
        walk_at "v"
        rintro s vs R ff' ⟨v1, _, rfl, z1, v2, _, rfl, z2, v3, _, rfl, z3, rfl⟩
        exact add_throw (SV.lit _) (SV.lit _) (.inl sfind_V) (by decide) (by decide) (Nat.le_refl _) R z1 z2 z3 hfr' (ffc R ff') (frames_in (ap.up o) rfl (.head _))
      · refine wl_nil ?_
        show sub [("count", .int (((0 : Nat) : Int) + 1)), ("table", .hdrP rs)] _
        walk_at "sub"
    · cases hY
      refine WAs_unpack (.inr rfl) rfl rfl ?_
      refine WAss_cons ?_
      walk_at "v"
      refine WAss_cons ?_
      walk_at "v"
      refine WAss_nil ?_
      refine wl_cons (wl_try (n := ((1 : Nat) : Int)) (ap.up o) hfr' rfl hfh rfl ?_ rfl rfl rfl ?_)
      · refine te_expr (te_meth mAdd ?_)
        walk_at "v"
        refine ⟨rs, rfl, ?_⟩
        walk_at "v"
        rintro s vs R ff' ⟨v1, _, rfl, z1, v2, _, rfl, z2, v3, _, rfl, z3, rfl⟩
        exact add_throw (SV.lit _) (SV.lit _) (.inr ⟨plain_x, by decide, sfind_N⟩) (by decide) (by decide) (Nat.le_refl _) R z1 z2 z3 hfr' (ffc R ff') (frames_in (ap.up o) rfl (.head _))
      · refine wl_nil ?_
        show sub [("count", .int (((1 : Nat) : Int) + 1)), ("table", .hdrP rs)] _
        walk_at "sub"
    · cases hY
  · refine wl_less ?_ hs
    refine wl_cons (wl_try (n := ((2 : Nat) : Int)) ap hfr' rfl hfh rfl ?_ rfl rfl rfl ?_)
    · refine te_expr (te_meth mGetAll ?_)
      walk_at "v"
      refine ⟨rs, rfl, ?_⟩
      walk_at "v"
      rintro s vs R ff' ⟨v1, _, rfl, z1, v2, _, rfl, z2, rfl⟩
      have el : Txt.lower (Str.ofString "x\n") = tx [120, 10] := lower_xn
      exact getall_throw (.inr ⟨rs, rfl⟩) (SV.lit _) (by decide) (by rw [el]; exact sfind_N2) (by rw [el]; decide) (Nat.le_refl _) R z1.hdr z2 hfr' (ffc0 R ff') (frames_in ap rfl (.head _))
    · refine wl_cons (wl_lift ap ?_)
      walk_at "v"
      exact ⟨rfl, rfl⟩
end
section
open PySem PySem.W PySem.Calls PyProof PyProof.Rows PySem.SeqAt
theorem lower_name (n : Nat) (c : Nat) (hc : c = 120 ∨ c = 88) : Txt.lower (tx (List.replicate n 46 ++ [c])) = tx (List.replicate n 46 ++ [120]) := by
  rw [lower_tx _ fun d hd => ?_, List.map_append, List.map_replicate]
  · rcases hc with rfl | rfl <;> rfl
  · rcases List.mem_append.mp hd with h | h
    · rw [(List.mem_replicate.mp h).2]; decide
    · rw [List.mem_singleton.mp h]; rcases hc with rfl | rfl <;> decide
theorem lower_pad (a b : Nat) (c : Nat) (hc : c = 120 ∨ c = 88) : Txt.lower (tx (padc c a b)) = tx (padc 120 a b) := by
  unfold padc
  rw [lower_tx _ fun d hd => ?_, List.map_append, List.map_replicate, List.map_cons, List.map_replicate]
  · rcases hc with rfl | rfl <;> rfl
  · rcases List.mem_append.mp hd with h | h
    · rw [(List.mem_replicate.mp h).2]; decide
    · rcases List.mem_cons.mp h with h | h
      · rw [h]; rcases hc with rfl | rfl <;> decide
      · rw [(List.mem_replicate.mp h).2]; decide
theorem rng_down (n : Nat) (h1 : 1 ≤ n) (h2 : n ≤ 4) : Builtin.Range.small ((n : Int) - 1) (-1) (-1) = true ∧ Builtin.Range.rangeSize ((n : Int) - 1) (-1) (-1) = (n : Int) ∧ Builtin.divisionGoesByPylong (-1 - ((n : Int) - 1)) (-1) = false := by
  match n, h1, h2 with
  | 1, _, _ => exact ⟨by decide, by decide, by decide +kernel⟩
  | 2, _, _ => exact ⟨by decide, by decide, by decide +kernel⟩
  | 3, _, _ => exact ⟨by decide, by decide, by decide +kernel⟩
  | 4, _, _ => exact ⟨by decide, by decide, by decide +kernel⟩
noncomputable def lettersT (n : Nat) : List Nat := [97, 98, 99, 100].take n
theorem letters_at (n k : Nat) (h : k < n) (h4 : n ≤ 4) : (lettersT n).getD k 0 = 97 + k := by
  unfold lettersT
  rw [List.getD_eq_getElem?_getD, List.getElem?_take_of_lt h]
  have : k < 4 := by exact Nat.lt_of_lt_of_le h h4
  match k, this with
  | 0, _ => rfl
  | 1, _ => rfl
  | 2, _ => rfl
  | 3, _ => rfl
theorem letters_len (n : Nat) (h4 : n ≤ 4) : (lettersT n).length = n := by
  unfold lettersT; rw [List.length_take]; show min n 4 = n; exact Nat.min_eq_left h4
noncomputable abbrev CL (c : Cx) (L : Addr) (out : List Addr) (k : Nat) : Cx := c.call fdLaw 253 L out k
noncomputable def dueUp (lows hs : List Nat) (t : Nat) : List Str := ((List.range lows.length).filter fun i => (nv hs).contains ((t : Int) - (lows.getD (lows.length - 1 - i) 0 : Nat))).map fun i => tx [97 + (lows.length - 1 - i)]
theorem total_loop {c : Cx} {L : Addr} {out : List Addr} {k : Nat} (hk : 2 ≤ k) {lows hs : List Nat} (l1 : 1 ≤ lows.length) (l2 : lows.length ≤ 4) (h1 : 1 ≤ hs.length) (h2 : hs.length ≤ 4) (hl : ∀ k, lows.getD k 0 ≤ 100) (hh : ∀ k, hs.getD k 0 ≤ 100) {U : List (Str × Str)} {D S RU FT : V} (hU : U.length ≤ 1000) (hUl : ∀ r ∈ U, r.1.length ≤ 5592405)
    (hdue : ∀ t, t ≤ lows.getD (lows.length - 1) 0 + hs.getD (hs.length - 1) 0 → (U.filter fun r => Txt.lower r.1 == Txt.lower (tx (List.replicate (t + 2) 46 ++ [120]))).map (·.2) = dueUp lows hs t) :
    W1 (CL c L out k) ((sBody (topS 23)).getD 8 default) [("letters", .str (tx (lettersT lows.length))), ("up", .hdrP (U.map rowV)), ("down", D), ("low", .list ((nv lows).map .int)), ("high", .list ((nv hs).map .int)), ("rulers", RU)] []
      (fun F ρ' σ' => F = .next ∧ σ' = [] ∧ sub [("letters", .str (tx (lettersT lows.length))), ("up", .hdrP (U.map rowV)), ("down", D), ("low", .list ((nv lows).map .int)), ("high", .list ((nv hs).map .int)), ("rulers", RU)] ρ') := by
  have hL : ((nv lows).map V.int).length = lows.length := by simp
  have hla := hl (lows.length - 1)
  have hha := hh (hs.length - 1)
  obtain ⟨r1, r2, r3⟩ := rng_down lows.length l1 l2
  refine W1_for ?_
  walk_at "v"
  refine O2_itemL (.inl rfl) rfl (by intro q; rw [List.map_eq_nil_iff] at q; rw [q] at l1; exact absurd l1 (by decide)) ?_
  rw [nv_at, nv_len]
  walk_at "v"
  refine O2_itemL (.inl rfl) rfl (by intro q; rw [List.map_eq_nil_iff] at q; rw [q] at h1; exact absurd h1 (by decide)) ?_
  rw [nv_at, nv_len]
  walk_at "v"
  have eN : ((lows.getD (lows.length - 1) 0 : Nat) : Int) + ((hs.getD (hs.length - 1) 0 : Nat) : Int) + 1 = ((lows.getD (lows.length - 1) 0 + hs.getD (hs.length - 1) 0 + 1 : Nat) : Int) := by exact Int.natCast_add _ _
  rw [eN]
  refine ⟨_, src_up (by exact Nat.lt_of_le_of_lt (Nat.add_le_add hla hha) (by decide)), fun t ρ' σ' => σ' = [] ∧ sub [("letters", .str (tx (lettersT lows.length))), ("up", .hdrP (U.map rowV)), ("down", D), ("low", .list ((nv lows).map .int)), ("high", .list ((nv hs).map .int)), ("rulers", RU)] ρ', ⟨rfl, sub.refl _⟩, fun o t Y ρ' σ' hY hJ => ?_, fun ρ' σ' hJ => ⟨rfl, hJ⟩⟩
  obtain ⟨ht, rfl⟩ := upto_at hY
  obtain ⟨rfl, hs'⟩ := hJ
  refine WAs.less ?_ hs'
  walk_at "v"
  refine W1_assignCompF (cl := [("total", L + 4), ("low", L + 1), ("letters", L + 3), ("high", L + 2)]) rfl (by with_unfolding_all rfl) (CapOk.of (by with_unfolding_all rfl) (by with_unfolding_all rfl) (by with_unfolding_all rfl) (by with_unfolding_all rfl) (nodup_of (by with_unfolding_all rfl))) [("high", .list ((nv hs).map .int)), ("letters", .str (tx (lettersT lows.length))), ("low", .list ((nv lows).map .int)), ("total", .int t)] (by walk_at "cap") ?_
  refine WE_call (x := "range") (.type "range") Kp.type (fun uu h => WE_blt (by with_unfolding_all rfl) (fun w => by with_unfolding_all rfl) (by with_unfolding_all rfl) h) ?_
  walk_at "v"
  refine WC_len (.inl rfl) (by simp; exact Nat.le_add_left_of_le l2) ?_
  rw [hL]
  walk_at "v"
  refine WC_range3 (by decide) r3 ?_
  refine ⟨_, src_range r1 r2, by rw [rng_len]; unfold sizeLine; exact Nat.le_trans l2 (Nat.le_add_left _ _), fun i => (nv hs).contains ((t : Int) - (lows.getD (lows.length - 1 - i) 0 : Nat)), fun i => .str (tx [97 + (lows.length - 1 - i)]), ?_, ?_⟩
  · intro C h₀ o' i Y hY
    obtain ⟨hi, rfl⟩ := rng_at hY
    have ei : ((lows.length : Int) - 1 + (i : Int) * (-1)) = ((lows.length - 1 - i : Nat) : Int) := by exact Int.le_antisymm (Int.not_lt.mp fun hn => (Nat.le_total i (lows.length - 1)).elim (fun hs2 => absurd (Int.add_le_add (Int.add_one_le_of_lt hn) (Int.add_le_add (Int.ofNat_le.mpr (Nat.le_of_eq (Nat.sub_add_cancel (show 1 ≤ lows.length from Nat.not_lt.mp fun hn => absurd (Nat.add_le_add l1 hn) (by simp +arith))).symm)) (Int.ofNat_le.mpr (Nat.le_of_eq (Nat.sub_add_cancel hs2).symm)))) (by simp +arith)) (fun hs2 => absurd (Int.add_le_add (Int.add_one_le_of_lt hn) (Int.add_le_add (Int.ofNat_le.mpr (Nat.le_of_eq (Nat.sub_add_cancel (show 1 ≤ lows.length from Nat.not_lt.mp fun hn => absurd (Nat.add_le_add l1 hn) (by simp +arith))).symm)) (Int.add_le_add (Int.ofNat_le.mpr hs2) (Int.natCast_nonneg (lows.length - 1 - i))))) (by simp +arith))) (Int.not_lt.mp fun hn => (Nat.le_total i (lows.length - 1)).elim (fun hs2 => absurd (Int.add_le_add (Int.add_one_le_of_lt hn) (Int.add_le_add (Int.ofNat_le.mpr (Nat.le_of_eq (Nat.sub_add_cancel (show 1 ≤ lows.length from Nat.not_lt.mp fun hn => absurd (Nat.add_le_add l1 hn) (by simp +arith))))) (Int.ofNat_le.mpr (Nat.le_of_eq (Nat.sub_add_cancel hs2))))) (by simp +arith)) (fun hs2 => absurd (Int.add_le_add (Int.ofNat_le.mpr (Nat.succ_le_of_lt hi)) (Int.add_le_add (Int.add_one_le_of_lt hn) (Int.ofNat_le.mpr (Nat.le_of_eq (Nat.sub_eq_zero_of_le hs2))))) (by simp +arith)))
    rw [ei]
    walk_at "v"
    refine ⟨sub.one rfl (.refl _), ?_⟩
    walk_at "v"
    refine O2_itemI (.inl rfl) (by exact Int.natCast_nonneg _) (by simp; exact Nat.not_le.mp fun hn => absurd (Int.add_le_add (Int.le_of_eq ei.symm) (Int.add_le_add (Int.ofNat_le.mpr hn) (Int.natCast_nonneg i))) (by simp +arith)) (by exact Int.not_le.mp fun hn => absurd (Int.add_le_add (Int.ofNat_le.mpr l2) (Int.add_le_add (Int.le_of_eq ei.symm) (Int.add_le_add hn (Int.natCast_nonneg i)))) (by simp +arith)) ?_
    rw [Int.toNat_natCast, nv_at]
    walk_at "v"
    refine O2_in_ints (.inl rfl) ?_
    walk_at "v"
    refine ⟨rfl, fun uu => ?_⟩
    walk_at "v"
    refine O2_itemS (SV.str _) (by unfold fitsSsize; simp; exact Int.not_le.mp fun hn => absurd (Int.add_le_add (Int.ofNat_le.mpr l2) (Int.add_le_add (Int.le_of_eq ei.symm) (Int.add_le_add hn (Int.natCast_nonneg i)))) (by simp +arith)) (by rw [tx_len, letters_len _ l2]; simp +arith) (by rw [tx_len, letters_len _ l2]; exact Int.not_le.mp fun hn => absurd (Int.add_le_add (Int.le_of_eq ei.symm) (Int.add_le_add hn (Int.natCast_nonneg i))) (by simp +arith)) ?_
    rw [tx_item _ _ (by rw [letters_len _ l2]; exact Nat.not_le.mp fun hn => absurd (Int.add_le_add (Int.le_of_eq ei.symm) (Int.add_le_add (Int.ofNat_le.mpr hn) (Int.natCast_nonneg i))) (by simp +arith)), letters_at _ _ (by exact Nat.not_le.mp fun hn => absurd (Int.add_le_add (Int.le_of_eq ei.symm) (Int.add_le_add (Int.ofNat_le.mpr hn) (Int.natCast_nonneg i))) (by simp +arith)) l2]
  rw [rng_len]
  have ed : picks lows.length (fun i => (nv hs).contains ((t : Int) - (lows.getD (lows.length - 1 - i) 0 : Nat))) (fun i => V.str (tx [97 + (lows.length - 1 - i)])) = (dueUp lows hs t).map V.str := by
    unfold picks dueUp
    rw [List.map_map]; rfl
  rw [ed]
  refine WS_cons (W1_if ?_)
  refine WI_cmp' ?_
  refine WE_meth mGetAll ?_
  refine WE_hdr (xs := U.map rowV) rfl ?_ (by walk_at "kd")
  refine ⟨.inr ⟨_, rfl⟩, ?_⟩
  walk_at "v"
  have et : (t : Int) + 2 = ((t + 2 : Nat) : Int) := by exact Int.natCast_add _ _
  rw [et]
  refine O2_mul_str (x := tx [46]) (SV.lit _) (mulOk_tx _ _ (by exact Nat.not_lt.mp fun hn => absurd (Nat.add_le_add hla (Nat.add_le_add hha (Nat.add_le_add ht hn))) (by simp +arith))) ?_
  rw [mul_tx]
  walk_at "v"
  refine O2_add_str (y := tx [120]) (SV.str _) (SV.lit _) ?_ ?_
  · rw [tx_len, tx_len, List.length_replicate]; show _ + 1 ≤ _; unfold sizeLine; exact Nat.not_lt.mp fun hn => absurd (Nat.add_le_add hla (Nat.add_le_add hha (Nat.add_le_add ht hn))) (by simp +arith)
  rw [tx_app]
  walk_at "v"
  refine (getall_run U (SV.str _) hU hUl ?_ ?_ ?_ _ _ _ (by show 2 ≤ k; exact hk)).mono fun X hX => ?_
  · rw [tx_len, List.length_append, List.length_replicate]; show _ + 1 ≤ _; exact Nat.not_lt.mp fun hn => absurd (Nat.add_le_add hla (Nat.add_le_add hha (Nat.add_le_add ht hn))) (by simp +arith)
  · rw [lower_name _ _ (.inl rfl)]
    exact plain_tx fun d hd => by
      rcases List.mem_append.mp hd with h | h
      · rw [(List.mem_replicate.mp h).2]; decide
      · rw [List.mem_singleton.mp h]; decide
  · rw [lower_name _ _ (.inl rfl)]
    show (tx _).length ≤ _
    rw [tx_len, List.length_append, List.length_replicate]; show _ + 1 ≤ _; exact Nat.not_lt.mp fun hn => absurd (Nat.add_le_add hla (Nat.add_le_add hha (Nat.add_le_add ht hn))) (by simp +arith)
  subst hX
  have eg : ((U.filter fun r => Txt.lower r.1 == Txt.lower (tx (List.replicate (t + 2) 46 ++ [120]))).map fun r => V.str r.2) = (dueUp lows hs t).map V.str := by
    rw [← hdue t (by exact Nat.le_of_lt_succ ht), List.map_map]; rfl
  rw [eg]
  walk_at "v"
  refine O2_ne_list (b := true) .list .list ?_ ?_
  · have := LEq.strs (SVs.map (dueUp lows hs t)) (SVs.map (dueUp lows hs t))
    rw [beq_self_eq_true] at this
    exact this
  refine Bo.mk ?_
  refine ite_f (A := ?_) ?_
  walk_at "v"
  refine ⟨rfl, ?_⟩
  walk_at "sub"
end
section
open PySem PySem.W PySem.Calls PyProof PyProof.Rows PySem.SeqAt
noncomputable def dueDn (lows hs : List Nat) (m : Int) : List Str := ((List.range lows.length).filter fun i => (nv hs).contains (((lows.getD i 0 : Nat) : Int) - m)).map fun i => tx [97 + i]
theorem rng_mid (H N : Nat) (h1 : H ≤ 1000) (h2 : N ≤ 1000) : Builtin.Range.small (-(H : Int)) ((N : Int) + 1) 1 = true ∧ Builtin.Range.rangeSize (-(H : Int)) ((N : Int) + 1) 1 = ((N + H + 1 : Nat) : Int) := by
  have hz : Builtin.Range.rangeSize (-(H : Int)) ((N : Int) + 1) 1 = ((N + H + 1 : Nat) : Int) := by
    rw [rangeSize_one]; split <;> omega
  refine ⟨?_, hz⟩
  unfold Builtin.Range.small
  rw [hz]
  simp [Builtin.Range.rangeFitsLong]
  exact ⟨⟨⟨⟨Int.not_lt.mp fun hn => absurd (Int.add_le_add (Int.ofNat_le.mpr h1) (Int.add_one_le_of_lt hn)) (by simp +arith), Int.not_le.mp fun hn => absurd (Int.add_le_add hn (Int.natCast_nonneg H)) (by simp +arith)⟩, ⟨Int.not_lt.mp fun hn => absurd (Int.add_le_add (Int.add_one_le_of_lt hn) (Int.natCast_nonneg N)) (by simp +arith), Int.not_le.mp fun hn => absurd (Int.add_le_add (Int.ofNat_le.mpr h2) hn) (by simp +arith)⟩⟩, ⟨Int.not_lt.mp fun hn => absurd (Int.add_le_add (Int.add_one_le_of_lt hn) (Int.add_le_add (Int.natCast_nonneg H) (Int.natCast_nonneg N))) (by simp +arith), Int.not_le.mp fun hn => absurd (Int.add_le_add (Int.ofNat_le.mpr h1) (Int.add_le_add (Int.ofNat_le.mpr h2) hn)) (by simp +arith)⟩⟩, .inr (⟨Int.not_lt.mp fun hn => absurd (Int.add_le_add (Int.add_one_le_of_lt hn) (Int.natCast_nonneg N)) (by simp +arith), Int.not_le.mp fun hn => absurd (Int.add_le_add (Int.ofNat_le.mpr h2) hn) (by simp +arith)⟩)⟩
theorem more_loop {c : Cx} {L : Addr} {out : List Addr} {k : Nat} (hk : 2 ≤ k) {lows hs : List Nat} (l1 : 1 ≤ lows.length) (l2 : lows.length ≤ 4) (h1 : 1 ≤ hs.length) (h2 : hs.length ≤ 4) (hl : ∀ k, lows.getD k 0 ≤ 100) (hh : ∀ k, hs.getD k 0 ≤ 100) {U : List (Str × Str)} {D RU : V} (hU : U.length ≤ 1000) (hUl : ∀ r ∈ U, r.1.length ≤ 5592405)
    (hdue : ∀ i, i ≤ lows.getD (lows.length - 1) 0 + hs.getD (hs.length - 1) 0 → (U.filter fun r => Txt.lower r.1 == Txt.lower (tx (padc 88 (i - hs.getD (hs.length - 1) 0) (min (hs.getD (hs.length - 1) 0) i)))).map (·.2) = dueDn lows hs ((i : Int) - (hs.getD (hs.length - 1) 0 : Nat))) :
    W1 (CL c L out k) ((sBody (topS 23)).getD 9 default) [("letters", .str (tx (lettersT lows.length))), ("up", D), ("down", .hdrP (U.map rowV)), ("low", .list ((nv lows).map .int)), ("high", .list ((nv hs).map .int)), ("rulers", RU)] []
      (fun F ρ' σ' => F = .next ∧ σ' = [] ∧ sub [("letters", .str (tx (lettersT lows.length))), ("up", D), ("down", .hdrP (U.map rowV)), ("low", .list ((nv lows).map .int)), ("high", .list ((nv hs).map .int)), ("rulers", RU)] ρ') := by
  have hL : ((nv lows).map V.int).length = lows.length := by simp
  have hla := hl (lows.length - 1)
  have hha := hh (hs.length - 1)
  obtain ⟨r1, r2⟩ := rng_mid (hs.getD (hs.length - 1) 0) (lows.getD (lows.length - 1) 0) (by exact Nat.le_add_left_of_le hha) (by exact Nat.le_add_left_of_le hla)
  refine W1_for ?_
  walk_at "v"
  refine O2_itemL (.inl rfl) rfl (by intro q; rw [List.map_eq_nil_iff] at q; rw [q] at h1; exact absurd h1 (by decide)) ?_
  rw [nv_at, nv_len]
  walk_at "v"
  refine O2_itemL (.inl rfl) rfl (by intro q; rw [List.map_eq_nil_iff] at q; rw [q] at l1; exact absurd l1 (by decide)) ?_
  rw [nv_at, nv_len]
  walk_at "v"
  refine ⟨_, src_range r1 r2, fun t ρ' σ' => σ' = [] ∧ sub [("letters", .str (tx (lettersT lows.length))), ("up", D), ("down", .hdrP (U.map rowV)), ("low", .list ((nv lows).map .int)), ("high", .list ((nv hs).map .int)), ("rulers", RU)] ρ', ⟨rfl, sub.refl _⟩, fun o t Y ρ' σ' hY hJ => ?_, fun ρ' σ' hJ => ⟨rfl, hJ⟩⟩
  obtain ⟨ht, rfl⟩ := rng_at hY
  obtain ⟨rfl, hs'⟩ := hJ
  generalize hH : hs.getD (hs.length - 1) 0 = H at *
  have em : (-(H : Int) + (t : Int) * 1) = (t : Int) - (H : Nat) := by simp +arith only
  rw [em]
  refine WAs.less ?_ hs'
  walk_at "v"
  refine W1_assignCompF (cl := [("more", L + 5), ("low", L + 1), ("letters", L + 3), ("high", L + 2)]) rfl (by with_unfolding_all rfl) (CapOk.of (by with_unfolding_all rfl) (by with_unfolding_all rfl) (by with_unfolding_all rfl) (by with_unfolding_all rfl) (nodup_of (by with_unfolding_all rfl))) [("high", .list ((nv hs).map .int)), ("letters", .str (tx (lettersT lows.length))), ("low", .list ((nv lows).map .int)), ("more", .int ((t : Int) - (H : Nat)))] (by walk_at "cap") ?_
  refine WE_call (x := "range") (.type "range") Kp.type (fun uu h => WE_blt (by with_unfolding_all rfl) (fun w => by with_unfolding_all rfl) (by with_unfolding_all rfl) h) ?_
  walk_at "v"
  refine WC_len (.inl rfl) (by simp; exact Nat.le_add_left_of_le l2) ?_
  rw [hL]
  walk_at "v"
  refine ⟨_, src_up (n := lows.length) (by exact Nat.le_add_left_of_le l2), by rw [upto_len]; unfold sizeLine; exact Nat.le_trans l2 (Nat.le_add_left _ _), fun i => (nv hs).contains (((lows.getD i 0 : Nat) : Int) - ((t : Int) - (H : Nat))), fun i => .str (tx [97 + i]), ?_, ?_⟩
  · intro C h₀ o' i Y hY
    obtain ⟨hi, rfl⟩ := upto_at hY
    walk_at "v"
    refine ⟨sub.one rfl (.refl _), ?_⟩
    walk_at "v"
    refine O2_itemI (.inl rfl) (by exact Int.natCast_nonneg _) (by simp; assumption) (by exact Int.not_le.mp fun hn => absurd (Int.add_le_add (Int.ofNat_le.mpr l2) (Int.add_le_add (Int.ofNat_le.mpr (Nat.succ_le_of_lt hi)) hn)) (by simp +arith)) ?_
    rw [Int.toNat_natCast, nv_at]
    walk_at "v"
    refine O2_in_ints (.inl rfl) ?_
    walk_at "v"
    refine ⟨rfl, fun uu => ?_⟩
    walk_at "v"
    refine O2_itemS (SV.str _) (by unfold fitsSsize; simp; exact Int.not_le.mp fun hn => absurd (Int.add_le_add (Int.ofNat_le.mpr l2) (Int.add_le_add (Int.ofNat_le.mpr (Nat.succ_le_of_lt hi)) hn)) (by simp +arith)) (by rw [tx_len, letters_len _ l2]; simp +arith) (by rw [tx_len, letters_len _ l2]; exact Int.ofNat_lt.mpr hi) ?_
    rw [tx_item _ _ (by rw [letters_len _ l2]; assumption), letters_at _ _ (by assumption) l2]
  rw [upto_len]
  have ed : picks lows.length (fun i => (nv hs).contains (((lows.getD i 0 : Nat) : Int) - ((t : Int) - (H : Nat)))) (fun i => V.str (tx [97 + i])) = (dueDn lows hs ((t : Int) - (H : Nat))).map V.str := by
    unfold picks dueDn
    rw [List.map_map]; rfl
  rw [ed]
  refine WS_cons ?_
  walk_at "v"
  have e0 : max (0 : Int) ((t : Int) - (H : Nat)) = ((t - H : Nat) : Int) := by (clear ed em hY ht r2 r1 hha hdue hH hs' hla hL hUl hU hh hl h2 h1 l2 l1 hk; lia)
  rw [e0]
  refine O2_mul_str (x := tx [32]) (SV.lit _) (mulOk_tx _ _ (by exact Nat.not_lt.mp fun hn => (Nat.le_total H t).elim (fun hs2 => absurd (Nat.add_le_add hla (Nat.add_le_add ht (Nat.add_le_add hn (Nat.le_of_eq (Nat.sub_add_cancel hs2))))) (by simp +arith)) (fun hs2 => absurd (Nat.add_le_add hn (Nat.le_of_eq (Nat.sub_eq_zero_of_le hs2))) (by simp +arith)))) ?_
  rw [mul_tx]
  walk_at "v"
  refine O2_add_str (y := tx [88]) (SV.str _) (SV.lit _) ?_ ?_
  · rw [tx_len, tx_len, List.length_replicate]; show _ + 1 ≤ _; unfold sizeLine; exact Nat.not_lt.mp fun hn => (Nat.le_total H t).elim (fun hs2 => absurd (Nat.add_le_add hla (Nat.add_le_add ht (Nat.add_le_add hn (Nat.le_of_eq (Nat.sub_add_cancel hs2))))) (by simp +arith)) (fun hs2 => absurd (Nat.add_le_add hn (Nat.le_of_eq (Nat.sub_eq_zero_of_le hs2))) (by simp +arith))
  rw [tx_app]
  walk_at "v"
  refine O2_itemL (.inl rfl) rfl (by intro q; rw [List.map_eq_nil_iff] at q; rw [q] at h1; exact absurd h1 (by decide)) ?_
  rw [nv_at, nv_len, hH]
  walk_at "v"
  have e1 : (H : Int) + min (0 : Int) ((t : Int) - (H : Nat)) = ((min H t : Nat) : Int) := by (clear e0 ed em hY ht r2 r1 hha hdue hH hs' hla hL hUl hU hh hl h2 h1 l2 l1 hk; lia)
  rw [e1]
  refine O2_mul_str (x := tx [32]) (SV.lit _) (mulOk_tx _ _ (by exact Nat.not_lt.mp fun hn => absurd (Nat.add_le_add hha (Nat.add_le_add hn (Nat.min_le_left H t))) (by simp +arith))) ?_
  rw [mul_tx]
  refine O2_add_str (SV.str _) (SV.str _) ?_ ?_
  · rw [tx_len, tx_len, List.length_append, List.length_replicate, List.length_replicate]; show _ + 1 + _ ≤ _; unfold sizeLine; exact Nat.not_lt.mp fun hn => (Nat.le_total H t).elim (fun hs2 => absurd (Nat.add_le_add hla (Nat.add_le_add hha (Nat.add_le_add ht (Nat.add_le_add hn (Nat.add_le_add (Nat.min_le_left H t) (Nat.le_of_eq (Nat.sub_add_cancel hs2))))))) (by simp +arith)) (fun hs2 => absurd (Nat.add_le_add hha (Nat.add_le_add hn (Nat.add_le_add (Nat.min_le_left H t) (Nat.le_of_eq (Nat.sub_eq_zero_of_le hs2))))) (by simp +arith))
  rw [tx_app]
  have ef : (List.replicate (t - H) 32 ++ [88] ++ List.replicate (min H t) 32) = padc 88 (t - H) (min H t) := by
    unfold padc; simp
  rw [ef]
  refine WS_cons (W1_if ?_)
  refine WI_cmp' ?_
  refine WE_meth mGetAll ?_
  refine WE_hdr (xs := U.map rowV) rfl ?_ (by walk_at "kd")
  refine ⟨.inr ⟨_, rfl⟩, ?_⟩
  walk_at "v"
  have epl : (padc 88 (t - H) (min H t)).length ≤ 400 := by unfold padc; simp; exact Nat.not_lt.mp fun hn => (Nat.le_total H t).elim (fun hs2 => absurd (Nat.add_le_add hla (Nat.add_le_add hha (Nat.add_le_add ht (Nat.add_le_add hn (Nat.add_le_add (Nat.min_le_left H t) (Nat.le_of_eq (Nat.sub_add_cancel hs2))))))) (by simp +arith)) (fun hs2 => absurd (Nat.add_le_add hha (Nat.add_le_add hn (Nat.add_le_add (Nat.min_le_left H t) (Nat.le_of_eq (Nat.sub_eq_zero_of_le hs2))))) (by simp +arith))
  have epl2 : (padc 120 (t - H) (min H t)).length ≤ 400 := by unfold padc; simp; exact Nat.not_lt.mp fun hn => (Nat.le_total H t).elim (fun hs2 => absurd (Nat.add_le_add hla (Nat.add_le_add hha (Nat.add_le_add ht (Nat.add_le_add hn (Nat.add_le_add (Nat.min_le_left H t) (Nat.le_of_eq (Nat.sub_add_cancel hs2))))))) (by simp +arith)) (fun hs2 => absurd (Nat.add_le_add hha (Nat.add_le_add hn (Nat.add_le_add (Nat.min_le_left H t) (Nat.le_of_eq (Nat.sub_eq_zero_of_le hs2))))) (by simp +arith))
  refine (getall_run U (SV.str _) hU hUl ?_ ?_ ?_ _ _ _ (by show 2 ≤ k; exact hk)).mono fun X hX => ?_
  · rw [tx_len]; exact Nat.le_add_left_of_le epl
  · rw [lower_pad _ _ _ (.inr rfl)]
    exact plain_dn 0
  · rw [lower_pad _ _ _ (.inr rfl)]
    show (tx _).length ≤ _
    rw [tx_len]; exact Nat.le_trans epl2 (Nat.le_add_left _ _)
  subst hX
  have eg : ((U.filter fun r => Txt.lower r.1 == Txt.lower (tx (padc 88 (t - H) (min H t)))).map fun r => V.str r.2) = (dueDn lows hs ((t : Int) - (H : Nat))).map V.str := by
    rw [← hdue t (by exact Nat.le_of_lt_succ ht), List.map_map]; rfl
  rw [eg]
  walk_at "v"
  refine O2_ne_list (b := true) .list .list ?_ ?_
  · have := LEq.strs (SVs.map (dueDn lows hs ((t : Int) - (H : Nat)))) (SVs.map (dueDn lows hs ((t : Int) - (H : Nat))))
    rw [beq_self_eq_true] at this
    exact this
  refine Bo.mk ?_
  refine ite_f (A := ?_) ?_
  walk_at "v"
  refine ⟨rfl, ?_⟩
  walk_at "sub"
end
section
open PySem PySem.W PySem.Calls PyProof PyProof.Rows PySem.SeqAt
structure Keyed {K : Type} [DecidableEq K] (knd : ∀ w, PySem.KeyKind PG w K) (xs : List V) (ks : List K) (d : K) : Prop where
  len : xs.length = ks.length
  key : ∀ (w : World) W s i X v, xs[i]? = some X → VR w W s X v → (knd w).is (ks.getD i d) v = true ∧ v.scannable = true
theorem Keyed.ints (is : List Int) : Keyed (fun w => intKind PG w) (is.map .int) is 0 where
  len := by simp
  key := fun w W s i X v h z => by
    rw [List.getElem?_map] at h
    cases e : is[i]? with
    | none => rw [e] at h; cases h
    | some n =>
      rw [e] at h; cases h
      obtain ⟨t, rfl⟩ := z
      rw [List.getD_eq_getElem?_getD, e]
      exact ⟨intKind_is _ _ _ _, rfl⟩
theorem Keyed.strs (ss : List Str) : Keyed (fun w => PySem.strKind PG w) (ss.map .str) ss default where
  len := by simp
  key := fun w W s i X v h z => by
    rw [List.getElem?_map] at h
    cases e : ss[i]? with
    | none => rw [e] at h; cases h
    | some n =>
      rw [e] at h; cases h
      obtain ⟨t, rfl⟩ := z
      rw [List.getD_eq_getElem?_getD, e]
      exact ⟨strKind_is _ _ _ _, rfl⟩
theorem WE_lenSet {K : Type} [DecidableEq K] {knd : ∀ w, PySem.KeyKind PG w K} {c : Cx} {e : Expr} {np sp p1 p2 : Pos} {ρ : Rho} {σ : Sig} {Q : V → Prop}
    (hl : ∀ Q' : V → Prop, Q' (.stat (.builtin "len")) → WE c (.Name "len" np) ρ σ Q') (hs : ∀ Q' : V → Prop, Q' (.stat (.type "set")) → WE c (.Name "set" sp) ρ σ Q')
    (h : WE c e ρ σ (fun X => ∃ xs ks d, LV σ X xs ∧ Keyed knd xs ks d ∧ ks.length + 1 < scanBound ∧ Q (.int ((held ks).2 : Nat))))
    (hp1 : (backTo p1 (starEach [e] c.env)).any (·.1) = false := by walk_at "r")
    (hp2 : (backTo p2 (starEach [.Call (.Name "set" sp) [e] [] p1] c.env)).any (·.1) = false := by walk_at "r")
    (he1 : starEach [e] c.env = (false, eval e c.env) :: starEach [] c.env := by walk_at "r")
    (he2 : starEach [.Call (.Name "set" sp) [e] [] p1] c.env = (false, eval (.Call (.Name "set" sp) [e] [] p1) c.env) :: starEach [] c.env := by walk_at "r") :
    WE c (.Call (.Name "len" np) [.Call (.Name "set" sp) [e] [] p1] [] p2) ρ σ Q := fun s R => by
  refine wpAny_Call_NameR (goV (hl (fun X => X = .stat (.builtin "len")) rfl s R) fun fv s₁ X hX k₁ ee => ?_)
  subst ee
  cases hX
  have R₁ := R.keepE k₁
  refine callWith_gen (first := []) Kp.builtin R₁ hp2 ?_
  refine wpAny_items_cons (wpAny_Call_NameR (goV (hs (fun X => X = .stat (.type "set")) rfl s₁ R₁) fun fv s₂ X hX k₂ ee => ?_)) he2
  subst ee
  cases hX
  have R₂ := R₁.keepE k₂
  refine callWith_gen (first := []) Kp.type R₂ hp1 ?_
  refine wpAny_items_cons (goV (h s₂ R₂) fun v s₃ X hX k₃ hpt => ?_) he1
  obtain ⟨xs, ks, d, hL, hK, hb, q⟩ := hpt
  have R₃ := R₂.keepE k₃
  refine wpAny_items_nil ⟨R₃.stat.K, ?_⟩
  obtain ⟨l, vs, rfl, hli, hv⟩ := hL.is R₃ hX
  have hlen := hv.length
  show wpAny _ _ (call (.type "set") [.ref l]) _ _ _
  refine set_of_list (knd := knd c.w) R.ok.hand hli ks d (by rw [List.size_toArray, hlen, hK.len]) (fun i u hu => ?_) hb fun h' tk htk hst hS => ?_
  · have hu' : vs[i]? = some u := by simpa using hu
    obtain ⟨Y, hY, z⟩ := hv.get' hu'
    exact hK.key _ _ _ i Y u hY z
  have k₄ : KeepE s₃ { s₃ with heap := h', toks := tk } := .mk' hst htk
  refine wpAny_items_nil ⟨(R₃.keepE k₄).stat.K, ?_⟩
  obtain ⟨o, es, ep, t, ho, hex, hd, _, _, hbb, hf, hn⟩ := hS
  show wpAny _ _ (call (.builtin "len") [.ref s₃.heap.objs.size]) _ _ _
  refine call_len_set (s := { s₃ with heap := h', toks := tk }) ho hex hd hf (by rw [hn]; unfold scanBound at hb; have := held_le ks d ks.length (Nat.le_refl _); rw [List.take_of_length_le (Nat.le_refl _)] at this; exact Int.not_le.mp fun hn => absurd (Int.add_le_add (Int.ofNat_le.mpr (Nat.succ_le_of_lt hb)) (Int.add_le_add (Int.ofNat_le.mpr this) hn)) (by simp +arith)) ?_
  rw [hn]
  exact ⟨.int _, ⟨_, rfl⟩, ((k₁.trans k₂).trans k₃).trans (k₄.trans (.mk' (.refl _) (Nat.le_trans (Nat.le_succ _) (Nat.le_succ _)))), q⟩
theorem WE_or3 {c x y z pos ρ σ} {Q : V → Prop} (h : WE c x ρ σ (fun X => OB c truthy X ρ σ (fun b => if b = true then Q X else WE c (.BoolOp .Or [y, z] pos) ρ σ Q))) : WE c (.BoolOp .Or [x, y, z] pos) ρ σ Q := fun s R => by
  refine BoolOp_or (goV (h s R) fun v s₁ X hX k₁ h₁ => ?_)
  refine goB (h₁ s₁ v (R.keepE k₁) hX) fun b s₂ k₂ q => ?_
  cases b with
  | true => exact ⟨X, hX.keeps (k₂.keepW _), k₁.trans k₂, q⟩
  | false => exact goV (q s₂ ((R.keepE k₁).keepE k₂)) fun v s₃ X hX k₃ q => ⟨X, hX, (k₁.trans k₂).trans k₃, q⟩
end
section
open PySem PySem.W PySem.Calls PyProof PyProof.Rows PySem.SeqAt
theorem start2 {A : Around} {R : Result → Shared → Prop} {s : Shared} {elt : Expr} {g1 : Comprehension} {target iter : Expr} {ifs : List Expr} {scope : Scope} {pos : Pos} {it acc : Value} {env : Env} {prog : Program} {w : World}
    (h0 : codeAny (model prog w) A (.compLoop (.ListComp elt [g1, ⟨target, iter, ifs, 0⟩] scope pos) 1 it acc env) R s)
    (h : wpAny (model prog w) A (pyIter it) (fun it' s' => codeAny (model prog w) A (.compLoop (.ListComp elt [g1, ⟨target, iter, ifs, 0⟩] scope pos) 1 it' acc env) R s') (notedBy (model prog w) A env fun x s' => R (.error x) s') s) :
    codeAny (model prog w) A (.compStart (.ListComp elt [g1, ⟨target, iter, ifs, 0⟩] scope pos) 1 it acc env) R s := by
  refine codeAny_of_tree ?_
  show wpAny _ _ ((compStart (.ListComp elt [g1, ⟨target, iter, ifs, 0⟩] scope pos) 1 it acc env).onRaise (fun x => do noteFrame x env; standAt theWindowsPlace)) _ _ s
  refine wpAny_notedAt ?_
  unfold compStart
  show wpAny _ _ (ask >>= _) _ _ s
  refine wpAny_bind (wpAny_askSetting (wpAny_ite ?_))
  split
  · exact wpAny_bind (wpAny_pure (wpAny_pure ⟨rfl, h0⟩))
  · refine wpAny_bind (wpAny_rule ?_)
    refine wpAny_bind (wpAny_standAt ?_)
    exact wpAny_bind (wpAny_mono h (fun it' s' hs => wpAny_pure ⟨rfl, hs⟩) fun uu uu x => x)
theorem WIn_gen {c : Cx} {D : Addr} {elt : Expr} {g1 : Comprehension} {target iter : Expr} {scope : Scope} {epos : Pos} {ρ ρ' : Rho} {Ys : List V} {Q : List V → Prop} (d : DOk c D) (hs : sub ρ' ρ)
    (h : WE c iter ρ [] (fun X => ∃ items, SrcOf c target X items ∧ ∃ f : Nat → V, (∀ o i Y, items[i]? = some Y → WAs (c.up o) target Y ρ [] (fun ρ'' => sub ρ ρ'' ∧ WE (c.up o) elt ρ'' [] (fun Z => Z = f i))) ∧
      Ys.length + items.length ≤ sizeLine ∧ Q (Ys ++ (List.range items.length).map f)))
    (hfold : ∀ x, foldedSetIterable iter c.env x = pure x := by intro _; with_unfolding_all rfl)
    (hform : ∀ I, compTurn (.ListComp elt [g1, ⟨target, iter, [], 0⟩] scope epos) 1 (.ref I) (.ref D) c.env = (do
      standAt iter.pos
      match ← pyNext (.ref I) with
      | none => pure (.done .next)
      | some v =>
        letOwnedTupleGo target (.ref I) v
        assign target c.env v
        let ok ← tests [] c.env
        if ok then
          (do let _ ← call (.builtin "list.append") [.ref D, ← eval elt c.env] : Sem Unit)
        again (.compLoop (.ListComp elt [g1, ⟨target, iter, [], 0⟩] scope epos) 1 (.ref I) (.ref D) c.env)) := by intro _; rfl) :
    WIn c D (do
      let x ← eval iter c.env
      standAt iter.pos
      let x ← foldedSetIterable iter c.env x
      let it ← holding [x] (pyIter x)
      let _ ← runOwn (.compStart (.ListComp elt [g1, ⟨target, iter, [], 0⟩] scope epos) 1 it (.ref D) c.env) c.env : Sem Unit) ρ ρ' Ys Q := fun s R ha => by
  refine wpAny_bind (goV (h s R) fun xv s₁ X hX k₁ hpt => ?_)
  obtain ⟨items, hsrc, f, turn, hsz, q⟩ := hpt
  have R₁ := R.keepE k₁
  have ha₁ := ha.keepE k₁
  refine wpAny_bind (wpAny_standAt (wpAny_bind (wpAny_of_eq (hfold xv) (wpAny_bind (wpAny_holding ?_)))))
  refine hsrc ρ [] s₁ xv _ R₁ hX fun I fp wr St s₂ k₂ S hst => ?_
  have exwr := S.ex _ _ hst
  have R₂ : Rel (c.up wr) ρ [] s₂ := R₁.up k₂ S.new exwr
  have nw : ∀ b ∈ wr, ∀ {o}, s₁.heap.get? b = some o → False := fun b hb o e => by rw [S.new b hb] at e; cases e
  have hW : ∀ b, b ∉ wof c [] → (∃ o, s₁.heap.get? b = some o) → b ∉ wof (c.up wr) [] := fun b hb ⟨o, e⟩ hm => (wof_up.mp hm).elim (fun q => nw b q e) hb
  have ha₂ : Acc (c.up wr) D Ys s₂ := by
    obtain ⟨ys, a, b⟩ := ha₁
    exact ⟨ys, a.at fun o e => k₂.2 _ o e, b.keep (k₂.keepW _) hW⟩
  have hwr : ∀ b ∈ wr, b ∉ c.own ∧ c.h₀.get? b = none ∧ b ∉ c.env.cells.map (·.2) ∧ b ∉ c.out := fun b hb => by
    refine ⟨fun h => ?_, ?_, fun h => ?_, fun h => ?_⟩
    · obtain ⟨o, e⟩ := R₁.al b (List.mem_append_right _ (List.mem_append_left _ h)); exact nw b hb e
    · cases e : c.h₀.get? b with
      | none => rfl
      | some o => exact (nw b hb (R₁.base b o e)).elim
    · obtain ⟨p, hp, e⟩ := List.mem_map.mp h
      obtain ⟨u, o, e', _⟩ := R₁.cel p hp
      exact nw b hb (e ▸ e')
    · obtain ⟨o, e⟩ := R₁.al b (List.mem_append_right _ (List.mem_append_right _ h)); exact nw b hb e
  have loop : codeAny (model PG c.w) c.A (.compLoop (.ListComp elt [g1, ⟨target, iter, [], 0⟩] scope epos) 1 (.ref I) (.ref D) c.env) (fun r s' => r = .ok .next ∧ ∃ Ys', Ys' = Ys ++ (List.range items.length).map f ∧ Rel c ρ [] s' ∧ Acc c D Ys' s' ∧ KC c D s₁ s') s₂ := by
    refine comp_loop (hform I) d S hW hwr R.ok R₂ k₂.kc ha₂ hst (fun i Zs => Zs = Ys ++ (List.range i).map f) (by simp) fun i Y Zs hY hJ => ?_
    subst hJ
    have hi : i < items.length := (List.getElem?_eq_some_iff.mp hY).1
    refine (turn wr i Y hY).mono fun ρ'' ⟨hsub, he⟩ => WTs_nil ?_
    rw [if_pos rfl]
    refine WIn_emit (d.up wr) hsub (by rw [List.length_append, List.length_map, List.length_range]; exact Nat.not_lt.mp fun hn => absurd (Nat.add_le_add hsz (Nat.add_le_add hi hn)) (by simp +arith)) (WT.mono he fun Z hZ => ?_)
    subst hZ
    rw [List.range_succ, List.map_append, List.append_assoc]; rfl
  have fin : ∀ {fl s'}, (Except.ok fl : Result) = .ok .next ∧ (∃ Ys', Ys' = Ys ++ (List.range items.length).map f ∧ Rel c ρ [] s' ∧ Acc c D Ys' s' ∧ KC c D s₁ s') → ∃ Ys', Rel c ρ' [] s' ∧ Acc c D Ys' s' ∧ KC c D s s' ∧ Q Ys' := fun ⟨_, Ys', e, R', A', K'⟩ => by
    subst e
    exact ⟨_, R'.less hs, A', k₁.kc.trans K', q⟩
  have step : ∀ {s₃}, codeAny (model PG c.w) c.A (.compLoop (.ListComp elt [g1, ⟨target, iter, [], 0⟩] scope epos) 1 (.ref I) (.ref D) c.env) (fun r s' => r = .ok .next ∧ ∃ Ys', Ys' = Ys ++ (List.range items.length).map f ∧ Rel c ρ [] s' ∧ Acc c D Ys' s' ∧ KC c D s₁ s') s₃ →
      codeAny (model PG c.w) c.A (.compLoop (.ListComp elt [g1, ⟨target, iter, [], 0⟩] scope epos) 1 (.ref I) (.ref D) c.env) (fun r s' => match r with | .ok fl => ∃ Ys', Rel c ρ' [] s' ∧ Acc c D Ys' s' ∧ KC c D s s' ∧ Q Ys' | .error e => cameBackBy (model PG c.w) c.A c.env (fun uu uu => False) e s') s₃ := fun l => codeAny_mono l fun r s' hr => by
    cases r with
    | ok fl => exact fin hr
    | error e => exact nomatch hr.1
  refine wpAny_bind (wpAny_mono (wpAny_runOwn (Q := fun uu s' => ∃ Ys', Rel c ρ' [] s' ∧ Acc c D Ys' s' ∧ KC c D s s' ∧ Q Ys') (E := fun uu uu => False) ?_) (fun uu s' z => wpAny_pure z) fun uu uu x => x)
  show codeAny (model PG c.w) c.A _ _ _
  refine start2 (step loop) (wpAny_mono (S.self s₂ (fun it s' => it = .ref I ∧ s' = s₂) hst ⟨rfl, rfl⟩) (fun it s' ⟨e1, e2⟩ => by subst e1; subst e2; exact step loop) fun uu uu x => x.elim)
noncomputable abbrev inner2 (elt : Expr) (target iter t2 i2 : Expr) (scope : Scope) (pos : Pos) (env : Env) (D : Addr) : Sem Unit := do
  let x ← eval i2 env
  standAt i2.pos
  let x ← foldedSetIterable i2 env x
  let it ← holding [x] (pyIter x)
  let _ ← runOwn (.compStart (.ListComp elt [⟨target, iter, [], 0⟩, ⟨t2, i2, [], 0⟩] scope pos) 1 it (.ref D) env) env
theorem turn2 (elt target iter t2 i2 : Expr) (scope : Scope) (pos : Pos) (I D : Addr) (env : Env) :
    compTurn (.ListComp elt [⟨target, iter, [], 0⟩, ⟨t2, i2, [], 0⟩] scope pos) 0 (.ref I) (.ref D) env = (do
      standAt iter.pos
      match ← pyNext (.ref I) with
      | none => pure (.done .next)
      | some v =>
        letOwnedTupleGo target (.ref I) v
        assign target env v
        let ok ← tests [] env
        if ok then
          inner2 elt target iter t2 i2 scope pos env D
        again (.compLoop (.ListComp elt [⟨target, iter, [], 0⟩, ⟨t2, i2, [], 0⟩] scope pos) 0 (.ref I) (.ref D) env)) := by
  unfold inner2
  simp only [bind_assoc, pure_bind]
  rfl
theorem W1_assignComp2 {c : Cx} {x : Str} {px : Pos} {target iter elt t2 i2 : Expr} {scope : Scope} {cl : List (Str × Addr)} {pos spos : Pos} {ρ : Rho} {σ : Sig} {Q : Fl → Rho → Sig → Prop}
    (hk : c.env.kindOf x = some .local) (hsw : swapsWith (.ListComp elt [⟨target, iter, [], 0⟩, ⟨t2, i2, [], 0⟩] scope pos) (some (.Name x px)) spos.line c.env = pure true)
    (ho : CapOk c scope cl) (ρ₀ : Rho) (hcap : Cap c scope cl ρ ρ₀)
    (h : WE c iter ρ σ (fun X => ∃ items, SrcOf c target X items ∧ ∃ J : Nat → List V → Prop, J 0 [] ∧
      (∀ C D h₀ o, DOk (c.comp scope cl C h₀ o) D → ∀ i Y Ys, items[i]? = some Y → J i Ys → WAs (c.comp scope cl C h₀ o) target Y ρ₀ [] (fun ρ'' => WIn (c.comp scope cl C h₀ o) D (inner2 elt target iter t2 i2 scope pos (c.comp scope cl C h₀ o).env D) ρ'' ρ₀ Ys (fun Ys' => J (i + 1) Ys'))) ∧
      ∀ Ys, J items.length Ys → Q .next ((x, .list Ys) :: ρ) σ))
    (hs : ∀ x, foldedSetIterable iter c.env x = pure x := by intro _; with_unfolding_all rfl) : W1 c (.Assign [.Name x px] (.ListComp elt [⟨target, iter, [], 0⟩, ⟨t2, i2, [], 0⟩] scope pos) spos) ρ σ Q := by
  refine assign_used hk hsw ho hs fun s R => goV (h s R) fun xv s₁ X hX k₁ hpt => ?_
  obtain ⟨items, hsrc, J, h0, turn, fin⟩ := hpt
  have R₁ := R.keepE k₁
  refine hsrc ρ σ s₁ xv _ R₁ hX fun I fp wr St s₂ k₂ S hst => ?_
  refine wpAny_mono (comp_core (RR := fun acc C r s' => ∃ s₁' D C' ys Ys, Rel c ρ σ s₁' ∧ KeepE s s₁' ∧ acc = .ref D ∧ C = C' ∧ r = .ok .next ∧
          s₁'.heap.get? D = none ∧ s₁'.heap.get? C' = none ∧ D ≠ C' ∧ (∃ m, s'.heap.Ns C' m) ∧ s'.heap.IsList D (List.toArray ys) ∧ VRs c.w (C' :: D :: wof c σ) s' Ys ys ∧ KeepE s₁' s' ∧ Q .next ((x, .list Ys) :: ρ) σ)
    (inner := fun env D => inner2 elt target iter t2 i2 scope pos env D) (fun C D I => turn2 elt target iter t2 i2 scope pos _ _ _) ho hcap R₁ k₂ S hst
    J h0 (fun C D h₀ o d i Y Ys hY hJ => (turn C D h₀ o d i Y Ys hY hJ).mono fun ρ'' q => WTs_nil (by rw [if_pos rfl]; exact q)) ?_) (fun uu uu x => x) fun uu uu x => x
  intro D C s' ys Ys hJ fD fC hDC hn hl hv k
  exact ⟨s₁, D, C, ys, Ys, R₁, k₁, rfl, rfl, rfl, fD, fC, hDC, hn, hl, hv, k, fin Ys hJ⟩
end
section
open PySem PySem.W PySem.Calls PyProof PyProof.Rows PySem.SeqAt
theorem nat_beq (a b : Nat) : ((a : Int) == (b : Int)) = (a == b) := by
  rw [Bool.eq_iff_iff, beq_iff_eq, beq_iff_eq]; lia
noncomputable def stepsI (l : List Nat) : List Int := (List.range (l.length - 1)).map fun k => ((l.getD (k + 1) 0 : Nat) : Int) - ((l.getD k 0 : Nat) : Int)
noncomputable def evenB (lows hs : List Nat) : Bool := ((lows.length : Int) == 1) || (((hs.length : Int) == 1) || (((held (stepsI lows ++ stepsI hs)).2 : Int) == 1))
theorem kinds_part {c : Cx} {L : Addr} {out : List Addr} {k : Nat} (hk : 2 ≤ k) {lows hs : List Nat} (l1 : 1 ≤ lows.length) (l2 : lows.length ≤ 4) (h1 : 1 ≤ hs.length) (h2 : hs.length ≤ 4) (hl : ∀ k, lows.getD k 0 ≤ 100) (hh : ∀ k, hs.getD k 0 ≤ 100) {U D : List (Str × Str)}
    (hU : U.length ≤ 900) (hD : D.length ≤ 900) (sU : ∀ r ∈ U, r.1.length ≤ 5592405) (sD : ∀ r ∈ D, r.1.length ≤ 5592405)
    (kU : lows.length + hs.length - 1 ≤ (held (U.map fun r => Txt.lower r.1)).2 ∧ ((held (U.map fun r => Txt.lower r.1)).2 == lows.length + hs.length - 1) = evenB lows hs)
    (kD : lows.length + hs.length - 1 ≤ (held (D.map fun r => Txt.lower r.1)).2 ∧ ((held (D.map fun r => Txt.lower r.1)).2 == lows.length + hs.length - 1) = evenB lows hs) :
    WS (CL c L out k) ((sBody (topS 23)).drop 10) [("up", .hdrP (U.map rowV)), ("down", .hdrP (D.map rowV)), ("low", .list ((nv lows).map .int)), ("high", .list ((nv hs).map .int)), ("rulers", .list [.list ((nv lows).map .int), .list ((nv hs).map .int)])] [] (RetQ fun Z => Z = .bool true) := by
  have hL : ((nv lows).map V.int).length = lows.length := by simp
  have hH : ((nv hs).map V.int).length = hs.length := by simp
  refine WS_cons ?_
  refine W1_assignComp2 (cl := []) rfl (by with_unfolding_all rfl) (by walk_at "ck") [] (by walk_at "cap") ?_
  walk_at "v"
  refine ⟨_, show SrcOf _ _ _ ([lows, hs].map fun l => V.list ((nv l).map .int)) from src_list (.inl ⟨_, _, rfl⟩), fun i Ys => Ys = (([lows, hs].take i).map stepsI).flatten.map V.int, rfl, fun C DD h₀ o d i Y Ys hY hJ => ?_, fun Ys hJ => ?_⟩
  · subst hJ
    obtain ⟨hi, rfl⟩ := map_at (d := []) hY
    have hi2 : i < 2 := hi
    have hm : [lows, hs].getD i [] ∈ [lows, hs] := getD_in (d := []) hi
    have facts : ∀ l ∈ [lows, hs], 1 ≤ l.length ∧ l.length ≤ 4 ∧ ∀ k, l.getD k 0 ≤ 100 := fun l h => by
      rcases List.mem_cons.mp h with rfl | h
      · exact ⟨l1, l2, hl⟩
      · rcases List.mem_cons.mp h with rfl | h
        · exact ⟨h1, h2, hh⟩
        · cases h
    obtain ⟨f1, f2, f3⟩ := facts _ hm
    have hpre : ((([lows, hs].take i).map stepsI).flatten.map V.int).length ≤ 8 := by
      have hs1 : (stepsI lows).length ≤ 4 := by simp [stepsI]; exact Nat.le_succ_of_le l2
      have : i = 0 ∨ i = 1 := by (clear hs1 f3 f2 f1 facts hm hY hi d hH hL kD kU sD sU hD hU hh hl h2 h1 l2 l1 hk; lia)
      rcases this with rfl | rfl
      · simp
      · simp; exact Nat.le_add_left_of_le hs1
    have hsplit : ((([lows, hs].take i).map stepsI).flatten.map V.int) ++ (stepsI ([lows, hs].getD i [])).map V.int = (([lows, hs].take (i + 1)).map stepsI).flatten.map V.int := by
      have : i = 0 ∨ i = 1 := by omega
      rcases this with rfl | rfl
      · simp
      · simp
    generalize [lows, hs].getD i [] = l at *
    generalize ((([lows, hs].take i).map stepsI).flatten.map V.int) = Ys at *
    have hln : ((nv l).map V.int).length = l.length := by simp
    walk_at "v"
    refine WIn_gen d sub.nil ?_
    walk_at "v"
    refine WC_len (.inl rfl) (by simp; exact Nat.le_add_left_of_le f2) ?_
    rw [hln]
    walk_at "v"
    have eN : (l.length : Int) - 1 = ((l.length - 1 : Nat) : Int) := by exact Int.le_antisymm (Int.not_lt.mp fun hn => absurd (Int.add_le_add (Int.add_one_le_of_lt hn) (Int.ofNat_le.mpr (Nat.le_of_eq (Nat.sub_add_cancel (show 1 ≤ l.length from Nat.not_lt.mp fun hn => absurd (Nat.add_le_add f1 hn) (by simp +arith))).symm))) (by simp +arith)) (Int.not_lt.mp fun hn => absurd (Int.add_le_add (Int.add_one_le_of_lt hn) (Int.ofNat_le.mpr (Nat.le_of_eq (Nat.sub_add_cancel (show 1 ≤ l.length from Nat.not_lt.mp fun hn => absurd (Nat.add_le_add f1 hn) (by simp +arith)))))) (by simp +arith))
    rw [eN]
    refine ⟨_, src_up (by exact Nat.le_trans (Nat.le_trans (Nat.sub_le _ _) f2) (by decide)), fun k => .int (((l.getD (k + 1) 0 : Nat) : Int) - ((l.getD k 0 : Nat) : Int)), fun o' j Y' hY' => ?_, ?_, ?_⟩
    · obtain ⟨hj, rfl⟩ := upto_at hY'
      walk_at "v"
      refine ⟨sub.one rfl (.refl _), ?_⟩
      walk_at "v"
      have ej : (j : Int) + 1 = ((j + 1 : Nat) : Int) := by exact Int.natCast_add _ _
      rw [ej]
      refine O2_itemI (.inl rfl) (by exact Int.natCast_nonneg _) (by simp; exact Int.not_le.mp fun hn => absurd (Int.add_le_add (Int.le_of_eq eN.symm) (Int.add_le_add (Int.ofNat_le.mpr (Nat.succ_le_of_lt hj)) hn)) (by simp +arith)) (by exact Int.not_le.mp fun hn => absurd (Int.add_le_add (Int.ofNat_le.mpr f2) (Int.add_le_add (Int.le_of_eq eN.symm) (Int.add_le_add (Int.ofNat_le.mpr (Nat.succ_le_of_lt hj)) hn))) (by simp +arith)) ?_
      walk_at "v"
      refine O2_itemI (.inl rfl) (by exact Int.natCast_nonneg _) (by simp; exact Nat.lt_of_lt_of_le hj (Nat.sub_le _ _)) (by exact Int.not_le.mp fun hn => absurd (Int.add_le_add (Int.ofNat_le.mpr f2) (Int.add_le_add (Int.le_of_eq eN.symm) (Int.add_le_add (Int.ofNat_le.mpr (Nat.succ_le_of_lt hj)) hn))) (by simp +arith)) ?_
      rw [Int.toNat_natCast, Int.toNat_natCast, nv_at, nv_at]
      walk_at "v"
      rfl
    · rw [upto_len]; unfold sizeLine; exact Nat.not_lt.mp fun hn => absurd (Int.add_le_add (Int.ofNat_le.mpr f2) (Int.add_le_add (Int.ofNat_le.mpr hpre) (Int.add_le_add (Int.le_of_eq eN.symm) (Int.ofNat_le.mpr (Nat.succ_le_of_lt hn))))) (by simp +arith)
    · show Ys ++ _ = _
      rw [upto_len, ← hsplit]
      congr 1
      unfold stepsI
      rw [List.map_map]; rfl
  · subst hJ
    have e2 : (([lows, hs].take ([lows, hs].map fun l => V.list ((nv l).map .int)).length).map stepsI).flatten = stepsI lows ++ stepsI hs := by simp
    rw [e2]
    have hst : (stepsI lows ++ stepsI hs).length ≤ 8 := by simp [stepsI]; exact Nat.not_lt.mp fun hn => absurd (Nat.add_le_add l2 (Nat.add_le_add h2 (Nat.add_le_add hn (Nat.add_le_add (Nat.le_of_eq (Nat.sub_add_cancel (show 1 ≤ lows.length from Nat.not_lt.mp fun hn => absurd (Nat.add_le_add l1 hn) (by simp +arith)))) (Nat.le_of_eq (Nat.sub_add_cancel (show 1 ≤ hs.length from Nat.not_lt.mp fun hn => absurd (Nat.add_le_add h1 hn) (by simp +arith)))))))) (by simp +arith)
    refine WS_cons ?_
    walk_at "v"
    refine WT.mono (Q := fun X => X = .bool (evenB lows hs)) ?_ fun X eX => ?_
    · refine WE_or3 ?_
      walk_at "v"
      refine WC_len (.inl rfl) (by simp; exact Nat.le_add_left_of_le l2) ?_
      rw [hL]
      walk_at "v"
      refine ite_b (fun e => ?_) fun e => ?_
      · unfold evenB; rw [e]; rfl
      refine WE_or2 ?_
      walk_at "v"
      refine WC_len (.inl rfl) (by simp; exact Nat.le_add_left_of_le h2) ?_
      rw [hH]
      walk_at "v"
      refine ite_b (fun e' => ?_) fun e' => ?_
      · unfold evenB; rw [e, e']; rfl
      refine WE_cmp ?_
      refine WE_lenSet (knd := fun w => intKind PG w) (fun uu h => WE_blt (by with_unfolding_all rfl) (fun w => by with_unfolding_all rfl) (by with_unfolding_all rfl) h) (fun uu h => WE_blt (by with_unfolding_all rfl) (fun w => by with_unfolding_all rfl) (by with_unfolding_all rfl) h) ?_
      walk_at "v"
      refine ⟨_, _, _, .inl rfl, Keyed.ints _, by unfold scanBound; exact Nat.not_le.mp fun hn => absurd (Nat.add_le_add hst hn) (by simp +arith), ?_⟩
      walk_at "v"
      unfold evenB; rw [e, e']; rfl
    subst eX
    refine WS_cons ?_
    walk_at "v"
    refine WC_len (.inl rfl) (by simp; exact Nat.le_add_left_of_le l2) ?_
    rw [hL]
    walk_at "v"
    refine WC_len (.inl rfl) (by simp; exact Nat.le_add_left_of_le h2) ?_
    rw [hH]
    walk_at "v"
    have ef : (lows.length : Int) + (hs.length : Int) - 1 = ((lows.length + hs.length - 1 : Nat) : Int) := by exact Int.le_antisymm (Int.not_lt.mp fun hn => absurd (Int.add_le_add (Int.add_one_le_of_lt hn) (Int.ofNat_le.mpr (Nat.le_of_eq (Nat.sub_add_cancel (show 1 ≤ lows.length + hs.length from Nat.not_lt.mp fun hn => absurd (Nat.add_le_add l1 (Nat.add_le_add h1 hn)) (by simp +arith))).symm))) (by simp +arith)) (Int.not_lt.mp fun hn => absurd (Int.add_le_add (Int.add_one_le_of_lt hn) (Int.ofNat_le.mpr (Nat.le_of_eq (Nat.sub_add_cancel (show 1 ≤ lows.length + hs.length from Nat.not_lt.mp fun hn => absurd (Nat.add_le_add l1 (Nat.add_le_add h1 hn)) (by simp +arith)))))) (by simp +arith))
    rw [ef]
    refine WS_cons (W1_for ?_)
    walk_at "v"
    refine ⟨_, show SrcOf _ _ _ ([U, D].map fun l => V.hdrP (l.map rowV)) from src_list (.inl ⟨_, _, rfl⟩), fun i ρ' σ' => σ' = [] ∧ sub [("even", .bool (evenB lows hs)), ("fewest", .int ((lows.length + hs.length - 1 : Nat) : Int))] ρ', ⟨rfl, by walk_at "sub"⟩, fun o i Y ρ' σ' hY hJ => ?_, fun ρ' σ' hJ => ?_⟩
    · obtain ⟨rfl, hs'⟩ := hJ
      obtain ⟨hi, rfl⟩ := map_at (d := []) hY
      have hm : [U, D].getD i [] ∈ [U, D] := getD_in (d := []) hi
      have facts : ∀ T ∈ [U, D], T.length ≤ 900 ∧ (∀ r ∈ T, r.1.length ≤ 5592405) ∧ lows.length + hs.length - 1 ≤ (held (T.map fun r => Txt.lower r.1)).2 ∧ ((held (T.map fun r => Txt.lower r.1)).2 == lows.length + hs.length - 1) = evenB lows hs := fun T h => by
        rcases List.mem_cons.mp h with rfl | h
        · exact ⟨hU, sU, kU⟩
        · rcases List.mem_cons.mp h with rfl | h
          · exact ⟨hD, sD, kD⟩
          · cases h
      obtain ⟨f1, f2, f3, f4⟩ := facts _ hm
      generalize [U, D].getD i [] = T at *
      refine WAs.less ?_ hs'
      refine WAs_name (by walk_at "stb") ?_
      refine WS_cons ?_
      refine W1_assign (by walk_at "stb") ?_
      refine WE_lenSet (knd := fun w => PySem.strKind PG w) (fun uu h => WE_blt (by with_unfolding_all rfl) (fun w => by with_unfolding_all rfl) (by with_unfolding_all rfl) h) (fun uu h => WE_blt (by with_unfolding_all rfl) (fun w => by with_unfolding_all rfl) (by with_unfolding_all rfl) h) ?_
      refine WE_compF (cl := []) (by walk_at "ck") [] (by walk_at "cap") ?_
      refine WE_meth mKeys ?_
      refine WE_hdr (xs := T.map rowV) rfl ?_ (by walk_at "kd")
      refine ⟨.inr ⟨_, rfl⟩, ?_⟩
      walk_at "v"
      refine (keys_run T (by exact Nat.le_add_left_of_le f1) _ _ _ (by show 1 ≤ k; exact Nat.le_of_succ_le hk)).mono fun X hX => ?_
      subst hX
      refine ⟨_, src_list (.inl ⟨_, _, rfl⟩), by rw [List.length_map]; unfold sizeLine; exact Nat.le_trans f1 (Nat.le_add_left _ _), fun i => true, fun i => .str (Txt.lower (T.getD i default).1), ?_, ?_⟩
      · intro C h₀ o' j Y' hY'
        obtain ⟨hj, rfl⟩ := map_at (d := default) hY'
        have hsz := f2 _ (getD_in (d := default) hj)
        generalize hg : T.getD j default = r at *
        walk_at "v"
        refine ⟨sub.one rfl (.refl _), ?_⟩
        walk_at "v"
        refine ⟨rfl, fun uu => ?_⟩
        refine WE_smeth F.slot_str_lower F.type_str_lower ?_
        walk_at "v"
        refine ⟨⟨_, SV.str _⟩, ?_⟩
        walk_at "v"
        refine WC_lower (SV.str _) hsz ?_
        show V.str (Txt.lower r.1) = .str (Txt.lower (T.getD j default).1)
        rw [hg]
      have ek : picks (T.map fun r => V.str r.1).length (fun uu => true) (fun i => V.str (Txt.lower (T.getD i default).1)) = (T.map fun r => Txt.lower r.1).map V.str := by
        rw [List.length_map, picks_list T default (fun uu => true) (fun r => V.str (Txt.lower r.1)), List.filter_eq_self.mpr fun uu uu => rfl, List.map_map]; rfl
      rw [ek]
      refine ⟨_, _, _, .inl rfl, Keyed.strs _, by rw [List.length_map]; unfold scanBound; exact Nat.not_le.mp fun hn => absurd (Nat.add_le_add f1 hn) (by simp +arith), ?_⟩
      refine WS_cons ?_
      refine W1_if ?_
      walk_at "v"
      have eb : decide ((((held (T.map fun r => Txt.lower r.1)).2 : Nat) : Int) < ((lows.length + hs.length - 1 : Nat) : Int)) = false := by simp; exact Nat.not_lt.mp fun hn => absurd (Int.add_le_add (Int.le_of_eq ef) (Int.add_le_add (Int.ofNat_le.mpr f3) (Int.ofNat_le.mpr (Nat.succ_le_of_lt hn)))) (by simp +arith)
      rw [eb]
      refine ite_f (A := ?_) ?_
      walk_at "v"
      have ec : (((((held (T.map fun r => Txt.lower r.1)).2 : Nat) : Int) == ((lows.length + hs.length - 1 : Nat) : Int)) != evenB lows hs) = false := by
        rw [← f4]
        rw [nat_beq]; simp
      rw [ec]
      refine ite_f (A := ?_) ?_
      walk_at "v"
      refine ⟨rfl, ?_⟩
      walk_at "sub"
    · obtain ⟨rfl, hs'⟩ := hJ
      refine WS_cons ?_
      walk_at "v"
      rfl
end
section
open PySem PySem.W PySem.Calls PyProof PyProof.Rows PySem.SeqAt
theorem WE_sliceSC {c value lower upper p pos ρ σ} {Q : V → Prop}
    (h : WE c value ρ σ (fun X => ∃ x, SV X x ∧ x.length ≤ sizeLine ∧ WP c lower ρ σ (fun Y => ∃ lo, BV Y lo ∧ WP c upper ρ σ (fun Z => ∃ hi, BV Z hi ∧ Q (.str (Txt.slice x lo hi))))))
    (ht : ∀ y t r, letTemporaryGo value (.str y t) r = pure () := by intro _ _ _; with_unfolding_all rfl)
    (hs : ∀ y t a, subscripted (.Slice lower upper none p) false (.str y t) (.ref a) = operate [.ref a, .str y t] (getItem (.str y t) (.ref a)) := by intro _ _ _; with_unfolding_all rfl) : WE c (.Subscript value (.Slice lower upper none p) pos) ρ σ Q := fun s R => by
  refine with_toks (Subscript_ (goV (h s R) fun a s₁ X hX k₁ hpt => ?_))
  obtain ⟨x, hL, hsz, h₁⟩ := hpt
  refine wpAny_Slice (goV (h₁ s₁ (R.keepE k₁)) fun b s₂ Y hY k₂ hpt => ?_)
  obtain ⟨lo, hb, h₂⟩ := hpt
  refine goV (h₂ s₂ ((R.keepE k₁).keepE k₂)) fun d s₃ Z hZ k₃ hpt => ?_
  obtain ⟨hi, hc, q⟩ := hpt
  obtain ⟨t, rfl⟩ := hL.is hX
  obtain ⟨l, rfl, e1⟩ := hb.part' hY
  obtain ⟨u, rfl, e2⟩ := hc.part' hZ
  subst e1; subst e2
  rw [evalPart_none]
  have K := (k₁.trans k₂).trans k₃
  refine wpAny_pure (subscriptTail_ops (typeIs_str _ x t) F.slot_str_getitem.lookup (wpAny_getItem_str_slice (l := l) (u := u) (st := none) ⟨_, Heap.get?_push_size _ rfl, rfl, rfl⟩ rfl ?_) (hs _ _ _) (fun r => ht _ _ r))
  refine sliceMade_post hsz fun t' tk htk => ⟨.str _, ⟨t', rfl⟩, ⟨?_, ?_⟩, q⟩
  · obtain ⟨h', tk', gs, e, g, hle⟩ := K.1
    exact ⟨_, tk, gs, by rw [e], g, htk⟩
  · exact K.2.trans (stays_push _ _)
end
section
open PySem PySem.W PySem.Calls PyProof PyProof.Rows PySem.SeqAt
theorem sums_run (ns : List Int) (hn : ns.length ≤ sizeLine) : Pure 224 1 [.list (ns.map .int)] (fun Z => ∃ is : List Int, is.length = 6 ∧ (∀ x ∈ is, 0 ≤ x ∧ x ≤ 100000000) ∧ Z = .list (is.map .int)) := by
  refine pure_of atSums [("script", .list (ns.map .int))] ?_ (nodup_of rfl) (kindsOk_of fun n => rfl) fun c L out hk => ?_
  · rintro w W s vs ⟨v, _, rfl, hv, rfl⟩
    exact ⟨_, rfl, v, _, rfl, hv, rfl⟩
  refine WS_cons (W1_assignM (by walk_at "stb") ?_)
  walk_at "v"
  intro a
  walk_at "v"
  refine WS_cons (W1_for ?_)
  refine WE_sliceL ?_
  walk_at "v"
  refine ⟨_, .inl rfl, by simpa using hn, ?_⟩
  walk_at "v"
  refine ⟨_, .none, ?_⟩
  walk_at "v"
  refine ⟨_, .int _, ?_⟩
  have e63 : pickV (ns.map V.int) none (some (63 : Int)) = (ns.take 63).map V.int := by rw [pickV_map]; congr 1; exact pickV_upto ns 63
  rw [e63]
  refine ⟨_, src_list (.inl ⟨_, _, rfl⟩), fun i ρ σ => ∃ (is : List Int) (p : Nat), σ = [(a, is.map .int)] ∧ is.length = 6 ∧ (∀ x ∈ is, 0 ≤ x ∧ x ≤ 12 + i * 1000000) ∧ p < 6 ∧ sub [("sums", .mu a), ("place", .int p)] ρ, ?_, ?_, ?_⟩
  · refine ⟨[12, 0, 1, 2, 4, 9], 0, rfl, rfl, by decide, by decide, ?_⟩
    walk_at "sub"
  · rintro o i Y ρ' σ' hY ⟨is, p, rfl, hl, hb, hp, hs⟩
    obtain ⟨x, rfl⟩ : ∃ x, Y = .int x := by
      rw [List.getElem?_map] at hY
      cases e : (ns.take 63)[i]? with
      | none => rw [e] at hY; cases hY
      | some x => rw [e] at hY; cases hY; exact ⟨x, rfl⟩
    refine WAs.less ?_ hs
    walk_at "v"
    refine O2_itemI (.inr ⟨_, rfl, .head _⟩) (by exact Int.natCast_nonneg _) (by exact Int.not_le.mp fun hn => absurd (Int.add_le_add (Int.ofNat_le.mpr (Nat.le_of_eq hl.symm)) (Int.add_le_add (Int.ofNat_le.mpr (Nat.succ_le_of_lt hp)) hn)) (by simp +arith)) (by exact Int.not_le.mp fun hn => absurd (Int.add_le_add (Int.ofNat_le.mpr (Nat.succ_le_of_lt hp)) hn) (by simp +arith)) ?_
    walk_at "v"
    refine ⟨a, is.map .int, p, [(a, (is.set p (is.getD p 0 + x.fmod 1000000)).map .int)], rfl, rfl, by rw [List.length_map, hl]; exact hp, by rw [List.length_map, hl]; decide, ?_, ?_⟩
    · have e : (is.map V.int).set p (V.int (is.getD (p : Int).toNat 0 + x.fmod 1000000)) = (is.set p (is.getD p 0 + x.fmod 1000000)).map V.int := by
        rw [Int.toNat_natCast, List.map_set]
      rw [e]; exact .head
    walk_at "v"
    refine ⟨_, (p + 1) % 6, rfl, by rw [List.length_set, hl], fun y hy => ?_, Nat.mod_lt _ (by decide), .cons rfl (.cons (lkI rfl ?_) .nil)⟩
    · have hm0 : x.fmod 1000000 = x % 1000000 := Int.fmod_eq_emod_of_nonneg _ (by decide)
      have hm1 : 0 ≤ x.fmod 1000000 := by (clear hm0 hy hY hs hp hb hl e63 hk hn; lia)
      have hm2 : x.fmod 1000000 < 1000000 := by (clear hm1 hm0 hy hY hs hp hb hl e63 hk hn; lia)
      have hcast : ((i + 1 : Nat) : Int) = (i : Int) + 1 := by exact Int.natCast_add _ _
      rw [hcast]
      rcases List.mem_or_eq_of_mem_set hy with h | h
      · have := hb y h; exact ⟨Int.not_lt.mp fun hn => absurd (Int.add_le_add this.1 (Int.add_one_le_of_lt hn)) (by simp +arith), Int.not_lt.mp fun hn => absurd (Int.add_le_add this.2 (Int.add_one_le_of_lt hn)) (by simp +arith)⟩
      · have hmem : is.getD p 0 ∈ is := by
          rw [List.getD_eq_getElem?_getD, List.getElem?_eq_getElem (by exact Nat.not_le.mp fun hn => absurd (Nat.add_le_add (Nat.le_of_eq hl.symm) (Nat.add_le_add hp hn)) (by simp +arith) : p < is.length)]; exact List.getElem_mem _
        have := hb _ hmem
        exact ⟨Int.not_lt.mp fun hn => absurd (Int.add_le_add hm1 (Int.add_le_add (Int.le_of_eq h.symm) (Int.add_le_add this.1 (Int.add_one_le_of_lt hn)))) (by simp +arith), Int.not_lt.mp fun hn => absurd (Int.add_le_add (Int.add_one_le_of_lt hm2) (Int.add_le_add (Int.le_of_eq h) (Int.add_le_add this.2 (Int.add_one_le_of_lt hn)))) (by simp +arith)⟩
    · have : ((p : Int) + 1).fmod 6 = ((p + 1) % 6 : Nat) := by
        rw [Int.fmod_eq_emod_of_nonneg _ (by decide)]; rfl
      exact this
  · rintro ρ' σ' ⟨is, p, rfl, hl, hb, hp, hs⟩
    refine WS_keep _ hs ?_
    refine WS_freeze (ρ' := [("sums", .list (is.map .int))]) (.cons rfl (.inr (.inl ⟨rfl, rfl⟩)) .nil) ?_
    walk_at "v"
    refine ⟨is, hl, fun x hx => ?_, rfl⟩
    have h1 := hb x hx
    have h2 : ((ns.take 63).map V.int).length ≤ 63 := by simp; exact Nat.min_le_left _ _
    exact ⟨Int.not_lt.mp fun hn => absurd (Int.add_le_add h1.1 (Int.add_one_le_of_lt hn)) (by simp +arith), Int.not_lt.mp fun hn => absurd (Int.add_le_add h1.2 (Int.add_le_add (Int.mul_le_mul_of_nonneg_left (Int.ofNat_le.mpr h2) (by decide : (0 : Int) ≤ 1000000)) (Int.add_one_le_of_lt hn))) (by simp +arith)⟩
end
section
open PySem PySem.W PySem.Calls PyProof PyProof.Rows PySem.SeqAt
noncomputable def tabN : List Int := [0, 1, 2, 3, 4, 1, 2, 3, 0, 127]
noncomputable def szOf (n : Int) : Int := tabN.getD (n.fmod 10).toNat 0
noncomputable def MarksRun : Prop := ∀ (is : List Int), is.length = 3 → (∀ x ∈ is, x ∈ tabN) → ∀ {c : Cx} {ρ : Rho} {σ : Sig} {s : Shared} {v : Value} {fs : List Env}, 4 ≤ c.k → Rel c ρ σ s → VR c.w (wof c σ) s (.list (is.map .int)) v → c.A.frames = some fs → FF fs s.heap → (∀ b ∈ fad fs, b ∈ wof c σ) → (∀ b ∈ fad fs, c.h₀.get? b = none) →
  wpAny (model PG c.w) c.A (call (.ref 231) [v]) (fun u s' => ∃ Z, VR c.w (wof c σ) s' Z u ∧ KCl fs s s' ∧ Z = .tup [.bool (is.getD 0 0 == 0), .list ((told is).map .int)]) (fun uu uu => False) s
structure Ruler (l : List Nat) : Prop where
  pos : 1 ≤ l.length
  le4 : l.length ≤ 4
  bd : ∀ k, l.getD k 0 ≤ 100
  mono : ∀ p, p + 1 < l.length → l.getD p 0 ≤ l.getD (p + 1) 0
  zero : l.getD 0 0 = 0
structure PlainOK (lows hs : List Nat) : Prop where
  up : ∀ t, t ≤ lows.getD (lows.length - 1) 0 + hs.getD (hs.length - 1) 0 → ((ups lows hs hs.length).filter fun r => Txt.lower r.1 == Txt.lower (tx (List.replicate (t + 2) 46 ++ [120]))).map (·.2) = dueUp lows hs t
  dn : ∀ i, i ≤ lows.getD (lows.length - 1) 0 + hs.getD (hs.length - 1) 0 → ((dns lows hs hs.length).filter fun r => Txt.lower r.1 == Txt.lower (tx (padc 88 (i - hs.getD (hs.length - 1) 0) (min (hs.getD (hs.length - 1) 0) i)))).map (·.2) = dueDn lows hs ((i : Int) - (hs.getD (hs.length - 1) 0 : Nat))
  kU : lows.length + hs.length - 1 ≤ (held ((ups lows hs hs.length).map fun r => Txt.lower r.1)).2 ∧ ((held ((ups lows hs hs.length).map fun r => Txt.lower r.1)).2 == lows.length + hs.length - 1) = evenB lows hs
  kD : lows.length + hs.length - 1 ≤ (held ((dns lows hs hs.length).map fun r => Txt.lower r.1)).2 ∧ ((held ((dns lows hs hs.length).map fun r => Txt.lower r.1)).2 == lows.length + hs.length - 1) = evenB lows hs
theorem kp224 : Kp (.ref 224) := Kp.stat fun w => by kernel_rfl
theorem kp231 : Kp (.ref 231) := Kp.stat fun w => by kernel_rfl
theorem kp236 : Kp (.ref 236) := Kp.stat fun w => by kernel_rfl
theorem kp241 : Kp (.ref 241) := Kp.stat fun w => by kernel_rfl
theorem kp248 : Kp (.ref 248) := Kp.stat fun w => by kernel_rfl
theorem szOf_mem (n : Int) : szOf n ∈ tabN := by
  unfold szOf
  have h1 := Int.fmod_nonneg_of_pos n (b := 10) (by decide)
  have h2 := Int.fmod_lt_of_pos n (b := 10) (by decide)
  exact getD_in (by show _ < 10; omega)
theorem padc_len (c a b : Nat) : (padc c a b).length = a + b + 1 := by unfold padc; simp; exact Nat.succ_sub_one _
theorem ups_short {lows hs : List Nat} (h : Ruler lows) (g : Ruler hs) : ∀ r ∈ ups lows hs hs.length, r.1.length ≤ 5592405 := fun r hr => by
  unfold ups at hr
  obtain ⟨l, hl, hr⟩ := List.mem_flatten.mp hr
  obtain ⟨q, hq, rfl⟩ := List.mem_map.mp hl
  obtain ⟨x, hx, rfl⟩ := List.mem_map.mp hr
  obtain ⟨b1, _, _⟩ := lets_le h.bd h.le4 hx
  have := g.bd q
  show (tx _).length ≤ _
  rw [tx_len, List.length_append, List.length_replicate]; show _ + 1 ≤ _; exact Nat.not_lt.mp fun hn => absurd (Nat.add_le_add b1 (Nat.add_le_add this hn)) (by simp +arith)
theorem dns_short {lows hs : List Nat} (h : Ruler lows) (g : Ruler hs) : ∀ r ∈ dns lows hs hs.length, r.1.length ≤ 5592405 := fun r hr => by
  unfold dns at hr
  obtain ⟨l, hl, hr⟩ := List.mem_flatten.mp hr
  obtain ⟨q, hq, rfl⟩ := List.mem_map.mp hl
  obtain ⟨x, hx, rfl⟩ := List.mem_map.mp hr
  obtain ⟨b1, _, _⟩ := lets_le h.bd h.le4 hx
  have := g.bd q
  have := g.bd (hs.length - 1)
  show (tx (padc _ _ _)).length ≤ _
  rw [tx_len, padc_len]; exact Nat.not_lt.mp fun hn => (Nat.le_total (hs.getD q 0) x.fst).elim (fun hs2 => (Nat.le_total (hs.getD q 0 - x.fst) (hs.getD (hs.length - 1) 0)).elim (fun hs1 => absurd (Nat.add_le_add b1 (Nat.add_le_add this (Nat.add_le_add hn (Nat.add_le_add (Nat.le_of_eq (Nat.sub_add_cancel hs2)) (Nat.le_of_eq (Nat.sub_add_cancel hs1)))))) (by simp +arith)) (fun hs1 => absurd (Nat.add_le_add b1 (Nat.add_le_add hn (Nat.add_le_add (Nat.le_of_eq (Nat.sub_add_cancel hs2)) (Nat.le_of_eq (Nat.sub_eq_zero_of_le hs1))))) (by simp +arith))) (fun hs2 => (Nat.le_total (hs.getD q 0 - x.fst) (hs.getD (hs.length - 1) 0)).elim (fun hs1 => absurd (Nat.add_le_add this (Nat.add_le_add hn (Nat.add_le_add (Nat.le_of_eq (Nat.sub_eq_zero_of_le hs2)) (Nat.le_of_eq (Nat.sub_add_cancel hs1))))) (by simp +arith)) (fun hs1 => absurd (Nat.add_le_add hn (Nat.add_le_add (Nat.le_of_eq (Nat.sub_eq_zero_of_le hs2)) (Nat.le_of_eq (Nat.sub_eq_zero_of_le hs1)))) (by simp +arith)))
theorem slice_letters (n : Nat) (h : n ≤ 4) : Txt.slice (Str.ofString "abcd") none (some (n : Int)) = tx (lettersT n) := by
  match n, h with
  | 0, _ => decide
  | 1, _ => decide
  | 2, _ => decide
  | 3, _ => decide
  | 4, _ => decide
theorem law_tail {lows hs : List Nat} (rl : Ruler lows) (rh : Ruler hs) (HP : PlainOK lows hs) {e : List Nat} (he : IsEnd e) {c : Cx} {L : Addr} {out : List Addr} {k : Nat} (hk : 5 ≤ k) (hfr : (CL c L out k).A.frames = some [(CL c L out k).env]) :
    WS (CL c L out k) ((sBody (topS 23)).drop 6) [("up", .hdrP ((ups lows hs hs.length).map rowV)), ("down", .hdrP ((dns lows hs hs.length).map rowV)), ("low", .list ((nv lows).map .int)), ("high", .list ((nv hs).map .int)), ("rulers", .list [.list ((nv lows).map .int), .list ((nv hs).map .int)])] [] (RetQ fun Z => Z = .bool true) := by
  have hL : ((nv lows).map V.int).length = lows.length := by simp
  have l1 := rl.pos
  have l2 := rl.le4
  have h1 := rh.pos
  have h2 := rh.le4
  have hul : (ups lows hs hs.length).length ≤ 900 := by
    rw [ups_len]
    have : hs.length * lows.length ≤ 4 * 4 := Nat.mul_le_mul h2 l2
    exact Nat.le_add_left_of_le this
  have hdl : (dns lows hs hs.length).length ≤ 900 := by
    rw [dns_len]
    have : hs.length * lows.length ≤ 4 * 4 := Nat.mul_le_mul h2 l2
    exact Nat.le_add_left_of_le this
  refine WS_cons ?_
  refine W1_ifNotC ?_
  refine WEC_call (.ref 248) kp248 rfl (fun uu h => WE_glob (v := .ref 248) (X := .stat (.ref 248)) rfl (fun w => rfl) (fun uu uu uu => rfl) h) ?_
  walk_at "v"
  rintro s vs R ⟨v, _, rfl, z, rfl⟩
  refine wpAny_mono (shut_run (by show 3 ≤ k; exact Nat.le_trans (Nat.le_add_left _ _) hk) R z hfr (ff_own R rfl) (fad_own rfl (.head _)) (fad_h R.ok rfl)) (fun u s' ⟨Z, hZ, kc, ez⟩ => ⟨Z, hZ, kc, ez, ?_⟩) fun uu uu x => x
  refine WS_cons ?_
  walk_at "v"
  refine WE_sliceSC ?_
  walk_at "v"
  refine ⟨_, .inr rfl, by decide, ?_⟩
  walk_at "v"
  refine ⟨_, .none, ?_⟩
  walk_at "v"
  refine WC_len (.inl rfl) (by simp; exact Nat.le_add_left_of_le l2) ?_
  rw [hL]
  refine ⟨_, .int _, ?_⟩
  rw [slice_letters _ l2]
  refine WS_keep [("letters", .str (tx (lettersT lows.length))), ("up", .hdrP ((ups lows hs hs.length).map rowV)), ("down", .hdrP ((dns lows hs hs.length).map rowV)), ("low", .list ((nv lows).map .int)), ("high", .list ((nv hs).map .int)), ("rulers", .list [.list ((nv lows).map .int), .list ((nv hs).map .int)])] (by walk_at "sub") ?_
  refine WS_join [("letters", .str (tx (lettersT lows.length))), ("up", .hdrP ((ups lows hs hs.length).map rowV)), ("down", .hdrP ((dns lows hs hs.length).map rowV)), ("low", .list ((nv lows).map .int)), ("high", .list ((nv hs).map .int)), ("rulers", .list [.list ((nv lows).map .int), .list ((nv hs).map .int)])] []
    (total_loop (S := .none) (FT := .none) (by exact Nat.le_trans (Nat.le_add_left _ _) hk) l1 l2 h1 h2 rl.bd rh.bd (by exact Nat.le_add_left_of_le hul) (ups_short rl rh) HP.up) ?_
  refine WS_join [("letters", .str (tx (lettersT lows.length))), ("up", .hdrP ((ups lows hs hs.length).map rowV)), ("down", .hdrP ((dns lows hs hs.length).map rowV)), ("low", .list ((nv lows).map .int)), ("high", .list ((nv hs).map .int)), ("rulers", .list [.list ((nv lows).map .int), .list ((nv hs).map .int)])] []
    (more_loop (by exact Nat.le_trans (Nat.le_add_left _ _) hk) l1 l2 h1 h2 rl.bd rh.bd (by exact Nat.le_add_left_of_le hdl) (dns_short rl rh) HP.dn) ?_
  refine WS_keep [("up", .hdrP ((ups lows hs hs.length).map rowV)), ("down", .hdrP ((dns lows hs hs.length).map rowV)), ("low", .list ((nv lows).map .int)), ("high", .list ((nv hs).map .int)), ("rulers", .list [.list ((nv lows).map .int), .list ((nv hs).map .int)])] (by walk_at "sub") ?_
  exact kinds_part (by exact Nat.le_trans (Nat.le_add_left _ _) hk) l1 l2 h1 h2 rl.bd rh.bd hul hdl (ups_short rl rh) (dns_short rl rh) HP.kU HP.kD
end
section
open PySem PySem.W PySem.Calls PyProof PyProof.Rows PySem.SeqAt
noncomputable def Grow (l : List Nat) : Prop := ∀ i j, i < j → j < l.length → l.getD i 0 < l.getD j 0
theorem Grow.lt {l : List Nat} (g : Grow l) {i j : Nat} (hi : i < l.length) (hj : j < l.length) (h : l.getD i 0 < l.getD j 0) : i < j := by
  rcases Nat.lt_trichotomy i j with q | q | q
  · exact q
  · subst q; exact Nat.not_le.mp fun hn => absurd h (by simp +arith)
  · have := g j i q hi; exact Nat.not_le.mp fun hn => absurd (Nat.add_le_add h this) (by simp +arith)
theorem Grow.inj {l : List Nat} (g : Grow l) {i j : Nat} (hi : i < l.length) (hj : j < l.length) (h : l.getD i 0 = l.getD j 0) : i = j := by
  rcases Nat.lt_trichotomy i j with q | q | q
  · have := g i j q hj; (clear q hj hi g; lia)
  · exact q
  · have := g j i q hi; (clear q hj hi g; lia)
theorem dots_beq (a b : Nat) : (tx (List.replicate a 46 ++ [120]) == tx (List.replicate b 46 ++ [120])) = decide (a = b) := by
  rw [tx_beq, Bool.eq_iff_iff, beq_iff_eq, decide_eq_true_iff]
  constructor
  · intro h
    have := congrArg List.length h
    simpa using this
  · rintro rfl; rfl
theorem pad_inj {a b a' b' : Nat} (h : pad a b = pad a' b') : a = a' ∧ b = b' := by
  have hl := congrArg List.length h
  rw [pad_len, pad_len] at hl
  have hg : (pad a b).getD a 0 = (pad a' b').getD a 0 := by rw [h]
  rw [pad_at a b a (by exact Nat.succ_le_succ (Nat.le_add_right _ _)), if_pos rfl] at hg
  by_cases e : a = a'
  · subst e; exact ⟨rfl, by (clear hg h; lia)⟩
  · rw [pad_at a' b' a (by exact Nat.not_le.mp fun hn => absurd (Nat.add_le_add (Nat.le_of_eq hl) hn) (by simp +arith)), if_neg e] at hg; cases hg
theorem pad_beq (a b a' b' : Nat) : (tx (pad a b) == tx (pad a' b')) = decide (a = a' ∧ b = b') := by
  rw [tx_beq, Bool.eq_iff_iff, beq_iff_eq, decide_eq_true_iff]
  exact ⟨pad_inj, fun ⟨h1, h2⟩ => by rw [h1, h2]⟩
theorem contains_nv (hs : List Nat) (z : Int) : (nv hs).contains z = true ↔ ∃ q, q < hs.length ∧ ((hs.getD q 0 : Nat) : Int) = z := by
  rw [List.contains_iff_mem, List.mem_map]
  constructor
  · rintro ⟨n, hn, rfl⟩
    obtain ⟨q, hq, rfl⟩ := List.mem_iff_getElem.mp hn
    exact ⟨q, hq, by rw [List.getD_eq_getElem?_getD, List.getElem?_eq_getElem hq]; rfl⟩
  · rintro ⟨q, hq, rfl⟩
    exact ⟨_, getD_in (d := 0) hq, rfl⟩
theorem xo_or (p : Nat) : xo p = 120 ∨ xo p = 88 := by unfold xo; split <;> simp
theorem flat_filter {α β : Type} (n : Nat) (L : Nat → List α) (p : α → Bool) (f : α → β) : ((((List.range n).map L).flatten).filter p).map f = ((List.range n).map fun q => ((L q).filter p).map f).flatten := by
  rw [List.filter_flatten, List.map_flatten, List.map_map, List.map_map]
  rfl
theorem due_up {lows hs : List Nat} (gl : Grow lows) (gh : Grow hs) (t : Nat) :
    ((ups lows hs hs.length).filter fun r => Txt.lower r.1 == Txt.lower (tx (List.replicate (t + 2) 46 ++ [120]))).map (·.2) = dueUp lows hs t := by
  have h1 : ((ups lows hs hs.length).filter fun r => Txt.lower r.1 == Txt.lower (tx (List.replicate (t + 2) 46 ++ [120]))).map (·.2) = (((List.range hs.length).map fun q => (List.range lows.length).filter fun k => decide (lows.getD k 0 + hs.getD q 0 = t)).flatten).map fun k => tx [97 + k] := by
    unfold ups
    rw [flat_filter, List.map_flatten, List.map_map]
    congr 1
    refine List.map_congr_left fun q uu => ?_
    unfold lets
    rw [List.map_map, List.filter_map, List.map_map]
    show _ = List.map _ (List.filter _ _)
    congr 1
    refine List.filter_congr fun k uu => ?_
    show (Txt.lower (tx (List.replicate (lows.getD k 0 + 2 + hs.getD q 0) 46 ++ [xo q])) == Txt.lower (tx (List.replicate (t + 2) 46 ++ [120]))) = _
    rw [lower_name _ _ (xo_or q), lower_name _ _ (.inl rfl), dots_beq, decide_eq_decide]
    simp +arith only
  rw [h1]
  have h2 : dueUp lows hs t = (((List.range lows.length).filter fun i => (nv hs).contains ((t : Int) - (lows.getD (lows.length - 1 - i) 0 : Nat))).map fun i => lows.length - 1 - i).map fun k => tx [97 + k] := by
    unfold dueUp
    rw [List.map_map]; rfl
  rw [h2]
  congr 1
  refine sorted_ext (R := fun a b => a > b) (fun a b h h' => by exact absurd (Nat.add_le_add h h') (by simp +arith)) ?_ ?_ fun x => ?_
  · rw [List.pairwise_flatten]
    refine ⟨fun l hl => ?_, ?_⟩
    · obtain ⟨q, _, rfl⟩ := List.mem_map.mp hl
      refine (List.Pairwise.filter _ List.pairwise_lt_range).imp_of_mem fun {a b} ha hb hab => ?_
      have a1 := of_decide_eq_true (List.mem_filter.mp ha).2
      have b1 := of_decide_eq_true (List.mem_filter.mp hb).2
      have a2 := List.mem_range.mp (List.mem_filter.mp ha).1
      have b2 := List.mem_range.mp (List.mem_filter.mp hb).1
      have := gl.inj a2 b2 (by (clear b2 a2 hab hb ha hl h2 h1 gh gl; lia))
      exact Nat.not_le.mp fun hn => absurd (Nat.add_le_add hab (Nat.le_of_eq this.symm)) (by simp +arith)
    · rw [List.pairwise_map]
      refine List.pairwise_lt_range.imp_of_mem fun {q q'} hq hq' hqq x hx y hy => ?_
      have x1 := of_decide_eq_true (List.mem_filter.mp hx).2
      have y1 := of_decide_eq_true (List.mem_filter.mp hy).2
      have x2 := List.mem_range.mp (List.mem_filter.mp hx).1
      have y2 := List.mem_range.mp (List.mem_filter.mp hy).1
      have := gh q q' hqq (List.mem_range.mp hq')
      exact gl.lt y2 x2 (by exact Nat.not_le.mp fun hn => absurd (Nat.add_le_add (Nat.le_of_eq x1.symm) (Nat.add_le_add (Nat.le_of_eq y1) (Nat.add_le_add this hn))) (by simp +arith))
  · rw [List.pairwise_map]
    refine (List.Pairwise.filter _ List.pairwise_lt_range).imp_of_mem fun {a b} ha hb hab => ?_
    have a2 := List.mem_range.mp (List.mem_filter.mp ha).1
    have b2 := List.mem_range.mp (List.mem_filter.mp hb).1
    exact Nat.not_le.mp fun hn => (Nat.le_total b (lows.length - 1)).elim (fun hs2 => absurd (Nat.add_le_add hab (Nat.add_le_add hn (Nat.add_le_add (Nat.le_of_eq (Nat.sub_add_cancel (show a ≤ lows.length - 1 from Nat.not_lt.mp fun hn => absurd (Nat.add_le_add hab (Nat.add_le_add b2 (Nat.add_le_add (Nat.le_of_eq (Nat.sub_add_cancel (show 1 ≤ lows.length from Nat.not_lt.mp fun hn => absurd (Nat.add_le_add hab (Nat.add_le_add b2 hn)) (by simp +arith))).symm) hn))) (by simp +arith))).symm) (Nat.le_of_eq (Nat.sub_add_cancel hs2))))) (by simp +arith)) (fun hs2 => absurd (Nat.add_le_add hab (Nat.add_le_add b2 (Nat.add_le_add hn (Nat.add_le_add (Nat.le_of_eq (Nat.sub_add_cancel (show 1 ≤ lows.length from Nat.not_lt.mp fun hn => absurd (Nat.add_le_add hab (Nat.add_le_add b2 hn)) (by simp +arith))).symm) (Nat.add_le_add (Nat.le_of_eq (Nat.sub_add_cancel (show a ≤ lows.length - 1 from Nat.not_lt.mp fun hn => absurd (Nat.add_le_add hab (Nat.add_le_add b2 (Nat.add_le_add (Nat.le_of_eq (Nat.sub_add_cancel (show 1 ≤ lows.length from Nat.not_lt.mp fun hn => absurd (Nat.add_le_add hab (Nat.add_le_add b2 hn)) (by simp +arith))).symm) hn))) (by simp +arith))).symm) (Nat.le_of_eq (Nat.sub_eq_zero_of_le hs2))))))) (by simp +arith))
  · rw [List.mem_flatten, List.mem_map]
    constructor
    · rintro ⟨l, hl, hx⟩
      obtain ⟨q, hq, rfl⟩ := List.mem_map.mp hl
      have x1 := of_decide_eq_true (List.mem_filter.mp hx).2
      have x2 := List.mem_range.mp (List.mem_filter.mp hx).1
      refine ⟨lows.length - 1 - x, List.mem_filter.mpr ⟨List.mem_range.mpr (by exact Nat.not_le.mp fun hn => (Nat.le_total x (lows.length - 1)).elim (fun hs2 => absurd (Nat.add_le_add hn (Nat.add_le_add (Nat.le_of_eq (Nat.sub_add_cancel (show 1 ≤ lows.length from Nat.not_lt.mp fun hn => absurd (Nat.add_le_add x2 hn) (by simp +arith)))) (Nat.le_of_eq (Nat.sub_add_cancel hs2)))) (by simp +arith)) (fun hs2 => absurd (Nat.add_le_add x2 (Nat.add_le_add hn (Nat.le_of_eq (Nat.sub_eq_zero_of_le hs2)))) (by simp +arith))), ?_⟩, by exact Nat.le_antisymm (Nat.not_lt.mp fun hn => (Nat.le_total (lows.length - 1 - x) (lows.length - 1)).elim (fun hs2 => absurd (Nat.add_le_add hn (Nat.add_le_add (Nat.le_of_eq (Nat.sub_add_cancel (show x ≤ lows.length - 1 from Nat.not_lt.mp fun hn => absurd (Nat.add_le_add x2 (Nat.add_le_add (Nat.le_of_eq (Nat.sub_add_cancel (show 1 ≤ lows.length from Nat.not_lt.mp fun hn => absurd (Nat.add_le_add x2 hn) (by simp +arith))).symm) hn)) (by simp +arith))).symm) (Nat.le_of_eq (Nat.sub_add_cancel hs2)))) (by simp +arith)) (fun hs2 => absurd (Nat.add_le_add hn (Nat.le_of_eq (Nat.sub_eq_zero_of_le hs2))) (by simp +arith))) (Nat.not_lt.mp fun hn => (Nat.le_total (lows.length - 1 - x) (lows.length - 1)).elim (fun hs2 => absurd (Nat.add_le_add hn (Nat.add_le_add (Nat.le_of_eq (Nat.sub_add_cancel (show x ≤ lows.length - 1 from Nat.not_lt.mp fun hn => absurd (Nat.add_le_add x2 (Nat.add_le_add (Nat.le_of_eq (Nat.sub_add_cancel (show 1 ≤ lows.length from Nat.not_lt.mp fun hn => absurd (Nat.add_le_add x2 (Nat.add_le_add hn hn)) (by simp +arith))).symm) hn)) (by simp +arith)))) (Nat.le_of_eq (Nat.sub_add_cancel hs2).symm))) (by simp +arith)) (fun hs2 => absurd (Nat.add_le_add hn (Nat.add_le_add (Nat.le_of_eq (Nat.sub_add_cancel (show x ≤ lows.length - 1 from Nat.not_lt.mp fun hn => absurd (Nat.add_le_add x2 (Nat.add_le_add (Nat.le_of_eq (Nat.sub_add_cancel (show 1 ≤ lows.length from Nat.not_lt.mp fun hn => absurd (Nat.add_le_add x2 (Nat.add_le_add hn hn)) (by simp +arith))).symm) hn)) (by simp +arith)))) hs2)) (by simp +arith)))⟩
      rw [contains_nv]
      refine ⟨q, List.mem_range.mp hq, ?_⟩
      have e : lows.length - 1 - (lows.length - 1 - x) = x := by exact Nat.le_antisymm (Nat.not_lt.mp fun hn => (Nat.le_total (lows.length - 1 - x) (lows.length - 1)).elim (fun hs2 => absurd (Nat.add_le_add hn (Nat.add_le_add (Nat.le_of_eq (Nat.sub_add_cancel (show x ≤ lows.length - 1 from Nat.not_lt.mp fun hn => absurd (Nat.add_le_add x2 (Nat.add_le_add (Nat.le_of_eq (Nat.sub_add_cancel (show 1 ≤ lows.length from Nat.not_lt.mp fun hn => absurd (Nat.add_le_add x2 hn) (by simp +arith))).symm) hn)) (by simp +arith))).symm) (Nat.le_of_eq (Nat.sub_add_cancel hs2)))) (by simp +arith)) (fun hs2 => absurd (Nat.add_le_add hn (Nat.le_of_eq (Nat.sub_eq_zero_of_le hs2))) (by simp +arith))) (Nat.not_lt.mp fun hn => (Nat.le_total (lows.length - 1 - x) (lows.length - 1)).elim (fun hs2 => absurd (Nat.add_le_add hn (Nat.add_le_add (Nat.le_of_eq (Nat.sub_add_cancel (show x ≤ lows.length - 1 from Nat.not_lt.mp fun hn => absurd (Nat.add_le_add x2 (Nat.add_le_add (Nat.le_of_eq (Nat.sub_add_cancel (show 1 ≤ lows.length from Nat.not_lt.mp fun hn => absurd (Nat.add_le_add x2 (Nat.add_le_add hn hn)) (by simp +arith))).symm) hn)) (by simp +arith)))) (Nat.le_of_eq (Nat.sub_add_cancel hs2).symm))) (by simp +arith)) (fun hs2 => absurd (Nat.add_le_add hn (Nat.add_le_add (Nat.le_of_eq (Nat.sub_add_cancel (show x ≤ lows.length - 1 from Nat.not_lt.mp fun hn => absurd (Nat.add_le_add x2 (Nat.add_le_add (Nat.le_of_eq (Nat.sub_add_cancel (show 1 ≤ lows.length from Nat.not_lt.mp fun hn => absurd (Nat.add_le_add x2 (Nat.add_le_add hn hn)) (by simp +arith))).symm) hn)) (by simp +arith)))) hs2)) (by simp +arith)))
      rw [e]; exact Int.le_antisymm (Int.not_lt.mp fun hn => absurd (Int.add_le_add (Int.ofNat_le.mpr (Nat.le_of_eq x1)) (Int.add_one_le_of_lt hn)) (by simp +arith)) (Int.not_lt.mp fun hn => absurd (Int.add_le_add (Int.ofNat_le.mpr (Nat.le_of_eq x1.symm)) (Int.add_one_le_of_lt hn)) (by simp +arith))
    · rintro ⟨i, hi, rfl⟩
      have i2 := List.mem_range.mp (List.mem_filter.mp hi).1
      obtain ⟨q, hq, e⟩ := (contains_nv _ _).mp (List.mem_filter.mp hi).2
      refine ⟨_, List.mem_map.mpr ⟨q, List.mem_range.mpr hq, rfl⟩, List.mem_filter.mpr ⟨List.mem_range.mpr (by exact Nat.not_le.mp fun hn => (Nat.le_total i (lows.length - 1)).elim (fun hs2 => absurd (Nat.add_le_add hn (Nat.add_le_add (Nat.le_of_eq (Nat.sub_add_cancel (show 1 ≤ lows.length from Nat.not_lt.mp fun hn => absurd (Nat.add_le_add i2 hn) (by simp +arith)))) (Nat.le_of_eq (Nat.sub_add_cancel hs2)))) (by simp +arith)) (fun hs2 => absurd (Nat.add_le_add i2 (Nat.add_le_add hn (Nat.le_of_eq (Nat.sub_eq_zero_of_le hs2)))) (by simp +arith))), decide_eq_true ?_⟩⟩
      exact Nat.le_antisymm (Nat.not_lt.mp fun hn => absurd (Int.add_le_add (Int.le_of_eq e) (Int.ofNat_le.mpr (Nat.succ_le_of_lt hn))) (by simp +arith)) (Nat.not_lt.mp fun hn => absurd (Int.add_le_add (Int.le_of_eq e.symm) (Int.ofNat_le.mpr (Nat.succ_le_of_lt hn))) (by simp +arith))
theorem due_iff {lo h i H : Nat} (hq : h ≤ H) : (lo - h = i - H ∧ H - (h - lo) = min H i) ↔ ((lo : Int) - (h : Int) = (i : Int) - (H : Int)) := by
  rcases Nat.le_total h lo with k | k
  · obtain ⟨m, rfl⟩ := Nat.le.dest k
    rw [Nat.add_sub_cancel_left, Nat.sub_eq_zero_of_le (Nat.le_add_right _ _), Nat.sub_zero]
    constructor
    · rintro ⟨e1, e2⟩
      have h1 : H ≤ i := by rw [e2]; exact Nat.min_le_right _ _
      obtain ⟨n, rfl⟩ := Nat.le.dest h1
      rw [Nat.add_sub_cancel_left] at e1
      subst e1
      rw [Int.natCast_add, Int.natCast_add, Int.add_comm (h : Int), Int.add_comm (H : Int), Int.add_sub_cancel, Int.add_sub_cancel]
    · intro e
      have : i = H + m := by lia
      subst this
      exact ⟨(Nat.add_sub_cancel_left _ _).symm, (Nat.min_eq_left (Nat.le_add_right _ _)).symm⟩
  · obtain ⟨m, rfl⟩ := Nat.le.dest k
    rw [Nat.add_sub_cancel_left, Nat.sub_eq_zero_of_le (Nat.le_add_right _ _)]
    constructor
    · rintro ⟨e1, e2⟩
      have h1 : i ≤ H := Nat.le_of_sub_eq_zero e1.symm
      rw [Nat.min_eq_right h1] at e2
      clear e1 k h1
      lia
    · intro e
      have : H = i + m := by lia
      subst this
      exact ⟨(Nat.sub_eq_zero_of_le (Nat.le_add_right _ _)).symm, by rw [Nat.add_sub_cancel, Nat.min_eq_right (Nat.le_add_right _ _)]⟩
theorem due_dn {lows hs : List Nat} (gl : Grow lows) (gh : Grow hs) (i : Nat) :
    ((dns lows hs hs.length).filter fun r => Txt.lower r.1 == Txt.lower (tx (padc 88 (i - hs.getD (hs.length - 1) 0) (min (hs.getD (hs.length - 1) 0) i)))).map (·.2) = dueDn lows hs ((i : Int) - (hs.getD (hs.length - 1) 0 : Nat)) := by
  have hle : ∀ q, q < hs.length → hs.getD q 0 ≤ hs.getD (hs.length - 1) 0 := fun q hq => by
    by_cases e : q = hs.length - 1
    · rw [← e]; exact Nat.le_refl _
    · exact Nat.le_of_lt (gh q (hs.length - 1) (by exact Nat.not_le.mp fun hn => (Nat.lt_or_gt_of_ne e).elim (fun hd2 => absurd (Nat.add_le_add hn hd2) (by simp +arith)) (fun hd2 => absurd (Nat.add_le_add hq (Nat.add_le_add (Nat.le_of_eq (Nat.sub_add_cancel (show 1 ≤ hs.length from Nat.not_lt.mp fun hn => absurd (Nat.add_le_add hq hn) (by simp +arith))).symm) hd2)) (by simp +arith))) (by exact Nat.sub_lt (Nat.lt_of_le_of_lt (Nat.zero_le _) hq) (by decide)))
  have h1 : ((dns lows hs hs.length).filter fun r => Txt.lower r.1 == Txt.lower (tx (padc 88 (i - hs.getD (hs.length - 1) 0) (min (hs.getD (hs.length - 1) 0) i)))).map (·.2) = (((List.range hs.length).map fun q => (List.range lows.length).filter fun k => decide (((lows.getD k 0 : Nat) : Int) - (hs.getD q 0 : Nat) = (i : Int) - (hs.getD (hs.length - 1) 0 : Nat))).flatten).map fun k => tx [97 + k] := by
    unfold dns
    rw [flat_filter, List.map_flatten, List.map_map]
    congr 1
    refine List.map_congr_left fun q hq => ?_
    have hq2 := hle q (List.mem_range.mp hq)
    unfold lets
    rw [List.map_map, List.filter_map, List.map_map]
    show _ = List.map _ (List.filter _ _)
    congr 1
    refine List.filter_congr fun k uu => ?_
    show (Txt.lower (tx (padc (xo q) (lows.getD k 0 - hs.getD q 0) (hs.getD (hs.length - 1) 0 - (hs.getD q 0 - lows.getD k 0)))) == Txt.lower (tx (padc 88 (i - hs.getD (hs.length - 1) 0) (min (hs.getD (hs.length - 1) 0) i)))) = _
    rw [lower_pad _ _ _ (xo_or q), lower_pad _ _ _ (.inr rfl)]
    show (tx (pad _ _) == tx (pad _ _)) = _
    rw [pad_beq, decide_eq_decide]
    exact due_iff hq2
  rw [h1]
  unfold dueDn
  congr 1
  refine sorted_ext (R := fun a b => a < b) (fun a b h h' => by exact absurd (Nat.add_le_add h h') (by simp +arith)) ?_ ?_ fun x => ?_
  · rw [List.pairwise_flatten]
    refine ⟨fun l hl => ?_, ?_⟩
    · obtain ⟨q, _, rfl⟩ := List.mem_map.mp hl
      exact List.Pairwise.filter _ List.pairwise_lt_range
    · rw [List.pairwise_map]
      refine List.pairwise_lt_range.imp_of_mem fun {q q'} hq hq' hqq x hx y hy => ?_
      have x1 := of_decide_eq_true (List.mem_filter.mp hx).2
      have y1 := of_decide_eq_true (List.mem_filter.mp hy).2
      have x2 := List.mem_range.mp (List.mem_filter.mp hx).1
      have y2 := List.mem_range.mp (List.mem_filter.mp hy).1
      have := gh q q' hqq (List.mem_range.mp hq')
      exact gl.lt x2 y2 (by exact Nat.not_le.mp fun hn => absurd (Int.add_le_add (Int.le_of_eq x1) (Int.add_le_add (Int.le_of_eq y1.symm) (Int.add_le_add (Int.ofNat_le.mpr (Nat.succ_le_of_lt this)) (Int.ofNat_le.mpr hn)))) (by simp +arith))
  · exact List.Pairwise.filter _ List.pairwise_lt_range
  · rw [List.mem_flatten]
    constructor
    · rintro ⟨l, hl, hx⟩
      obtain ⟨q, hq, rfl⟩ := List.mem_map.mp hl
      have x1 := of_decide_eq_true (List.mem_filter.mp hx).2
      refine List.mem_filter.mpr ⟨(List.mem_filter.mp hx).1, ?_⟩
      rw [contains_nv]
      exact ⟨q, List.mem_range.mp hq, by exact Int.le_antisymm (Int.not_lt.mp fun hn => absurd (Int.add_le_add (Int.le_of_eq x1.symm) (Int.add_one_le_of_lt hn)) (by simp +arith)) (Int.not_lt.mp fun hn => absurd (Int.add_le_add (Int.le_of_eq x1) (Int.add_one_le_of_lt hn)) (by simp +arith))⟩
    · intro hx
      obtain ⟨q, hq, e⟩ := (contains_nv _ _).mp (List.mem_filter.mp hx).2
      exact ⟨_, List.mem_map.mpr ⟨q, List.mem_range.mpr hq, rfl⟩, List.mem_filter.mpr ⟨(List.mem_filter.mp hx).1, decide_eq_true (by exact Int.le_antisymm (Int.not_lt.mp fun hn => absurd (Int.add_le_add (Int.le_of_eq e.symm) (Int.add_one_le_of_lt hn)) (by simp +arith)) (Int.not_lt.mp fun hn => absurd (Int.add_le_add (Int.le_of_eq e) (Int.add_one_le_of_lt hn)) (by simp +arith)))⟩⟩
end
section
open PySem PySem.W PySem.Calls PyProof PyProof.Rows PySem.SeqAt
noncomputable def RulersOK : Prop := ∀ p : List Int, p.length = 3 → (∀ x ∈ p, x ∈ tabN) → ∃ l, told p = nv l ∧ Ruler l
theorem law_body (HM : MarksRun) (HR : RulersOK) (HP : ∀ p q : List Int, p.length = 3 → (∀ x ∈ p, x ∈ tabN) → q.length = 3 → (∀ x ∈ q, x ∈ tabN) → ∀ lows hs, told p = nv lows → told q = nv hs → PlainOK lows hs) {c : Cx} {L : Addr} {out : List Addr} {k : Nat} (hk : 5 ≤ k) (hfr : (CL c L out k).A.frames = some [(CL c L out k).env]) (ns : List Int) (hn : ns.length ≤ sizeLine) :
    WS (CL c L out k) (sBody (topS 23)) [("script", .list (ns.map .int))] [] (RetQ fun Z => Z = .bool true) := by
  refine WS_cons ?_
  walk_at "v"
  refine WE_call (x := "_law_sums") (.ref 224) kp224 (fun uu h => WE_glob (v := .ref 224) (X := .stat (.ref 224)) rfl (fun w => rfl) (fun uu uu uu => rfl) h) ?_
  walk_at "v"
  refine (sums_run ns hn _ _ _ (by show 1 ≤ k; exact Nat.le_trans (Nat.le_add_left _ _) hk)).mono fun X hX => ?_
  obtain ⟨is, h6, hb, rfl⟩ := hX
  refine WS_cons ?_
  refine W1_assignCompF (cl := []) rfl (by with_unfolding_all rfl) (by walk_at "ck") [] (by walk_at "cap") ?_
  walk_at "v"
  refine ⟨_, src_list (.inl ⟨_, _, rfl⟩), by rw [List.length_map, h6]; decide, fun i => true, fun i => .int (szOf (is.getD i 0)), ?_, ?_⟩
  · intro C h₀ o i Y hY
    obtain ⟨hi, rfl⟩ := map_at (d := 0) hY
    have h1 := Int.fmod_nonneg_of_pos (is.getD i 0) (b := 10) (by decide)
    have h2 := Int.fmod_lt_of_pos (is.getD i 0) (b := 10) (by decide)
    walk_at "v"
    refine ⟨sub.one rfl (.refl _), ?_⟩
    walk_at "v"
    refine ⟨rfl, fun uu => ?_⟩
    walk_at "v"
    refine O2_itemI (is := tabN) (.inl rfl) h1 (by show _ < (10 : Int); exact h2) (by exact Int.lt_trans h2 (by decide)) ?_
    rfl
  have es : picks (is.map V.int).length (fun uu => true) (fun i => V.int (szOf (is.getD i 0))) = (is.map szOf).map V.int := by
    rw [List.length_map, picks_list is 0 (fun uu => true) (fun n => V.int (szOf n)), List.filter_eq_self.mpr fun uu uu => rfl, List.map_map]; rfl
  rw [es]
  have hz6 : (is.map szOf).length = 6 := by rw [List.length_map, h6]
  have hzm : ∀ x ∈ is.map szOf, x ∈ tabN := fun x hx => by
    obtain ⟨n, _, rfl⟩ := List.mem_map.mp hx
    exact szOf_mem n
  have his : 0 ≤ is.getD 0 0 ∧ is.getD 0 0 ≤ 100000000 := hb _ (getD_in (d := 0) (by exact Nat.not_le.mp fun hn => absurd (Nat.add_le_add (Nat.le_of_eq h6.symm) hn) (by simp +arith)))
  generalize hzs : is.map szOf = zs at *
  refine WS_cons (W1_assignM (by walk_at "stb") ?_)
  walk_at "v"
  intro r
  have p1 : (zs.take 3).length = 3 := by rw [List.length_take, hz6]; rfl
  have p2 : (zs.drop 3).length = 3 := by rw [List.length_drop, hz6]
  have m1 : ∀ x ∈ zs.take 3, x ∈ tabN := fun x hx => hzm x (List.mem_of_mem_take hx)
  have m2 : ∀ x ∈ zs.drop 3, x ∈ tabN := fun x hx => hzm x (List.mem_of_mem_drop hx)
  obtain ⟨lows, el, rl⟩ := HR _ p1 m1
  obtain ⟨hs, eh, rh⟩ := HR _ p2 m2
  refine WS_join [("rulers", .mu r), ("sums", .list (is.map .int))] [(r, [.list ((nv lows).map .int), .list ((nv hs).map .int)])] (W1_for ?_) ?_
  · refine WE_list ?_
    refine WL_cons ?_
    refine WE_sliceL ?_
    walk_at "v"
    refine ⟨_, .inl rfl, by rw [List.length_map, hz6]; decide, ?_⟩
    walk_at "v"
    refine ⟨_, .none, ?_⟩
    walk_at "v"
    refine ⟨_, .int _, ?_⟩
    rw [pickV_map, show ((3 : Int)) = ((3 : Nat) : Int) from rfl, pickV_upto]
    refine WL_cons ?_
    refine WE_sliceL ?_
    walk_at "v"
    refine ⟨_, .inl rfl, by rw [List.length_map, hz6]; decide, ?_⟩
    walk_at "v"
    refine ⟨_, .int _, ?_⟩
    walk_at "v"
    refine ⟨_, .none, ?_⟩
    rw [pickV_map, pickV_from]
    walk_at "v"
    refine ⟨_, show SrcOf _ _ _ ([zs.take 3, zs.drop 3].map fun p => V.list (p.map .int)) from src_list (.inl ⟨_, _, rfl⟩), fun i ρ' σ' => σ' = [(r, ([zs.take 3, zs.drop 3].take i).map fun p => V.list ((told p).map .int))] ∧ sub [("rulers", .mu r), ("sums", .list (is.map .int))] ρ', ⟨rfl, by walk_at "sub"⟩, fun o i Y ρ' σ' hY hJ => ?_, fun ρ' σ' hJ => ?_⟩
    · obtain ⟨rfl, hs'⟩ := hJ
      obtain ⟨hi, rfl⟩ := map_at (d := []) hY
      have hm : [zs.take 3, zs.drop 3].getD i [] ∈ [zs.take 3, zs.drop 3] := getD_in (d := []) hi
      have facts : ∀ p ∈ [zs.take 3, zs.drop 3], p.length = 3 ∧ ∀ x ∈ p, x ∈ tabN := fun p h => by
        rcases List.mem_cons.mp h with rfl | h
        · exact ⟨p1, m1⟩
        · rcases List.mem_cons.mp h with rfl | h
          · exact ⟨p2, m2⟩
          · cases h
      obtain ⟨hp, hpm⟩ := facts _ hm
      have hsn := take_snoc [zs.take 3, zs.drop 3] [] i hi
      generalize [zs.take 3, zs.drop 3].getD i [] = p at *
      have hpb : ∀ x ∈ p, 0 ≤ x ∧ x ≤ 1000 := fun x hx => by
        have := hpm x hx
        have hall : ∀ y ∈ tabN, 0 ≤ y ∧ y ≤ 1000 := by decide
        exact hall x this
      refine WAs.less ?_ hs'
      refine WAs_name (by walk_at "stb") ?_
      refine WS_cons ?_
      refine W1_assignTC ?_
      refine WEC_call (.ref 231) kp231 rfl (fun uu h => WE_glob (v := .ref 231) (X := .stat (.ref 231)) rfl (fun w => rfl) (fun uu uu uu => rfl) h) ?_
      walk_at "v"
      rintro s vs R ⟨v, _, rfl, z, rfl⟩
      refine wpAny_mono (HM p hp hpm (by show 4 ≤ k; exact Nat.le_of_succ_le hk) R z hfr (ff_own (c := (CL c L out k).up o) R rfl) (fad_own (c := (CL c L out k).up o) rfl (.head _)) (fad_h (c := (CL c L out k).up o) R.ok rfl)) (fun u s' ⟨Z, hZ, kc, ez⟩ => ⟨Z, hZ, kc, ?_⟩) fun uu uu x => x
      subst ez
      refine WAs_unpack (.inr rfl) rfl rfl ?_
      refine WAss_cons ?_
      walk_at "v"
      refine WAss_cons ?_
      walk_at "v"
      refine WAss_nil ?_
      refine WS_cons ?_
      refine W1_if ?_
      walk_at "v"
      refine O2_itemI (.inl rfl) (by decide) (by rw [hp]; decide) (by decide) ?_
      walk_at "v"
      rw [show ((p.getD 0 0 == 0) != (p.getD (Int.toNat 0) 0 == 0)) = false from bne_self_eq_false _]
      refine ite_f (A := ?_) ?_
      walk_at "v"
      refine WE_call (x := "_law_told") (.ref 236) kp236 (fun uu h => WE_glob (v := .ref 236) (X := .stat (.ref 236)) rfl (fun w => rfl) (fun uu uu uu => rfl) h) ?_
      walk_at "v"
      refine (told_run p hp hpb _ _ _ (by show 1 ≤ k; exact Nat.le_trans (Nat.le_add_left _ _) hk)).mono fun X hX => ?_
      subst hX
      refine O2_ne_list (b := true) .list .list ?_ ?_
      · have := LEq.ints (told p) (told p)
        rw [beq_self_eq_true] at this
        exact this
      refine Bo.mk ?_
      refine ite_f (A := ?_) ?_
      walk_at "v"
      refine ⟨r, _, rfl, .head _, ?_⟩
      walk_at "v"
      refine ⟨_, ?_, .head, ?_⟩
      · rw [List.length_map, List.length_take]
        have hi2 : i < 2 := hi
        show min i 2 ≤ _
        unfold sizeLine; exact Nat.not_lt.mp fun hn => absurd (Nat.add_le_add hn (Nat.min_le_right i 2)) (by simp +arith)
      walk_at "v"
      refine ⟨?_, by walk_at "sub"⟩
      rw [hsn, List.map_append]; rfl
    · obtain ⟨rfl, hs'⟩ := hJ
      refine ⟨rfl, ?_, hs'⟩
      show [(r, [V.list ((told (zs.take 3)).map .int), V.list ((told (zs.drop 3)).map .int)])] = _
      rw [el, eh]
  refine WS_freeze (ρ' := [("rulers", .list [.list ((nv lows).map .int), .list ((nv hs).map .int)]), ("sums", .list (is.map .int))]) (.cons rfl (.inr (.inl ⟨rfl, rfl⟩)) (.cons rfl (.inl rfl) .nil)) ?_
  refine WS_cons ?_
  walk_at "v"
  refine WAs_unpack (.inl rfl) rfl rfl ?_
  refine WAss_cons ?_
  walk_at "v"
  refine WAss_cons ?_
  walk_at "v"
  refine WAss_nil ?_
  refine WS_cons ?_
  walk_at "v"
  refine WE_call (x := "_law_tables") (.ref 241) kp241 (fun uu h => WE_glob (v := .ref 241) (X := .stat (.ref 241)) rfl (fun w => rfl) (fun uu uu uu => rfl) h) ?_
  walk_at "v"
  refine O2_itemI (.inl rfl) (by decide) (by rw [h6]; decide) (by decide) ?_
  walk_at "v"
  refine O2_div_int (by decide) (PyProof.noPylong_small (by exact Nat.le_add_left _ _)) ?_
  walk_at "v"
  have hj0 := Int.fmod_nonneg_of_pos ((is.getD (Int.toNat 0) 0).fdiv 10) (b := 3) (by decide)
  have hj3 := Int.fmod_lt_of_pos ((is.getD (Int.toNat 0) 0).fdiv 10) (b := 3) (by decide)
  generalize ((is.getD (Int.toNat 0) 0).fdiv 10).fmod 3 = j at *
  obtain ⟨e, he, hz⟩ : ∃ e, IsEnd e ∧ [V.lit (Str.ofString "\n"), .lit (Str.ofString "\r"), .lit (Str.ofString "\r\n")][j.toNat]? = some (.lit (tx e)) := by
    have : j = 0 ∨ j = 1 ∨ j = 2 := by (clear rh eh rl el m2 m1 p2 p1 hzm hz6 es hzs his hb h6 hn hfr hk HP HR HM; lia)
    rcases this with rfl | rfl | rfl
    · exact ⟨[10], .inl rfl, rfl⟩
    · exact ⟨[13], .inr (.inl rfl), rfl⟩
    · exact ⟨[13, 10], .inr (.inr rfl), rfl⟩
  refine O2_item (.inl rfl) hj0 (by exact Int.lt_trans hj3 (by decide)) hz ?_
  walk_at "v"
  refine (tables_run lows hs e he rl.pos rl.le4 rh.pos rh.le4 rl.bd rh.bd rh.mono rh.zero _ _ _ (by show 5 ≤ k; exact hk)).mono fun X hX => ?_
  subst hX
  refine WAs_unpack (.inr rfl) rfl rfl ?_
  refine WAss_cons ?_
  walk_at "v"
  refine WAss_cons ?_
  walk_at "v"
  refine WAss_nil ?_
  refine WS_keep [("up", .hdrP ((ups lows hs hs.length).map rowV)), ("down", .hdrP ((dns lows hs hs.length).map rowV)), ("low", .list ((nv lows).map .int)), ("high", .list ((nv hs).map .int)), ("rulers", .list [.list ((nv lows).map .int), .list ((nv hs).map .int)])] (by walk_at "sub") ?_
  exact law_tail rl rh (HP _ _ p1 m1 p2 m2 lows hs el eh) he hk hfr
end
section
open PySem PySem.W PySem.Calls PyProof PyProof.Rows PySem.SeqAt
noncomputable def lastOf (l : List Nat) : Nat := l.getD (l.length - 1) 0
noncomputable def okSteps (st : List Nat) : Bool :=
  let l := mkm st 0
  Nat.beq l.length (st.length + 1) && Nat.ble l.length 4 && (l.all fun v => Nat.ble v 12) && Nat.beq (l.getD 0 0) 0 &&
  ((List.range 4).all fun i => (List.range 4).all fun j => !(Nat.blt i j && Nat.blt j l.length) || Nat.blt (l.getD i 0) (l.getD j 0)) &&
  (stepsI l == nv st) && (mkm st.reverse 0 == (l.map fun v => lastOf l - v).reverse) && steps3.contains st.reverse
theorem ok_all : (steps3.all okSteps) = true := by decide +kernel
structure St (st : List Nat) : Prop where
  len : (mkm st 0).length = st.length + 1
  le4 : (mkm st 0).length ≤ 4
  bd : ∀ v ∈ mkm st 0, v ≤ 12
  zero : (mkm st 0).getD 0 0 = 0
  grow : Grow (mkm st 0)
  steps : stepsI (mkm st 0) = nv st
  rev : mkm st.reverse 0 = ((mkm st 0).map fun v => lastOf (mkm st 0) - v).reverse
  rmem : st.reverse ∈ steps3
theorem st_of {st : List Nat} (h : st ∈ steps3) : St st := by
  have h1 := List.all_eq_true.mp ok_all st h
  unfold okSteps at h1
  simp only [Bool.and_eq_true] at h1
  obtain ⟨⟨⟨⟨⟨⟨⟨a1, a2⟩, a3⟩, a4⟩, a5⟩, a6⟩, a7⟩, a8⟩ := h1
  have e2 := Nat.le_of_ble_eq_true a2
  refine ⟨Nat.eq_of_beq_eq_true a1, e2, fun v hv => Nat.le_of_ble_eq_true (List.all_eq_true.mp a3 v hv), Nat.eq_of_beq_eq_true a4, fun i j hij hj => ?_, eq_of_beq a6, eq_of_beq a7, List.contains_iff_mem.mp a8⟩
  have := List.all_eq_true.mp (List.all_eq_true.mp a5 i (List.mem_range.mpr (by exact Nat.not_le.mp fun hn => absurd (Nat.add_le_add e2 (Nat.add_le_add hij (Nat.add_le_add hj hn))) (by simp +arith)))) j (List.mem_range.mpr (by exact Nat.lt_of_lt_of_le hj e2))
  have t1 : Nat.blt i j = true := by rw [Nat.blt_eq]; exact hij
  have t2 : Nat.blt j (mkm st 0).length = true := by rw [Nat.blt_eq]; exact hj
  rw [t1, t2] at this
  simpa [Nat.blt_eq] using this
theorem St.ruler {st : List Nat} (s : St st) : Ruler (mkm st 0) where
  pos := by rw [s.len]; exact Nat.succ_pos _
  le4 := s.le4
  bd := fun k => by
    rw [List.getD_eq_getElem?_getD]
    cases e : (mkm st 0)[k]? with
    | none => exact Nat.zero_le _
    | some v => exact Nat.le_trans (s.bd v (List.mem_of_getElem? e)) (by decide)
  mono := fun p hp => Nat.le_of_lt (s.grow p (p + 1) (Nat.lt_succ_self p) hp)
  zero := s.zero
theorem held_congr {K : Type} [DecidableEq K] {l m : List K} (h : ∀ x, x ∈ l ↔ x ∈ m) : (held l).2 = (held m).2 := by
  obtain ⟨c, h1, h2, _, h4⟩ := held_spec m
  rw [h4]
  exact held_len h1 fun x => (h2 x).trans (h x).symm
theorem held_one (l : List Nat) : (((held (nv l)).2 : Int) == 1) = evn l := by
  have key : ((held (nv l)).2 = 1) ↔ evn l = true := by
    cases l with
    | nil => simp [evn]; intro h; cases h
    | cons x r =>
      show _ ↔ r.all (Nat.beq x) = true
      rw [List.all_eq_true]
      constructor
      · intro h
        obtain ⟨c, h1, h2, _, h4⟩ := held_spec (nv (x :: r))
        rw [h4] at h
        obtain ⟨y, rfl⟩ := List.length_eq_one_iff.mp h
        intro z hz
        have hx : (x : Int) = y := List.mem_singleton.mp ((h2 x).mpr (List.mem_map.mpr ⟨x, .head _, rfl⟩))
        have hz' : (z : Int) = y := List.mem_singleton.mp ((h2 z).mpr (List.mem_map.mpr ⟨z, .tail _ hz, rfl⟩))
        have : x = z := by (clear hz h4 h2 h1 h; lia)
        rw [this]; exact Nat.beq_refl z
      · intro h
        refine held_len (c := [(x : Int)]) (by simp) fun v => ?_
        rw [List.mem_singleton, List.mem_map]
        constructor
        · rintro rfl; exact ⟨x, .head _, rfl⟩
        · rintro ⟨z, hz, rfl⟩
          rcases List.mem_cons.mp hz with q | q
          · rw [q]
          · rw [Nat.eq_of_beq_eq_true (h z q)]
  rw [Bool.eq_iff_iff, beq_iff_eq, ← key]
  (clear key; lia)
theorem even_eq {s t : List Nat} (hs : St s) (ht : St t) : evenB (mkm s 0) (mkm t 0) = (s.isEmpty || t.isEmpty || evn (s ++ t)) := by
  unfold evenB
  rw [hs.len, ht.len, hs.steps, ht.steps]
  have e1 : ((((s.length + 1 : Nat) : Int)) == 1) = s.isEmpty := by
    cases s with
    | nil => rfl
    | cons a r => rw [Bool.eq_iff_iff]; simp; simp +arith
  have e2 : ((((t.length + 1 : Nat) : Int)) == 1) = t.isEmpty := by
    cases t with
    | nil => rfl
    | cons a r => rw [Bool.eq_iff_iff]; simp; simp +arith
  have e3 : nv s ++ nv t = nv (s ++ t) := by simp
  rw [e1, e2, e3, held_one, Bool.or_assoc]
noncomputable def sumsOf (lows : List Nat) (f : Nat → Nat) (m : Nat) : List Nat := ((List.range m).map fun q => (List.range lows.length).map fun k => lows.getD k 0 + f q).flatten
theorem mem_sumsOf (lows : List Nat) (f : Nat → Nat) (m v : Nat) : v ∈ sumsOf lows f m ↔ ∃ x ∈ lows, ∃ y ∈ (List.range m).map f, x + y = v := by
  unfold sumsOf
  rw [List.mem_flatten]
  constructor
  · rintro ⟨l, hl, hv⟩
    obtain ⟨q, hq, rfl⟩ := List.mem_map.mp hl
    obtain ⟨k, hk, rfl⟩ := List.mem_map.mp hv
    exact ⟨_, getD_in (d := 0) (List.mem_range.mp hk), _, List.mem_map_of_mem hq, rfl⟩
  · rintro ⟨x, hx, y, hy, rfl⟩
    obtain ⟨q, hq, rfl⟩ := List.mem_map.mp hy
    obtain ⟨k, hk, rfl⟩ := List.mem_iff_getElem.mp hx
    refine ⟨_, List.mem_map.mpr ⟨q, hq, rfl⟩, List.mem_map.mpr ⟨k, List.mem_range.mpr hk, ?_⟩⟩
    rw [List.getD_eq_getElem?_getD, List.getElem?_eq_getElem hk]; rfl
theorem range_getD (l : List Nat) : (List.range l.length).map (fun q => l.getD q 0) = l := by
  apply List.ext_getElem?
  intro i
  rw [List.getElem?_map]
  by_cases h : i < l.length
  · rw [List.getElem?_range h, List.getElem?_eq_getElem h]
    simp [List.getD_eq_getElem?_getD, h]
  · rw [List.getElem?_eq_none (by simp; exact (Nat.not_lt.mp h)), List.getElem?_eq_none (by exact (Nat.not_lt.mp h))]; rfl
end
section
open PySem PySem.W PySem.Calls PyProof PyProof.Rows PySem.SeqAt
theorem names_up (lows hs : List Nat) (m : Nat) : ((ups lows hs m).map fun r => Txt.lower r.1) = (sumsOf lows (fun q => hs.getD q 0) m).map fun v => tx (List.replicate (v + 2) 46 ++ [120]) := by
  unfold ups sumsOf
  rw [List.map_flatten, List.map_flatten, List.map_map, List.map_map]
  congr 1
  refine List.map_congr_left fun q uu => ?_
  unfold lets
  show List.map _ (List.map _ (List.map _ _)) = List.map _ (List.map _ _)
  rw [List.map_map, List.map_map, List.map_map]
  refine List.map_congr_left fun k uu => ?_
  show Txt.lower (tx (List.replicate (lows.getD k 0 + 2 + hs.getD q 0) 46 ++ [xo q])) = tx (List.replicate (lows.getD k 0 + hs.getD q 0 + 2) 46 ++ [120])
  rw [lower_name _ _ (xo_or q)]
  congr 3
  exact Nat.add_right_comm _ _ _
theorem dn_a {lo h H : Nat} (k : h ≤ H) : lo - h = lo + (H - h) - H := by
  obtain ⟨m, rfl⟩ := Nat.le.dest k
  rw [Nat.add_sub_cancel_left, Nat.add_sub_add_right]
theorem dn_b {lo h H : Nat} (k : h ≤ H) : H - (h - lo) = min H (lo + (H - h)) := by
  obtain ⟨m, rfl⟩ := Nat.le.dest k
  rw [Nat.add_sub_cancel_left]
  rcases Nat.le_total h lo with q | q
  · rw [Nat.sub_eq_zero_of_le q, Nat.sub_zero]
    exact (Nat.min_eq_left (Nat.add_le_add_right q m)).symm
  · obtain ⟨n, rfl⟩ := Nat.le.dest q
    rw [Nat.add_sub_cancel_left, Nat.add_right_comm lo n m, Nat.add_sub_cancel]
    exact (Nat.min_eq_right (Nat.le_add_right _ _)).symm
theorem names_dn {lows hs : List Nat} (gh : Grow hs) : ((dns lows hs hs.length).map fun r => Txt.lower r.1) = (sumsOf lows (fun q => lastOf hs - hs.getD q 0) hs.length).map fun v => tx (pad (v - lastOf hs) (min (lastOf hs) v)) := by
  unfold dns sumsOf
  rw [List.map_flatten, List.map_flatten, List.map_map, List.map_map]
  congr 1
  refine List.map_congr_left fun q hq => ?_
  have hle : hs.getD q 0 ≤ lastOf hs := by
    have := List.mem_range.mp hq
    unfold lastOf
    by_cases e : q = hs.length - 1
    · rw [← e]; exact Nat.le_refl _
    · exact Nat.le_of_lt (gh q (hs.length - 1) (by exact Nat.not_le.mp fun hn => (Nat.lt_or_gt_of_ne e).elim (fun hd2 => absurd (Nat.add_le_add hn hd2) (by simp +arith)) (fun hd2 => absurd (Nat.add_le_add this (Nat.add_le_add (Nat.le_of_eq (Nat.sub_add_cancel (show 1 ≤ hs.length from Nat.not_lt.mp fun hn => absurd (Nat.add_le_add this hn) (by simp +arith))).symm) hd2)) (by simp +arith))) (by exact Nat.sub_lt (Nat.lt_of_le_of_lt (Nat.zero_le _) this) (by decide)))
  unfold lets
  show List.map _ (List.map _ (List.map _ _)) = List.map _ (List.map _ _)
  rw [List.map_map, List.map_map, List.map_map]
  refine List.map_congr_left fun k uu => ?_
  show Txt.lower (tx (padc (xo q) (lows.getD k 0 - hs.getD q 0) (lastOf hs - (hs.getD q 0 - lows.getD k 0)))) = tx (pad (lows.getD k 0 + (lastOf hs - hs.getD q 0) - lastOf hs) (min (lastOf hs) (lows.getD k 0 + (lastOf hs - hs.getD q 0))))
  rw [lower_pad _ _ _ (xo_or q)]
  show tx (pad _ _) = _
  congr 2
  · exact dn_a hle
  · exact dn_b hle
theorem chk_of {s t : List Nat} (hs : s ∈ steps3) (ht : t ∈ steps3) : s.length + t.length + 1 ≤ bits 25 (smsk (msk (mkm s 0)) (mkm t 0)) ∧ (bits 25 (smsk (msk (mkm s 0)) (mkm t 0)) == s.length + t.length + 1) = (s.isEmpty || t.isEmpty || evn (s ++ t)) := by
  have h := List.all_eq_true.mp (List.all_eq_true.mp chk_all s hs) t ht
  unfold chk at h
  dsimp only at h
  generalize bits 25 (smsk (msk (mkm s 0)) (mkm t 0)) = n at h ⊢
  rw [Bool.and_eq_true] at h
  have h2 := eq_of_beq h.2
  refine ⟨Nat.le_of_ble_eq_true h.1, ?_⟩
  rw [← h2, Bool.eq_iff_iff, beq_iff_eq, Nat.beq_eq]
theorem kinds_up {s t : List Nat} (hs : s ∈ steps3) (ht : t ∈ steps3) : (mkm s 0).length + (mkm t 0).length - 1 ≤ (held ((ups (mkm s 0) (mkm t 0) (mkm t 0).length).map fun r => Txt.lower r.1)).2 ∧
    ((held ((ups (mkm s 0) (mkm t 0) (mkm t 0).length).map fun r => Txt.lower r.1)).2 == (mkm s 0).length + (mkm t 0).length - 1) = evenB (mkm s 0) (mkm t 0) := by
  have S := st_of hs
  have T := st_of ht
  have e1 : (held ((ups (mkm s 0) (mkm t 0) (mkm t 0).length).map fun r => Txt.lower r.1)).2 = bits 25 (smsk (msk (mkm s 0)) (mkm t 0)) := by
    rw [names_up, held_map (fun v => tx (List.replicate (v + 2) 46 ++ [120])) (fun a b h => by
      have := tx_inj.mp h
      have := congrArg List.length this
      simpa using this)]
    refine count_sums (fun x hx y hy => by have := S.bd x hx; have := T.bd y hy; (clear hy hx T S ht hs; lia)) fun v => ?_
    rw [mem_sumsOf, range_getD]
  have e2 : (mkm s 0).length + (mkm t 0).length - 1 = s.length + t.length + 1 := by rw [S.len, T.len]; exact Nat.add_right_comm _ _ _
  rw [e1, e2, even_eq S T]
  exact chk_of hs ht
theorem kinds_dn {s t : List Nat} (hs : s ∈ steps3) (ht : t ∈ steps3) : (mkm s 0).length + (mkm t 0).length - 1 ≤ (held ((dns (mkm s 0) (mkm t 0) (mkm t 0).length).map fun r => Txt.lower r.1)).2 ∧
    ((held ((dns (mkm s 0) (mkm t 0) (mkm t 0).length).map fun r => Txt.lower r.1)).2 == (mkm s 0).length + (mkm t 0).length - 1) = evenB (mkm s 0) (mkm t 0) := by
  have S := st_of hs
  have T := st_of ht
  have T' := st_of T.rmem
  have e1 : (held ((dns (mkm s 0) (mkm t 0) (mkm t 0).length).map fun r => Txt.lower r.1)).2 = bits 25 (smsk (msk (mkm s 0)) (mkm t.reverse 0)) := by
    rw [names_dn T.grow, held_map (fun v => tx (pad (v - lastOf (mkm t 0)) (min (lastOf (mkm t 0)) v))) (fun a b h => by
      obtain ⟨h1, h2⟩ := pad_inj (tx_inj.mp h)
      (clear h T' T S ht hs; lia))]
    refine count_sums (fun x hx y hy => by have := S.bd x hx; have := T'.bd y hy; omega) fun v => ?_
    rw [mem_sumsOf]
    have em : ∀ y, y ∈ (List.range (mkm t 0).length).map (fun q => lastOf (mkm t 0) - (mkm t 0).getD q 0) ↔ y ∈ mkm t.reverse 0 := fun y => by
      rw [T.rev, List.mem_reverse]
      have := range_getD (mkm t 0)
      have e : ((List.range (mkm t 0).length).map fun q => lastOf (mkm t 0) - (mkm t 0).getD q 0) = ((List.range (mkm t 0).length).map fun q => (mkm t 0).getD q 0).map fun v => lastOf (mkm t 0) - v := by rw [List.map_map]; rfl
      rw [e, this]
    constructor
    · rintro ⟨x, hx, y, hy, e⟩; exact ⟨x, hx, y, (em y).mp hy, e⟩
    · rintro ⟨x, hx, y, hy, e⟩; exact ⟨x, hx, y, (em y).mpr hy, e⟩
  have e2 : (mkm s 0).length + (mkm t 0).length - 1 = s.length + t.length + 1 := by rw [S.len, T.len]; exact Nat.add_right_comm _ _ _
  have h := chk_of hs T.rmem
  rw [List.length_reverse] at h
  have e3 : (s.isEmpty || t.reverse.isEmpty || evn (s ++ t.reverse)) = (s.isEmpty || t.isEmpty || evn (s ++ t)) := by
    have er : t.reverse.isEmpty = t.isEmpty := by cases t <;> simp
    have ec : (held (nv (s ++ t.reverse))).2 = (held (nv (s ++ t))).2 := held_congr fun x => by
      rw [List.mem_map, List.mem_map]
      constructor
      · rintro ⟨z, hz, e⟩
        exact ⟨z, by rw [List.mem_append, List.mem_reverse] at hz; exact List.mem_append.mpr hz, e⟩
      · rintro ⟨z, hz, e⟩
        exact ⟨z, by rw [List.mem_append] at hz; rw [List.mem_append, List.mem_reverse]; exact hz, e⟩
    rw [er, ← held_one, ← held_one, ec]
  rw [e1, e2, even_eq S T, ← e3]
  exact h
theorem plain_ok {s t : List Nat} (hs : s ∈ steps3) (ht : t ∈ steps3) : PlainOK (mkm s 0) (mkm t 0) where
  up := fun x uu => due_up (st_of hs).grow (st_of ht).grow x
  dn := fun i uu => due_dn (st_of hs).grow (st_of ht).grow i
  kU := kinds_up hs ht
  kD := kinds_dn hs ht
noncomputable def tab6 : List Int := [0, 1, 2, 3, 4, 127]
noncomputable def stf (p : List Int) : List Nat := (cameOf p).map Int.toNat
theorem told_all : (tab6.all fun a => tab6.all fun b => tab6.all fun c => steps3.contains (stf [a, b, c]) && (told [a, b, c] == nv (mkm (stf [a, b, c]) 0))) = true := by decide +kernel
theorem told_steps (p : List Int) (hp : p.length = 3) (hm : ∀ x ∈ p, x ∈ tabN) : stf p ∈ steps3 ∧ told p = nv (mkm (stf p) 0) := by
  have h6 : ∀ x ∈ tabN, x ∈ tab6 := by decide
  match p, hp with
  | [a, b, c], _ =>
    have h := List.all_eq_true.mp (List.all_eq_true.mp (List.all_eq_true.mp told_all a (h6 a (hm a (.head _)))) b (h6 b (hm b (.tail _ (.head _))))) c (h6 c (hm c (.tail _ (.tail _ (.head _)))))
    rw [Bool.and_eq_true] at h
    exact ⟨List.contains_iff_mem.mp h.1, eq_of_beq h.2⟩
theorem nv_inj {l m : List Nat} (h : nv l = nv m) : l = m := by
  have : ∀ {l m : List Nat}, nv l = nv m → l = m := by
    intro l
    induction l with
    | nil => intro m h; cases m with
      | nil => rfl
      | cons y r => cases h
    | cons x l ih => intro m h; cases m with
      | nil => cases h
      | cons y r =>
        have h' : (x : Int) :: nv l = (y : Int) :: nv r := h
        injection h' with h1 h2
        have h3 : x = y := by (clear h2 h ih; lia)
        rw [h3, ih h2]
  exact this h
theorem rulers_ok : RulersOK := fun p hp hm => ⟨_, (told_steps p hp hm).2, (st_of (told_steps p hp hm).1).ruler⟩
theorem plains_ok : ∀ p q : List Int, p.length = 3 → (∀ x ∈ p, x ∈ tabN) → q.length = 3 → (∀ x ∈ q, x ∈ tabN) → ∀ lows hs, told p = nv lows → told q = nv hs → PlainOK lows hs := fun p q hp mp hq mq lows hs el eh => by
  obtain ⟨a1, a2⟩ := told_steps p hp mp
  obtain ⟨b1, b2⟩ := told_steps q hq mq
  obtain rfl := nv_inj (el.symm.trans a2)
  obtain rfl := nv_inj (eh.symm.trans b2)
  exact plain_ok a1 b1
end
section
open PySem PySem.W PySem.Calls PyProof PyProof.Rows PySem.SeqAt
theorem marks_all : (tab6.all fun a => tab6.all fun b => tab6.all fun c => (finM [a, b, c] 3 0 [0] == told [a, b, c]) && (isErr (grAt [a, b, c] 0) == (a == 0)) && !isErr (grAt [a, b, c] 1) && !isErr (grAt [a, b, c] 2)) = true := by decide +kernel
theorem marks_fact (is : List Int) (hp : is.length = 3) (hm : ∀ x ∈ is, x ∈ tabN) : finM is 3 0 [0] = told is ∧ isErr (grAt is 0) = (is.getD 0 0 == 0) ∧ isErr (grAt is 1) = false ∧ isErr (grAt is 2) = false := by
  have h6 : ∀ x ∈ tabN, x ∈ tab6 := by decide
  match is, hp with
  | [a, b, c], _ =>
    have h := List.all_eq_true.mp (List.all_eq_true.mp (List.all_eq_true.mp marks_all a (h6 a (hm a (.head _)))) b (h6 b (hm b (.tail _ (.head _))))) c (h6 c (hm c (.tail _ (.tail _ (.head _)))))
    simp only [Bool.and_eq_true, Bool.not_eq_true'] at h
    obtain ⟨⟨⟨h1, h2⟩, h3⟩, h4⟩ := h
    exact ⟨eq_of_beq h1, eq_of_beq h2, h3, h4⟩
noncomputable abbrev mRet : List Stmt := match sBody (topS 19) with | [_, _, r] => [r] | _ => []
theorem ret_marks {c0 : Cx} {Lm : Addr} {out : List Addr} {m : Nat} {acc : List Int} :
    WS (CM c0 Lm out 3) mRet [("marks", .mu m)] [(m, acc.map .int)] (fun F ρ σ => F = .ret (.tup [.bool false, .list (acc.map .int)]) ∧ σ = []) := by
  refine WS_freeze (ρ' := [("marks", .list (acc.map .int))]) (.cons rfl (.inr (.inl ⟨rfl, rfl⟩)) .nil) ?_
  refine WS_cons (W1_ret ?_)
  walk_at "v"
  exact ⟨rfl, rfl⟩
theorem marks_run : MarksRun := by
  intro is h3 hm c0 ρ σ s v fs hk R hX hfr ff hfw hfh
  obtain ⟨hfin, he0, he1, he2⟩ := marks_fact is h3 hm
  refine wpAny_call (codeAny_mono (enterC0 (P := fun u s' => ∃ Z, VR c0.w (wof c0 σ) s' Z u ∧ KCl fs s s' ∧ Z = .tup [.bool (is.getD 0 0 == 0), .list ((told is).map .int)]) R atMarks (ρ₀ := [("sizes", .list (is.map .int))])
    (fun A E Q h => BindsTo.of_eq (s := s) (binds := [("sizes", v)]) rfl _ _ _ _ (h [("sizes", v)] s (.refl s) ⟨v, _, rfl, hX, rfl⟩)) (nodup_of rfl) (kindsOk_of fun n => rfl) (out := wof c0 σ) (.inl ⟨rfl, fun b => Iff.rfl⟩) (k := 3) hk (fun L s₁ fresh k₁ R₁ => ?_)) fun r s' h => ?_)
  · have hfr' : (CM c0 L (wof c0 σ) 3).A.frames = some ((CM c0 L (wof c0 σ) 3).env :: fs) := Around.frames_deeper hfr
    have apo : ∀ b ∈ fad fs, b ∈ wof c0 σ ∧ b ∉ (CM c0 L (wof c0 σ) 3).own := fun b hb => ⟨hfw b hb, fun hm => by
      obtain ⟨env, he, hf⟩ := List.mem_filterMap.mp hb
      obtain ⟨_, L', o, hf', ho, _⟩ := ff env he
      rw [hf] at hf'
      obtain rfl := Option.some.inj hf'
      rw [fresh b hm] at ho; cases ho⟩
    show wpAny _ _ (execs (_ :: _ :: mRet) _) _ _ _
    have h1 : W1 (CM c0 L (wof c0 σ) 3) (match sBody (topS 19) with | a :: _ => a | _ => default) [("sizes", .list (is.map .int))] [] (fun F ρ' σ' => F = .next ∧ ∃ a, ρ' = ([("marks", .mu a), ("sizes", .list (is.map .int))] : Rho) ∧ σ' = [(a, [0].map .int)]) := by
      refine W1_assignM (by walk_at "stb") ?_
      walk_at "v"
      exact fun a => ⟨rfl, a, rfl, rfl⟩
    refine wpAny_execs_cons (goX (h1 s₁ R₁) fun f sB F ρ₂ σ₂ hf RB kB hpt => ?_)
    obtain ⟨eF, m, e1, e2⟩ := hpt
    subst eF e1 e2
    cases hf
    have own0 : ∀ {b o}, s.heap.get? b = some o → b ∉ (CM c0 L (wof c0 σ) 3).own := fun {b o} e hm => by rw [fresh b hm] at e; cases e
    have mfresh : s₁.heap.get? m = none := by
      rcases kB.2.2 _ (.head _) with q | q
      · cases q
      · exact q
    have m0 : ∀ {b o}, s.heap.get? b = some o → b ≠ m := fun {b o} e q => by
      have := k₁.2 _ _ e
      rw [q, mfresh] at this; cases this
    have toB : ∀ b o, s.heap.get? b = some o → sB.heap.get? b = some o := fun b o e => kB.2.1 b o (by simpa [vol] using own0 e) (k₁.2 _ _ e)
    have ffB : FF fs sB.heap := ff.keeps fun b uu o e => toB b o e
    have fst : ∀ b ∈ fad fs, ∃ o, s.heap.get? b = some o := fun b hb => by
      obtain ⟨env, he, hf⟩ := List.mem_filterMap.mp hb
      obtain ⟨_, L', o, hf', ho, _⟩ := ff env he
      rw [hf] at hf'
      obtain rfl := Option.some.inj hf'
      exact ⟨o, ho⟩
    have fa : ∀ b ∈ fad fs, b ∈ wof c0 σ ∧ b ∉ (CM c0 L (wof c0 σ) 3).own ∧ b ≠ m := fun b hb => by
      obtain ⟨o, e⟩ := fst b hb
      exact ⟨hfw b hb, own0 e, m0 e⟩
    have mw : m ∉ wof c0 σ := fun q => by
      obtain ⟨o, e⟩ := R.al m q
      exact m0 e rfl
    have kcl : ∀ {acc s'}, FinQ (CM c0 L (wof c0 σ) 3) m fs sB acc s' → KCl fs s s' := fun {acc s'} q => ⟨(k₁.1.trans kB.1).trans q.st, fun b o h e => q.old b o (m0 e) (own0 e) h (toB b o e), fun b hb o e => q.sl b hb o (toB b o e)⟩
    refine wpAny_execs_cons (wpAny_Try_except (wpAny_execs_cons (wpAny_For (wpAny_mono (eval_zip h3 hfr' ffB fa RB) (fun zv s₂ hpt => ?_) fun uu uu x => x.elim) (by intro _; with_unfolding_all rfl))))
    obtain ⟨Lg, G, z, TI, TO, i1, g, N, ez, P, S⟩ := hpt
    subst ez
    refine wpAny_pyIter_zip S.zz (marks_for P S hfin he1 he2 (fun e s' hg H => ?_) fun s' hg Rn => ?_)
    · refine caught_ret P hfh H rfl rfl (fun uu uu => Iff.rfl) fun T s'' hT fT q => ?_
      have e1 : told is = [0] := by
        have : finM is 3 0 [0] = [0] := by
          unfold finM
          revert hg
          cases grAt is 0 with
          | err => intro _; rfl
          | yld x => intro hg; cases hg
          | stop => intro _; rfl
        rw [← hfin, this]
      obtain ⟨vs, l, r⟩ := q.ls
      have hTw : T ∉ wof c0 σ := fun hm => by
        obtain ⟨o, e⟩ := R.al T hm
        rw [toB _ _ e] at fT; cases fT
      rw [← he0, hg, e1]
      exact ⟨.tup [.bool true, .list ([0].map .int)], ⟨T, _, rfl, hTw, ⟨_, hT, rfl, _, rfl⟩, ⟨_, _, rfl, rfl, _, _, rfl, ⟨m, _, rfl, mw, l.isList, vrs_ints r⟩, rfl⟩⟩, kcl q, rfl⟩
    · refine wpAny_execs_nil (wpAny_execs_nil (goX (ret_marks s' Rn.rel) fun f s₃ F ρ₃ σ₃ hf R₃ k₃ hpt => ?_))
      obtain ⟨e1, e2⟩ := hpt
      subst e1 e2
      obtain ⟨u, rfl, hu⟩ := hf
      have q := Rn.fin P
      have k3 : ∀ b o, b ≠ m → b ∉ (CM c0 L (wof c0 σ) 3).own → s'.heap.get? b = some o → s₃.heap.get? b = some o := fun b o h1 h2 e => k₃.2.1 b o (fun hm => by
        rcases List.mem_append.mp hm with q | q
        · exact h1 (List.mem_singleton.mp q)
        · exact h2 q) e
      rw [← he0, hg]
      refine ⟨_, hu.less fun b h => List.mem_append_right _ (List.mem_append_right _ h), ?_, rfl⟩
      refine ⟨((k₁.1.trans kB.1).trans q.st).trans k₃.1, fun b o h e => k3 b o (m0 e) (own0 e) (q.old b o (m0 e) (own0 e) h (toB b o e)), fun b hb o e => ?_⟩
      obtain ⟨sl, e'⟩ := q.sl b hb o (toB b o e)
      exact ⟨sl, k3 b _ (m0 e) (own0 e) e'⟩
  · rcases r with e | (v | _ | _ | _) <;> first | exact h | exact h.elim
end
section
open PySem PySem.W PySem.Calls PyProof PyProof.Rows PySem.SeqAt
theorem newEnvTop {M : Model} {A : Around} {E : Value → Shared → Prop} {s : Shared} {scope : Scope} {globals : Addr} {x : Str} {v : Value} {qual : Str} {func : Option Addr} {code : Value} {builtins : Addr} {Q : Env → Shared → Prop}
    (hk : scope.kind = .function) (hl : scope.names.lookup x = some .local)
    (hQ : ∀ env, env = newEnv scope s.heap.objs.size globals (cellsFrom (s.heap.objs.size + 1) scope.names []) qual func code none builtins →
      ∀ s', InCallC s env.locals (bindL env.kindOf [(x, v)] fun uu => none) env.cells (bindC env.kindOf [(x, v)] fun uu => none) s' → s'.toks ≠ 0 → Q env s') :
    wpAny M A (newFunctionEnv scope globals [] [(x, v)] qual func code none builtins) Q E s := by
  simp only [newFunctionEnv, Option.isSome_none, Bool.false_eq_true, if_false]
  refine wpAny_bind (wpAny_alloc ?_)
  refine wpAny_bind (wpAny_layCells _ (fun name kind cells => by cases hkc : kind == NameKind.cell <;> simp [hkc]) _ _ _ _ ?_)
  have ok := cellsFrom_ok scope.names (s.heap.push { cls := .type "frame", data := .dict #[] }) (s.heap.objs.size + 1) [] ⟨fun uu uu hm => (nomatch hm), List.Pairwise.nil⟩ (by rw [Heap.size_push]; exact Nat.le_refl _)
  rw [Heap.size_push] at ok
  rw [show ({ s with heap := s.heap.push { cls := .type "frame", data := .dict #[] } } : Shared).heap.objs.size = s.heap.objs.size + 1 from Heap.size_push ..]
  have x0 : InCallC s s.heap.objs.size (fun uu => none) (cellsFrom (s.heap.objs.size + 1) scope.names []) (fun uu => none) { s with heap := pushCells (s.heap.push { cls := .type "frame", data := .dict #[] }) scope.names } :=
    ⟨⟨⟨_, _, rfl⟩, (Heap.Ns.new s.heap (.type "frame")).keeps (pushCells_keeps _ _), fun b o e => pushCells_keeps _ _ b o (Heap.get?_push_of_some _ e), Nat.le_refl _⟩,
      fun n c hc => (ok.empty n c (mem_of_lookup hc)).1, ok.apart, fun n c hm => (ok.empty n c hm).2⟩
  refine wpAny_bind ?_
  rw [List.forIn_cons]
  refine wpAny_bind (wpAny_bind ?_)
  have hl' : (newEnv scope s.heap.objs.size globals (cellsFrom (s.heap.objs.size + 1) scope.names []) qual func code none builtins).kindOf x = some .local := hl
  refine wpAny_storeName_local (env := newEnv scope s.heap.objs.size globals (cellsFrom (s.heap.objs.size + 1) scope.names []) qual func code none builtins) hl' x0.toInCall.ns (fun h' hn' hs' => wpAny_pure ?_) (by unfold newEnv; dsimp only; rw [hk]; rfl)
  refine wpAny_mono (Q := fun uu s' => Q _ s') (E := E) (t := forIn ([] : List (Str × Value)) PUnit.unit _) ?_ (fun uu uu x => wpAny_pure x) fun uu uu x => x
  rw [List.forIn_nil]
  refine wpAny_pure ( (hQ _ rfl _ ?_ (Nat.succ_ne_zero _)))
  unfold bindL bindC
  rw [if_pos hl', if_pos hl']
  exact ⟨⟨⟨h', _, rfl⟩, hn', fun b o e => hs'.extBut b o (Nat.ne_of_lt (Heap.lt_size e)) (x0.toInCall.keep b o e), x0.toInCall.fresh⟩, fun k c hc => (x0.cell k c hc).sameBut hs' (Nat.ne_of_gt (x0.above k c (mem_of_lookup hc))), x0.apart, x0.above⟩
noncomputable abbrev cTop (w : World) (mg mb : Str → Option Value) (A : Around) (h : Heap) (env : Env) (k : Nat) : Cx := ⟨w, mg, mb, A, env, h, [], [], k⟩
theorem enterTop {w : World} {mg mb : Str → Option Value} {A : Around} {env0 : Env} {s : Shared} {k : Nat} (hand : A.handled = none) (hdep : A.depth + 1 + 20 * k ≤ 600) (hun : A.units + 3 + 100 * k ≤ 9000) (S : Stat w mg mb s.heap)
    {a : Addr} {fd : FuncData} {body : List Stmt} (F : FnAt a fd body) {x : Str} {X : V} {v u : Value} (hbind : bindArgs fd ⟨[u], []⟩ = pure [(x, v)]) (hX : VR w [] s X v) (hl : fd.scope.names.lookup x = some .local)
    {P : Value → Shared → Prop}
    (hb : ∀ L s₁, KeepE s s₁ → Rel ((cTop w mg mb A s.heap env0 k).call fd a L [] k) [(x, X)] [] s₁ → wpAny (model PG w) ((cTop w mg mb A s.heap env0 k).call fd a L [] k).A (execs body ((cTop w mg mb A s.heap env0 k).call fd a L [] k).env) (fun fl s' => P (match fl with | .ret v => v | _ => .none) s') (fun uu uu => False) s₁) :
    codeAny (model PG w) A (.call (.ref a) ⟨[u], []⟩) (fun r s' => match r with | .ok (.ret v) => P v s' | _ => False) s := by
  obtain ⟨o, hlk, hd⟩ := F.at_ w
  have ho : s.heap.get? a = some o := S.K _ _ hlk
  refine (codeAny_call_function (Nat.lt_of_le_of_lt (show A.depth ≤ 600 by exact Nat.not_lt.mp fun hn => absurd (Nat.add_le_add hdep hn) (by simp +arith)) (by decide)) ho hd F.co F.gen F.body_ (codeRec_of S.K (F.code w)) (wpAny_of_eq hbind ?_))
  rw [F.clos]
  refine wpAny_with_toks (n := s.toks) (Nat.le_refl _) (wpAny_mono (E := fun uu uu => False) (newEnvTop (Q := fun env s₁ => @LE.le Nat _ s.toks s₁.toks → s₁.heap.NoLimit ∧ codeAny (model PG w) A (.func body env) _ s₁) F.kind hl fun env he s₁ y ht htk => ?_) (fun uu uu x => x) fun uu uu x => x.elim)
  have hnl := S.T.nolimit
  have hk₁ := y.toInCall.keep
  refine ⟨hnl.keeps hk₁, ?_⟩
  have he' : env = callEnvC fd s.heap.objs.size a := he
  subst he'
  generalize hL : s.heap.objs.size = L at *
  have fresh : ∀ b ∈ ((cTop w mg mb A s.heap env0 k).call fd a L [] k).own, s.heap.get? b = none := fun b hb => by
    rcases List.mem_cons.mp hb with q | q
    · exact size_fresh (by rw [q, hL]; exact Nat.le_refl _)
    · obtain ⟨p, hp, e⟩ := List.mem_map.mp q
      exact size_fresh (by rw [← e, hL]; exact Nat.le_of_lt (y.above p.1 p.2 hp))
  have wofc : ∀ b, b ∈ wof ((cTop w mg mb A s.heap env0 k).call fd a L [] k) [] ↔ b ∈ ((cTop w mg mb A s.heap env0 k).call fd a L [] k).own := fun b => by
    simp only [wof, List.map_nil, List.nil_append]
    rw [List.mem_append]
    exact ⟨fun h => h.elim id (fun q => nomatch q), .inl⟩
  have k₁ : KeepE s s₁ := by
    obtain ⟨h₁, tk, hs₁, hkk⟩ := y.done
    exact ⟨⟨h₁, tk, s.gens, hs₁, .refl _, by rw [hs₁] at htk; exact htk⟩, hk₁⟩
  have hv : ∀ b, b ∉ ([] : List Addr) → (∃ o, s.heap.get? b = some o) → b ∉ wof ((cTop w mg mb A s.heap env0 k).call fd a L [] k) [] := fun b hb ⟨o, e⟩ hm => by
    rw [fresh b ((wofc b).mp hm)] at e; cases e
  have cellK : ∀ p ∈ (callEnvC fd L a).cells, ∃ v, s₁.heap.IsCell p.2 v := fun p hp =>
    ⟨_, y.cell p.1 p.2 (lookup_of_mem_nodup (cellsFrom_names fd.scope.names 0 (L + 1) [] [] rfl ▸ F.cnd) hp)⟩
  have hok : ((cTop w mg mb A s.heap env0 k).call fd a L [] k).Ok := by
    refine ⟨F.kind, F.glob, F.blt, hand, hdep, hun, S, .head _, fresh, ?_, fun h => ?_, fun p hp => .inl (.tail _ (List.mem_map_of_mem hp))⟩
    · exact List.pairwise_map.mpr y.apart
    · obtain ⟨p, hp, e⟩ := List.mem_map.mp h
      have := y.above p.1 p.2 hp
      rw [e] at this
      exact Nat.lt_irrefl _ this
  have R₁ : Rel ((cTop w mg mb A s.heap env0 k).call fd a L [] k) [(x, X)] [] s₁ := by
    refine ⟨hok, hk₁, fun b hb => ?_, ⟨_, y.toInCall.ns, fun z Z e => ?_⟩, cellK, fun p hp => (nomatch hp), List.nodup_nil, ht⟩
    · rcases List.mem_cons.mp ((wofc b).mp hb) with q | q
      · obtain ⟨o, _, _, e, _⟩ := y.toInCall.ns; exact ⟨o, q ▸ e⟩
      · obtain ⟨p, hp, e⟩ := List.mem_map.mp q
        obtain ⟨v, o, e', _⟩ := cellK p hp; exact ⟨o, e ▸ e'⟩
    · rw [lookup_head] at e
      by_cases q : z = x
      · subst q
        rw [if_pos rfl] at e; cases e
        have hl' : (callEnvC fd L a).kindOf z = some .local := hl
        refine ⟨fun uu => ⟨v, ?_, hX.keep (k₁.keepW _) hv⟩, fun q => ?_⟩
        · show bindL _ _ _ z = _
          unfold bindL bindL
          rw [if_pos hl']
          show (if z = z then _ else _) = _
          rw [if_pos rfl]
        · have q' : (callEnvC fd L a).kindOf z = some .cell ∨ (callEnvC fd L a).kindOf z = some .free := q
          rw [hl'] at q'; rcases q' with q' | q' <;> cases q'
      · rw [if_neg q] at e; cases e
  exact codeAny_func (wpAny_mono (hb L s₁ k₁ R₁) (fun fl s' h => h) fun uu uu x => x.elim)
end
section
open PySem PySem.W PySem.Calls PyProof PyProof.Rows PySem.SeqAt
set_option pp.deepTerms false in
set_option pp.maxSteps 1000 in
theorem top (HM : MarksRun) : PySem.Challenge.rw_st0022_01.Holds := by
  refine Mine.hd ?_
  k_fill
  intro w s₀ s₁ mg mb G Y fa o pm cd doc dV kV ho hd hcd hD hmg hg args vals as hpre hlay hrd hwl hlo
  have KX := kIn_of Y
  refine Ground.open G ?_
  intro T B D TE TW
  wrow_args hpre hlay hrd hwl hlo
  clear hd hcd hD
  rename_i ns hs0 hlay0 hL1 hr1 hl2 q4 q3 l its q0 hL ra w1 r0 hI hr hc1 hc0
  have efa : (Value.ref fa) = .ref 253 := by
    have h : mg (Str.ofString "law") = some (.ref 253) := mg_of KX T.g rfl
    exact Option.some.inj (hmg.symm.trans h)
  rw [efa]
  have S : Stat w mg mb s₁.heap := ⟨KX, topRead_of T⟩
  have hX : VR w [] s₁ (.list (ns.map .int)) (.ref l) := ⟨l, its, rfl, by simp, hL, vrs_ints hI⟩
  refine enter_call ?_
  refine codeAny_mono (enterTop (k := 10) (env0 := callEnvC fdLaw 0 253) (x := "script") rfl (by decide) (by decide) S atLaw rfl hX rfl (P := fun v s' => v = .bool true ∧ KeepE s₁ s') fun L s₂ k₂ R₂ => ?_) fun r s' h => ?_
  · refine goX (law_body (c := cTop w mg mb callerA s₁.heap (callEnvC fdLaw 0 253) 10) HM rulers_ok plains_ok (by decide) (Around.frames_deeper rfl) ns (by unfold sizeLine; exact Nat.not_lt.mp fun hn => absurd (Int.add_le_add (Int.not_lt.mp hc1) (Int.ofNat_le.mpr (Nat.succ_le_of_lt hn))) (by simp +arith)) s₂ R₂) fun f s' F ρ' σ' hf R' ks q => ?_
    cases F with
    | next => cases q
    | brk => exact q.elim
    | cont => exact q.elim
    | ret Z =>
      obtain ⟨v, rfl, hv⟩ := hf
      have q' : Z = .bool true := q
      subst q'
      refine ⟨hv, k₂.1.trans ks.1, fun b o e => ks.2.1 b o (fun hm => ?_) (k₂.2 _ _ e)⟩
      have := R₂.ok.ownh b (by simpa [vol] using hm)
      rw [show s₁.heap.get? b = none from this] at e; cases e
  · rcases r with e | (v | _ | _ | _) <;> first | (exact False.elim h) | skip
    obtain ⟨rfl, ⟨h', tk, gs, rfl, hb, htk⟩, hk⟩ := h
    refine ⟨.inl ⟨.bool true, .bool true, [], rfl, raisesW_false ?_, ReadsW.bool _, ?_, fun uu => ⟨List.nodup_nil, fun uu h => nomatch h⟩⟩, .of_keep hk, rfl, hb.1 (.of_eq hg)⟩
    · wrow_none_raised
    · wrow_post
end
end Mine
theorem PySem.Challenge.cw_st0022_01_holds : PySem.Challenge.rw_st0022_01.Holds := by
  exact Mine.top Mine.marks_run
