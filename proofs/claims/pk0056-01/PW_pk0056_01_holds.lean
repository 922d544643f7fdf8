import PyProof.Rows.All
import Wide.All
import OpenK.AllK
import KE.KLam
import KE.KSortKey
import Wide.FinOn
import Lean
import PySem.Challenge.RW_pk0056_01
open PySem PySem.W PyProof.Rows
set_option Elab.async false
set_option maxRecDepth 100000
set_option linter.unusedVariables false
set_option genInjectivity false
set_option genSizeOf false
set_option maxHeartbeats 8000000
namespace Mine

/-! data, and how a heap bears it -/
inductive D where
  | none
  | bool (b : Bool)
  | int (i : Int)
  | str (x : Str)
  | tup (ds : List D)
  | lst (ds : List D)
  | mut (ds : List D)

structure Zo where
  x : Addr → Prop
  y : Addr → Prop

/-- an object that is not the table that may grow (it stands at 65) -/
noncomputable def NonTab (b : Addr) (o : Obj) : Prop := b = 65 → ∀ ps : Array Value, (∀ (x : Str) (t : Tok), ps[1]? ≠ some (.str x t)) → o ≠ tabObj ps
theorem NonTab.cls {b : Addr} {o : Obj} (h : o.cls ≠ .none) : NonTab b o := fun _ ps _ e => h (by rw [e])
theorem NonTab.seq {b : Addr} {o : Obj} {xs n} (h : o.data = .seq xs n) : NonTab b o := fun _ ps _ e => by rw [e] at h; cases h
theorem NonTab.dict {b : Addr} {o : Obj} {xs n} (h : o.data = .dict xs n) : NonTab b o := fun _ ps _ e => by rw [e] at h; cases h
theorem NonTab.cell {b : Addr} {o : Obj} {v} (h : o.data = .cell v) : NonTab b o := fun _ ps _ e => by rw [e] at h; cases h
theorem NonTab.func {b : Addr} {o : Obj} {v} (h : o.data = .func v) : NonTab b o := fun _ ps _ e => by rw [e] at h; cases h
theorem NonTab.code {b : Addr} {o : Obj} {vs : Array Value} {q : Str} {t : Tok} (h : o.data = .fields vs) (hv : vs[1]? = some (.str q t)) : NonTab b o := fun _ ps hp e => by
  rw [e] at h
  cases h
  exact hp q t hv

/-- a list with no dict of its own -/
noncomputable def IsListM (h : Heap) (a : Addr) (vs : Array Value) : Prop := ∃ o, h.get? a = some o ∧ o.cls = .type "list" ∧ o.dict = none ∧ ∃ n, o.data = .seq vs n
theorem IsListM.isList {h : Heap} {a : Addr} {vs : Array Value} (x : IsListM h a vs) : h.IsList a vs := let ⟨o, e, c, _, n, d⟩ := x; ⟨o, e, c, n, d⟩
mutual
noncomputable def Rep (Z : Zo) (h : Heap) (v : Value) : D → Prop
  | .none => v = .none
  | .bool b => v = .bool b
  | .int i => ∃ t, v = .int i t
  | .str x => ∃ t, v = .str x t
  | .tup ds => ∃ a vs, v = .ref a ∧ ¬ Z.x a ∧ IsTup h a vs.toArray ∧ RepL Z h vs ds
  | .lst ds => ∃ a vs, v = .ref a ∧ ¬ Z.x a ∧ h.IsList a vs.toArray ∧ RepL Z h vs ds
  | .mut ds => ∃ a vs, v = .ref a ∧ Z.y a ∧ IsListM h a vs.toArray ∧ RepL Z h vs ds
noncomputable def RepL (Z : Zo) (h : Heap) (vs : List Value) : List D → Prop
  | [] => vs = []
  | d :: ds => ∃ v r, vs = v :: r ∧ Rep Z h v d ∧ RepL Z h r ds
end

/-- every object that is no table stands; a namespace at n or above stands as a map -/
noncomputable def HK (n : Nat) (h h' : Heap) : Prop := ∀ b o, h.get? b = some o → NonTab b o → h'.get? b = some o ∨ (n ≤ b ∧ ∃ m, h.Ns b m ∧ h'.Ns b m)
theorem ns_dict {h : Heap} {b : Addr} {o : Obj} {m} (e : h.get? b = some o) (x : h.Ns b m) : ∃ es ep, o.data = .dict es ep := by
  obtain ⟨o', es, ep, e', hd, _⟩ := x
  rw [e] at e'; cases e'
  exact ⟨es, ep, hd⟩
theorem HK.exact {n : Nat} {h h' : Heap} {b : Addr} {o : Obj} (k : HK n h h') (e : h.get? b = some o) (t : NonTab b o) (hd : ∀ es ep, o.data ≠ .dict es ep) : h'.get? b = some o := by
  rcases k b o e t with r | ⟨_, m, x, _⟩
  · exact r
  · obtain ⟨es, ep, q⟩ := ns_dict e x
    exact absurd q (hd es ep)
theorem HK.low {n : Nat} {h h' : Heap} {b : Addr} {o : Obj} (k : HK n h h') (e : h.get? b = some o) (t : NonTab b o) (hb : b < n) : h'.get? b = some o := by
  rcases k b o e t with r | ⟨q, _⟩
  · exact r
  · exact absurd hb (Nat.not_lt.mpr q)
theorem HK.refl (n : Nat) (h : Heap) : HK n h h := fun _ _ e _ => .inl e
theorem HK.ns {n : Nat} {h h' : Heap} {a m} (k : HK n h h') (x : h.Ns a m) : h'.Ns a m := by
  obtain ⟨o, es, ep, e, hd, r⟩ := id x
  rcases k a o e (.dict hd) with q | ⟨_, m', x', y'⟩
  · exact ⟨o, es, ep, q, hd, r⟩
  · rw [x.eq_nsMap, ← x'.eq_nsMap]; exact y'
theorem HK.trans {n : Nat} {h h' h'' : Heap} (a : HK n h h') (b : HK n h' h'') : HK n h h'' := fun x o e t => by
  rcases a x o e t with r | ⟨hn, m, p, q⟩
  · rcases b x o r t with r' | ⟨hn, m, p, q⟩
    · exact .inl r'
    · obtain ⟨o', es, ep, e', rr⟩ := p
      rw [r] at e'; cases e'
      exact .inr ⟨hn, m, ⟨o, es, ep, e, rr⟩, q⟩
  · exact .inr ⟨hn, m, p, b.ns q⟩
theorem HK.of_keeps {n : Nat} {h h' : Heap} (k : ∀ b o, h.get? b = some o → h'.get? b = some o) : HK n h h' := fun b o e _ => .inl (k b o e)

theorem HK.isList {n : Nat} {h h' : Heap} {a vs} (k : HK n h h') (x : h.IsList a vs) : h'.IsList a vs := by
  obtain ⟨o, e, hc, n, hd⟩ := x
  exact ⟨o, k.exact e (.seq hd) (by rw [hd]; nofun), hc, n, hd⟩
theorem HK.isListM {n : Nat} {h h' : Heap} {a vs} (k : HK n h h') (x : IsListM h a vs) : IsListM h' a vs := by
  obtain ⟨o, e, hc, hx, n, hd⟩ := x
  exact ⟨o, k.exact e (.seq hd) (by rw [hd]; nofun), hc, hx, n, hd⟩
theorem HK.isTup {n : Nat} {h h' : Heap} {a vs} (k : HK n h h') (x : IsTup h a vs) : IsTup h' a vs := by
  obtain ⟨o, e, hc, n, hd⟩ := x
  exact ⟨o, k.exact e (.seq hd) (by rw [hd]; nofun), hc, n, hd⟩
theorem HK.isCell {n : Nat} {h h' : Heap} {a v} (k : HK n h h') (x : h.IsCell a v) : h'.IsCell a v := by
  obtain ⟨o, e, hd⟩ := x
  exact ⟨o, k.exact e (.cell hd) (by rw [hd]; nofun), hd⟩
theorem HK.func {n : Nat} {h h' : Heap} {a o v} (k : HK n h h') (e : h.get? a = some o) (hd : o.data = .func v) : h'.get? a = some o :=
  k.exact e (.func hd) (by rw [hd]; nofun)
theorem HK.noLimit {n : Nat} {h h' : Heap} (k : HK n h h') (x : h.NoLimit) : h'.NoLimit := by
  obtain ⟨mc, a, b⟩ := x
  exact ⟨mc, k.ns a, b⟩

mutual
theorem Rep.hk {Z : Zo} {n : Nat} {h h' : Heap} (k : HK n h h') : ∀ (d : D) (v : Value), Rep Z h v d → Rep Z h' v d
  | .none, _, x => x
  | .bool _, _, x => x
  | .int _, _, x => x
  | .str _, _, x => x
  | .tup ds, v, x => by
    rw [Rep] at x ⊢
    obtain ⟨a, vs, e, nn, i, r⟩ := x
    exact ⟨a, vs, e, nn, k.isTup i, RepL.hk k ds vs r⟩
  | .lst ds, v, x => by
    rw [Rep] at x ⊢
    obtain ⟨a, vs, e, nn, i, r⟩ := x
    exact ⟨a, vs, e, nn, k.isList i, RepL.hk k ds vs r⟩
  | .mut ds, v, x => by
    rw [Rep] at x ⊢
    obtain ⟨a, vs, e, nn, i, r⟩ := x
    exact ⟨a, vs, e, nn, k.isListM i, RepL.hk k ds vs r⟩
theorem RepL.hk {Z : Zo} {n : Nat} {h h' : Heap} (k : HK n h h') : ∀ (ds : List D) (vs : List Value), RepL Z h vs ds → RepL Z h' vs ds
  | [], _, x => x
  | d :: ds, vs, x => by
    rw [RepL] at x ⊢
    obtain ⟨v, r, e, a, b⟩ := x
    exact ⟨v, r, e, Rep.hk k d v a, RepL.hk k ds r b⟩
end

theorem RepL.length {Z : Zo} {h : Heap} : ∀ {ds : List D} {vs : List Value}, RepL Z h vs ds → vs.length = ds.length
  | [], vs, x => by rw [RepL] at x; rw [x]; rfl
  | d :: ds, vs, x => by
    rw [RepL] at x
    obtain ⟨v, r, e, a, b⟩ := x
    rw [e, List.length_cons, List.length_cons, RepL.length b]
theorem RepL.nil {Z : Zo} {h : Heap} : RepL Z h [] [] := by rw [RepL]
theorem RepL.cons {Z : Zo} {h : Heap} {v d vs ds} (a : Rep Z h v d) (b : RepL Z h vs ds) : RepL Z h (v :: vs) (d :: ds) := by
  rw [RepL]; exact ⟨v, vs, rfl, a, b⟩
theorem RepL.get {Z : Zo} {h : Heap} : ∀ {ds : List D} {vs : List Value}, RepL Z h vs ds → ∀ {i : Nat} {v : Value}, vs[i]? = some v → ∃ d, ds[i]? = some d ∧ Rep Z h v d
  | [], vs, x, i, v, e => by rw [RepL] at x; rw [x] at e; simp at e
  | d :: ds, vs, x, i, v, e => by
    rw [RepL] at x
    obtain ⟨v', r, e', a, b⟩ := x
    subst e'
    cases i with
    | zero => simp at e; subst e; exact ⟨d, rfl, a⟩
    | succ i => simp at e; obtain ⟨d', h1, h2⟩ := RepL.get b e; exact ⟨d', by simpa using h1, h2⟩
theorem RepL.get' {Z : Zo} {h : Heap} : ∀ {ds : List D} {vs : List Value}, RepL Z h vs ds → ∀ {i : Nat} {d : D}, ds[i]? = some d → ∃ v, vs[i]? = some v ∧ Rep Z h v d
  | [], vs, x, i, v, e => by simp at e
  | d :: ds, vs, x, i, dd, e => by
    rw [RepL] at x
    obtain ⟨v', r, e', a, b⟩ := x
    subst e'
    cases i with
    | zero => simp at e; subst e; exact ⟨v', rfl, a⟩
    | succ i => simp at e; obtain ⟨d', h1, h2⟩ := RepL.get' b e; exact ⟨d', by simpa using h1, h2⟩
theorem RepL.append {Z : Zo} {h : Heap} : ∀ {ds es : List D} {vs us : List Value}, RepL Z h vs ds → RepL Z h us es → RepL Z h (vs ++ us) (ds ++ es)
  | [], es, vs, us, x, y => by rw [RepL] at x; rw [x]; exact y
  | d :: ds, es, vs, us, x, y => by
    rw [RepL] at x
    obtain ⟨v', r, e', a, b⟩ := x
    subst e'
    exact .cons a (RepL.append b y)
theorem RepL.of_get {Z : Zo} {h : Heap} : ∀ {ds : List D} {vs : List Value}, vs.length = ds.length → (∀ (i : Nat) (v : Value) (d : D), vs[i]? = some v → ds[i]? = some d → Rep Z h v d) → RepL Z h vs ds
  | [], [], _, _ => .nil
  | d :: ds, v :: vs, hl, hg => .cons (hg 0 v d rfl rfl) (RepL.of_get (by simpa using hl) fun i v' d' e e' => hg (i + 1) v' d' (by simpa using e) (by simpa using e'))
  | [], _ :: _, hl, _ => by simp at hl
  | _ :: _, [], hl, _ => by simp at hl

theorem HK.codeRec {n : Nat} {h h' : Heap} {cd q} (k : HK n h h') (x : h.CodeRec cd q) : h'.CodeRec cd q := by
  obtain ⟨c, o, vs, t, e, ho, hd, hv⟩ := x
  exact ⟨c, o, vs, t, e, k.exact ho (.code hd hv) (by rw [hd]; nofun), hd, hv⟩
theorem HK.codeHd {n : Nat} {h h' : Heap} {c P} (k : HK n h h') (x : CodeHd h c P) : CodeHd h' c P := by
  obtain ⟨o, vs, file, tf, flags, tg, inF, text, tt, e, hc, hd, r⟩ := x
  exact ⟨o, vs, file, tf, flags, tg, inF, text, tt, k.exact e (.cls (by rw [hc]; nofun)) (by rw [hd]; nofun), hc, hd, r⟩

/-! the ground: what stands at the top; T.P is the table of the one def that makes a lambda -/
structure Th where
  prog : Program
  w : World
  mg : Str → Option Value
  mb : Str → Option Value
  c : Addr
  n : Nat
noncomputable def Th.P (_ : Th) : Addr := 65

noncomputable def stmtAt (n : Nat) : Stmt := PySem.Challenge.pw_pk0056_01.main.body.getD n default
noncomputable def lamQ : Str := Str.ofString "_law_kept" ++ ".<locals>." ++ "<lambda>"

/-- the table: nothing in it yet, or the lambda's code object -/
noncomputable def TabI (T : Th) (h : Heap) : Prop :=
  ∃ ps, h.get? T.P = some (tabObj ps) ∧ (ps = #[] ∨ ∃ c', ps = #[rawInt 88, rawInt 28, .ref c'] ∧ h.CodeRec (.ref c') lamQ)

structure Gl (T : Th) (h : Heap) : Prop where
  g : h.Ns mainGlobals T.mg
  b : h.Ns builtinsNs T.mb
  lim : h.NoLimit
  dig : ∃ mc, h.Ns cStatics mc ∧ mc "sys.int_max_str_digits" = none
  fn : ∀ n d, DefRec.ofStmt? (stmtAt n) = some d → ∃ a o pm code doc, T.mg d.name = some (.ref a) ∧ h.get? a = some o ∧ o.data = .func (Calls.docDef d.name d.params d.body d.scope pm code doc) ∧ h.CodeRec code d.name
  bmain : h.BuiltinsAt T.mg T.P
  kept : ∃ a o pm doc d, DefRec.ofStmt? (stmtAt 11) = some d ∧ T.mg d.name = some (.ref a) ∧ h.get? a = some o ∧ o.data = .func (Calls.docDef d.name d.params d.body d.scope pm (.ref T.c) doc) ∧ h.CodeRec (.ref T.c) d.name
  hd : CodeHd h T.c T.P
  ne : mainGlobals ≠ T.P
  tab : TabI T h
  fr : ∃ m, h.Ns T.n m

/-- facts of the names that no heap bears -/
structure Nm (T : Th) : Prop where
  mark : ∃ t, T.mg "ELLIPSIS_MARKER" = some (.str "..." t)
  free : ∀ x : Str, x ∈ (["len", "sum", "range", "enumerate", "sorted", "isinstance", "bool", "list", "str", "TypeError", "ValueError"] : List Str) → T.mg x = none
  boot : ∀ x : Str, x ≠ "__name__" → T.mb x = bootBuiltins x

noncomputable def Kp (T : Th) (s s' : Shared) : Prop := ∃ h tk, s' = { s with heap := h, toks := tk } ∧ HK T.n s.heap h ∧ (TabI T s.heap → TabI T h)
section
variable {T : Th} {s s' s'' : Shared}
theorem Kp.refl : Kp T s s := ⟨s.heap, s.toks, rfl, .refl _ _, id⟩
theorem Kp.toks {tk : Nat} : Kp T s { s with toks := tk } := ⟨s.heap, tk, rfl, .refl _ _, id⟩
theorem Kp.hk (k : Kp T s s') : HK T.n s.heap s'.heap := by obtain ⟨h, tk, rfl, a, b⟩ := k; exact a
theorem Kp.tab (k : Kp T s s') (x : TabI T s.heap) : TabI T s'.heap := by obtain ⟨h, tk, rfl, a, b⟩ := k; exact b x
theorem Kp.trans (a : Kp T s s') (b : Kp T s' s'') : Kp T s s'' := by
  obtain ⟨h, tk, rfl, a1, a2⟩ := a
  obtain ⟨h', tk', rfl, b1, b2⟩ := b
  exact ⟨h', tk', rfl, a1.trans b1, fun x => b2 (a2 x)⟩
theorem TabI.keeps {h h' : Heap} (k : ∀ b o, h.get? b = some o → h'.get? b = some o) (x : TabI T h) : TabI T h' := by
  obtain ⟨ps, e, r⟩ := x
  refine ⟨ps, k _ _ e, r.imp id fun ⟨c', e', c⟩ => ⟨c', e', c.keeps k⟩⟩
theorem Kp.of {h : Heap} {tk : Nat} (k : ∀ b o, s.heap.get? b = some o → h.get? b = some o) : Kp T s { s with heap := h, toks := tk } :=
  ⟨h, tk, rfl, .of_keeps k, TabI.keeps k⟩
theorem Kp.of_keeps (k : Keeps s s') : Kp T s s' := by
  obtain ⟨h, tk, rfl, k⟩ := k
  exact .of k
theorem Kp.push {o : Obj} : Kp T s { s with heap := s.heap.push o } := Kp.of (tk := s.toks) fun _ _ e => Heap.get?_push_of_some _ e
theorem Gl.kp (G : Gl T s.heap) (k : Kp T s s') : Gl T s'.heap where
  g := k.hk.ns G.g
  b := k.hk.ns G.b
  lim := k.hk.noLimit G.lim
  dig := let ⟨mc, a, b⟩ := G.dig; ⟨mc, k.hk.ns a, b⟩
  fn := fun n d e => let ⟨a, o, pm, code, doc, h1, h2, h3, h4⟩ := G.fn n d e; ⟨a, o, pm, code, doc, h1, k.hk.func h2 h3, h3, k.hk.codeRec h4⟩
  bmain := let ⟨bm, o, h1, h2, h3, h4, h5, h6, h7, h8⟩ := G.bmain; ⟨bm, o, h1, h2, h3, h4, k.hk.exact h5 (.cls (by rw [h6]; nofun)) (by rw [h8]; nofun), h6, h7, h8⟩
  kept := let ⟨a, o, pm, doc, d, h0, h1, h2, h3, h4⟩ := G.kept; ⟨a, o, pm, doc, d, h0, h1, k.hk.func h2 h3, h3, k.hk.codeRec h4⟩
  hd := k.hk.codeHd G.hd
  ne := G.ne
  tab := k.tab G.tab
  fr := let ⟨m, a⟩ := G.fr; ⟨m, k.hk.ns a⟩
end

/-! zones -/
structure ZOk (Z : Zo) (h : Heap) : Prop where
  x : ∀ a, Z.x a → ∃ o, h.get? a = some o ∧ NonTab a o
  y : ∀ a, Z.y a → Z.x a
theorem ZOk.hk {Z : Zo} {n : Nat} {h h' : Heap} (z : ZOk Z h) (k : HK n h h') : ZOk Z h' := ⟨fun a ha => by
  obtain ⟨o, e, t⟩ := z.x a ha
  rcases k a o e t with r | ⟨_, m, _, o', es, ep, e', hd, _⟩
  · exact ⟨o, r, t⟩
  · exact ⟨o', e', .dict hd⟩, z.y⟩
theorem ZOk.fresh {Z : Zo} {h : Heap} (z : ZOk Z h) {a : Addr} (ha : h.get? a = none) : ¬ Z.x a := fun hx => by
  obtain ⟨o, e, _⟩ := z.x a hx
  rw [ha] at e; cases e
theorem get?_size (h : Heap) : h.get? h.objs.size = none := Heap.get?_none_of_le (Nat.le_refl _)

/-! names -/
noncomputable def Has (env : Env) (h : Heap) (x : Str) (v : Value) : Prop :=
  (env.kindOf x = some .local ∧ ∃ m, h.Ns env.locals m ∧ m x = some v) ∨
  ((env.kindOf x = some .cell ∨ env.kindOf x = some .free) ∧ ∃ c, env.cells.lookup x = some c ∧ h.IsCell c (some v))
theorem Has.hk {env : Env} {n : Nat} {h h' : Heap} {x v} (k : HK n h h') (a : Has env h x v) : Has env h' x v :=
  a.imp (fun ⟨e, m, n, q⟩ => ⟨e, m, k.ns n, q⟩) fun ⟨e, c, l, i⟩ => ⟨e, c, l, k.isCell i⟩

noncomputable abbrev Rho := List (Str × D)
structure Sees (Z : Zo) (env : Env) (h : Heap) (ρ : Rho) : Prop where
  kind : env.scope.kind = .function
  has : ∀ x d, ρ.lookup x = some d → ∃ v, Has env h x v ∧ Rep Z h v d
  cells : ∀ n c, env.cells.lookup n = some c → ∃ v, h.IsCell c v
theorem Sees.hk {Z : Zo} {env : Env} {n : Nat} {h h' : Heap} {ρ} (k : HK n h h') (a : Sees Z env h ρ) : Sees Z env h' ρ :=
  ⟨a.kind, fun x d e => let ⟨v, p, q⟩ := a.has x d e; ⟨v, p.hk k, q.hk k⟩, fun n c e => let ⟨v, i⟩ := a.cells n c e; ⟨v, k.isCell i⟩⟩
theorem Sees.sub {Z : Zo} {env : Env} {h : Heap} {ρ ρ' : Rho} (a : Sees Z env h ρ) (hs : ∀ x d, ρ'.lookup x = some d → ρ.lookup x = some d) : Sees Z env h ρ' :=
  ⟨a.kind, fun x d e => a.has x d (hs x d e), a.cells⟩

/-- room for k calls; at the law's own level the frames are known -/
noncomputable def OkN (T : Th) (k : Nat) (A : Around) : Prop := A.handled = none ∧ A.depth + k < recursionLimit ∧ A.units + 8 * k + 64 < cLine ∧ k ≤ 40 ∧ (k = 40 → ∃ e, A.frames = some [e] ∧ e.scope.kind = .function ∧ e.frame = some T.n)
theorem OkN.deeper {T : Th} {k : Nat} {A : Around} (h : OkN T (k + 1) A) (env : Env) : OkN T k (A.deeper env) := ⟨h.1, by have := h.2.1; simp only [Around.deeper]; omega, by have := h.2.2; simp only [Around.deeper]; omega, by have := h.2.2.2.1; omega, by have := h.2.2.2.1; omega⟩

structure Pre (T : Th) (Z : Zo) (env : Env) (ρ : Rho) (s : Shared) : Prop where
  g : Gl T s.heap
  z : ZOk Z s.heap
  s : Sees Z env s.heap ρ
theorem Pre.kp {T : Th} {Z : Zo} {env : Env} {ρ : Rho} {s s' : Shared} (p : Pre T Z env ρ s) (k : Kp T s s') : Pre T Z env ρ s' := ⟨p.g.kp k, p.z.hk k.hk, p.s.hk k.hk⟩

/-! the judgements -/
noncomputable def Ev (T : Th) (k : Nat) (env : Env) (e : Expr) (ρ : Rho) (d : D) : Prop :=
  ∀ (A : Around) (Z : Zo) (s : Shared) (Q : Value → Shared → Prop) (E : Value → Shared → Prop), OkN T k A → Pre T Z env ρ s →
    (∀ v s', Kp T s s' → Rep Z s'.heap v d → Q v s') → wpAny (model T.prog T.w) A (eval e env) Q E s
noncomputable def EvB (T : Th) (k : Nat) (env : Env) (e : Expr) (ρ : Rho) (b : Bool) : Prop :=
  ∀ (A : Around) (Z : Zo) (s : Shared) (Q : Bool → Shared → Prop) (E : Value → Shared → Prop), OkN T k A → Pre T Z env ρ s →
    (∀ s', Kp T s s' → Q b s') → wpAny (model T.prog T.w) A (isTrue e env (eval e env)) Q E s
noncomputable def EvL (T : Th) (k : Nat) (env : Env) (es : List Expr) (ρ : Rho) (ds : List D) : Prop :=
  ∀ (A : Around) (Z : Zo) (s : Shared) (pos : Pos) (Q : List Value → Shared → Prop) (E : Value → Shared → Prop), OkN T k A → Pre T Z env ρ s →
    (∀ vs s', Kp T s s' → RepL Z s'.heap vs ds → Q vs s') → wpAny (model T.prog T.w) A (spliced (backTo pos (starEach es env))) Q E s
/-- an operation upon values -/
noncomputable def BinR (T : Th) (op : Operator) (d₁ d₂ d : D) : Prop :=
  ∀ (k : Nat) (A : Around) (Z : Zo) (s : Shared) (v₁ v₂ : Value) (Q : Value → Shared → Prop) (E : Value → Shared → Prop), OkN T k A → Gl T s.heap → ZOk Z s.heap → Rep Z s.heap v₁ d₁ → Rep Z s.heap v₂ d₂ →
    (∀ v s', Kp T s s' → Rep Z s'.heap v d → Q v s') → wpAny (model T.prog T.w) A (binaryOp op v₁ v₂) Q E s
noncomputable def UnR (T : Th) (op : UnaryOp) (d₁ d : D) : Prop :=
  ∀ (k : Nat) (A : Around) (Z : Zo) (s : Shared) (v₁ : Value) (Q : Value → Shared → Prop) (E : Value → Shared → Prop), OkN T k A → Gl T s.heap → ZOk Z s.heap → Rep Z s.heap v₁ d₁ →
    (∀ v s', Kp T s s' → Rep Z s'.heap v d → Q v s') → wpAny (model T.prog T.w) A (unaryOp op v₁) Q E s
noncomputable def CmpR (T : Th) (op : CmpOp) (d₁ d₂ : D) (b : Bool) : Prop :=
  ∀ (k : Nat) (A : Around) (Z : Zo) (s : Shared) (v₁ v₂ : Value) (Q : Value → Shared → Prop) (E : Value → Shared → Prop), OkN T k A → Gl T s.heap → ZOk Z s.heap → Rep Z s.heap v₁ d₁ → Rep Z s.heap v₂ d₂ →
    (∀ s', Kp T s s' → Q (.bool b) s') → wpAny (model T.prog T.w) A (compareOp op v₁ v₂) Q E s
noncomputable def TruR (T : Th) (d : D) (b : Bool) : Prop :=
  ∀ (k : Nat) (A : Around) (Z : Zo) (s : Shared) (v : Value) (Q : Bool → Shared → Prop) (E : Value → Shared → Prop), OkN T k A → Gl T s.heap → ZOk Z s.heap → Rep Z s.heap v d →
    (∀ s', Kp T s s' → Q b s') → wpAny (model T.prog T.w) A (truthy v) Q E s
/-- a call upon values -/
noncomputable def CallR (T : Th) (k : Nat) (f : Value) (ds : List D) (d : D) : Prop :=
  ∀ (A : Around) (Z : Zo) (s : Shared) (vs : List Value) (Q : Value → Shared → Prop) (E : Value → Shared → Prop), OkN T k A → Gl T s.heap → ZOk Z s.heap → RepL Z s.heap vs ds →
    (∀ v s', Kp T s s' → Rep Z s'.heap v d → Q v s') → wpAny (model T.prog T.w) A (call f vs) Q E s

end Mine

namespace Mine
section
variable {T : Th} {k : Nat} {env : Env} {ρ : Rho}

theorem rep_str {Z : Zo} {h : Heap} {x : Str} {t : Tok} : Rep Z h (.str x t) (.str x) := by rw [Rep]; exact ⟨t, rfl⟩
theorem rep_int {Z : Zo} {h : Heap} {x : Int} {t : Tok} : Rep Z h (.int x t) (.int x) := by rw [Rep]; exact ⟨t, rfl⟩
theorem rep_bool {Z : Zo} {h : Heap} {x : Bool} : Rep Z h (.bool x) (.bool x) := by rw [Rep]
theorem rep_none {Z : Zo} {h : Heap} : Rep Z h .none .none := by rw [Rep]
theorem Rep.str_inv {Z : Zo} {h : Heap} {x : Str} {v : Value} (r : Rep Z h v (.str x)) : ∃ t, v = .str x t := by rwa [Rep] at r
theorem Rep.int_inv {Z : Zo} {h : Heap} {x : Int} {v : Value} (r : Rep Z h v (.int x)) : ∃ t, v = .int x t := by rwa [Rep] at r
theorem Rep.bool_inv {Z : Zo} {h : Heap} {x : Bool} {v : Value} (r : Rep Z h v (.bool x)) : v = .bool x := by rwa [Rep] at r
theorem Rep.none_inv {Z : Zo} {h : Heap} {v : Value} (r : Rep Z h v .none) : v = .none := by rwa [Rep] at r
theorem Rep.lst_inv {Z : Zo} {h : Heap} {ds : List D} {v : Value} (r : Rep Z h v (.lst ds)) : ∃ a vs, v = .ref a ∧ ¬ Z.x a ∧ h.IsList a vs.toArray ∧ RepL Z h vs ds := by rwa [Rep] at r
theorem Rep.mut_inv {Z : Zo} {h : Heap} {ds : List D} {v : Value} (r : Rep Z h v (.mut ds)) : ∃ a vs, v = .ref a ∧ Z.y a ∧ IsListM h a vs.toArray ∧ RepL Z h vs ds := by rwa [Rep] at r
theorem Rep.tup_inv {Z : Zo} {h : Heap} {ds : List D} {v : Value} (r : Rep Z h v (.tup ds)) : ∃ a vs, v = .ref a ∧ ¬ Z.x a ∧ IsTup h a vs.toArray ∧ RepL Z h vs ds := by rwa [Rep] at r
/-- a new list bears its items -/
theorem rep_new_lst {Z : Zo} {s : Shared} {vs : List Value} {ds : List D} {n : Nat} (z : ZOk Z s.heap) (r : RepL Z s.heap vs ds) :
    Rep Z (s.heap.push { cls := .type "list", data := .seq vs.toArray n }) (.ref s.heap.objs.size) (.lst ds) := by
  rw [Rep]
  exact ⟨_, vs, rfl, z.fresh (get?_size _), ⟨_, Heap.get?_push_size _ rfl, rfl, n, rfl⟩, r.hk (n := 0) (.of_keeps fun _ _ e => Heap.get?_push_of_some _ e)⟩
theorem rep_new_tup {Z : Zo} {s : Shared} {vs : List Value} {ds : List D} {n : Nat} (z : ZOk Z s.heap) (r : RepL Z s.heap vs ds) :
    Rep Z (s.heap.push { cls := .type "tuple", data := .seq vs.toArray n }) (.ref s.heap.objs.size) (.tup ds) := by
  rw [Rep]
  exact ⟨_, vs, rfl, z.fresh (get?_size _), ⟨_, Heap.get?_push_size _ rfl, rfl, n, rfl⟩, r.hk (n := 0) (.of_keeps fun _ _ e => Heap.get?_push_of_some _ e)⟩

/-! leaves -/
theorem Ev.cnone {i : Nat} {p : Pos} : Ev T k env (.Constant .none i p) ρ .none := fun _ _ _ _ _ _ _ hQ => wpAny_Constant_none (hQ _ _ .refl rep_none)
theorem Ev.cbool {b : Bool} {i : Nat} {p : Pos} : Ev T k env (.Constant (.bool b) i p) ρ (.bool b) := fun _ _ _ _ _ _ _ hQ => wpAny_Constant_bool (hQ _ _ .refl rep_bool)
theorem Ev.cint {n : Int} {i : Nat} {p : Pos} : Ev T k env (.Constant (.int n) i p) ρ (.int n) := fun _ _ _ _ _ _ _ hQ => wpAny_Constant_int (hQ _ _ .toks rep_int)
theorem Ev.cstr {x : Str} {i : Nat} {p : Pos} : Ev T k env (.Constant (.str x) i p) ρ (.str x) := fun _ _ _ _ _ _ _ hQ => wpAny_Constant_str (hQ _ _ .toks rep_str)

theorem load_has {A : Around} {s : Shared} {x : Str} {v : Value} {Q : Value → Shared → Prop} {E : Value → Shared → Prop} (hk : env.scope.kind = .function) (hn : (x == ("__classdict__" : Str)) = false) (a : Has env s.heap x v) (h : Q v s) :
    wpAny (model T.prog T.w) A (loadName env x) Q E s := by
  rcases a with ⟨e, m, n, q⟩ | ⟨e | e, c, l, i⟩
  · exact wpAny_loadName_local hk e n q h
  · exact wpAny_loadName_cell hk e l i h
  · exact wpAny_loadName_free hk e l i h hn
theorem Ev.name {x : Str} {d : D} {p : Pos} (h : ρ.lookup x = some d) (h1 : (x == ("__debug__" : Str)) = false) (h2 : (x == ("__classdict__" : Str)) = false) : Ev T k env (.Name x p) ρ d := fun A Z s Q E hA P hQ => by
  obtain ⟨v, a, r⟩ := P.s.has x d h
  exact wpAny_Name (load_has P.s.kind h2 a (hQ v s .refl r)) h1

/-- a name of the module's -/
noncomputable def GV (T : Th) (x : Str) (v : Value) : Prop := T.mg x = some v ∨ (T.mg x = none ∧ T.mb x = some v)
structure GEnv (env : Env) : Prop where
  g : env.globals = mainGlobals
  b : env.builtins = builtinsNs
theorem eval_global {A : Around} {s : Shared} {x : Str} {p : Pos} {v : Value} {Q : Value → Shared → Prop} {E : Value → Shared → Prop} (ge : GEnv env) (G : Gl T s.heap) (hk : env.scope.kind = .function) (hx : env.kindOf x = some .globalImplicit)
    (h1 : (x == ("__debug__" : Str)) = false) (gv : GV T x v) (h : Q v s) : wpAny (model T.prog T.w) A (eval (.Name x p) env) Q E s := by
  refine Calls.Name_function_global hk hx ?_ h1
  rcases gv with e | ⟨e1, e2⟩
  · exact Calls.loadGlobal_global (by rw [ge.g]; exact G.g) e h
  · exact Calls.loadGlobal_builtin (by rw [ge.g]; exact G.g) e1 (by rw [ge.b]; exact G.b) e2 h
theorem Ev.gstr {x y : Str} {t : Tok} {p : Pos} (ge : GEnv env) (gv : GV T x (.str y t)) (hx : env.kindOf x = some .globalImplicit) (h1 : (x == ("__debug__" : Str)) = false) : Ev T k env (.Name x p) ρ (.str y) := fun A Z s Q E hA P hQ =>
  eval_global ge P.g P.s.kind hx h1 gv (hQ _ _ .refl rep_str)

/-! inner nodes -/
theorem Ev.bin {l r : Expr} {op : Operator} {p : Pos} {d₁ d₂ d : D} (h₁ : Ev T k env l ρ d₁) (h₂ : Ev T k env r ρ d₂) (h : BinR T op d₁ d₂ d) : Ev T k env (.BinOp l op r p) ρ d := fun A Z s Q E hA P hQ =>
  wpAny_BinOp (h₁ A Z s _ _ hA P fun v₁ s₁ k₁ r₁ => h₂ A Z s₁ _ _ hA (P.kp k₁) fun v₂ s₂ k₂ r₂ =>
    h k A Z s₂ v₁ v₂ _ _ hA ((P.kp k₁).kp k₂).g ((P.kp k₁).kp k₂).z (r₁.hk k₂.hk) r₂ fun v s' k' r' => hQ v s' ((k₁.trans k₂).trans k') r')
theorem Ev.un {x : Expr} {op : UnaryOp} {p : Pos} {d₁ d : D} (h₁ : Ev T k env x ρ d₁) (h : UnR T op d₁ d) : Ev T k env (.UnaryOp op x p) ρ d := fun A Z s Q E hA P hQ =>
  wpAny_UnaryOp (h₁ A Z s _ _ hA P fun v₁ s₁ k₁ r₁ => h k A Z s₁ v₁ _ _ hA (P.kp k₁).g (P.kp k₁).z r₁ fun v s' k' r' => hQ v s' (k₁.trans k') r')
theorem Ev.cmp {l r : Expr} {op : CmpOp} {p : Pos} {d₁ d₂ : D} {b : Bool} (h₁ : Ev T k env l ρ d₁) (h₂ : Ev T k env r ρ d₂) (h : CmpR T op d₁ d₂ b) (hm : behindInMarks op r = false) : Ev T k env (.Compare l [op] [r] p) ρ (.bool b) := fun A Z s Q E hA P hQ =>
  wpAny_Compare1 (h₁ A Z s _ _ hA P fun v₁ s₁ k₁ r₁ => h₂ A Z s₁ _ _ hA (P.kp k₁) fun v₂ s₂ k₂ r₂ =>
    h k A Z s₂ v₁ v₂ _ _ hA ((P.kp k₁).kp k₂).g ((P.kp k₁).kp k₂).z (r₁.hk k₂.hk) r₂ fun s' k' => hQ _ s' ((k₁.trans k₂).trans k') rep_bool) hm
theorem Ev.ite {t a b : Expr} {p : Pos} {c : Bool} {d : D} (h : EvB T k env t ρ c) (ha : c = true → Ev T k env a ρ d) (hb : c = false → Ev T k env b ρ d) : Ev T k env (.IfExp t a b p) ρ d := fun A Z s Q E hA P hQ =>
  wpAny_IfExp (h A Z s _ _ hA P fun s₁ k₁ => by
    cases c with
    | true => exact ha rfl A Z s₁ _ _ hA (P.kp k₁) fun v s' k' r' => hQ v s' (k₁.trans k') r'
    | false => exact hb rfl A Z s₁ _ _ hA (P.kp k₁) fun v s' k' r' => hQ v s' (k₁.trans k') r')

theorem EvB.cmp {l r : Expr} {op : CmpOp} {p : Pos} {d₁ d₂ : D} {b : Bool} (h₁ : Ev T k env l ρ d₁) (h₂ : Ev T k env r ρ d₂) (h : CmpR T op d₁ d₂ b) (hm : behindInMarks op r = false) : EvB T k env (.Compare l [op] [r] p) ρ b := fun A Z s Q E hA P hQ =>
  wpAny_isTrue_Compare1 (h₁ A Z s _ _ hA P fun v₁ s₁ k₁ r₁ => h₂ A Z s₁ _ _ hA (P.kp k₁) fun v₂ s₂ k₂ r₂ =>
    h k A Z s₂ v₁ v₂ _ _ hA ((P.kp k₁).kp k₂).g ((P.kp k₁).kp k₂).z (r₁.hk k₂.hk) r₂ fun s' k' => wpAny_truthy_bool (hQ s' ((k₁.trans k₂).trans k'))) hm
theorem EvB.val {e : Expr} {d : D} {b : Bool} (h : Ev T k env e ρ d) (ht : TruR T d b) (he : isTrue e env (eval e env) = (do let v ← eval e env; standAt e.pos; holding [v] (truthy v)) := by rfl) : EvB T k env e ρ b := fun A Z s Q E hA P hQ =>
  wpAny_isTrue_value (h A Z s _ _ hA P fun v s₁ k₁ r₁ => ht k A Z s₁ v _ _ hA (P.kp k₁).g (P.kp k₁).z r₁ fun s' k' => hQ s' (k₁.trans k')) he
theorem EvB.or2 {x y : Expr} {p : Pos} {a b : Bool} (h₁ : EvB T k env x ρ a) (h₂ : a = false → EvB T k env y ρ b) : EvB T k env (.BoolOp .Or [x, y] p) ρ (a || b) := fun A Z s Q E hA P hQ =>
  wpAny_isTrue_BoolOp (wpAny_allTrue_Or_cons (h₁ A Z s _ _ hA P fun s₁ k₁ => by
    cases a with
    | true => exact hQ s₁ k₁
    | false => exact wpAny_allTrue_Or_cons (h₂ rfl A Z s₁ _ _ hA (P.kp k₁) fun s₂ k₂ => by
        cases b with
        | true => exact hQ s₂ (k₁.trans k₂)
        | false => exact wpAny_allTrue_Or_nil (hQ s₂ (k₁.trans k₂)))))
theorem EvB.and2 {x y : Expr} {p : Pos} {a b : Bool} (h₁ : EvB T k env x ρ a) (h₂ : a = true → EvB T k env y ρ b) : EvB T k env (.BoolOp .And [x, y] p) ρ (a && b) := fun A Z s Q E hA P hQ =>
  wpAny_isTrue_BoolOp (wpAny_allTrue_And_cons (h₁ A Z s _ _ hA P fun s₁ k₁ => by
    cases a with
    | false => exact hQ s₁ k₁
    | true => exact wpAny_allTrue_And_cons (h₂ rfl A Z s₁ _ _ hA (P.kp k₁) fun s₂ k₂ => by
        cases b with
        | false => exact hQ s₂ (k₁.trans k₂)
        | true => exact wpAny_allTrue_And_nil (hQ s₂ (k₁.trans k₂)))))

theorem EvL.nil : EvL T k env [] ρ [] := fun A Z s pos Q E hA P hQ => wpAny_items_nil (hQ _ _ .refl .nil)
theorem EvL.cons {e : Expr} {es : List Expr} {d : D} {ds : List D} (h : Ev T k env e ρ d) (hs : EvL T k env es ρ ds) (he : starEach (e :: es) env = (false, eval e env) :: starEach es env) : EvL T k env (e :: es) ρ (d :: ds) := fun A Z s pos Q E hA P hQ =>
  wpAny_items_cons (h A Z s _ _ hA P fun v s₁ k₁ r₁ => hs A Z s₁ pos _ _ hA (P.kp k₁) fun vs s₂ k₂ r₂ => hQ _ s₂ (k₁.trans k₂) (.cons (r₁.hk k₂.hk) r₂)) he

theorem Ev.list {es : List Expr} {p : Pos} {ds : List D} (h : EvL T k env es ρ ds) (hsz : ds.length ≤ 4096) : Ev T k env (.List es p) ρ (.lst ds) := fun A Z s Q E hA P hQ =>
  wpAny_List (h A Z s p _ _ hA P fun vs s₁ k₁ r₁ => ⟨by rw [r₁.length, sizeLine_eq]; omega, hQ _ _ (k₁.trans .push) (rep_new_lst (P.kp k₁).z r₁)⟩)
theorem Ev.tuple {es : List Expr} {i : Nat} {p : Pos} {ds : List D} (h : EvL T k env es ρ ds) (hsz : ds.length ≤ 4096) : Ev T k env (.Tuple es i p) ρ (.tup ds) := fun A Z s Q E hA P hQ =>
  wpAny_Tuple (h A Z s p _ _ hA P fun vs s₁ k₁ r₁ => ⟨by rw [r₁.length, sizeLine_eq]; omega, hQ _ _ (k₁.trans .push) (rep_new_tup (P.kp k₁).z r₁)⟩)

/-! calls -/
noncomputable def Callee (T : Th) (f : Value) : Prop := (∃ id, f = .builtin id) ∨ (∃ ty, f = .type ty) ∨ (∃ a, f = .ref a ∧ ∀ h, Gl T h → ∃ o fd, h.get? a = some o ∧ o.data = .func fd)
theorem callWith_of {A : Around} {s : Shared} {pos : Pos} {f : Value} {first : List Value} {e : Expr} {es : List Expr} {Q : Value → Shared → Prop} {E : Value → Shared → Prop} (hc : Callee T f)
    (he : starEach (e :: es) env = (false, eval e env) :: starEach es env) (hp : (backTo pos (starEach (e :: es) env)).any (·.1) = false)
    (h : wpAny (model T.prog T.w) A (spliced (backTo pos (starEach (e :: es) env))) (fun vs s₁ => Gl T s₁.heap ∧ wpAny (model T.prog T.w) A (call f (first ++ vs)) Q E s₁) E s) :
    wpAny (model T.prog T.w) A (callWith pos f first (backTo pos (starEach (e :: es) env)) []) Q E s := by
  have he' : backTo pos (starEach (e :: es) env) = (false, eval e env) :: backTo pos (starEach es env) := by rw [he]; rfl
  have ha : ∀ {R : Args → Shared → Prop}, wpAny (model T.prog T.w) A (spliced (backTo pos (starEach (e :: es) env))) (fun vs s₁ => R ⟨vs, []⟩ s₁) E s → wpAny (model T.prog T.w) A (evalArgs f true (backTo pos (starEach (e :: es) env)) []) R E s := by
    intro R hR
    rw [he'] at hR ⊢
    exact evalArgs_kwB rfl (wpAny_mono hR (fun vs s₁ h₁ => wpAny_evalAll_nil h₁) fun _ _ x => x)
  rcases hc with ⟨id, rfl⟩ | ⟨ty, rfl⟩ | ⟨a, rfl, hf⟩
  · exact callWith_builtin_kwB hp rfl (ha (wpAny_mono h (fun vs s₁ h₁ => h₁.2) fun _ _ x => x))
  · exact PyProof.Rows.callWith_type hp (ha (wpAny_mono h (fun vs s₁ h₁ => h₁.2) fun _ _ x => x))
  · unfold callWith
    refine wpAny_bind (wpAny_holding (ha (wpAny_mono h (fun vs s₁ h₁ => wpAny_bind (wpAny_standAt ?_)) fun _ _ x => x)))
    obtain ⟨o, fd, ho, hd⟩ := hf _ h₁.1
    have tail : ∀ {t : Sem Value}, wpAny (model T.prog T.w) A t Q E s₁ → wpAny (model T.prog T.w) A (t >>= fun r => holding [r] point >>= fun _ => pure r) Q E s₁ :=
      fun ht => wpAny_bind (wpAny_mono ht (fun r s₂ hr => wpAny_bind (wpAny_holding (wpAny_point (wpAny_pure hr)))) fun _ _ x => x)
    rw [hp]
    refine wpAny_bind (m := keeperOf (.ref a)) ?_
    unfold keeperOf
    refine wpAny_bind (wpAny_load ho ?_)
    rw [hd]
    refine wpAny_pure ?_
    dsimp only [List.any_nil, Bool.or_false]
    refine wpAny_ite ?_
    split
    · exact tail h₁.2
    · exact tail (by unfold callMarked; exact Calls.wpAny_keep h₁.2)

theorem Ev.call {f : Str} {fv : Value} {p pos : Pos} {e : Expr} {es : List Expr} {ds : List D} {d : D} (ge : GEnv env) (gv : GV T f fv) (hc : Callee T fv) (hx : env.kindOf f = some .globalImplicit) (h1 : (f == ("__debug__" : Str)) = false)
    (hes : EvL T k env (e :: es) ρ ds) (he : starEach (e :: es) env = (false, eval e env) :: starEach es env) (hp : (backTo pos (starEach (e :: es) env)).any (·.1) = false)
    (h : CallR T k fv ds d) : Ev T k env (.Call (.Name f p) (e :: es) [] pos) ρ d := fun A Z s Q E hA P hQ =>
  PyProof.Rows.Call_Name rfl (eval_global ge P.g P.s.kind hx h1 gv (callWith_of hc he hp (hes A Z s pos _ _ hA P fun vs s₁ k₁ r₁ => ⟨(P.kp k₁).g, h A Z s₁ vs _ _ hA (P.kp k₁).g (P.kp k₁).z r₁ fun v s' k' r' => hQ v s' (k₁.trans k') r'⟩)))

/-- a method of a str's -/
theorem Ev.smeth {o : Expr} {name : Str} {id : String} {apos pos : Pos} {e : Expr} {es : List Expr} {x : Str} {ds : List D} {d : D} (ho : Ev T k env o ρ (.str x)) (slot : Slot "str" name id) (ty : typeOf (.builtin id) = pure (.type "method_descriptor"))
    (hes : EvL T k env (e :: es) ρ ds) (he : starEach (e :: es) env = (false, eval e env) :: starEach es env) (hp : (backTo pos (starEach (e :: es) env)).any (·.1) = false)
    (hbase : attributeBase o name env (eval o env) = eval o env)
    (hfew : ((backTo pos (starEach (e :: es) env)).all (fun x => !x.1) && (backToKw pos (keywordEach [] env)).all (fun x => x.1.isSome) && decide ((e :: es).length + ([] : List Keyword).length + (if ([] : List Keyword).isEmpty then 0 else 1) < 30)) = true)
    (hline : (apos.endLine == pos.line) = true)
    (h : CallR T k (.builtin id) (.str x :: ds) d) : Ev T k env (.Call (.Attribute o name apos) (e :: es) [] pos) ρ d := fun A Z s Q E hA P hQ => by
  refine wpAny_Call_method_lateS hbase hfew hline (ho A Z s _ _ hA P fun v s₁ k₁ r₁ => ?_)
  obtain ⟨t, rfl⟩ := r₁.str_inv
  refine ⟨"str", id, F.plainAttrs_str, slot, ty, typeIs_str _ _ _, (fun _ e => nomatch e), callWith_of (T := T) (.inl ⟨id, rfl⟩) he hp (hes A Z s₁ pos _ _ hA (P.kp k₁) fun vs s₂ k₂ r₂ => ⟨((P.kp k₁).kp k₂).g, ?_⟩)⟩
  exact h A Z s₂ _ _ _ hA ((P.kp k₁).kp k₂).g ((P.kp k₁).kp k₂).z (.cons rep_str r₂) fun v s' k' r' => hQ v s' ((k₁.trans k₂).trans k') r'

/-! items and cuts -/
theorem Ev.idx {value slice : Expr} {pos : Pos} {ds : List D} {i : Int} {d : D} (hv : Ev T k env value ρ (.lst ds)) (hi : Ev T k env slice ρ (.int i)) (h0 : 0 ≤ i) (hi2 : i < 2 ^ 62) (hd : ds[i.toNat]? = some d)
    (hs : ∀ o j, subscripted slice false o j = operate [o, j] (getItem o j)) : Ev T k env (.Subscript value slice pos) ρ d := fun A Z s Q E hA P hQ => by
  refine Subscript_ (hv A Z s _ _ hA P fun v s₁ k₁ r₁ => hi A Z s₁ _ _ hA (P.kp k₁) fun vi s₂ k₂ r₂ => ?_)
  obtain ⟨a, vs, rfl, _, hl, hr⟩ := (r₁.hk k₂.hk).lst_inv
  obtain ⟨t, rfl⟩ := r₂.int_inv
  obtain ⟨x, hx, rx⟩ := hr.get' hd
  exact tail_any hl.typeIs slot_list_getitem.lookup (wpAny_getItem_list hl h0 (by omega) (by simpa using hx) (hQ _ _ (k₁.trans k₂) rx)) (hs _ _)
theorem Ev.idxNeg {value slice : Expr} {pos : Pos} {ds : List D} {i : Int} {d : D} (hv : Ev T k env value ρ (.lst ds)) (hi : Ev T k env slice ρ (.int i)) (h0 : i < 0) (h1 : -(ds.length : Int) ≤ i) (hi2 : -(2 ^ 62) ≤ i) (hd : ds[(i + ds.length).toNat]? = some d)
    (hs : ∀ o j, subscripted slice false o j = operate [o, j] (getItem o j)) : Ev T k env (.Subscript value slice pos) ρ d := fun A Z s Q E hA P hQ => by
  refine Subscript_ (hv A Z s _ _ hA P fun v s₁ k₁ r₁ => hi A Z s₁ _ _ hA (P.kp k₁) fun vi s₂ k₂ r₂ => ?_)
  obtain ⟨a, vs, rfl, _, hl, hr⟩ := (r₁.hk k₂.hk).lst_inv
  obtain ⟨t, rfl⟩ := r₂.int_inv
  obtain ⟨x, hx, rx⟩ := hr.get' hd
  have hlen := hr.length
  exact tail_any hl.typeIs slot_list_getitem.lookup (wpAny_getItem_list_neg hl h0 (by simp only [List.size_toArray]; omega) (by omega) (by simp only [List.size_toArray, hlen]; simpa using hx) (hQ _ _ (k₁.trans k₂) rx)) (hs _ _)

/-- a cut's part -/
noncomputable def EvP (T : Th) (k : Nat) (env : Env) (e : Option Expr) (ρ : Rho) (i : Option Int) : Prop := match e, i with
  | none, none => True
  | some e, some i => Ev T k env e ρ (.int i)
  | _, _ => False
theorem EvP.run {e : Option Expr} {i : Option Int} (h : EvP T k env e ρ i) {A : Around} {Z : Zo} {s : Shared} {Q : Value → Shared → Prop} {E : Value → Shared → Prop} (hA : OkN T k A) (P : Pre T Z env ρ s)
    (hQ : ∀ v s', Kp T s s' → (∃ q : Option (Int × Tok), v = partValue q ∧ q.map (·.1) = i) → Q v s') : wpAny (model T.prog T.w) A (evalPart e env) Q E s := by
  match e, i, h with
  | none, none, _ => rw [evalPart_none]; exact wpAny_pure (hQ _ _ .refl ⟨none, rfl, rfl⟩)
  | some e, some i, h =>
    rw [evalPart_some]
    exact h A Z s _ _ hA P fun v s' k' r' => by
      obtain ⟨t, rfl⟩ := r'.int_inv
      exact hQ _ _ k' ⟨some (i, t), rfl, rfl⟩
theorem isPart_of {v : Value} {i : Option Int} (h : ∃ q : Option (Int × Tok), v = partValue q ∧ q.map (·.1) = i) : IsPart v i := by
  obtain ⟨q, rfl, rfl⟩ := h
  cases q with
  | none => exact .none
  | some q => exact .int _ _

theorem RepL.filterMap {Z : Zo} {h : Heap} {vs : List Value} {ds : List D} (r : RepL Z h vs ds) : ∀ (js : List Nat), RepL Z h (js.filterMap (vs[·]?)) (js.filterMap (ds[·]?))
  | [] => .nil
  | j :: js => by
    have ih := RepL.filterMap r js
    by_cases hj : j < vs.length
    · have hj' : j < ds.length := r.length ▸ hj
      have e1 : vs[j]? = some vs[j] := List.getElem?_eq_getElem hj
      have e2 : ds[j]? = some ds[j] := List.getElem?_eq_getElem hj'
      obtain ⟨d, hd, hr⟩ := r.get e1
      rw [List.filterMap_cons_some e1, List.filterMap_cons_some e2]
      rw [e2] at hd; cases hd
      exact .cons hr ih
    · have e1 : vs[j]? = none := List.getElem?_eq_none (Nat.le_of_not_lt hj)
      have e2 : ds[j]? = none := List.getElem?_eq_none (by have := r.length; omega)
      rw [List.filterMap_cons_none e1, List.filterMap_cons_none e2]
      exact ih

/-- what a cut of a list picks -/
noncomputable def cutL {α : Type} (l : List α) (lo hi st : Option Int) : List α :=
  (sliceRange (sliceBounds lo hi st l.length).1 (sliceBounds lo hi st l.length).2.1 (sliceBounds lo hi st l.length).2.2).filterMap (l[·]?)

theorem Ev.cut {value : Expr} {lower upper step : Option Expr} {p pos : Pos} {ds : List D} {lo hi st : Option Int} (hv : Ev T k env value ρ (.lst ds)) (h1 : EvP T k env lower ρ lo) (h2 : EvP T k env upper ρ hi) (h3 : EvP T k env step ρ st) (h0 : st ≠ some 0)
    (hsz : ds.length ≤ 4096) : Ev T k env (.Subscript value (.Slice lower upper step p) pos) ρ (.lst (cutL ds lo hi st)) := fun A Z s Q E hA P hQ => by
  refine Subscript_ (hv A Z s _ _ hA P fun v s₁ k₁ r₁ => wpAny_Slice (h1.run hA (P.kp k₁) fun v1 s₂ k₂ q1 => h2.run hA ((P.kp k₁).kp k₂) fun v2 s₃ k₃ q2 => h3.run hA (((P.kp k₁).kp k₂).kp k₃) fun v3 s₄ k₄ q3 => ?_))
  have kk : Kp T s₁ s₄ := (k₂.trans k₃).trans k₄
  obtain ⟨a, vs, rfl, _, hl, hr⟩ := (r₁.hk kk.hk).lst_inv
  have hl' := hl.push { cls := .type "slice", data := .fields #[v1, v2, v3] }
  have z4 := (((P.kp k₁).kp k₂).kp k₃).kp k₄ |>.z
  have hpick : slicePick vs.toArray lo hi st = (cutL vs lo hi st).toArray := by unfold slicePick cutL; simp
  have kp5 : Kp T s₄ { s₄ with heap := s₄.heap.push { cls := .type "slice", data := .fields #[v1, v2, v3] } } := .push
  have hs : subscripted (.Slice lower upper step p) false (.ref a) (.ref s₄.heap.objs.size) = operate (match step with | none => [.ref s₄.heap.objs.size, .ref a] | some _ => [.ref a, .ref s₄.heap.objs.size]) (getItem (.ref a) (.ref s₄.heap.objs.size)) := by cases step <;> rfl
  refine tail_any (s := { s₄ with heap := s₄.heap.push { cls := .type "slice", data := .fields #[v1, v2, v3] } }) hl'.typeIs slot_list_getitem.lookup (wpAny_getItem_list_slice hl' (Heap.IsSliceOf.new ..) (isPart_of q1) (isPart_of q2) (isPart_of q3) h0 ?_ (by rw [List.size_toArray, hr.length, sizeLine_eq]; omega)) hs
  rw [hpick]
  have hr' : RepL Z s₄.heap (cutL vs lo hi st) (cutL ds lo hi st) := by unfold cutL; rw [hr.length]; exact hr.filterMap _
  exact hQ _ _ (((k₁.trans kk).trans kp5).trans .push) (rep_new_lst (s := { s₄ with heap := s₄.heap.push { cls := .type "slice", data := .fields #[v1, v2, v3] } }) (z4.hk kp5.hk) (hr'.hk kp5.hk))

/-- what a cut of a text picks -/
noncomputable def cutS (x : Str) (lo hi : Option Int) : Str := ⟨((Builtin.Str.strSliceIndices lo hi 1 x.length).filterMap (x.cps[·]?)).toArray⟩
end
end Mine

namespace Mine
section
variable {T : Th}

theorem OkN.room {k : Nat} {A : Around} (h : OkN T k A) : A.units < cLine := by have := h.2.2; omega

/-! numbers -/
theorem BinR.addI {a b : Int} : BinR T .Add (.int a) (.int b) (.int (a + b)) := fun k A Z s v₁ v₂ Q E hA G z r₁ r₂ hQ => by
  obtain ⟨t, rfl⟩ := r₁.int_inv; obtain ⟨u, rfl⟩ := r₂.int_inv
  exact PyProof.Rows.add_int (hQ _ _ .toks rep_int)
theorem BinR.subI {a b : Int} : BinR T .Sub (.int a) (.int b) (.int (a - b)) := fun k A Z s v₁ v₂ Q E hA G z r₁ r₂ hQ => by
  obtain ⟨t, rfl⟩ := r₁.int_inv; obtain ⟨u, rfl⟩ := r₂.int_inv
  exact PyProof.Rows.sub_int (hQ _ _ .toks rep_int)
theorem BinR.modI {a b : Int} (hb : b ≠ 0) : BinR T .Mod (.int a) (.int b) (.int (a.fmod b)) := fun k A Z s v₁ v₂ Q E hA G z r₁ r₂ hQ => by
  obtain ⟨t, rfl⟩ := r₁.int_inv; obtain ⟨u, rfl⟩ := r₂.int_inv
  exact PyProof.Rows.mod_int hb (hQ _ _ .toks rep_int)
theorem BinR.divI {a b : Int} (hb : b ≠ 0) (h0 : 0 ≤ a) (h1 : a < 2 ^ 60) (h2 : 0 < b) (h3 : b < 1000) : BinR T .FloorDiv (.int a) (.int b) (.int (a.fdiv b)) := fun k A Z s v₁ v₂ Q E hA G z r₁ r₂ hQ => by
  obtain ⟨t, rfl⟩ := r₁.int_inv; obtain ⟨u, rfl⟩ := r₂.int_inv
  exact PyProof.Rows.floordiv_int hb (hQ _ _ .toks rep_int) (.inl (PyProof.noPylong_small (by omega)))
theorem BinR.powI {a b : Int} (h0 : 0 ≤ b) (h1 : b ≤ 1000000) (ha : a.natAbs < 2 ^ 64) : BinR T .Pow (.int a) (.int b) (.int (a ^ b.toNat)) := fun k A Z s v₁ v₂ Q E hA G z r₁ r₂ hQ => by
  obtain ⟨t, rfl⟩ := r₁.int_inv; obtain ⟨u, rfl⟩ := r₂.int_inv
  exact pow_int_small h0 h1 ha (hQ _ _ .toks rep_int)
theorem BinR.subB {a b : Bool} : BinR T .Sub (.bool a) (.bool b) (.int (b2i a - b2i b)) := fun k A Z s v₁ v₂ Q E hA G z r₁ r₂ hQ => by
  cases r₁.bool_inv; cases r₂.bool_inv
  exact sub_bool (hQ _ _ .toks rep_int)
theorem UnR.neg {a : Int} : UnR T .USub (.int a) (.int (-a)) := fun k A Z s v₁ Q E hA G z r₁ hQ => by
  obtain ⟨t, rfl⟩ := r₁.int_inv
  exact PyProof.Rows.neg_int (hQ _ _ .toks rep_int)

/-! texts -/
theorem BinR.addS {x y : Str} (hsz : x.length + y.length ≤ 1048576) : BinR T .Add (.str x) (.str y) (.str (x ++ y)) := fun k A Z s v₁ v₂ Q E hA G z r₁ r₂ hQ => by
  obtain ⟨t, rfl⟩ := r₁.str_inv; obtain ⟨u, rfl⟩ := r₂.str_inv
  exact PyProof.Rows.add_str (fun t' tk => hQ _ _ .toks rep_str) (by rw [sizeLine_eq]; omega)

/-! lists -/
theorem addL_wp {A : Around} {Z : Zo} {s : Shared} {a b : Addr} {vs ws : List Value} {ds es : List D} {Q : Value → Shared → Prop} {E : Value → Shared → Prop} (z : ZOk Z s.heap) (hl : s.heap.IsList a vs.toArray) (hb : s.heap.IsList b ws.toArray)
    (r₁ : RepL Z s.heap vs ds) (r₂ : RepL Z s.heap ws es) (hsz : ds.length + es.length ≤ 4096) (hQ : ∀ v s', Kp T s s' → Rep Z s'.heap v (.lst (ds ++ es)) → Q v s') :
    wpAny (model T.prog T.w) A (binaryOp .Add (.ref a) (.ref b)) Q E s := by
  obtain ⟨⟨cls, dd, data, sl⟩, ho, hc, n, hd⟩ := id hl
  obtain ⟨⟨cls2, dd2, data2, sl2⟩, ho2, hc2, n2, hd2⟩ := id hb
  simp only at hc hd hc2 hd2
  subst hc hd hc2 hd2
  have e : vs.toArray ++ ws.toArray = (vs ++ ws).toArray := by simp
  refine concat_meets ⟨_, ho, rfl⟩ ⟨_, ho2, rfl⟩ noFill_list_add seq_list_add PySem.F.slot_list_add PySem.F.entry_list_add (PySem.F.args_list_add_2 _ _)
    (list_addW a b vs.toArray ws.toArray n n2 dd dd2 sl sl2 (by simp only [List.size_toArray, r₁.length, r₂.length, sizeLine_eq]; omega)) ⟨ho, ho2, ?_⟩
  rw [e]
  exact hQ _ _ .push (rep_new_lst z (r₁.append r₂))
theorem BinR.addL {ds es : List D} (hsz : ds.length + es.length ≤ 4096) : BinR T .Add (.lst ds) (.lst es) (.lst (ds ++ es)) := fun k A Z s v₁ v₂ Q E hA G z r₁ r₂ hQ => by
  obtain ⟨a, vs, rfl, _, hl, r₁⟩ := r₁.lst_inv
  obtain ⟨b, ws, rfl, _, hb, r₂⟩ := r₂.lst_inv
  exact addL_wp z hl hb r₁ r₂ hsz hQ
theorem BinR.addM {ds es : List D} (hsz : ds.length + es.length ≤ 4096) : BinR T .Add (.mut ds) (.lst es) (.lst (ds ++ es)) := fun k A Z s v₁ v₂ Q E hA G z r₁ r₂ hQ => by
  obtain ⟨a, vs, rfl, _, hl, r₁⟩ := r₁.mut_inv
  have hl := hl.isList
  obtain ⟨b, ws, rfl, _, hb, r₂⟩ := r₂.lst_inv
  exact addL_wp z hl hb r₁ r₂ hsz hQ
theorem RepL.rep {Z : Zo} {h : Heap} {vs : List Value} {ds : List D} (r : RepL Z h vs ds) : ∀ n : Nat, RepL Z h (List.replicate n vs).flatten (List.replicate n ds).flatten
  | 0 => .nil
  | n + 1 => by rw [List.replicate_succ, List.replicate_succ, List.flatten_cons, List.flatten_cons]; exact r.append (RepL.rep r n)
theorem BinR.mulL {ds : List D} {n : Int} (h0 : 0 ≤ n) (h1 : n < 4096) (hsz : ds.length * n.toNat ≤ 4096) : BinR T .Mult (.lst ds) (.int n) (.lst (List.replicate n.toNat ds).flatten) := fun k A Z s v₁ v₂ Q E hA G z r₁ r₂ hQ => by
  obtain ⟨a, vs, rfl, _, hl, r₁⟩ := r₁.lst_inv
  obtain ⟨u, rfl⟩ := r₂.int_inv
  obtain ⟨⟨cls, d, data, sl⟩, ho, hcl, kk, hd⟩ := id hl
  simp only at hcl hd
  subst hcl hd
  have hsz' : vs.toArray.size * n.toNat ≤ 2 ^ 24 := by
    rw [List.size_toArray, r₁.length]; omega
  refine wpAny_binaryOp_repeat_ref (T := "list") (U := "int") (by decide) ⟨_, ho, rfl⟩ (fun s' => typeIs_int s' n u) noFill_list_mul F.fills_int_mul F.slot_int_rmul repeat_list F.slot_int_index.lookup
    (call_meets F.slot_int_rmul (typeIs_int s n u) F.entry_int_rmul (F.args_int_rmul_2 _ _) (lm_int_rmul_list_any n u a vs.toArray kk d sl)
      ⟨ho, rfl, ⟨_, ho, rfl⟩, call_meets F.slot_list_mul ⟨_, ho, rfl⟩ F.entry_list_mul (F.args_list_mul_2 _ _)
        (lm_list_mul_any a vs.toArray kk d sl n u (by simp [Builtin.List.listFitsIndex]; omega) (by omega) (by simp [Builtin.List.listTooLong, sizeLine]; omega))
        ⟨ho, ?_⟩⟩)
  rw [listMul_foldl_if]
  exact hQ _ _ .push (rep_new_lst z (r₁.rep _))

/-! comparisons -/
theorem CmpR.eqI {a b : Int} : CmpR T .Eq (.int a) (.int b) (a == b) := fun k A Z s v₁ v₂ Q E hA G z r₁ r₂ hQ => by
  obtain ⟨t, rfl⟩ := r₁.int_inv; obtain ⟨u, rfl⟩ := r₂.int_inv
  exact PyProof.Rows.eq_int (hQ _ .refl)
theorem CmpR.neI {a b : Int} : CmpR T .NotEq (.int a) (.int b) (a != b) := fun k A Z s v₁ v₂ Q E hA G z r₁ r₂ hQ => by
  obtain ⟨t, rfl⟩ := r₁.int_inv; obtain ⟨u, rfl⟩ := r₂.int_inv
  exact PyProof.Rows.ne_int (hQ _ .refl)
theorem CmpR.ltI {a b : Int} : CmpR T .Lt (.int a) (.int b) (decide (a < b)) := fun k A Z s v₁ v₂ Q E hA G z r₁ r₂ hQ => by
  obtain ⟨t, rfl⟩ := r₁.int_inv; obtain ⟨u, rfl⟩ := r₂.int_inv
  exact PyProof.Rows.lt_int (hQ _ .refl)
theorem CmpR.gtI {a b : Int} : CmpR T .Gt (.int a) (.int b) (decide (b < a)) := fun k A Z s v₁ v₂ Q E hA G z r₁ r₂ hQ => by
  obtain ⟨t, rfl⟩ := r₁.int_inv; obtain ⟨u, rfl⟩ := r₂.int_inv
  exact PyProof.Rows.gt_int (hQ _ .refl)
theorem CmpR.geI {a b : Int} : CmpR T .GtE (.int a) (.int b) (decide (b ≤ a)) := fun k A Z s v₁ v₂ Q E hA G z r₁ r₂ hQ => by
  obtain ⟨t, rfl⟩ := r₁.int_inv; obtain ⟨u, rfl⟩ := r₂.int_inv
  exact PyProof.Rows.ge_int (hQ _ .refl)
theorem CmpR.eqS {x y : Str} : CmpR T .Eq (.str x) (.str y) (x == y) := fun k A Z s v₁ v₂ Q E hA G z r₁ r₂ hQ => by
  obtain ⟨t, rfl⟩ := r₁.str_inv; obtain ⟨u, rfl⟩ := r₂.str_inv
  exact PyProof.Rows.eq_str (hQ _ .refl)
theorem CmpR.ltS {x y : Str} : CmpR T .Lt (.str x) (.str y) (decide (x.cps.toList < y.cps.toList)) := fun k A Z s v₁ v₂ Q E hA G z r₁ r₂ hQ => by
  obtain ⟨t, rfl⟩ := r₁.str_inv; obtain ⟨u, rfl⟩ := r₂.str_inv
  exact PyProof.Rows.lt_str (hQ _ .refl)
theorem CmpR.gtS {x y : Str} : CmpR T .Gt (.str x) (.str y) (decide (y.cps.toList < x.cps.toList)) := fun k A Z s v₁ v₂ Q E hA G z r₁ r₂ hQ => by
  obtain ⟨t, rfl⟩ := r₁.str_inv; obtain ⟨u, rfl⟩ := r₂.str_inv
  exact PySem.P.gt_str (hQ _ .refl)
theorem CmpR.notInS {x y : Str} : CmpR T .NotIn (.str y) (.str x) (Builtin.Str.occurrences x y 0 x.length 1).isEmpty := fun k A Z s v₁ v₂ Q E hA G z r₁ r₂ hQ => by
  obtain ⟨t, rfl⟩ := r₁.str_inv; obtain ⟨u, rfl⟩ := r₂.str_inv
  exact PyProof.Rows.notIn_str (by rw [Bool.not_not]; exact hQ _ .refl)
noncomputable def D.isNone : D → Bool
  | .none => true
  | _ => false
theorem Rep.none_beq {Z : Zo} {h : Heap} {v : Value} {d : D} (r : Rep Z h v d) : (v == Value.none) = d.isNone := by
  cases d with
  | none => rw [r.none_inv]; rfl
  | bool b => rw [r.bool_inv]; rfl
  | int i => obtain ⟨t, rfl⟩ := r.int_inv; rfl
  | str x => obtain ⟨t, rfl⟩ := r.str_inv; rfl
  | tup ds => obtain ⟨a, vs, rfl, _⟩ := r.tup_inv; rfl
  | lst ds => obtain ⟨a, vs, rfl, _⟩ := r.lst_inv; rfl
  | «mut» ds => obtain ⟨a, vs, rfl, _⟩ := r.mut_inv; rfl
theorem CmpR.isNone {d : D} : CmpR T .Is d .none d.isNone := fun k A Z s v₁ v₂ Q E hA G z r₁ r₂ hQ => by
  cases r₂.none_inv
  exact is_none_gen (by rw [r₁.none_beq]; exact hQ _ .refl)
theorem CmpR.isNotNone {d : D} : CmpR T .IsNot d .none (!d.isNone) := fun k A Z s v₁ v₂ Q E hA G z r₁ r₂ hQ => by
  cases r₂.none_inv
  exact isnot_none_gen (by rw [r₁.none_beq]; exact hQ _ .refl)
theorem CmpR.isNotB {a b : Bool} : CmpR T .IsNot (.bool a) (.bool b) (a != b) := fun k A Z s v₁ v₂ Q E hA G z r₁ r₂ hQ => by
  cases r₁.bool_inv; cases r₂.bool_inv
  exact isnot_bool (hQ _ .refl)

/-- equality of flat data of one kind -/
noncomputable def flatEq : D → D → Bool
  | .int a, .int b => a == b
  | .str a, .str b => a == b
  | .bool a, .bool b => a == b
  | .none, .none => true
  | _, _ => false
noncomputable def sameKind : D → D → Prop
  | .int _, .int _ => True
  | .str _, .str _ => True
  | .bool _, .bool _ => True
  | .none, .none => True
  | _, _ => False
theorem eqAt_of {Z : Zo} {A : Around} {s : Shared} {v₁ v₂ : Value} : ∀ {d₁ d₂ : D}, sameKind d₁ d₂ → Rep Z s.heap v₁ d₁ → Rep Z s.heap v₂ d₂ → SeqAt.EqAt A s v₁ v₂ (flatEq d₁ d₂)
  | .int a, .int b, _, r₁, r₂ => by obtain ⟨t, rfl⟩ := r₁.int_inv; obtain ⟨u, rfl⟩ := r₂.int_inv; exact SeqAt.EqAt.int_int _ _ _ _
  | .str a, .str b, _, r₁, r₂ => by obtain ⟨t, rfl⟩ := r₁.str_inv; obtain ⟨u, rfl⟩ := r₂.str_inv; exact SeqAt.EqAt.str_str _ _ _ _
  | .bool a, .bool b, _, r₁, r₂ => by cases r₁.bool_inv; cases r₂.bool_inv; exact SeqAt.EqAt.bool_bool _ _
  | .none, .none, _, r₁, r₂ => by cases r₁.none_inv; cases r₂.none_inv; exact SeqAt.EqAt.same _
theorem any_rep {Z : Zo} {h : Heap} (p : D → Bool) : ∀ {ds : List D} {vs : List Value}, RepL Z h vs ds → ∀ e : Value → Bool, (∀ v d, Rep Z h v d → v ∈ vs → d ∈ ds → e v = p d) → vs.any e = ds.any p
  | [], vs, r, e, he => by rw [RepL] at r; rw [r]; rfl
  | d :: ds, vs, r, e, he => by
    rw [RepL] at r
    obtain ⟨v, w, rfl, a, b⟩ := r
    rw [List.any_cons, List.any_cons, he v d a (.head _) (.head _), any_rep p b e fun v' d' x y z => he v' d' x (.tail _ y) (.tail _ z)]
/-- a value's flat datum, read off the value -/
noncomputable def flatOf : Value → D
  | .int a _ => .int a
  | .str a _ => .str a
  | .bool a => .bool a
  | _ => .none
noncomputable def isFlat : D → Prop
  | .int _ | .str _ | .bool _ | .none => True
  | _ => False
theorem flatOf_rep {Z : Zo} {h : Heap} {v : Value} : ∀ {d : D}, isFlat d → Rep Z h v d → flatOf v = d
  | .int a, _, r => by obtain ⟨t, rfl⟩ := r.int_inv; rfl
  | .str a, _, r => by obtain ⟨t, rfl⟩ := r.str_inv; rfl
  | .bool a, _, r => by cases r.bool_inv; rfl
  | .none, _, r => by cases r.none_inv; rfl
theorem flat_of_same : ∀ {a b : D}, sameKind a b → isFlat a
  | .int _, .int _, _ => trivial
  | .str _, .str _, _ => trivial
  | .bool _, .bool _, _ => trivial
  | .none, .none, _ => trivial
theorem in_core {Z : Zo} {h : Heap} {vs : List Value} {ds : List D} {d : D} (hk : ∀ d' ∈ ds, sameKind d' d) (r : RepL Z h vs ds) : vs.toArray.any (fun y => flatEq (flatOf y) d) = ds.any (flatEq · d) := by
  rw [List.any_toArray]
  exact any_rep _ r _ fun v d' x _ hd => by rw [flatOf_rep (flat_of_same (hk d' hd)) x]
theorem eqAt_items {Z : Zo} {A : Around} {s : Shared} {x : Value} {vs : List Value} {ds : List D} {d : D} (hk : ∀ d' ∈ ds, sameKind d' d) (r : RepL Z s.heap vs ds) (rx : Rep Z s.heap x d) :
    ∀ y, y ∈ vs.toArray → SeqAt.EqAt A s y x (flatEq (flatOf y) d) := fun y hy => by
  obtain ⟨i, hi⟩ := List.mem_iff_getElem?.mp (by simpa using hy : y ∈ vs)
  obtain ⟨d', hd', ry⟩ := r.get hi
  have hm := hk d' (List.mem_of_getElem? hd')
  rw [flatOf_rep (flat_of_same hm) ry]
  exact eqAt_of hm ry rx
theorem CmpR.inL {ds : List D} {d : D} (hk : ∀ d' ∈ ds, sameKind d' d) : CmpR T .In d (.lst ds) (ds.any (flatEq · d)) := fun k A Z s v₁ v₂ Q E hA G z r₁ r₂ hQ => by
  obtain ⟨a, vs, rfl, _, hl, r₂⟩ := r₂.lst_inv
  exact SeqAt.in_listAt (fun y => flatEq (flatOf y) d) hl (eqAt_items hk r₂ r₁) (by rw [in_core hk r₂]; exact hQ _ .refl)
theorem CmpR.notInL {ds : List D} {d : D} (hk : ∀ d' ∈ ds, sameKind d' d) : CmpR T .NotIn d (.lst ds) (!ds.any (flatEq · d)) := fun k A Z s v₁ v₂ Q E hA G z r₁ r₂ hQ => by
  obtain ⟨a, vs, rfl, _, hl, r₂⟩ := r₂.lst_inv
  exact SeqAt.notIn_listAt (fun y => flatEq (flatOf y) d) hl (eqAt_items hk r₂ r₁) (by rw [in_core hk r₂]; exact hQ _ .refl)

/-- two lists of flat data: equal or not -/
noncomputable def listEq : List D → List D → Bool
  | [], [] => true
  | a :: as, b :: bs => flatEq a b && listEq as bs
  | _, _ => false
noncomputable def sameKinds : List D → List D → Prop
  | a :: as, b :: bs => sameKind a b ∧ sameKinds as bs
  | _, _ => True
theorem listEq_length : ∀ {as bs : List D}, as.length ≠ bs.length → listEq as bs = false
  | [], [], h => absurd rfl h
  | [], _ :: _, _ => rfl
  | _ :: _, [], _ => rfl
  | a :: as, b :: bs, h => by
    rw [listEq, listEq_length (as := as) (bs := bs) (fun e => h (by simp [e])), Bool.and_false]
theorem sameKinds_get : ∀ {as bs : List D}, sameKinds as bs → ∀ {i : Nat} {a b : D}, as[i]? = some a → bs[i]? = some b → sameKind a b
  | [], _, _, i, _, _, h1, _ => by simp at h1
  | _ :: _, [], _, i, _, _, _, h2 => by simp at h2
  | a :: as, b :: bs, h, 0, _, _, h1, h2 => by simp at h1 h2; subst h1 h2; exact h.1
  | a :: as, b :: bs, h, i + 1, _, _, h1, h2 => by simp at h1 h2; exact sameKinds_get h.2 h1 h2
theorem all_range_succ (n : Nat) (e : Nat → Bool) : (List.range (n + 1)).all e = (e 0 && (List.range n).all fun j => e (j + 1)) := by
  rw [List.range_succ_eq_map, List.all_cons, List.all_map]; rfl
theorem listEq_all : ∀ {as bs : List D}, as.length = bs.length → (List.range as.length).all (fun j => flatEq (as.getD j .none) (bs.getD j .none)) = listEq as bs
  | [], [], _ => rfl
  | [], _ :: _, h => by simp at h
  | _ :: _, [], h => by simp at h
  | a :: as, b :: bs, h => by
    rw [List.length_cons, all_range_succ, listEq]
    have := listEq_all (as := as) (bs := bs) (by simpa using h)
    simp only [List.getD_cons_zero, List.getD_cons_succ] at *
    rw [this]
theorem CmpR.neL {as bs : List D} (hk : sameKinds as bs) : CmpR T .NotEq (.lst as) (.lst bs) (!listEq as bs) := fun k A Z s v₁ v₂ Q E hA G z r₁ r₂ hQ => by
  obtain ⟨a, vs, rfl, _, hl, r₁⟩ := r₁.lst_inv
  obtain ⟨b, ws, rfl, _, hb, r₂⟩ := r₂.lst_inv
  by_cases hn : as.length = bs.length
  · have hsz : vs.toArray.size = ws.toArray.size := by simp [r₁.length, r₂.length, hn]
    refine SeqAt.RcNeAt.lists (e := fun j => flatEq (as.getD j .none) (bs.getD j .none)) hl hb hsz hA.room (fun j h1 h2 => ?_) T.prog T.w E Q ?_
    · have h1' : j < vs.length := by simpa using h1
      have h2' : j < ws.length := by simpa using h2
      obtain ⟨d₁, e₁, q₁⟩ := r₁.get (List.getElem?_eq_getElem h1')
      obtain ⟨d₂, e₂, q₂⟩ := r₂.get (List.getElem?_eq_getElem h2')
      have g1 : as.getD j .none = d₁ := by rw [List.getD_eq_getElem?_getD, e₁]; rfl
      have g2 : bs.getD j .none = d₂ := by rw [List.getD_eq_getElem?_getD, e₂]; rfl
      simp only [List.getElem_toArray]
      rw [g1, g2]
      exact eqAt_of (sameKinds_get hk e₁ e₂) q₁ q₂
    · have : vs.toArray.size = as.length := by simp [r₁.length]
      rw [this, listEq_all hn]
      exact hQ _ .refl
  · refine SeqAt.RcNeAt.lists_lengths hl hb ?_ hA.room T.prog T.w E Q ?_
    · simp only [List.size_toArray, r₁.length, r₂.length]; simpa using hn
    · rw [listEq_length hn] at hQ; exact hQ _ .refl

/-! truth -/
theorem TruR.str {x : Str} (hsz : x.length < 2 ^ 62) : TruR T (.str x) (x.length != 0) := fun k A Z s v Q E hA G z r hQ => by
  obtain ⟨t, rfl⟩ := r.str_inv
  refine PySem.P.truthy_str (by omega) ?_
  have e : ((x.length : Int) != 0) = (x.length != 0) := by cases x.length <;> rfl
  rw [e]; exact hQ _ .toks
theorem TruR.bool {b : Bool} : TruR T (.bool b) b := fun k A Z s v Q E hA G z r hQ => by
  cases r.bool_inv
  exact wpAny_truthy_bool (hQ _ .refl)
end
end Mine

namespace Mine
section
variable {T : Th} {k : Nat}

theorem RepL.one {Z : Zo} {h : Heap} {vs : List Value} {d : D} (r : RepL Z h vs [d]) : ∃ v, vs = [v] ∧ Rep Z h v d := by
  rw [RepL] at r
  obtain ⟨v, w, rfl, a, b⟩ := r
  rw [RepL] at b; subst b
  exact ⟨v, rfl, a⟩
theorem RepL.two {Z : Zo} {h : Heap} {vs : List Value} {d e : D} (r : RepL Z h vs [d, e]) : ∃ v w, vs = [v, w] ∧ Rep Z h v d ∧ Rep Z h w e := by
  rw [RepL] at r
  obtain ⟨v, w, rfl, a, b⟩ := r
  obtain ⟨u, rfl, c⟩ := b.one
  exact ⟨v, u, rfl, a, c⟩
theorem RepL.three {Z : Zo} {h : Heap} {vs : List Value} {d e f : D} (r : RepL Z h vs [d, e, f]) : ∃ v w u, vs = [v, w, u] ∧ Rep Z h v d ∧ Rep Z h w e ∧ Rep Z h u f := by
  rw [RepL] at r
  obtain ⟨v, w, rfl, a, b⟩ := r
  obtain ⟨u, x, rfl, c⟩ := b.two
  exact ⟨v, u, x, rfl, a, c⟩
theorem RepL.four {Z : Zo} {h : Heap} {vs : List Value} {d e f g : D} (r : RepL Z h vs [d, e, f, g]) : ∃ v w u x, vs = [v, w, u, x] ∧ Rep Z h v d ∧ Rep Z h w e ∧ Rep Z h u f ∧ Rep Z h x g := by
  rw [RepL] at r
  obtain ⟨v, w, rfl, a, b⟩ := r
  obtain ⟨u, x, y, rfl, c⟩ := b.three
  exact ⟨v, u, x, y, rfl, a, c⟩

/-! len, sum, list -/
theorem CallR.lenS {x : Str} (hsz : x.length < 2 ^ 62) : CallR T k (.builtin "len") [.str x] (.int x.length) := fun A Z s vs Q E hA G z r hQ => by
  obtain ⟨v, rfl, r1⟩ := r.one
  obtain ⟨t, rfl⟩ := r1.str_inv
  exact PyProof.Rows.len_str (by omega) (hQ _ _ .toks rep_int)
theorem CallR.lenL {ds : List D} (hsz : ds.length < 2 ^ 62) : CallR T k (.builtin "len") [.lst ds] (.int ds.length) := fun A Z s vs Q E hA G z r hQ => by
  obtain ⟨v, rfl, r1⟩ := r.one
  obtain ⟨a, ws, rfl, _, hl, rl⟩ := r1.lst_inv
  refine PyProof.Rows.len_list hl (by simp only [List.size_toArray, rl.length]; omega) ?_
  simp only [List.size_toArray, rl.length]
  exact hQ _ _ .toks rep_int
theorem ints_of {Z : Zo} {h : Heap} : ∀ {ns : List Int} {vs : List Value}, RepL Z h vs (ns.map .int) → IntsAre vs ns
  | [], vs, r => by rw [List.map_nil, RepL] at r; rw [r]; exact .nil
  | n :: ns, vs, r => by
    rw [List.map_cons, RepL] at r
    obtain ⟨v, w, rfl, a, b⟩ := r
    obtain ⟨t, rfl⟩ := a.int_inv
    exact .cons n t (ints_of b)
theorem strs_of {Z : Zo} {h : Heap} : ∀ {ss : List Str} {vs : List Value}, RepL Z h vs (ss.map .str) → StrsAre vs ss
  | [], vs, r => by rw [List.map_nil, RepL] at r; rw [r]; exact .nil
  | n :: ns, vs, r => by
    rw [List.map_cons, RepL] at r
    obtain ⟨v, w, rfl, a, b⟩ := r
    obtain ⟨t, rfl⟩ := a.str_inv
    exact .cons n t (strs_of b)
theorem of_strs {Z : Zo} {h : Heap} : ∀ {ss : List Str} {vs : List Value}, StrsAre vs ss → RepL Z h vs (ss.map .str)
  | _, _, .nil => .nil
  | _, _, .cons x t r => .cons rep_str (of_strs r)
theorem CallR.sumL {ns : List Int} : CallR T k (.builtin "sum") [.lst (ns.map .int)] (.int ns.sum) := fun A Z s vs Q E hA G z r hQ => by
  obtain ⟨v, rfl, r1⟩ := r.one
  obtain ⟨a, ws, rfl, _, hl, rl⟩ := r1.lst_inv
  have hi := ints_of rl
  obtain ⟨xs, hxs⟩ := hi.allInts.items
  rw [hxs] at hl
  refine sum_intListG hA.1 hl fun h' tk t' hk => ?_
  have e : preSum (numAt xs) xs.size = ns.sum := by
    rw [preSum_eq, List.take_of_length_le (by simp), ← nums_intItems, ← hxs]
    rw [show ws.toArray.toList = ws from rfl, hi.numsOf]
  rw [e]
  exact hQ _ _ (.of hk) rep_int
theorem CallR.listT {ds : List D} (hsz : ds.length ≤ 4096) : CallR T k (.type "list") [.tup ds] (.lst ds) := fun A Z s vs Q E hA G z r hQ => by
  obtain ⟨v, rfl, r1⟩ := r.one
  obtain ⟨a, ws, rfl, _, ⟨o, ho, hc, n, hd⟩, rl⟩ := r1.tup_inv
  refine call_list_seq a (.inr rfl) ho hc hd (fun h' c' hk hD => ?_) (by rw [List.size_toArray, rl.length, sizeLine_eq]; omega)
  have kp : Kp T s { s with heap := h' } := Kp.of (tk := s.toks) hk
  refine hQ _ _ kp ?_
  rw [Rep]
  exact ⟨_, ws, rfl, z.fresh (get?_size _), ⟨_, hD, rfl, _, rfl⟩, rl.hk kp.hk⟩

/-! methods of str -/
theorem gives_find4 (x y : Str) (i j : Int) (t u v w : Tok) : Gives (Builtin.«str.find» ⟨[.str x t, .str y u, .int i v, .int j w], []⟩)
    (.int (match Builtin.Str.occurrences x y (fromIndex x.length i) (min (fromIndex x.length j) x.length) 1 with | k :: _ => (k : Int) | [] => -1)) := by
  show Gives (match Builtin.Str.occurrences x y (fromIndex x.length i) (min (fromIndex x.length j) x.length) 1 with | k :: _ => retInt k | [] => (do rule "str.find.not-found"; retInt (-1))) _
  cases Builtin.Str.occurrences x y (fromIndex x.length i) (min (fromIndex x.length j) x.length) 1 with
  | nil => exact .rule (.of_eq rfl)
  | cons k _ => exact .of_eq rfl
theorem gives_rfind4 (x y : Str) (i j : Int) (t u v w : Tok) : Gives (Builtin.«str.rfind» ⟨[.str x t, .str y u, .int i v, .int j w], []⟩)
    (.int (match Builtin.Str.lastOccurrence x y (fromIndex x.length i) (min (fromIndex x.length j) x.length) with | some k => (k : Int) | none => -1)) := by
  show Gives (match Builtin.Str.lastOccurrence x y (fromIndex x.length i) (min (fromIndex x.length j) x.length) with | some k => retInt k | none => (do rule "str.rfind.not-found"; retInt (-1))) _
  cases Builtin.Str.lastOccurrence x y (fromIndex x.length i) (min (fromIndex x.length j) x.length) with
  | none => exact .rule (.of_eq rfl)
  | some k => exact .of_eq rfl
noncomputable def find4 (x y : Str) (i j : Int) : Int := match Builtin.Str.occurrences x y (fromIndex x.length i) (min (fromIndex x.length j) x.length) 1 with | k :: _ => (k : Int) | [] => -1
noncomputable def rfind4 (x y : Str) (i j : Int) : Int := match Builtin.Str.lastOccurrence x y (fromIndex x.length i) (min (fromIndex x.length j) x.length) with | some k => (k : Int) | none => -1
theorem CallR.find {x y : Str} : CallR T k (.builtin "str.find") [.str x, .str y] (.int (Txt.find x y)) := fun A Z s vs Q E hA G z r hQ => by
  obtain ⟨v, w, rfl, r₁, r₂⟩ := r.two
  obtain ⟨t, rfl⟩ := r₁.str_inv; obtain ⟨u, rfl⟩ := r₂.str_inv
  exact SC.find (hQ _ _ .toks rep_int)
theorem CallR.find4 {x y : Str} {i j : Int} : CallR T k (.builtin "str.find") [.str x, .str y, .int i, .int j] (.int (find4 x y i j)) := fun A Z s vs Q E hA G z r hQ => by
  obtain ⟨v, w, v', w', rfl, r₁, r₂, r₃, r₄⟩ := r.four
  obtain ⟨t, rfl⟩ := r₁.str_inv; obtain ⟨u, rfl⟩ := r₂.str_inv; obtain ⟨t', rfl⟩ := r₃.int_inv; obtain ⟨u', rfl⟩ := r₄.int_inv
  exact call_gives F.slot_str_find (typeIs_str _ _ _) F.entry_str_find (F.args_str_find_4 _ _ _ _) (gives_find4 x y i j t u t' u') (hQ _ _ .toks rep_int)
theorem CallR.rfind4 {x y : Str} {i j : Int} : CallR T k (.builtin "str.rfind") [.str x, .str y, .int i, .int j] (.int (rfind4 x y i j)) := fun A Z s vs Q E hA G z r hQ => by
  obtain ⟨v, w, v', w', rfl, r₁, r₂, r₃, r₄⟩ := r.four
  obtain ⟨t, rfl⟩ := r₁.str_inv; obtain ⟨u, rfl⟩ := r₂.str_inv; obtain ⟨t', rfl⟩ := r₃.int_inv; obtain ⟨u', rfl⟩ := r₄.int_inv
  exact call_gives F.slot_str_rfind (typeIs_str _ _ _) F.entry_str_rfind (F.args_str_rfind_4 _ _ _ _) (gives_rfind4 x y i j t u t' u') (hQ _ _ .toks rep_int)
theorem CallR.count {x y : Str} : CallR T k (.builtin "str.count") [.str x, .str y] (.int (Txt.count x y)) := fun A Z s vs Q E hA G z r hQ => by
  obtain ⟨v, w, rfl, r₁, r₂⟩ := r.two
  obtain ⟨t, rfl⟩ := r₁.str_inv; obtain ⟨u, rfl⟩ := r₂.str_inv
  exact SC.count (hQ _ _ .toks rep_int)
theorem rep_strVals {Z : Zo} {h : Heap} : ∀ (l : List (Str × Tok)), RepL Z h (strValues l) ((l.map (·.1)).map .str)
  | [] => .nil
  | (x, t) :: l => .cons rep_str (rep_strVals l)
theorem CallR.split {x y : Str} (hy : (y.length == 0) = false) (hsz : x.length ≤ 1048576) (hsz2 : (Builtin.Str.partsBetween x (Builtin.Str.occurrences x y 0 x.length (x.length + 1)) y.length).length ≤ 4096) :
    CallR T k (.builtin "str.split") [.str x, .str y] (.lst ((Txt.split x y).map .str)) := fun A Z s vs Q E hA G z r hQ => by
  obtain ⟨v, w, rfl, r₁, r₂⟩ := r.two
  obtain ⟨t, rfl⟩ := r₁.str_inv; obtain ⟨u, rfl⟩ := r₂.str_inv
  cases h1 : (decide (x.length < y.length) || decide (Builtin.Str.strKind x < Builtin.Str.strKind y))
  · cases hf : (Builtin.Str.occurrences x y 0 x.length (x.length + 1)).isEmpty
    · refine call_meets F.slot_str_split (typeIs_str _ _ _) F.entry_str_split (F.args_str_split_2 _ _) (meets_str_split_sep x y t u h1 hy hf (by rw [sizeLine_eq]; omega) (by rw [sizeLine_eq]; omega)) ?_
      have e : Txt.split x y = Builtin.Str.partsBetween x (Builtin.Str.occurrences x y 0 x.length (x.length + 1)) y.length := (if_neg (ne_true_of_eq_false h1)).trans (if_neg (ne_true_of_eq_false hf))
      refine hQ _ _ (Kp.of fun _ _ e => Heap.get?_push_of_some _ e) ?_
      rw [e, strsFrom_eq]
      have q := rep_strVals (Z := Z) (h := s.heap) (numbered s.toks (Builtin.Str.partsBetween x (Builtin.Str.occurrences x y 0 x.length (x.length + 1)) y.length))
      rw [numbered_texts] at q
      exact rep_new_lst z q
    · refine call_meets F.slot_str_split (typeIs_str _ _ _) F.entry_str_split (F.args_str_split_2 _ _) (meets_str_split_not_found x y t u h1 hy hf) ?_
      have e : Txt.split x y = [x] := (if_neg (ne_true_of_eq_false h1)).trans (if_pos hf)
      refine hQ _ _ .push ?_
      rw [e]
      exact rep_new_lst z (.cons rep_str .nil)
  · refine call_meets F.slot_str_split (typeIs_str _ _ _) F.entry_str_split (F.args_str_split_2 _ _) (meets_str_split_cannot_occur x y t u h1) ?_
    have e : Txt.split x y = [x] := if_pos h1
    refine hQ _ _ .push ?_
    rw [e]
    exact rep_new_lst z (.cons rep_str .nil)
theorem CallR.join {x : Str} {ss : List Str} (hok : (ss.map (·.length)).sum + ss.length * x.length ≤ 16777216) : CallR T k (.builtin "str.join") [.str x, .lst (ss.map .str)] (.str (Txt.join x ss)) := fun A Z s vs Q E hA G z r hQ => by
  obtain ⟨v, w, rfl, r₁, r₂⟩ := r.two
  obtain ⟨t, rfl⟩ := r₁.str_inv
  obtain ⟨a, ws, rfl, _, hl, rl⟩ := r₂.lst_inv
  exact join_list hl (strs_of rl) hok (fun t' k => hQ _ _ .toks rep_str)
end
end Mine

namespace Mine

/-! a cut of a text -/
section
variable {T : Th} {k : Nat} {env : Env} {ρ : Rho}
theorem letGo_str (value : Expr) (x : Str) (t : Tok) (r : Value) : letTemporaryGo value (.str x t) r = pure () := by cases value <;> rfl
theorem Ev.scut {value : Expr} {upper : Expr} {p pos : Pos} {x : Str} {j : Int} (hv : Ev T k env value ρ (.str x)) (h2 : Ev T k env upper ρ (.int j)) (hsz : x.length ≤ 1048576) :
    Ev T k env (.Subscript value (.Slice none (some upper) none p) pos) ρ (.str (Txt.slice x none (some j))) := fun A Z s Q E hA P hQ => by
  refine Subscript_ (hv A Z s _ _ hA P fun v s₁ k₁ r₁ => wpAny_Slice ?_)
  rw [evalPart_none, evalPart_some]
  refine wpAny_pure (h2 A Z s₁ _ _ hA (P.kp k₁) fun v2 s₂ k₂ r₂ => wpAny_pure ?_)
  obtain ⟨t, rfl⟩ := r₁.str_inv
  obtain ⟨u, rfl⟩ := r₂.int_inv
  refine tail_of_ItemOn (SBH.sliceItem_ns (P := fun h' => ∀ b o, s₂.heap.get? b = some o → h'.get? b = some o) (fun h ob hk b o e => Heap.get?_push_of_some _ (hk b o e)) (fun b o e => e) (fun h' t' kk hk => ?_) (by rw [sizeLine_eq]; omega)) rfl (letGo_str _ _ _)
  exact hQ _ _ ((k₁.trans k₂).trans (.of hk)) rep_str
theorem Ev.scut2 {value : Expr} {lower upper : Expr} {p pos : Pos} {x : Str} {i j : Int} (hv : Ev T k env value ρ (.str x)) (h1 : Ev T k env lower ρ (.int i)) (h2 : Ev T k env upper ρ (.int j)) (hsz : x.length ≤ 1048576) :
    Ev T k env (.Subscript value (.Slice (some lower) (some upper) none p) pos) ρ (.str (Txt.slice x (some i) (some j))) := fun A Z s Q E hA P hQ => by
  refine Subscript_ (hv A Z s _ _ hA P fun v s₁ k₁ r₁ => wpAny_Slice ?_)
  rw [evalPart_some, evalPart_some, evalPart_none]
  refine h1 A Z s₁ _ _ hA (P.kp k₁) fun v1 s₁' k₁' r₁' => h2 A Z s₁' _ _ hA ((P.kp k₁).kp k₁') fun v2 s₂ k₂ r₂ => wpAny_pure ?_
  obtain ⟨t, rfl⟩ := r₁.str_inv
  obtain ⟨u', rfl⟩ := r₁'.int_inv
  obtain ⟨u, rfl⟩ := r₂.int_inv
  refine tail_of_ItemOn (SBH.sliceItem_ss (P := fun h' => ∀ b o, s₂.heap.get? b = some o → h'.get? b = some o) (fun h ob hk b o e => Heap.get?_push_of_some _ (hk b o e)) (fun b o e => e) (fun h' t' kk hk => ?_) (by rw [sizeLine_eq]; omega)) rfl (letGo_str _ _ _)
  exact hQ _ _ (((k₁.trans k₁').trans k₂).trans (.of hk)) rep_str
end

/-! a frame -/
structure Fm (T : Th) (env : Env) (h : Heap) : Prop where
  ns : ∃ m, h.Ns env.locals m
  cell : ∀ n c, env.cells.lookup n = some c → ∃ v, h.IsCell c v
  apart : env.cells.Pairwise fun x y => x.2 ≠ y.2
  low : T.n ≤ env.locals
theorem Fm.hk {T : Th} {env : Env} {n : Nat} {h h' : Heap} (f : Fm T env h) (k : HK n h h') : Fm T env h' :=
  ⟨let ⟨m, x⟩ := f.ns; ⟨m, k.ns x⟩, fun n c e => let ⟨v, x⟩ := f.cell n c e; ⟨v, k.isCell x⟩, f.apart, f.low⟩

/-- the objects that a statement may change -/
noncomputable def FrP (env : Env) (Z : Zo) (b : Addr) : Prop := b = env.locals ∨ (∃ n, env.cells.lookup n = some b) ∨ Z.y b
noncomputable def HKx (X : Addr → Prop) (n : Nat) (h h' : Heap) : Prop := ∀ b o, h.get? b = some o → NonTab b o → ¬ X b → h'.get? b = some o ∨ (n ≤ b ∧ ∃ m, h.Ns b m ∧ h'.Ns b m)
theorem HKx.of_hk {X : Addr → Prop} {n : Nat} {h h' : Heap} (k : HK n h h') : HKx X n h h' := fun b o e t _ => k b o e t
theorem HKx.trans {X : Addr → Prop} {n : Nat} {h h' h'' : Heap} (a : HKx X n h h') (b : HKx X n h' h'') : HKx X n h h'' := fun x o e t nx => by
  rcases a x o e t nx with r | ⟨hn, m, p, q⟩
  · rcases b x o r t nx with r' | ⟨hn, m, p, q⟩
    · exact .inl r'
    · obtain ⟨o', es, ep, e', rr⟩ := p
      rw [r] at e'; cases e'
      exact .inr ⟨hn, m, ⟨o, es, ep, e, rr⟩, q⟩
  · obtain ⟨o', es, ep, e', hd, rr⟩ := id q
    rcases b x o' e' (.dict hd) nx with r' | ⟨_, m', p', q'⟩
    · exact .inr ⟨hn, m, p, ⟨o', es, ep, r', hd, rr⟩⟩
    · refine .inr ⟨hn, m, p, ?_⟩
      rw [q.eq_nsMap, ← p'.eq_nsMap]; exact q'
theorem HKx.exact {X : Addr → Prop} {n : Nat} {h h' : Heap} {b : Addr} {o : Obj} (k : HKx X n h h') (e : h.get? b = some o) (t : NonTab b o) (hx : ¬ X b) (hd : ∀ es ep, o.data ≠ .dict es ep) : h'.get? b = some o := by
  rcases k b o e t hx with r | ⟨_, m, x, _⟩
  · exact r
  · obtain ⟨es, ep, q⟩ := ns_dict e x
    exact absurd q (hd es ep)
noncomputable def MvX (T : Th) (X : Addr → Prop) (s s' : Shared) : Prop := ∃ h tk, s' = { s with heap := h, toks := tk } ∧ HKx X T.n s.heap h ∧ (TabI T s.heap → TabI T h)
noncomputable abbrev Mv (T : Th) (Z : Zo) (env : Env) (s s' : Shared) : Prop := MvX T (FrP env Z) s s'
section
variable {T : Th} {X : Addr → Prop} {s s' s'' : Shared}
theorem MvX.of_kp (k : Kp T s s') : MvX T X s s' := by
  obtain ⟨h, tk, e, a, b⟩ := k
  exact ⟨h, tk, e, .of_hk a, b⟩
theorem MvX.refl : MvX T X s s := .of_kp .refl
theorem MvX.trans (a : MvX T X s s') (b : MvX T X s' s'') : MvX T X s s'' := by
  obtain ⟨h, tk, rfl, a1, a2⟩ := a
  obtain ⟨h', tk', rfl, b1, b2⟩ := b
  exact ⟨h', tk', rfl, a1.trans b1, fun x => b2 (a2 x)⟩
theorem MvX.hk (k : MvX T X s s') : HKx X T.n s.heap s'.heap := by obtain ⟨h, tk, rfl, a, b⟩ := k; exact a
theorem MvX.tab (k : MvX T X s s') (x : TabI T s.heap) : TabI T s'.heap := by obtain ⟨h, tk, rfl, a, b⟩ := k; exact b x
theorem MvX.mono {Y : Addr → Prop} (k : MvX T X s s') (h : ∀ b, X b → Y b) : MvX T Y s s' := by
  obtain ⟨h', tk, rfl, a, b⟩ := k
  exact ⟨h', tk, rfl, fun x o e t ny => a x o e t fun q => ny (h x q), b⟩
end

/-- the low names lie low -/
structure Low (T : Th) : Prop where
  g : mainGlobals < T.n
  b : builtinsNs < T.n
  c : cStatics < T.n

/-- one object of the frame's is changed: the ground stands -/
inductive Loose (T : Th) (o : Obj) (a : Addr) : Prop
  | cell {v} : o.data = .cell v → Loose T o a
  | dict {es ep} : o.data = .dict es ep → T.n ≤ a → Loose T o a
  | seq {xs n} : o.data = .seq xs n → Loose T o a
  | iter {vs} : o.data = .fields vs → (∀ (x : Str) (t : Tok), vs[1]? ≠ some (.str x t)) → o.cls ≠ .none → o.cls ≠ .type "code" → Loose T o a
theorem Loose.nonTab {T : Th} {o : Obj} {a : Addr} : Loose T o a → NonTab a o
  | .cell h => .cell h
  | .dict h _ => .dict h
  | .seq h => .seq h
  | .iter _ _ h _ => .cls h
section
variable {T : Th} {h h' : Heap} {a : Addr} {oa : Obj}
theorem Loose.ne_tab (l : Loose T oa a) (ha : h.get? a = some oa) {b : Addr} {ps : Array Value} (hb : h.get? b = some (tabObj ps)) : b ≠ a := fun e => by
  subst e
  rw [ha] at hb; cases hb
  cases l with
  | cell h => cases h
  | dict h => cases h
  | seq h => cases h
  | iter _ _ h _ => exact h rfl
theorem Loose.ne_rec (l : Loose T oa a) (ha : h.get? a = some oa) {b : Addr} {o : Obj} {vs : Array Value} {x : Str} {t : Tok} (hb : h.get? b = some o) (hd : o.data = .fields vs) (hv : vs[1]? = some (.str x t)) : b ≠ a := fun e => by
  subst e
  rw [ha] at hb; cases hb
  cases l with
  | cell h => rw [h] at hd; cases hd
  | dict h => rw [h] at hd; cases hd
  | seq h => rw [h] at hd; cases hd
  | iter h q _ _ => rw [h] at hd; cases hd; exact q _ _ hv
theorem Loose.ne_hd (l : Loose T oa a) (ha : h.get? a = some oa) {b : Addr} {o : Obj} {vs : Array Value} (hb : h.get? b = some o) (hd : o.data = .fields vs) (hc : o.cls = .type "code") : b ≠ a := fun e => by
  subst e
  rw [ha] at hb; cases hb
  cases l with
  | cell h => rw [h] at hd; cases hd
  | dict h => rw [h] at hd; cases hd
  | seq h => rw [h] at hd; cases hd
  | iter h _ _ q => exact q hc
theorem Loose.ne_func (l : Loose T oa a) (ha : h.get? a = some oa) {b : Addr} {o : Obj} {f} (hb : h.get? b = some o) (hd : o.data = .func f) : b ≠ a := fun e => by
  subst e
  rw [ha] at hb; cases hb
  cases l with
  | cell h => rw [h] at hd; cases hd
  | dict h => rw [h] at hd; cases hd
  | seq h => rw [h] at hd; cases hd
  | iter h _ _ _ => rw [h] at hd; cases hd
theorem Loose.ne_plain (l : Loose T oa a) (ha : h.get? a = some oa) {b : Addr} {o : Obj} (hb : h.get? b = some o) (hd : o.data = .plain) : b ≠ a := fun e => by
  subst e
  rw [ha] at hb; cases hb
  cases l with
  | cell h => rw [h] at hd; cases hd
  | dict h => rw [h] at hd; cases hd
  | seq h => rw [h] at hd; cases hd
  | iter h _ _ _ => rw [h] at hd; cases hd
theorem Loose.ne_ns (l : Loose T oa a) (ha : h.get? a = some oa) {b : Addr} {m} (hb : h.Ns b m) (hlt : b < T.n) : b ≠ a := fun e => by
  subst e
  obtain ⟨es, ep, hd⟩ := ns_dict ha hb
  cases l with
  | cell h => rw [h] at hd; cases hd
  | dict h q => exact absurd hlt (Nat.not_lt.mpr q)
  | seq h => rw [h] at hd; cases hd
  | iter h _ _ _ => rw [h] at hd; cases hd
theorem TabI.sameBut (x : TabI T h) (l : Loose T oa a) (ha : h.get? a = some oa) (hs : Heap.ExtBut a h h') : TabI T h' := by
  obtain ⟨ps, e, r⟩ := x
  refine ⟨ps, hs _ _ (l.ne_tab ha e) e, r.imp id fun ⟨c', e', c, o, vs, t, q, ho, hd, hv⟩ => ⟨c', e', c, o, vs, t, q, ?_, hd, hv⟩⟩
  exact hs _ _ (l.ne_rec ha ho hd hv) ho
theorem codeRec_but {cd : Value} {q : Str} (x : h.CodeRec cd q) (l : Loose T oa a) (ha : h.get? a = some oa) (hs : Heap.ExtBut a h h') : h'.CodeRec cd q := by
  obtain ⟨c, o, vs, t, e, ho, hd, hv⟩ := x
  exact ⟨c, o, vs, t, e, hs _ _ (l.ne_rec ha ho hd hv) ho, hd, hv⟩
theorem Gl.sameBut (G : Gl T h) (lo : Low T) (l : Loose T oa a) (ha : h.get? a = some oa) (hs : Heap.ExtBut a h h') (hf : a = T.n → ∃ m, h'.Ns T.n m) : Gl T h' where
  g := G.g.extBut hs (l.ne_ns ha G.g lo.g)
  b := G.b.extBut hs (l.ne_ns ha G.b lo.b)
  lim := let ⟨mc, x, y⟩ := G.lim; ⟨mc, x.extBut hs (l.ne_ns ha x lo.c), y⟩
  dig := let ⟨mc, x, y⟩ := G.dig; ⟨mc, x.extBut hs (l.ne_ns ha x lo.c), y⟩
  fn := fun n d e => let ⟨f, o, pm, code, doc, h1, h2, h3, h4⟩ := G.fn n d e; ⟨f, o, pm, code, doc, h1, hs _ _ (l.ne_func ha h2 h3) h2, h3, codeRec_but h4 l ha hs⟩
  bmain := let ⟨bm, o, h1, h2, h3, h4, h5, h6, h7, h8⟩ := G.bmain; ⟨bm, o, h1, h2, h3, h4, hs _ _ (l.ne_plain ha h5 h8) h5, h6, h7, h8⟩
  kept := let ⟨f, o, pm, doc, d, h0, h1, h2, h3, h4⟩ := G.kept; ⟨f, o, pm, doc, d, h0, h1, hs _ _ (l.ne_func ha h2 h3) h2, h3, codeRec_but h4 l ha hs⟩
  hd := by
    obtain ⟨o, vs, file, tf, flags, tg, inF, text, tt, e, hc, hd, r⟩ := G.hd
    exact ⟨o, vs, file, tf, flags, tg, inF, text, tt, hs _ _ (l.ne_hd ha e hd hc) e, hc, hd, r⟩
  ne := G.ne
  tab := G.tab.sameBut l ha hs
  fr := by
    obtain ⟨m, x⟩ := G.fr
    by_cases e : a = T.n
    · exact hf e
    · exact ⟨m, x.extBut hs (Ne.symm e)⟩
end

-- data stands where an object of another kind is changed
mutual
theorem Rep.but {Z : Zo} {h h' : Heap} {a : Addr} (hs : Heap.ExtBut a h h') (hl : ∀ vs, ¬ h.IsList a vs) (ht : ∀ vs, ¬ IsTup h a vs) : ∀ (d : D) (v : Value), Rep Z h v d → Rep Z h' v d
  | .none, _, x => x
  | .bool _, _, x => x
  | .int _, _, x => x
  | .str _, _, x => x
  | .tup ds, v, x => by
    rw [Rep] at x ⊢
    obtain ⟨b, vs, e, nn, ⟨o, ho, r⟩, q⟩ := x
    refine ⟨b, vs, e, nn, ⟨o, hs b o (fun q => ?_) ho, r⟩, RepL.but hs hl ht ds vs q⟩
    subst q; exact ht _ ⟨o, ho, r⟩
  | .lst ds, v, x => by
    rw [Rep] at x ⊢
    obtain ⟨b, vs, e, nn, ⟨o, ho, r⟩, q⟩ := x
    refine ⟨b, vs, e, nn, ⟨o, hs b o (fun q => ?_) ho, r⟩, RepL.but hs hl ht ds vs q⟩
    subst q; exact hl _ ⟨o, ho, r⟩
  | .mut ds, v, x => by
    rw [Rep] at x ⊢
    obtain ⟨b, vs, e, nn, ⟨o, ho, r⟩, q⟩ := x
    refine ⟨b, vs, e, nn, ⟨o, hs b o (fun q => ?_) ho, r⟩, RepL.but hs hl ht ds vs q⟩
    subst q; exact hl _ (show IsListM h b vs.toArray from ⟨o, ho, r⟩).isList
theorem RepL.but {Z : Zo} {h h' : Heap} {a : Addr} (hs : Heap.ExtBut a h h') (hl : ∀ vs, ¬ h.IsList a vs) (ht : ∀ vs, ¬ IsTup h a vs) : ∀ (ds : List D) (vs : List Value), RepL Z h vs ds → RepL Z h' vs ds
  | [], _, x => x
  | d :: ds, vs, x => by
    rw [RepL] at x ⊢
    obtain ⟨v, r, e, p, q⟩ := x
    exact ⟨v, r, e, Rep.but hs hl ht d v p, RepL.but hs hl ht ds r q⟩
end

/-! statements -/
structure St (T : Th) (Z : Zo) (env : Env) (ρ : Rho) (sh : Shared) : Prop extends Pre T Z env ρ sh where
  f : Fm T env sh.heap
theorem St.kp {T : Th} {Z : Zo} {env : Env} {ρ : Rho} {s s' : Shared} (p : St T Z env ρ s) (k : Kp T s s') : St T Z env ρ s' := ⟨p.toPre.kp k, p.f.hk k.hk⟩
theorem St.sub {T : Th} {Z : Zo} {env : Env} {ρ ρ' : Rho} {s : Shared} (p : St T Z env ρ s) (hs : ∀ x d, ρ'.lookup x = some d → ρ.lookup x = some d) : St T Z env ρ' s := ⟨⟨p.g, p.z, p.s.sub hs⟩, p.f⟩

inductive Out where
  | next (ρ : Rho)
  | brk (ρ : Rho)
  | cont (ρ : Rho)
  | ret (d : D)
noncomputable def OutIs (T : Th) (Z : Zo) (env : Env) (f : Flow) (s : Shared) : Out → Prop
  | .next ρ => f = .next ∧ St T Z env ρ s
  | .brk ρ => f = .brk ∧ St T Z env ρ s
  | .cont ρ => f = .cont ∧ St T Z env ρ s
  | .ret d => ∃ v, f = .ret v ∧ Gl T s.heap ∧ ZOk Z s.heap ∧ Rep Z s.heap v d

noncomputable def Ex1 (T : Th) (k : Nat) (env : Env) (st : Stmt) (ρ : Rho) (R : Out → Prop) : Prop :=
  ∀ (A : Around) (Z : Zo) (s : Shared) (Q : Flow → Shared → Prop) (E : Value → Shared → Prop), OkN T k A → Low T → St T Z env ρ s →
    (∀ f s' o, R o → Mv T Z env s s' → OutIs T Z env f s' o → Q f s') → wpAny (model T.prog T.w) A (exec st env) Q E s
noncomputable def Ex (T : Th) (k : Nat) (env : Env) (ss : List Stmt) (ρ : Rho) (R : Out → Prop) : Prop :=
  ∀ (A : Around) (Z : Zo) (s : Shared) (Q : Flow → Shared → Prop) (E : Value → Shared → Prop), OkN T k A → Low T → St T Z env ρ s →
    (∀ f s' o, R o → Mv T Z env s s' → OutIs T Z env f s' o → Q f s') → wpAny (model T.prog T.w) A (execs ss env) Q E s

section
variable {T : Th} {k : Nat} {env : Env} {ρ : Rho} {R : Out → Prop}
theorem Ex.nil (h : R (.next ρ)) : Ex T k env [] ρ R := fun A Z s Q E hA lo P hQ => wpAny_execs_nil (hQ _ _ _ h .refl ⟨rfl, P⟩)
theorem Ex.cons {st : Stmt} {rest : List Stmt} (h : Ex1 T k env st ρ (fun o => match o with | .next ρ' => Ex T k env rest ρ' R | o => R o)) : Ex T k env (st :: rest) ρ R := fun A Z s Q E hA lo P hQ => by
  refine wpAny_execs_cons (h A Z s _ _ hA lo P fun f s' o ho mv is => ?_)
  cases o with
  | next ρ' =>
    obtain ⟨rfl, P'⟩ := is
    exact ho A Z s' _ _ hA lo P' fun f s'' o' ho' mv' is' => hQ f s'' o' ho' (mv.trans mv') is'
  | brk ρ' =>
    obtain ⟨rfl, P'⟩ := is
    exact hQ _ s' (.brk ρ') ho mv ⟨rfl, P'⟩
  | cont ρ' =>
    obtain ⟨rfl, P'⟩ := is
    exact hQ _ s' (.cont ρ') ho mv ⟨rfl, P'⟩
  | ret d =>
    obtain ⟨v, rfl, P'⟩ := is
    exact hQ _ s' (.ret d) ho mv ⟨v, rfl, P'⟩
theorem Ex.sub {ss : List Stmt} {ρ' : Rho} (h : Ex T k env ss ρ' R) (hs : ∀ x d, ρ'.lookup x = some d → ρ.lookup x = some d) : Ex T k env ss ρ R := fun A Z s Q E hA lo P hQ => h A Z s Q E hA lo (P.sub hs) hQ
theorem Ex.mono {ss : List Stmt} {R' : Out → Prop} (h : Ex T k env ss ρ R') (hr : ∀ o, R' o → R o) : Ex T k env ss ρ R := fun A Z s Q E hA lo P hQ => h A Z s Q E hA lo P fun f s' o ho => hQ f s' o (hr o ho)
theorem Ex1.mono {ss : Stmt} {R' : Out → Prop} (h : Ex1 T k env ss ρ R') (hr : ∀ o, R' o → R o) : Ex1 T k env ss ρ R := fun A Z s Q E hA lo P hQ => h A Z s Q E hA lo P fun f s' o ho => hQ f s' o (hr o ho)

noncomputable def IsVar (env : Env) (x : Str) : Prop := env.kindOf x = some .local ∨ (env.kindOf x = some .cell ∧ (env.cells.lookup x).isSome = true)

/-- a store into a frame's local -/
theorem store_loc {A : Around} {Z : Zo} {s : Shared} {x : Str} {v : Value} {d : D} {Q : Unit → Shared → Prop} {E : Value → Shared → Prop} (lo : Low T) (P : Pre T Z env ρ s) (hn0 : ∃ m, s.heap.Ns env.locals m) (low : T.n ≤ env.locals) (hl : env.kindOf x = some .local) (r : Rep Z s.heap v d)
    (hQ : ∀ s', MvX T (fun b => b = env.locals) s s' → Pre T Z env ((x, d) :: ρ) s' → (∃ m, s'.heap.Ns env.locals m) → Q () s') : wpAny (model T.prog T.w) A (storeName env x v) Q E s := by
  have hk := P.s.kind
  obtain ⟨m, hn⟩ := hn0
  obtain ⟨oL, es, ep, eL, hdL, _⟩ := id hn
  have l : Loose T oL env.locals := .dict hdL low
  have nl : ∀ vs, ¬ s.heap.IsList env.locals vs := fun vs ⟨o, e, _, n, hd⟩ => by rw [eL] at e; cases e; rw [hdL] at hd; cases hd
  have nt : ∀ vs, ¬ IsTup s.heap env.locals vs := fun vs ⟨o, e, _, n, hd⟩ => by rw [eL] at e; cases e; rw [hdL] at hd; cases hd
  refine wpAny_storeName_local hl hn (fun h' hn' hs => ?_) (by rw [hk]; rfl)
  have hb := hs.extBut
  have zc : ZOk Z h' := ⟨fun a ha => by
    obtain ⟨o, e, t⟩ := P.z.x a ha
    by_cases q : a = env.locals
    · obtain ⟨o', es', ep', e', hd', _⟩ := hn'
      exact ⟨o', q ▸ e', .dict hd'⟩
    · exact ⟨o, hb a o q e, t⟩, P.z.y⟩
  have hc : ∀ {c v'}, s.heap.IsCell c v' → h'.IsCell c v' := fun {c v'} i => by
    obtain ⟨oc, ec, hdc⟩ := i
    refine ⟨oc, hb c oc (fun q => ?_) ec, hdc⟩
    rw [q, eL] at ec; cases ec; rw [hdL] at hdc; cases hdc
  refine hQ _ ⟨h', _, rfl, fun b o e t nx => .inl (hb b o nx e), fun x => x.sameBut l eL hb⟩ ⟨P.g.sameBut lo l eL hb fun q => ⟨_, q ▸ hn'⟩, zc, hk, fun y d' e => ?_, fun n c e => ?_⟩ ⟨_, hn'⟩
  · rw [List.lookup_cons] at e
    by_cases q : y = x
    · subst q
      simp only [beq_self_eq_true] at e
      cases e
      exact ⟨v, .inl ⟨hl, _, hn', by simp⟩, r.but hb nl nt⟩
    · have q' : (y == x) = false := by simpa using q
      rw [q'] at e
      obtain ⟨v', a, r'⟩ := P.s.has y d' e
      refine ⟨v', ?_, r'.but hb nl nt⟩
      rcases a with ⟨e1, m1, n1, q1⟩ | ⟨e1, c, l1, i1⟩
      · refine .inl ⟨e1, _, hn', ?_⟩
        rw [if_neg q, ← n1.agree hn y]; exact q1
      · exact .inr ⟨e1, c, l1, hc i1⟩
  · obtain ⟨v', i⟩ := P.s.cells n c e
    exact ⟨v', hc i⟩
/-- a store into the frame -/
theorem store_wp {A : Around} {Z : Zo} {s : Shared} {x : Str} {v : Value} {d : D} {Q : Unit → Shared → Prop} {E : Value → Shared → Prop} (lo : Low T) (P : St T Z env ρ s) (hx : IsVar env x) (r : Rep Z s.heap v d)
    (hQ : ∀ s', Mv T Z env s s' → St T Z env ((x, d) :: ρ) s' → Q () s') : wpAny (model T.prog T.w) A (storeName env x v) Q E s := by
  have hk := P.s.kind
  rcases hx with hl | ⟨hl, hc⟩
  · exact store_loc lo P.toPre P.f.ns P.f.low hl r fun s' mv P' hn => hQ s' (mv.mono fun b q => .inl q) ⟨P', hn, P'.s.cells, P.f.apart, P.f.low⟩
  · obtain ⟨c, hc⟩ := Option.isSome_iff_exists.mp hc
    obtain ⟨v0, i0⟩ := P.f.cell x c hc
    obtain ⟨oc, ec, hdc⟩ := id i0
    have l : Loose T oc c := .cell hdc
    have nl : ∀ vs, ¬ s.heap.IsList c vs := fun vs ⟨o, e, _, n, hd⟩ => by rw [ec] at e; cases e; rw [hdc] at hd; cases hd
    have nt : ∀ vs, ¬ IsTup s.heap c vs := fun vs ⟨o, e, _, n, hd⟩ => by rw [ec] at e; cases e; rw [hdc] at hd; cases hd
    have nns : ∀ {b m}, s.heap.Ns b m → b ≠ c := fun hn q => by
      subst q
      obtain ⟨es, ep, hd⟩ := ns_dict ec hn
      rw [hdc] at hd; cases hd
    refine wpAny_storeName_cell hk hl hc i0 fun h' hc' hs => ?_
    have hb := hs.extBut
    have zc : ZOk Z h' := ⟨fun a ha => by
      obtain ⟨o, e, t⟩ := P.z.x a ha
      by_cases q : a = c
      · obtain ⟨o', e', hd'⟩ := hc'
        exact ⟨o', q ▸ e', .cell hd'⟩
      · exact ⟨o, hb a o q e, t⟩, P.z.y⟩
    have hcs : ∀ n c', env.cells.lookup n = some c' → ∃ v, h'.IsCell c' v := fun n c' e => by
      by_cases q : c' = c
      · subst q; exact ⟨_, hc'⟩
      · obtain ⟨v', i⟩ := P.f.cell n c' e
        exact ⟨v', i.sameBut hs q⟩
    refine hQ { s with heap := h' } ⟨h', s.toks, rfl, fun b o e t nx => .inl (hb b o (fun q => nx (.inr (.inl ⟨x, q ▸ hc⟩))) e), fun x => x.sameBut l ec hb⟩ ⟨⟨P.g.sameBut lo l ec hb fun q => ?_, zc, hk, fun y d' e => ?_, hcs⟩, ?_, hcs, P.f.apart, P.f.low⟩
    · obtain ⟨m, hf⟩ := P.g.fr
      exact absurd q.symm (nns hf)
    · rw [List.lookup_cons] at e
      by_cases q : y = x
      · subst q
        simp only [beq_self_eq_true] at e
        cases e
        exact ⟨v, .inr ⟨.inl hl, c, hc, hc'⟩, r.but hb nl nt⟩
      · have q' : (y == x) = false := by simpa using q
        rw [q'] at e
        obtain ⟨v', a, r'⟩ := P.s.has y d' e
        refine ⟨v', ?_, r'.but hb nl nt⟩
        rcases a with ⟨e1, m1, n1, q1⟩ | ⟨e1, c1, l1, i1⟩
        · exact .inl ⟨e1, m1, n1.extBut hb (nns n1), q1⟩
        · refine .inr ⟨e1, c1, l1, i1.sameBut hs fun q => ?_⟩
          subst q
          exact absurd (name_of_addr P.f.apart (mem_of_lookup l1) (mem_of_lookup hc)) ‹_›
    · obtain ⟨m, hn⟩ := P.f.ns
      exact ⟨m, hn.extBut hb (nns hn)⟩

theorem Ex1.assign {x : Str} {px pos : Pos} {value : Expr} {d : D} (h : Ev T k env value ρ d) (hx : IsVar env x) (hR : R (.next ((x, d) :: ρ))) (hs : swapsWith value (some (.Name x px)) pos.line env = pure false := by rfl) :
    Ex1 T k env (.Assign [.Name x px] value pos) ρ R := fun A Z s Q E hA lo P hQ =>
  wpAny_Assign_Name (h A Z s _ _ hA P.toPre fun v s₁ k₁ r₁ => store_wp lo (P.kp k₁) hx r₁ fun s' mv P' => hQ _ s' _ hR (.trans (.of_kp k₁) mv) ⟨rfl, P'⟩) hs
theorem Ex1.ret {e : Expr} {pos : Pos} {d : D} (h : Ev T k env e ρ d) (hR : R (.ret d)) : Ex1 T k env (.Return (some e) pos) ρ R := fun A Z s Q E hA lo P hQ =>
  wpAny_Return_some (h A Z s _ _ hA P.toPre fun v s₁ k₁ r₁ => hQ _ s₁ _ hR (.of_kp k₁) ⟨v, rfl, (P.kp k₁).g, (P.kp k₁).z, r₁⟩)
theorem Ex1.ife {t : Expr} {a b : List Stmt} {pos : Pos} {c : Bool} (h : EvB T k env t ρ c) (ha : c = true → Ex T k env a ρ R) (hb : c = false → Ex T k env b ρ R) : Ex1 T k env (.If t a b pos) ρ R := fun A Z s Q E hA lo P hQ =>
  wpAny_If (h A Z s _ _ hA P.toPre fun s₁ k₁ => by
    cases c with
    | true => exact ha rfl A Z s₁ _ _ hA lo (P.kp k₁) fun f s' o ho mv is => hQ f s' o ho (.trans (.of_kp k₁) mv) is
    | false => exact hb rfl A Z s₁ _ _ hA lo (P.kp k₁) fun f s' o ho mv is => hQ f s' o ho (.trans (.of_kp k₁) mv) is)
theorem Ex1.brk {pos : Pos} (hR : R (.brk ρ)) : Ex1 T k env (.Break pos) ρ R := fun A Z s Q E hA lo P hQ => wpAny_Break (hQ _ s _ hR .refl ⟨rfl, P⟩)
theorem Ex1.asrt {t : Expr} {pos : Pos} (h : EvB T k env t ρ true) (hR : R (.next ρ)) : Ex1 T k env (.Assert t none pos) ρ R := fun A Z s Q E hA lo P hQ =>
  wpAny_Assert_holds (h A Z s _ _ hA P.toPre fun s₁ k₁ => ⟨rfl, hQ _ s₁ _ hR (.of_kp k₁) ⟨rfl, P.kp k₁⟩⟩)
theorem Ex1.augAdd {x : Str} {px pos : Pos} {value : Expr} {a b : Int} (h0 : ρ.lookup x = some (.int a)) (h : Ev T k env value ρ (.int b)) (hx : IsVar env x) (hc : (x == ("__classdict__" : Str)) = false) (hR : R (.next ((x, .int (a + b)) :: ρ))) :
    Ex1 T k env (.AugAssign (.Name x px) .Add value pos) ρ R := fun A Z s Q E hA lo P hQ => by
  obtain ⟨v, a', r⟩ := P.s.has x _ h0
  obtain ⟨t, rfl⟩ := r.int_inv
  refine wpAny_AugAssign_Name (load_has P.s.kind hc a' (h A Z s _ _ hA P.toPre fun v₂ s₁ k₁ r₁ => ?_))
  obtain ⟨u, rfl⟩ := r₁.int_inv
  exact PyProof.Rows.iadd_int (store_wp (s := { s₁ with toks := s₁.toks + 1 }) lo ((P.kp k₁).kp .toks) hx rep_int fun s' mv P' => hQ _ s' _ hR (.trans (.of_kp (k₁.trans .toks)) mv) ⟨rfl, P'⟩)
end
end Mine

namespace Mine

mutual
noncomputable def D.nm : D → Bool
  | .mut _ => false
  | .tup ds => nmL ds
  | .lst ds => nmL ds
  | _ => true
noncomputable def nmL : List D → Bool
  | [] => true
  | d :: ds => d.nm && nmL ds
end
theorem nmL_append : ∀ {a b : List D}, nmL (a ++ b) = (nmL a && nmL b)
  | [], b => by simp [nmL]
  | x :: a, b => by rw [List.cons_append, nmL, nmL, nmL_append, Bool.and_assoc]
theorem nmL_map {α : Type} (f : α → D) (hf : ∀ a, (f a).nm = true) : ∀ l : List α, nmL (l.map f) = true
  | [] => rfl
  | a :: l => by rw [List.map_cons, nmL, hf, nmL_map f hf l]; rfl
theorem nmL_iff : ∀ {l : List D}, nmL l = true ↔ ∀ d ∈ l, d.nm = true
  | [] => by simp [nmL]
  | d :: l => by rw [nmL, Bool.and_eq_true, nmL_iff]; simp

/-- data without a list of the frame's own stands under a statement -/
structure OffX (Z : Zo) (X : Addr → Prop) (h : Heap) : Prop where
  l : ∀ {a vs}, h.IsList a vs → ¬ Z.x a → ¬ X a
  t : ∀ {a vs}, IsTup h a vs → ¬ Z.x a → ¬ X a
mutual
theorem Rep.mv {Z : Zo} {X : Addr → Prop} {n : Nat} {h h' : Heap} (o : OffX Z X h) (k : HKx X n h h') : ∀ (d : D) (v : Value), d.nm = true → Rep Z h v d → Rep Z h' v d
  | .none, _, _, x => x
  | .bool _, _, _, x => x
  | .int _, _, _, x => x
  | .str _, _, _, x => x
  | .tup ds, v, m, x => by
    rw [Rep] at x ⊢
    obtain ⟨b, vs, e, nn, ⟨ob, ho, hc, n', hd⟩, q⟩ := x
    exact ⟨b, vs, e, nn, ⟨ob, k.exact ho (.seq hd) (o.t ⟨ob, ho, hc, n', hd⟩ nn) (by rw [hd]; nofun), hc, n', hd⟩, RepL.mv o k ds vs m q⟩
  | .lst ds, v, m, x => by
    rw [Rep] at x ⊢
    obtain ⟨b, vs, e, nn, ⟨ob, ho, hc, n', hd⟩, q⟩ := x
    exact ⟨b, vs, e, nn, ⟨ob, k.exact ho (.seq hd) (o.l ⟨ob, ho, hc, n', hd⟩ nn) (by rw [hd]; nofun), hc, n', hd⟩, RepL.mv o k ds vs m q⟩
  | .mut ds, v, m, x => by cases m
theorem RepL.mv {Z : Zo} {X : Addr → Prop} {n : Nat} {h h' : Heap} (o : OffX Z X h) (k : HKx X n h h') : ∀ (ds : List D) (vs : List Value), nmL ds = true → RepL Z h vs ds → RepL Z h' vs ds
  | [], _, _, x => x
  | d :: ds, vs, m, x => by
    rw [RepL] at x ⊢
    obtain ⟨v, r, e, p, q⟩ := x
    have m' : d.nm = true ∧ nmL ds = true := by rw [nmL, Bool.and_eq_true] at m; exact m
    exact ⟨v, r, e, Rep.mv o k d v m'.1 p, RepL.mv o k ds r m'.2 q⟩
end
theorem OffX.frame {T : Th} {Z : Zo} {env : Env} {h : Heap} (f : Fm T env h) (z : ZOk Z h) : OffX Z (FrP env Z) h where
  l := fun {a vs} ⟨o, e, _, n, hd⟩ nx q => by
    rcases q with q | ⟨nm, q⟩ | q
    · obtain ⟨m, x⟩ := f.ns
      obtain ⟨es, ep, hd'⟩ := ns_dict (q ▸ e) x
      rw [hd] at hd'; cases hd'
    · obtain ⟨v, o', e', hd'⟩ := f.cell nm a q
      rw [e] at e'; cases e'; rw [hd] at hd'; cases hd'
    · exact nx (z.y a q)
  t := fun {a vs} ⟨o, e, _, n, hd⟩ nx q => by
    rcases q with q | ⟨nm, q⟩ | q
    · obtain ⟨m, x⟩ := f.ns
      obtain ⟨es, ep, hd'⟩ := ns_dict (q ▸ e) x
      rw [hd] at hd'; cases hd'
    · obtain ⟨v, o', e', hd'⟩ := f.cell nm a q
      rw [e] at e'; cases e'; rw [hd] at hd'; cases hd'
    · exact nx (z.y a q)

/-! iterators -/
noncomputable def rangeD (a : Int) : Nat → List D
  | 0 => []
  | n + 1 => .int a :: rangeD (a + 1) n
theorem rangeD_nm : ∀ (n : Nat) (a : Int), nmL (rangeD a n) = true
  | 0, _ => rfl
  | n + 1, a => by rw [rangeD, nmL, rangeD_nm n]; rfl
inductive ItSt (Z : Zo) (h : Heap) (I : Addr) (ds : List D) : Prop
  | list {ax : Addr} {vs : List Value} {i : Nat} : h.IsListIter I ax i → h.IsList ax vs.toArray → ¬ Z.x ax → RepL Z h (vs.drop i) ds → nmL ds = true → ItSt Z h I ds
  | range {a : Int} {n : Nat} : IsRangeIter h I a n 1 → ds = rangeD a n → ItSt Z h I ds

/-- what an iterator's object is like -/
structure IterObj (o : Obj) : Prop where
  d : ∃ vs, o.data = .fields vs ∧ ∀ (x : Str) (t : Tok), vs[1]? ≠ some (.str x t)
  c1 : o.cls ≠ .none
  c2 : o.cls ≠ .type "code"
theorem IterObj.loose {T : Th} {o : Obj} {a : Addr} (x : IterObj o) : Loose T o a := let ⟨vs, h1, h2⟩ := x.d; .iter h1 h2 x.c1 x.c2
theorem ItSt.obj {Z : Zo} {h : Heap} {I : Addr} {ds : List D} (x : ItSt Z h I ds) : ∃ o, h.get? I = some o ∧ IterObj o := by
  cases x with
  | list hit _ _ _ _ =>
    obtain ⟨o, e, hc, hd⟩ := hit
    exact ⟨o, e, ⟨_, hd, fun x t q => by simp at q⟩, by rw [hc]; nofun, by rw [hc]; decide⟩
  | range hit _ => exact ⟨_, hit, ⟨_, rfl, fun x t q => by simp [rawInt] at q⟩, nofun, fun q => by injection q with q; exact absurd q (by decide)⟩
theorem IterObj.not_list {h : Heap} {I : Addr} {o : Obj} (x : IterObj o) (e : h.get? I = some o) : ∀ vs, ¬ h.IsList I vs := fun vs ⟨o', e', _, n, hd⟩ => by
  obtain ⟨ws, h1, _⟩ := x.d
  rw [e] at e'; cases e'; rw [h1] at hd; cases hd
theorem IterObj.not_tup {h : Heap} {I : Addr} {o : Obj} (x : IterObj o) (e : h.get? I = some o) : ∀ vs, ¬ IsTup h I vs := fun vs ⟨o', e', _, n, hd⟩ => by
  obtain ⟨ws, h1, _⟩ := x.d
  rw [e] at e'; cases e'; rw [h1] at hd; cases hd
theorem IterObj.not_dict {o : Obj} (x : IterObj o) : ∀ es ep, o.data ≠ .dict es ep := fun es ep q => by obtain ⟨ws, h1, _⟩ := x.d; rw [h1] at q; cases q
theorem IterObj.not_cell {o : Obj} (x : IterObj o) : ∀ v, o.data ≠ .cell v := fun v q => by obtain ⟨ws, h1, _⟩ := x.d; rw [h1] at q; cases q
theorem IterObj.off {T : Th} {Z : Zo} {env : Env} {h : Heap} {I : Addr} {o : Obj} (x : IterObj o) (e : h.get? I = some o) (f : Fm T env h) (z : ZOk Z h) (nz : ¬ Z.x I) : ¬ FrP env Z I := fun q => by
  rcases q with q | ⟨nm, q⟩ | q
  · obtain ⟨m, y⟩ := f.ns
    obtain ⟨es, ep, hd⟩ := ns_dict (q ▸ e) y
    exact x.not_dict _ _ hd
  · obtain ⟨v, o', e', hd⟩ := f.cell nm I q
    rw [e] at e'; cases e'
    exact x.not_cell _ hd
  · exact nz (z.y I q)

theorem ItSt.mvx {Z : Zo} {X : Addr → Prop} {n : Nat} {h h' : Heap} {I : Addr} {ds : List D} (x : ItSt Z h I ds) (o : OffX Z X h) (nI : ¬ X I) (k : HKx X n h h') : ItSt Z h' I ds := by
  obtain ⟨oI, eI, io⟩ := x.obj
  have e' := k.exact eI (.cls io.c1) nI io.not_dict
  cases x with
  | list hit hl nx r m =>
    obtain ⟨o1, e1, hc1, hd1⟩ := hit
    rw [eI] at e1; cases e1
    obtain ⟨o2, e2, hc2, n2, hd2⟩ := id hl
    exact .list ⟨oI, e', hc1, hd1⟩ ⟨o2, k.exact e2 (.seq hd2) (o.l hl nx) (by rw [hd2]; nofun), hc2, n2, hd2⟩ nx (r.mv o k _ _ m) m
  | range hit e =>
    have hit' := hit
    unfold IsRangeIter at hit'
    rw [eI] at hit'
    cases hit'
    exact .range e' e
theorem ItSt.hk {Z : Zo} {n : Nat} {h h' : Heap} {I : Addr} {ds : List D} (x : ItSt Z h I ds) (k : HK n h h') : ItSt Z h' I ds :=
  x.mvx (X := fun _ => False) ⟨fun _ _ q => q, fun _ _ q => q⟩ (fun q => q) (.of_hk k)

noncomputable def Fresh (s : Shared) (I : Addr) : Prop := ∀ o, s.heap.get? I = some o → ¬ NonTab I o
section
variable {T : Th} {A : Around} {E : Value → Shared → Prop} {s : Shared} {Z : Zo} {I : Addr}
theorem it_next {d : D} {ds : List D} {Q : Option Value → Shared → Prop} (x : ItSt Z s.heap I (d :: ds))
    (hQ : ∀ v h' tk, Heap.SameBut I s.heap h' → ItSt Z h' I ds → Rep Z h' v d → d.nm = true → Q (some v) { s with heap := h', toks := tk }) : wpAny (model T.prog T.w) A (pyNext (.ref I)) Q E s := by
  obtain ⟨oI, eI, io⟩ := x.obj
  have nl := io.not_list eI
  have nt := io.not_tup eI
  cases x with
  | @list ax vs i hit hl nx r m =>
    have m' : d.nm = true ∧ nmL ds = true := by rw [nmL, Bool.and_eq_true] at m; exact m
    obtain ⟨v, r', e, r1, r2⟩ := (by rw [RepL] at r; exact r : ∃ v r', vs.drop i = v :: r' ∧ Rep Z s.heap v d ∧ RepL Z s.heap r' ds)
    have hv : vs[i]? = some v := by
      have := congrArg (fun l => l[0]?) e
      simpa using this
    have hr' : vs.drop (i + 1) = r' := by
      have := congrArg List.tail e
      simpa using this
    refine wpAny_pyNext_list_item hit hl (by simpa using hv) fun h' hit' hs => ?_
    have hne : ax ≠ I := fun q => nl _ (q ▸ hl)
    refine hQ v h' s.toks hs (.list hit' (hl.extBut hs.extBut hne) nx ?_ m'.2) (r1.but hs.extBut nl nt) m'.1
    rw [hr']; exact r2.but hs.extBut nl nt
  | @range a n hit e =>
    cases n with
    | zero => simp [rangeD] at e
    | succ n =>
      rw [rangeD] at e
      cases e
      refine wpAny_pyNext_range_item hit (by omega) fun h' hit' hs => ?_
      exact hQ _ h' _ hs (.range (by have : ((n + 1 : Nat) : Int) - 1 = n := by omega
                                     rw [this] at hit'; exact hit') rfl) rep_int rfl
theorem it_done {Q : Option Value → Shared → Prop} (hh : A.handled = none) (x : ItSt Z s.heap I [])
    (hQ : ∀ h', Heap.ExtBut I s.heap h' → Q none { s with heap := h' }) : wpAny (model T.prog T.w) A (pyNext (.ref I)) Q E s := by
  cases x with
  | @list ax vs i hit hl nx r m =>
    have hlen := r.length
    simp at hlen
    exact wpAny_pyNext_list_end hh hit hl (by simp; omega) hQ
  | @range a n hit e =>
    cases n with
    | zero => exact wpAny_pyNext_range_end hh hit (by simp) hQ
    | succ n => rw [rangeD] at e; cases e

/-- the iterator is changed: all else stands -/
theorem Sees.iter {env : Env} {ρ : Rho} {h h' : Heap} {o : Obj} (x : Sees Z env h ρ) (io : IterObj o) (e : h.get? I = some o) (hb : Heap.ExtBut I h h') : Sees Z env h' ρ :=
  ⟨x.kind, fun y d q => by
    obtain ⟨v, a, r⟩ := x.has y d q
    refine ⟨v, ?_, r.but hb (io.not_list e) (io.not_tup e)⟩
    rcases a with ⟨e1, m1, n1, q1⟩ | ⟨e1, c1, l1, oc, ec, hc⟩
    · refine .inl ⟨e1, m1, n1.extBut hb fun q => ?_, q1⟩
      obtain ⟨es, ep, hd⟩ := ns_dict e (q ▸ n1)
      exact io.not_dict _ _ hd
    · refine .inr ⟨e1, c1, l1, oc, hb c1 oc (fun q => ?_) ec, hc⟩
      rw [q, e] at ec; cases ec
      exact io.not_cell _ hc, fun n c q => by
    obtain ⟨v, oc, ec, hc⟩ := x.cells n c q
    refine ⟨v, oc, hb c oc (fun q => ?_) ec, hc⟩
    rw [q, e] at ec; cases ec
    exact io.not_cell _ hc⟩
theorem Fm.iter {env : Env} {h h' : Heap} {o : Obj} (x : Fm T env h) (io : IterObj o) (e : h.get? I = some o) (hb : Heap.ExtBut I h h') : Fm T env h' :=
  ⟨by
    obtain ⟨m, n1⟩ := x.ns
    refine ⟨m, n1.extBut hb fun q => ?_⟩
    obtain ⟨es, ep, hd⟩ := ns_dict e (q ▸ n1)
    exact io.not_dict _ _ hd, fun n c q => by
    obtain ⟨v, oc, ec, hc⟩ := x.cell n c q
    refine ⟨v, oc, hb c oc (fun q => ?_) ec, hc⟩
    rw [q, e] at ec; cases ec
    exact io.not_cell _ hc, x.apart, x.low⟩
theorem ZOk.iter {h h' : Heap} (x : ZOk Z h) (nz : ¬ Z.x I) (hb : Heap.ExtBut I h h') : ZOk Z h' :=
  ⟨fun a ha => let ⟨o, e, t⟩ := x.x a ha; ⟨o, hb a o (fun q => nz (q ▸ ha)) e, t⟩, x.y⟩
theorem Gl.iter {h h' : Heap} {o : Obj} (G : Gl T h) (lo : Low T) (io : IterObj o) (e : h.get? I = some o) (hb : Heap.ExtBut I h h') : Gl T h' :=
  G.sameBut lo io.loose e hb fun q => by
    obtain ⟨m, n1⟩ := G.fr
    obtain ⟨es, ep, hd⟩ := ns_dict (q ▸ e) n1
    exact absurd hd (io.not_dict _ _)
theorem Pre.iter {env : Env} {ρ : Rho} {h' : Heap} {tk : Nat} {o : Obj} (x : Pre T Z env ρ s) (lo : Low T) (nz : ¬ Z.x I) (io : IterObj o) (e : s.heap.get? I = some o) (hb : Heap.ExtBut I s.heap h') : Pre T Z env ρ { s with heap := h', toks := tk } :=
  ⟨x.g.iter lo io e hb, x.z.iter nz hb, x.s.iter io e hb⟩
theorem St.iter {env : Env} {ρ : Rho} {h' : Heap} {tk : Nat} {o : Obj} (x : St T Z env ρ s) (lo : Low T) (nz : ¬ Z.x I) (io : IterObj o) (e : s.heap.get? I = some o) (hb : Heap.ExtBut I s.heap h') : St T Z env ρ { s with heap := h', toks := tk } :=
  ⟨x.toPre.iter lo nz io e hb, x.f.iter io e hb⟩
theorem MvX.iter {X : Addr → Prop} {s₀ : Shared} {h' : Heap} {tk : Nat} {o : Obj} (m : MvX T X s₀ s) (n0 : Fresh s₀ I) (io : IterObj o) (e : s.heap.get? I = some o) (hb : Heap.ExtBut I s.heap h') : MvX T X s₀ { s with heap := h', toks := tk } := by
  obtain ⟨h, tk₀, rfl, a, b⟩ := m
  refine ⟨h', tk, rfl, fun x o' e' t nx => ?_, fun x => (b x).sameBut io.loose e hb⟩
  have hne : x ≠ I := fun q => n0 o' (q ▸ e') (q ▸ t)
  rcases a x o' e' t nx with r | ⟨hn, m, p, q⟩
  · exact .inl (hb x o' hne r)
  · exact .inr ⟨hn, m, p, q.extBut hb hne⟩
end

/-- what is iterated over -/
noncomputable def EvI (T : Th) (k : Nat) (env : Env) (e : Expr) (ρ : Rho) (ds : List D) : Prop :=
  ∀ (A : Around) (Z : Zo) (s : Shared) (Q : Value → Shared → Prop) (E : Value → Shared → Prop), OkN T k A → Pre T Z env ρ s →
    (∀ I s', Kp T s s' → Fresh s I → ¬ Z.x I → ItSt Z s'.heap I ds → Q (.ref I) s') → wpAny (model T.prog T.w) A (eval e env) (fun x s₁ => wpAny (model T.prog T.w) A (pyIter x) Q E s₁) E s
section
variable {T : Th} {k : Nat} {env : Env} {ρ : Rho}
theorem Kp.fresh {s s' : Shared} {a : Addr} (kp : Kp T s s') (h : s'.heap.get? a = none) : Fresh s a := fun o e t => by
  rcases kp.hk a o e t with r | ⟨_, m, _, o', es, ep, e', _⟩
  · rw [h] at r; cases r
  · rw [h] at e'; cases e'
theorem EvI.list {e : Expr} {ds : List D} (h : Ev T k env e ρ (.lst ds)) (hn : nmL ds = true) : EvI T k env e ρ ds := fun A Z s Q E hA P hQ =>
  h A Z s _ _ hA P fun v s₁ k₁ r₁ => by
    obtain ⟨a, vs, rfl, nx, hl, r⟩ := r₁.lst_inv
    refine wpAny_pyIter_list hl (hQ _ _ (k₁.trans .push) (k₁.fresh (get?_size _)) ((P.kp k₁).z.fresh (get?_size _)) ?_)
    exact .list (i := 0) ⟨_, Heap.get?_push_size _ rfl, rfl, rfl⟩ (hl.push _) nx (r.hk (n := 0) (.of_keeps fun _ _ e => Heap.get?_push_of_some _ e)) hn
theorem range_it {A : Around} {Z : Zo} {s : Shared} {Q : Value → Shared → Prop} {E : Value → Shared → Prop} {r : Addr} {a b : Int} {t u v : Tok} (z : ZOk Z s.heap) (hr : IsRange s.heap r a b 1 t u v) (ha : -(2 ^ 60) ≤ a) (ha' : a < 2 ^ 60) (hb : -(2 ^ 60) ≤ b) (hb' : b < 2 ^ 60)
    (hQ : ∀ I s', Kp T s s' → Fresh s I → ¬ Z.x I → ItSt Z s'.heap I (rangeD a (b - a).toNat) → Q (.ref I) s') : wpAny (model T.prog T.w) A (pyIter (.ref r)) Q E s := by
  refine wpAny_pyIter_range hr (small_one (by omega) (by omega) (by omega) (by omega)) (hQ _ _ .push (fun o e => by rw [get?_size] at e; cases e) (z.fresh (get?_size _)) (.range (a := a) (n := (b - a).toNat) ?_ rfl))
  rw [rangeSize_nat]
  exact Heap.get?_push_size _ rfl
theorem EvI.range1 {p pos : Pos} {e : Expr} {n : Int} (ge : GEnv env) (gv : GV T "range" (.type "range")) (hx : env.kindOf "range" = some .globalImplicit) (h : Ev T k env e ρ (.int n)) (hn : -(2 ^ 60) ≤ n) (hn' : n < 2 ^ 60) (he : starEach [e] env = [(false, eval e env)]) :
    EvI T k env (.Call (.Name "range" p) [e] [] pos) ρ (rangeD 0 n.toNat) := fun A Z s Q E hA P hQ => by
  refine PyProof.Rows.Call_Name rfl (eval_global ge P.g P.s.kind hx (by decide) gv (callWith_of (T := T) (.inr (.inl ⟨_, rfl⟩)) he (by rw [he]; rfl) ?_))
  refine EvL.cons h .nil he A Z s pos _ _ hA P fun vs s₁ k₁ r₁ => ⟨(P.kp k₁).g, ?_⟩
  obtain ⟨v, rfl, r⟩ := r₁.one
  obtain ⟨t, rfl⟩ := r.int_inv
  refine call_range_1 ?_
  have k2 : Kp T s₁ { s₁ with heap := s₁.heap.push { cls := .type "range", data := .fields #[.int 0 s₁.toks, .int n t, .int 1 (s₁.toks + 1)] }, toks := s₁.toks + 1 + 1 } := Kp.of fun _ _ e => Heap.get?_push_of_some _ e
  refine range_it ((P.kp k₁).z.hk k2.hk) (IsRange.new s₁.heap 0 n 1 s₁.toks t (s₁.toks + 1)) (by omega) (by omega) hn hn' fun I s' k' fr nz it => hQ I s' ((k₁.trans k2).trans k') ?_ nz (by simpa using it)
  exact fun o e t => by
    rcases (k₁.trans k2).hk I o e t with r | ⟨_, m, _, o', es, ep, e', hd, _⟩
    · exact fr o r t
    · exact fr o' e' (.dict hd)
theorem EvI.range2 {p pos : Pos} {e e' : Expr} {a b : Int} (ge : GEnv env) (gv : GV T "range" (.type "range")) (hx : env.kindOf "range" = some .globalImplicit) (h : Ev T k env e ρ (.int a)) (h' : Ev T k env e' ρ (.int b)) (ha : -(2 ^ 60) ≤ a) (ha' : a < 2 ^ 60) (hb : -(2 ^ 60) ≤ b) (hb' : b < 2 ^ 60)
    (he : starEach [e, e'] env = (false, eval e env) :: starEach [e'] env) (he' : starEach [e'] env = [(false, eval e' env)]) :
    EvI T k env (.Call (.Name "range" p) [e, e'] [] pos) ρ (rangeD a (b - a).toNat) := fun A Z s Q E hA P hQ => by
  refine PyProof.Rows.Call_Name rfl (eval_global ge P.g P.s.kind hx (by decide) gv (callWith_of (T := T) (.inr (.inl ⟨_, rfl⟩)) he (by rw [he, he']; rfl) ?_))
  refine EvL.cons h (.cons h' .nil he') he A Z s pos _ _ hA P fun vs s₁ k₁ r₁ => ⟨(P.kp k₁).g, ?_⟩
  obtain ⟨v, w, rfl, r, r'⟩ := r₁.two
  obtain ⟨t, rfl⟩ := r.int_inv
  obtain ⟨u, rfl⟩ := r'.int_inv
  refine call_range_2 ?_
  have k2 : Kp T s₁ { s₁ with heap := s₁.heap.push { cls := .type "range", data := .fields #[.int a t, .int b u, .int 1 s₁.toks] }, toks := s₁.toks + 1 } := Kp.of fun _ _ e => Heap.get?_push_of_some _ e
  refine range_it ((P.kp k₁).z.hk k2.hk) (IsRange.new s₁.heap a b 1 t u s₁.toks) ha ha' hb hb' fun I s' k' fr nz it => hQ I s' ((k₁.trans k2).trans k') ?_ nz it
  exact fun o e t => by
    rcases (k₁.trans k2).hk I o e t with r | ⟨_, m, _, o', es, ep, e', hd, _⟩
    · exact fr o r t
    · exact fr o' e' (.dict hd)

/-! targets -/
noncomputable def bindTo (tg : Expr) (d : D) (ρ : Rho) : Option Rho := match tg, d with
  | .Name x _, d => some ((x, d) :: ρ)
  | .Tuple [.Name a _, .Name b _] _ _, .tup [d₁, d₂] => some ((b, d₂) :: (a, d₁) :: ρ)
  | _, _ => none
noncomputable def tgVars (env : Env) : Expr → Prop
  | .Name x _ => IsVar env x
  | .Tuple [.Name a _, .Name b _] _ _ => IsVar env a ∧ IsVar env b
  | _ => False
/-- two names stored from a tuple -/
theorem assign_wp {A : Around} {Z : Zo} {s : Shared} {tg : Expr} {v : Value} {d : D} {ρ' : Rho} {Q : Unit → Shared → Prop} {E : Value → Shared → Prop} (hh : A.handled = none) (lo : Low T) (P : St T Z env ρ s) (hx : tgVars env tg) (hb : bindTo tg d ρ = some ρ') (hm : d.nm = true) (r : Rep Z s.heap v d)
    (hQ : ∀ s', Mv T Z env s s' → St T Z env ρ' s' → Q () s') : wpAny (model T.prog T.w) A (assign tg env v) Q E s := by
  unfold bindTo at hb
  split at hb
  · cases hb
    exact wpAny_assign_Name (store_wp lo P hx r hQ)
  · rename_i a pa b pb i p d₁ d₂
    cases hb
    obtain ⟨ta, vs, rfl, nx, ht, rl⟩ := r.tup_inv
    obtain ⟨v1, v2, rfl, r1, r2⟩ := rl.two
    have hm2 : d₁.nm = true ∧ d₂.nm = true := by simpa [D.nm, nmL] using hm
    rw [arm_assign_Tuple]
    refine wpAny_bind (wpAny_standAt ?_)
    unfold unpack
    rw [show (assignEach [.Name a pa, .Name b pb] env).length = [v1, v2].toArray.size from rfl, show (assignEach [.Name a pa, .Name b pb] env).findIdx? (·.1) = none from rfl]
    refine wpAny_bind (wpAny_holding (unpackItems_tuple hh ht fun h' hb => ?_))
    have hne : ∀ b o, s.heap.get? b = some o → b ≠ s.heap.objs.size := fun b o e q => by rw [q, get?_size] at e; cases e
    have k1 : Kp T s { s with heap := h' } := Kp.of (tk := s.toks) fun b o e => hb b o (hne b o e) e
    rw [show (assignEach [.Name a pa, .Name b pb] env).map (·.2) = [assign (.Name a pa) env, assign (.Name b pb) env] from rfl, show [v1, v2].toArray.toList = [v1, v2] from rfl, assignInOrder]
    refine wpAny_bind (wpAny_holding (wpAny_assign_Name (store_wp lo (P.kp k1) hx.1 (r1.hk k1.hk) fun s₁ m₁ P₁ => ?_)))
    rw [assignInOrder]
    have r2' : Rep Z s₁.heap v2 d₂ := (r2.hk k1.hk).mv (.frame (P.kp k1).f (P.kp k1).z) m₁.hk _ _ hm2.2
    refine wpAny_bind (wpAny_holding (wpAny_assign_Name (store_wp lo P₁ hx.2 r2' fun s₂ m₂ P₂ => wpAny_pure ?_)))
    exact hQ s₂ (.trans (.of_kp k1) (m₁.trans m₂)) P₂
  · cases hb

/-! the loop -/
noncomputable def ForD (T : Th) (k : Nat) (env : Env) (tg : Expr) (body : List Stmt) (R : Out → Prop) : List D → Rho → Prop
  | [], ρ => R (.next ρ)
  | d :: ds, ρ => ∃ ρ', bindTo tg d ρ = some ρ' ∧ Ex T k env body ρ' (fun o => match o with
    | .next ρ'' => ForD T k env tg body R ds ρ''
    | .cont ρ'' => ForD T k env tg body R ds ρ''
    | .brk ρ'' => R (.next ρ'')
    | .ret d' => R (.ret d'))
theorem ownGo_wp {A : Around} {Z : Zo} {s : Shared} {tg : Expr} {I : Addr} {v : Value} {d : D} {ds : List D} {ρ' : Rho} {Q : Unit → Shared → Prop} {E : Value → Shared → Prop} (it : ItSt Z s.heap I ds) (hb : bindTo tg d ρ = some ρ') (r : Rep Z s.heap v d) (h : Q () s) :
    wpAny (model T.prog T.w) A (letOwnedTupleGo tg (.ref I) v) Q E s := by
  unfold bindTo at hb
  split at hb
  · exact wpAny_pure h
  · rename_i a pa b pb i p d₁ d₂
    obtain ⟨ta, vs, rfl, nx, ht, rl⟩ := r.tup_inv
    cases it with
    | list hit _ _ _ _ => exact wpAny_letOwnedTupleGo_listiter hit h
    | range hit _ =>
      unfold letOwnedTupleGo
      refine wpAny_bind (wpAny_load hit ?_)
      exact wpAny_pure h
  · cases hb
theorem Ex1.forl {tg iter : Expr} {body : List Stmt} {pos : Pos} {ds : List D} {R : Out → Prop} (hi : EvI T k env iter ρ ds) (hx : tgVars env tg) (h : ForD T k env tg body R ds ρ) (hs : ∀ x, foldedSetIterable iter env x = pure x := by intro _; rfl) :
    Ex1 T k env (.For tg iter body [] pos) ρ R := fun A Z s Q E hA lo P hQ => by
  refine wpAny_For (hi A Z s _ _ hA P.toPre fun I s₁ k₁ fr nz it => ?_) hs
  refine codeAny_forLoop_any (fun n s' => ∃ ds' ρ', n = ds'.length ∧ Mv T Z env s s' ∧ ItSt Z s'.heap I ds' ∧ St T Z env ρ' s' ∧ ForD T k env tg body R ds' ρ') ?_ ds.length ⟨ds, ρ, rfl, .of_kp k₁, it, P.kp k₁, h⟩
  rintro n s' ⟨ds', ρ', rfl, mv, it', P', hF⟩
  obtain ⟨oI, eI, io⟩ := it'.obj
  cases ds' with
  | nil =>
    refine it_done hA.1 it' fun h' hb => wpAny_execs_nil ?_
    exact hQ _ _ (.next ρ') hF (mv.iter (tk := s'.toks) fr io eI hb) ⟨rfl, P'.iter (tk := s'.toks) lo nz io eI hb⟩
  | cons d ds' =>
    obtain ⟨ρ₁, hb₁, hE⟩ := hF
    refine it_next it' fun v h' tk hs' it'' r dm => ?_
    refine ownGo_wp (T := T) (s := { s' with heap := h', toks := tk }) it'' hb₁ r ?_
    have mv' := mv.iter (tk := tk) fr io eI hs'.extBut
    have P'' := P'.iter (tk := tk) lo nz io eI hs'.extBut
    refine assign_wp hA.1 lo P'' hx hb₁ dm r fun s₂ m₂ P₂ => ?_
    have it₂ : ItSt Z s₂.heap I ds' := by
      obtain ⟨oI', eI', io'⟩ := it''.obj
      exact it''.mvx (.frame P''.f P''.z) (io'.off eI' P''.f P''.z nz) m₂.hk
    refine hE A Z s₂ _ _ hA lo P₂ fun f s₃ o ho m₃ is => ?_
    have m₃' := (mv'.trans m₂).trans m₃
    cases o with
    | next ρ'' =>
      obtain ⟨rfl, P₃⟩ := is
      refine ⟨ds'.length, Nat.lt_succ_self _, ds', ρ'', rfl, m₃', ?_, P₃, ho⟩
      obtain ⟨oI', eI', io'⟩ := it₂.obj
      exact it₂.mvx (.frame P₂.f P₂.z) (io'.off eI' P₂.f P₂.z nz) m₃.hk
    | cont ρ'' =>
      obtain ⟨rfl, P₃⟩ := is
      refine ⟨ds'.length, Nat.lt_succ_self _, ds', ρ'', rfl, m₃', ?_, P₃, ho⟩
      obtain ⟨oI', eI', io'⟩ := it₂.obj
      exact it₂.mvx (.frame P₂.f P₂.z) (io'.off eI' P₂.f P₂.z nz) m₃.hk
    | brk ρ'' =>
      obtain ⟨rfl, P₃⟩ := is
      exact hQ _ _ (.next ρ'') ho m₃' ⟨rfl, P₃⟩
    | ret d' =>
      obtain ⟨v', rfl, P₃⟩ := is
      exact hQ _ _ (.ret d') ho m₃' ⟨v', rfl, P₃⟩
end
end Mine

namespace Mine

/-! the parts of a def of the text's -/
noncomputable def defAt (n : Nat) : DefRec := match stmtAt n with
  | .FunctionDef name params body _ _ _ scope _ _ pos => ⟨name, params, body, scope, pos⟩
  | _ => ⟨Str.empty, default, [], default, default⟩
noncomputable def nameAt (n : Nat) : Str := (defAt n).name
noncomputable def bodyAt (n : Nat) : List Stmt := (defAt n).body
noncomputable def scopeAt (n : Nat) : Scope := (defAt n).scope
noncomputable def paramsAt (n : Nat) : Arguments := (defAt n).params
noncomputable abbrev fdAt (n : Nat) (pm code doc : Value) : FuncData := Calls.docDef (nameAt n) (paramsAt n) (bodyAt n) (scopeAt n) pm code doc
noncomputable abbrev envAt (n : Nat) (pm code doc : Value) (L a : Addr) : Env := callEnvC (fdAt n pm code doc) L a

-- from one zone to another
mutual
theorem Rep.zone {Z Z' : Zo} {h : Heap} (hz : ∀ a, Z'.x a → (h.get? a).isSome = true → Z.x a) : ∀ (d : D) (v : Value), d.nm = true → Rep Z h v d → Rep Z' h v d
  | .none, _, _, x => x
  | .bool _, _, _, x => x
  | .int _, _, _, x => x
  | .str _, _, _, x => x
  | .tup ds, v, m, x => by
    rw [Rep] at x ⊢
    obtain ⟨b, vs, e, nn, ⟨ob, ho, r⟩, q⟩ := x
    exact ⟨b, vs, e, fun q => nn (hz b q (by rw [ho]; rfl)), ⟨ob, ho, r⟩, RepL.zone hz ds vs m q⟩
  | .lst ds, v, m, x => by
    rw [Rep] at x ⊢
    obtain ⟨b, vs, e, nn, ⟨ob, ho, r⟩, q⟩ := x
    exact ⟨b, vs, e, fun q => nn (hz b q (by rw [ho]; rfl)), ⟨ob, ho, r⟩, RepL.zone hz ds vs m q⟩
  | .mut ds, v, m, x => by cases m
theorem RepL.zone {Z Z' : Zo} {h : Heap} (hz : ∀ a, Z'.x a → (h.get? a).isSome = true → Z.x a) : ∀ (ds : List D) (vs : List Value), nmL ds = true → RepL Z h vs ds → RepL Z' h vs ds
  | [], _, _, x => x
  | d :: ds, vs, m, x => by
    rw [RepL] at x ⊢
    obtain ⟨v, r, e, p, q⟩ := x
    have m' : d.nm = true ∧ nmL ds = true := by rw [nmL, Bool.and_eq_true] at m; exact m
    exact ⟨v, r, e, Rep.zone hz d v m'.1 p, RepL.zone hz ds r m'.2 q⟩
end

/-! parameters -/
theorem bindL_notin {kindOf : Str → Option NameKind} {y : Str} : ∀ (binds : List (Str × Value)) (m : Str → Option Value), y ∉ binds.map (·.1) → bindL kindOf binds m y = m y
  | [], _, _ => rfl
  | (n, v) :: r, m, h => by
    rw [bindL, bindL_notin r _ fun q => h (by rw [List.map_cons]; exact .tail _ q)]
    have hn : y ≠ n := fun q => h (by rw [List.map_cons, q]; exact .head _)
    split
    · simp [hn]
    · rfl
theorem bindC_notin {kindOf : Str → Option NameKind} {y : Str} : ∀ (binds : List (Str × Value)) (m : Str → Option Value), y ∉ binds.map (·.1) → bindC kindOf binds m y = m y
  | [], _, _ => rfl
  | (n, v) :: r, m, h => by
    rw [bindC, bindC_notin r _ fun q => h (by rw [List.map_cons]; exact .tail _ q)]
    have hn : y ≠ n := fun q => h (by rw [List.map_cons, q]; exact .head _)
    split
    · rfl
    · simp [hn]
theorem bindL_get {kindOf : Str → Option NameKind} {y : Str} {v : Value} (hk : kindOf y = some .local) : ∀ (binds : List (Str × Value)) (m : Str → Option Value), (binds.map (·.1)).Nodup → (y, v) ∈ binds → bindL kindOf binds m y = some v
  | (n, w) :: r, m, hn, hm => by
    rw [List.map_cons, List.nodup_cons] at hn
    rcases List.mem_cons.mp hm with e | hm
    · cases e
      rw [bindL, bindL_notin r _ hn.1, if_pos hk]; simp
    · rw [bindL]; exact bindL_get hk r _ hn.2 hm
theorem bindC_get {kindOf : Str → Option NameKind} {y : Str} {v : Value} (hk : kindOf y = some .cell) : ∀ (binds : List (Str × Value)) (m : Str → Option Value), (binds.map (·.1)).Nodup → (y, v) ∈ binds → bindC kindOf binds m y = some v
  | (n, w) :: r, m, hn, hm => by
    rw [List.map_cons, List.nodup_cons] at hn
    rcases List.mem_cons.mp hm with e | hm
    · cases e
      rw [bindC, bindC_notin r _ hn.1, if_neg (by rw [hk]; decide)]; simp
    · rw [bindC]; exact bindC_get hk r _ hn.2 hm
theorem zip_lookup {Z : Zo} {h : Heap} : ∀ (names : List Str) (ds : List D) (vs : List Value), RepL Z h vs ds → ∀ {y : Str} {d : D}, (names.zip ds).lookup y = some d → ∃ v, (y, v) ∈ names.zip vs ∧ Rep Z h v d
  | [], _, _, _, _, _, e => by simp at e
  | n :: names, [], vs, r, y, d, e => by simp at e
  | n :: names, d0 :: ds, vs, r, y, d, e => by
    rw [RepL] at r
    obtain ⟨v, w, rfl, a, b⟩ := r
    rw [List.zip_cons_cons, List.lookup_cons] at e
    by_cases q : y = n
    · subst q
      simp only [beq_self_eq_true] at e
      cases e
      exact ⟨v, .head _, a⟩
    · have q' : (y == n) = false := by simpa using q
      rw [q'] at e
      obtain ⟨v', h1, h2⟩ := zip_lookup names ds w b e
      exact ⟨v', .tail _ h1, h2⟩
theorem zip_fst {α : Type} : ∀ (names : List Str) (vs : List α), (names.zip vs).map (·.1) = names.take vs.length
  | [], _ => by simp
  | n :: names, [] => by simp
  | n :: names, v :: vs => by simp [zip_fst names vs]

/-- what is known of a def's head, once for all its calls -/
structure Sig (n : Nat) (names : List Str) : Prop where
  of : DefRec.ofStmt? (stmtAt n) = some (defAt n)
  bind : ∀ (vs : List Value) (pm code doc : Value), vs.length = names.length → bindArgs (fdAt n pm code doc) ⟨vs, []⟩ = pure (names.zip vs)
  nodup : names.Nodup
  kinds : ∀ y ∈ names, (scopeAt n).names.lookup y = some .local ∨ (scopeAt n).names.lookup y = some .cell
  co : (scopeAt n).isCoroutine = false
  gen : (scopeAt n).isGenerator = false
  kind : (scopeAt n).kind = .function

noncomputable def IsFn (T : Th) (n : Nat) (a : Addr) : Prop := T.mg (nameAt n) = some (.ref a)
theorem IsFn.callee {T : Th} {n : Nat} {a : Addr} {names : List Str} (f : IsFn T n a) (sg : Sig n names) : Callee T (.ref a) := .inr (.inr ⟨a, rfl, fun h G => by
  obtain ⟨a', o, pm, code, doc, h1, h2, h3, h4⟩ := G.fn n _ sg.of
  have : a' = a := by have := f; unfold IsFn nameAt at this; rw [h1] at this; cases this; rfl
  subst this
  exact ⟨o, _, h2, h3⟩⟩)

/-- a call of the text's own: its body's judgement -/
theorem fn_enter {T : Th} {k n : Nat} {a : Addr} {names : List Str} {ds : List D} {d : D} (lo : Low T) (sg : Sig n names) (f : IsFn T n a) (hlen : ds.length = names.length) (hnm : nmL ds = true) (hdm : d.nm = true)
    (h : ∀ (pm code doc : Value) (L : Addr) (A : Around) (Z : Zo) (s : Shared) (Q : Flow → Shared → Prop) (E : Value → Shared → Prop), OkN T k A → (∀ b, ¬ Z.y b) → St T Z (envAt n pm code doc L a) (names.zip ds) s →
      (n = 11 → code = .ref T.c) →
      (∀ fl s', Mv T Z (envAt n pm code doc L a) s s' → Rep Z s'.heap (match fl with | .ret v => v | _ => .none) d → Q fl s') → wpAny (model T.prog T.w) A (execs (bodyAt n) (envAt n pm code doc L a)) Q E s) :
    CallR T (k + 1) (.ref a) ds d := fun A Z s vs Q E hA G z r hQ => by
  obtain ⟨o, pm, code, doc, h2, h3, h4, hcode⟩ : ∃ o pm code doc, s.heap.get? a = some o ∧ o.data = .func (fdAt n pm code doc) ∧ s.heap.CodeRec code (nameAt n) ∧ (n = 11 → code = .ref T.c) := by
    by_cases hn : n = 11
    · subst hn
      obtain ⟨a', o, pm, doc, dd, h0, h1, h2, h3, h4⟩ := G.kept
      have e := sg.of
      rw [h0] at e; cases e
      have : a' = a := by have := f; unfold IsFn nameAt at this; rw [h1] at this; cases this; rfl
      subst this
      exact ⟨o, pm, _, doc, h2, h3, h4, fun _ => rfl⟩
    · obtain ⟨a', o, pm, code, doc, h1, h2, h3, h4⟩ := G.fn n _ sg.of
      have : a' = a := by have := f; unfold IsFn nameAt at this; rw [h1] at this; cases this; rfl
      subst this
      exact ⟨o, pm, code, doc, h2, h3, h4, fun q => absurd q hn⟩
  have hvl : vs.length = names.length := by rw [r.length, hlen]
  have hfst : (names.zip vs).map (·.1) = names := by rw [zip_fst, hvl, List.take_length]
  have hmem : ∀ x ∈ names.zip vs, x.1 ∈ names := fun x hx => by rw [← hfst]; exact List.mem_map_of_mem hx
  refine wpAny_call (codeAny_call_cells (fd := fdAt n pm code doc) (body := bodyAt n) (binds := names.zip vs) (by have := hA.2.1; omega) h2 h3 G.lim h4 rfl (sg.bind vs pm code doc hvl) rfl
    (fun x hx => (sg.kinds x.1 (hmem x hx)).imp id fun q => ⟨q, cellsFrom_some _ _ _ (.inl q)⟩) (fun s₁ x => ?_) sg.co sg.gen sg.kind)
  obtain ⟨h₁, tk₁, rfl, keep⟩ := x.done
  have k1 : Kp T s { s with heap := h₁, toks := tk₁ } := .of keep
  have hL : T.n ≤ s.heap.objs.size := let ⟨m, hm⟩ := G.fr; Nat.le_of_lt hm.lt
  let Z' : Zo := ⟨Z.x, fun _ => False⟩
  have hfm : Fm T (envAt n pm code doc s.heap.objs.size a) h₁ := ⟨⟨_, x.toInCall.ns⟩, fun nm c q => ⟨_, x.cell nm c q⟩, x.apart, hL⟩
  have rl : RepL Z' h₁ vs ds := RepL.zone (Z := Z) (Z' := Z') (h := h₁) (fun b q _ => q) _ _ hnm (r.hk k1.hk)
  refine h pm code doc s.heap.objs.size _ Z' { s with heap := h₁, toks := tk₁ } _ _ (hA.deeper _) (fun b q => q) ⟨⟨G.kp k1, ⟨(z.hk k1.hk).x, fun b q => q.elim⟩, sg.kind, fun y d' e => ?_, hfm.cell⟩, hfm⟩ hcode fun fl s' mv r' => ?_
  · obtain ⟨v, hm, hr⟩ := zip_lookup names ds vs rl e
    refine ⟨v, ?_, hr⟩
    have hnd : ((names.zip vs).map (·.1)).Nodup := by rw [hfst]; exact sg.nodup
    rcases sg.kinds y (hmem _ hm) with q | q
    · exact .inl ⟨q, _, x.toInCall.ns, bindL_get q _ _ hnd hm⟩
    · obtain ⟨c, hc⟩ := Option.isSome_iff_exists.mp (cellsFrom_some (x := y) (scopeAt n).names (s.heap.objs.size + 1) [] (.inl q))
      refine .inr ⟨.inl q, c, hc, ?_⟩
      have := x.cell y c hc
      rw [bindC_get q _ _ hnd hm] at this
      exact this
  · have kp : Kp T s s' := by
      obtain ⟨h', tk', rfl, hk, ht⟩ := mv
      refine ⟨h', tk', rfl, fun b ob e t => ?_, fun q => ht (k1.tab q)⟩
      have nf : ¬ FrP (envAt n pm code doc s.heap.objs.size a) Z' b := fun q => by
        have hlt := Heap.lt_size e
        rcases q with q | ⟨nm, q⟩ | q
        · have q' : b = s.heap.objs.size := q
          rw [q'] at hlt
          exact Nat.lt_irrefl _ hlt
        · have hc : s.heap.objs.size < b := x.above nm b (mem_of_lookup q)
          exact Nat.lt_asymm hc hlt
        · exact q
      rcases hk b ob (keep b ob e) t nf with w | ⟨w1, m, w2, w3⟩
      · exact .inl w
      · refine .inr ⟨w1, m, ?_, w3⟩
        obtain ⟨o', es, ep, e', rr⟩ := w2
        have e'' := keep b ob e
        rw [show ({ s with heap := h₁, toks := tk₁ } : Shared).heap.get? b = some ob from e''] at e'; cases e'
        exact ⟨ob, es, ep, e, rr⟩
    exact hQ _ _ kp (Rep.zone (Z := Z') (Z' := Z) (fun b q _ => q) _ _ hdm r')

/-- a def whose body is told by its statements -/
theorem fn_of {T : Th} {k n : Nat} {a : Addr} {names : List Str} {ds : List D} {d : D} (lo : Low T) (sg : Sig n names) (f : IsFn T n a) (hlen : ds.length = names.length) (hnm : nmL ds = true) (hdm : d.nm = true)
    (h : ∀ (pm code doc : Value) (L : Addr), (n = 11 → code = .ref T.c) → Ex T k (envAt n pm code doc L a) (bodyAt n) (names.zip ds) (fun o => o = .ret d)) : CallR T (k + 1) (.ref a) ds d :=
  fn_enter lo sg f hlen hnm hdm fun pm code doc L A Z s Q E hA _ P hcode hQ => h pm code doc L hcode A Z s Q E hA lo P fun fl s' o ho mv is => by
    subst ho
    obtain ⟨v, rfl, _, _, r⟩ := is
    exact hQ _ _ mv r

/-! more statements -/
section
variable {T : Th} {k : Nat} {env : Env} {ρ : Rho} {R : Out → Prop}
/-- two names at once out of a tuple display -/
theorem Ex1.assign2 {a b : Str} {pa pb tp pos : Pos} {i : Nat} {value : Expr} {d₁ d₂ : D} (h : Ev T k env value ρ (.tup [d₁, d₂])) (hm : d₁.nm = true) (ha : IsVar env a) (hb : IsVar env b) (hR : R (.next ((a, d₁) :: (b, d₂) :: ρ)))
    (hs : swapsWithSole [.Tuple [.Name a pa, .Name b pb] i tp] value pos.line env = pure false) (hw : swappedStores [.Tuple [.Name a pa, .Name b pb] i tp] value env = pure (some [a, b])) :
    Ex1 T k env (.Assign [.Tuple [.Name a pa, .Name b pb] i tp] value pos) ρ R := fun A Z s Q E hA lo P hQ => by
  refine Assign_Tuple_swapped (h A Z s _ _ hA P.toPre fun v s₁ k₁ r₁ => ?_) hs hw
  obtain ⟨ta, vs, rfl, nx, ht, rl⟩ := r₁.tup_inv
  obtain ⟨v1, v2, rfl, r1, r2⟩ := rl.two
  rw [show ([a, b] : List Str).length = [v1, v2].toArray.size from rfl]
  refine unpackItems_tuple hA.1 ht fun h' hb' => ?_
  have hne : ∀ b o, s₁.heap.get? b = some o → b ≠ s₁.heap.objs.size := fun b o e q => by rw [q, get?_size] at e; cases e
  have k2 : Kp T s₁ { s₁ with heap := h' } := Kp.of (tk := s₁.toks) fun b o e => hb' b o (hne b o e) e
  have P2 := (P.kp k₁).kp k2
  rw [show ([a, b] : List Str).reverse.map (fun n => bindName env n) = [bindName env b, bindName env a] from rfl, show [v1, v2].toArray.toList.reverse = [v2, v1] from rfl, assignInOrder]
  refine wpAny_bind (wpAny_holding (wpAny_bindName (store_wp lo P2 hb (r2.hk k2.hk) fun s₃ m₃ P₃ => ?_)))
  rw [assignInOrder]
  have r1' : Rep Z s₃.heap v1 d₁ := (r1.hk k2.hk).mv (.frame P2.f P2.z) m₃.hk _ _ hm
  refine wpAny_bind (wpAny_holding (wpAny_bindName (store_wp lo P₃ ha r1' fun s₄ m₄ P₄ => wpAny_pure ?_)))
  exact hQ _ s₄ _ hR (.trans (.of_kp (k₁.trans k2)) (m₃.trans m₄)) ⟨rfl, P₄⟩
/-- two names at once out of a list or tuple that stands -/
theorem Ex1.unpackT {a b : Str} {pa pb tp pos : Pos} {i : Nat} {value : Expr} {d₁ d₂ : D} (h : Ev T k env value ρ (.tup [d₁, d₂])) (hm : (D.tup [d₁, d₂]).nm = true) (ha : IsVar env a) (hb : IsVar env b) (hR : R (.next ((b, d₂) :: (a, d₁) :: ρ)))
    (hs : swapsWithSole [.Tuple [.Name a pa, .Name b pb] i tp] value pos.line env = pure false) (hw : swappedStores [.Tuple [.Name a pa, .Name b pb] i tp] value env = pure none) :
    Ex1 T k env (.Assign [.Tuple [.Name a pa, .Name b pb] i tp] value pos) ρ R := fun A Z s Q E hA lo P hQ =>
  PyProof.Rows.Assign_Tuple (h A Z s _ _ hA P.toPre fun v s₁ k₁ r₁ => assign_wp hA.1 lo (P.kp k₁) ⟨ha, hb⟩ (d := .tup [d₁, d₂]) rfl hm r₁ fun s' mv P' => hQ _ s' _ hR (.trans (.of_kp k₁) mv) ⟨rfl, P'⟩) hs hw
/-- «if t: x = value» -/
theorem Ex1.ifSet {t value : Expr} {x : Str} {px p1 pos : Pos} {c : Bool} {d : D} (ht : EvB T k env t ρ c) (h1 : c = true → Ev T k env value ρ d) (h0 : c = false → ρ.lookup x = some d) (hx : IsVar env x) (hR : R (.next ((x, d) :: ρ)))
    (hs : swapsWith value (some (.Name x px)) p1.line env = pure false) : Ex1 T k env (.If t [.Assign [.Name x px] value p1] [] pos) ρ R :=
  Ex1.ife ht (fun hc => Ex.cons (Ex1.assign (h1 hc) hx (Ex.nil hR) hs)) fun hc => Ex.sub (Ex.nil hR) fun y e q => by
    rw [List.lookup_cons] at q
    by_cases hy : y = x
    · subst hy
      simp only [beq_self_eq_true] at q
      cases q
      exact h0 hc
    · have hy' : (y == x) = false := by simpa using hy
      rw [hy'] at q; exact q
end
end Mine

namespace Mine

/-! names of the builtins -/
section
variable {T : Th}
theorem Nm.gv (N : Nm T) {x : Str} {v : Value} (h1 : x ∈ (["len", "sum", "range", "enumerate", "sorted", "isinstance", "bool", "list", "str", "TypeError", "ValueError"] : List Str)) (h2 : x ≠ "__name__") (h3 : bootBuiltins x = some v) : GV T x v :=
  .inr ⟨N.free x h1, (N.boot x h2).trans h3⟩
theorem gv_len (N : Nm T) : GV T "len" (.builtin "len") := N.gv (by decide) (by decide) (by decide +kernel)
theorem gv_sum (N : Nm T) : GV T "sum" (.builtin "sum") := N.gv (by decide) (by decide) (by decide +kernel)
theorem gv_range (N : Nm T) : GV T "range" (.type "range") := N.gv (by decide) (by decide) (by decide +kernel)
theorem gv_list (N : Nm T) : GV T "list" (.type "list") := N.gv (by decide) (by decide) (by decide +kernel)
theorem gv_sorted (N : Nm T) : GV T "sorted" (.builtin "sorted") := N.gv (by decide) (by decide) (by decide +kernel)
theorem callee_b {id : String} : Callee T (.builtin id) := .inl ⟨id, rfl⟩
theorem callee_t {id : String} : Callee T (.type id) := .inr (.inl ⟨id, rfl⟩)
theorem ge_at {n : Nat} {pm code doc : Value} {L a : Addr} : GEnv (envAt n pm code doc L a) := ⟨rfl, rfl⟩
end

theorem sig5 : Sig 5 ["a", "b"] where
  of := rfl
  bind := fun vs pm code doc h => by
    match vs, h with
    | [x, y], _ => rfl
  nodup := by decide
  kinds := by decide
  co := rfl
  gen := rfl
  kind := rfl
noncomputable def collD (x y : Str) : Int := b2i (decide (y.cps.toList < x.cps.toList)) - b2i (decide (x.cps.toList < y.cps.toList))
theorem fn_strcoll {T : Th} {k : Nat} {a : Addr} {x y : Str} (lo : Low T) (f : IsFn T 5 a) : CallR T (k + 1) (.ref a) [.str x, .str y] (.int (collD x y)) :=
  fn_of lo sig5 f rfl rfl rfl fun pm code doc L _ => by
    refine Ex.cons (Ex1.ret (Ev.bin (Ev.cmp (Ev.name rfl rfl rfl) (Ev.name rfl rfl rfl) CmpR.gtS rfl) (Ev.cmp (Ev.name rfl rfl rfl) (Ev.name rfl rfl rfl) CmpR.ltS rfl) BinR.subB) rfl)

theorem sig3 : Sig 3 ["msg"] where
  of := rfl
  bind := fun vs pm code doc h => by
    match vs, h with
    | [x], _ => rfl
  nodup := by decide
  kinds := by decide
  co := rfl
  gen := rfl
  kind := rfl
noncomputable def strip1 (m : Str) : Int := if 0 ≤ Txt.find m "\n" then Txt.find m "\n" else m.length
noncomputable def strip2 (m : Str) : Int := if 0 ≤ find4 m ":" 0 (strip1 m) then find4 m ":" 0 (strip1 m) else strip1 m
noncomputable def strip3 (m : Str) : Int := if 0 ≤ rfind4 m "." 0 (strip2 m) then rfind4 m "." 0 (strip2 m) + 1 else 0
noncomputable def stripD (m : Str) : Str := Txt.slice m (some (strip3 m)) (some (strip2 m))

theorem fn_strip {T : Th} {k : Nat} {a : Addr} {m : Str} (N : Nm T) (lo : Low T) (f : IsFn T 3 a) (hm : m.length ≤ 1048576) : CallR T (k + 1) (.ref a) [.str m] (.str (stripD m)) :=
  fn_of lo sig3 f rfl rfl rfl fun pm code doc L _ => by
    refine Ex.cons (Ex1.assign2 (d₁ := .int 0) (d₂ := .int m.length) (Ev.tuple (EvL.cons Ev.cint (EvL.cons (Ev.call ge_at (gv_len N) callee_b rfl rfl (EvL.cons (Ev.name rfl rfl rfl) EvL.nil rfl) rfl rfl (CallR.lenS (by omega))) EvL.nil rfl) rfl) (by simp)) rfl (.inl rfl) (.inl rfl) ?_ rfl rfl)
    refine Ex.cons (Ex1.assign (d := .int (Txt.find m "\n")) (Ev.smeth (Ev.name rfl rfl rfl) F.slot_str_find F.type_str_find (EvL.cons Ev.cstr EvL.nil rfl) rfl rfl rfl rfl rfl CallR.find) (.inl rfl) ?_)
    refine Ex.cons (Ex1.ifSet (d := .int (strip1 m)) (EvB.cmp (Ev.name rfl rfl rfl) Ev.cint CmpR.geI rfl) (fun hc => ?_) (fun hc => ?_) (.inl rfl) ?_ rfl)
    · rw [strip1, if_pos (of_decide_eq_true hc)]; exact Ev.name rfl rfl rfl
    · rw [strip1, if_neg (of_decide_eq_false hc)]; rfl
    refine Ex.cons (Ex1.assign (d := .int (find4 m ":" 0 (strip1 m))) (Ev.smeth (Ev.name rfl rfl rfl) F.slot_str_find F.type_str_find (EvL.cons Ev.cstr (EvL.cons Ev.cint (EvL.cons (Ev.name rfl rfl rfl) EvL.nil rfl) rfl) rfl) rfl rfl rfl rfl rfl CallR.find4) (.inl rfl) ?_)
    refine Ex.cons (Ex1.ifSet (d := .int (strip2 m)) (EvB.cmp (Ev.name rfl rfl rfl) Ev.cint CmpR.geI rfl) (fun hc => ?_) (fun hc => ?_) (.inl rfl) ?_ rfl)
    · rw [strip2, if_pos (of_decide_eq_true hc)]; exact Ev.name rfl rfl rfl
    · rw [strip2, if_neg (of_decide_eq_false hc)]; rfl
    refine Ex.cons (Ex1.assign (d := .int (rfind4 m "." 0 (strip2 m))) (Ev.smeth (Ev.name rfl rfl rfl) F.slot_str_rfind F.type_str_rfind (EvL.cons Ev.cstr (EvL.cons Ev.cint (EvL.cons (Ev.name rfl rfl rfl) EvL.nil rfl) rfl) rfl) rfl rfl rfl rfl rfl CallR.rfind4) (.inl rfl) ?_)
    refine Ex.cons (Ex1.ifSet (d := .int (strip3 m)) (EvB.cmp (Ev.name rfl rfl rfl) Ev.cint CmpR.geI rfl) (fun hc => ?_) (fun hc => ?_) (.inl rfl) ?_ rfl)
    · rw [strip3, if_pos (of_decide_eq_true hc)]; exact Ev.bin (Ev.name rfl rfl rfl) Ev.cint BinR.addI
    · rw [strip3, if_neg (of_decide_eq_false hc)]; rfl
    exact Ex.cons (Ex1.ret (Ev.scut2 (Ev.name rfl rfl rfl) (Ev.name rfl rfl rfl) (Ev.name rfl rfl rfl) hm) rfl)
end Mine

namespace Mine

-- from one zone to another, whatever the data
mutual
theorem Rep.zone2 {Z Z' : Zo} {h : Heap} (hx : ∀ a, Z'.x a → (h.get? a).isSome = true → Z.x a) (hy : ∀ a, Z.y a → Z'.y a) : ∀ (d : D) (v : Value), Rep Z h v d → Rep Z' h v d
  | .none, _, x => x
  | .bool _, _, x => x
  | .int _, _, x => x
  | .str _, _, x => x
  | .tup ds, v, x => by
    rw [Rep] at x ⊢
    obtain ⟨b, vs, e, nn, ⟨ob, ho, r⟩, q⟩ := x
    exact ⟨b, vs, e, fun q => nn (hx b q (by rw [ho]; rfl)), ⟨ob, ho, r⟩, RepL.zone2 hx hy ds vs q⟩
  | .lst ds, v, x => by
    rw [Rep] at x ⊢
    obtain ⟨b, vs, e, nn, ⟨ob, ho, r⟩, q⟩ := x
    exact ⟨b, vs, e, fun q => nn (hx b q (by rw [ho]; rfl)), ⟨ob, ho, r⟩, RepL.zone2 hx hy ds vs q⟩
  | .mut ds, v, x => by
    rw [Rep] at x ⊢
    obtain ⟨b, vs, e, nn, ⟨ob, ho, r⟩, q⟩ := x
    exact ⟨b, vs, e, hy b nn, ⟨ob, ho, r⟩, RepL.zone2 hx hy ds vs q⟩
theorem RepL.zone2 {Z Z' : Zo} {h : Heap} (hx : ∀ a, Z'.x a → (h.get? a).isSome = true → Z.x a) (hy : ∀ a, Z.y a → Z'.y a) : ∀ (ds : List D) (vs : List Value), RepL Z h vs ds → RepL Z' h vs ds
  | [], _, x => x
  | d :: ds, vs, x => by
    rw [RepL] at x ⊢
    obtain ⟨v, r, e, p, q⟩ := x
    exact ⟨v, r, e, Rep.zone2 hx hy d v p, RepL.zone2 hx hy ds r q⟩
end
-- a list of the zone's is changed, none of the frame's own
mutual
theorem Rep.butZ {Z : Zo} {h h' : Heap} {a : Addr} (hs : Heap.ExtBut a h h') (hz : Z.x a) (ny : ¬ Z.y a) : ∀ (d : D) (v : Value), Rep Z h v d → Rep Z h' v d
  | .none, _, x => x
  | .bool _, _, x => x
  | .int _, _, x => x
  | .str _, _, x => x
  | .tup ds, v, x => by
    rw [Rep] at x ⊢
    obtain ⟨b, vs, e, nn, ⟨o, ho, r⟩, q⟩ := x
    exact ⟨b, vs, e, nn, ⟨o, hs b o (fun q => nn (q ▸ hz)) ho, r⟩, RepL.butZ hs hz ny ds vs q⟩
  | .lst ds, v, x => by
    rw [Rep] at x ⊢
    obtain ⟨b, vs, e, nn, ⟨o, ho, r⟩, q⟩ := x
    exact ⟨b, vs, e, nn, ⟨o, hs b o (fun q => nn (q ▸ hz)) ho, r⟩, RepL.butZ hs hz ny ds vs q⟩
  | .mut ds, v, x => by
    rw [Rep] at x ⊢
    obtain ⟨b, vs, e, nn, ⟨o, ho, r⟩, q⟩ := x
    exact ⟨b, vs, e, nn, ⟨o, hs b o (fun q => ny (q ▸ nn)) ho, r⟩, RepL.butZ hs hz ny ds vs q⟩
theorem RepL.butZ {Z : Zo} {h h' : Heap} {a : Addr} (hs : Heap.ExtBut a h h') (hz : Z.x a) (ny : ¬ Z.y a) : ∀ (ds : List D) (vs : List Value), RepL Z h vs ds → RepL Z h' vs ds
  | [], _, x => x
  | d :: ds, vs, x => by
    rw [RepL] at x ⊢
    obtain ⟨v, r, e, p, q⟩ := x
    exact ⟨v, r, e, Rep.butZ hs hz ny d v p, RepL.butZ hs hz ny ds r q⟩
end

/-! what a comprehension's block sees -/
noncomputable def clOf (env : Env) : List (Str × NameKind) → List (Str × Addr) → List (Str × Addr)
  | [], acc => acc
  | (n, k) :: r, acc => clOf env r (if k == .free then (n, (env.cells.lookup n).getD 0) :: acc else acc)
theorem closureFor_clOf {scope : Scope} {env : Env} (h : (scope.names.all fun q => q.2 != .free || (env.cells.lookup q.1).isSome) = true) : closureFor scope env = pure (clOf env scope.names []) := by
  have key : ∀ (l : List (Str × NameKind)) (acc : List (Str × Addr)), (l.all fun q => q.2 != .free || (env.cells.lookup q.1).isSome) = true →
      (forIn l acc (fun (x : Str × NameKind) (r : List (Str × Addr)) => (if (x.2 == NameKind.free) = true then do let a ← cellOf env x.1; pure (ForInStep.yield ((x.1, a) :: r)) else pure (ForInStep.yield r) : Sem (ForInStep (List (Str × Addr))))) : Sem (List (Str × Addr))) = pure (clOf env l acc) := by
    intro l
    induction l with
    | nil => intro acc _; rfl
    | cons x r ih =>
      intro acc hl
      obtain ⟨n, k⟩ := x
      rw [List.all_cons, Bool.and_eq_true] at hl
      rw [List.forIn_cons, clOf]
      cases hk : (k == NameKind.free) with
      | false => simp only [Bool.false_eq_true, if_false, pure_bind]; exact ih acc hl.2
      | true =>
        have h1 := hl.1
        simp only [bne, hk, Bool.not_true, Bool.false_or] at h1
        obtain ⟨c, hc⟩ := Option.isSome_iff_exists.mp h1
        have e : cellOf env n = pure c := by unfold cellOf; rw [hc]
        simp only [if_true, e, pure_bind, hc, Option.getD_some]
        exact ih _ hl.2
  unfold closureFor
  have := key scope.names [] h
  simp only [bind_pure] 
  exact this
theorem clOf_mem {env : Env} {n : Str} {c : Addr} : ∀ (l : List (Str × NameKind)) (acc : List (Str × Addr)), (n, c) ∈ clOf env l acc → (n, c) ∈ acc ∨ c = (env.cells.lookup n).getD 0 ∧ (n, NameKind.free) ∈ l
  | [], acc, h => .inl h
  | (m, k) :: r, acc, h => by
    rw [clOf] at h
    rcases clOf_mem r _ h with q | ⟨q1, q2⟩
    · cases hk : (k == NameKind.free) with
      | false => rw [hk] at q; exact .inl q
      | true =>
        rw [hk] at q
        rcases List.mem_cons.mp q with e | q
        · cases e
          have : k = .free := by simpa using hk
          exact .inr ⟨rfl, this ▸ .head _⟩
        · exact .inl q
    · exact .inr ⟨q1, .tail _ q2⟩
theorem clOf_lookup {env : Env} {n : Str} : ∀ (l : List (Str × NameKind)) (acc : List (Str × Addr)), l.lookup n = some .free ∨ (acc.lookup n).isSome = true → (∀ c, (n, c) ∈ acc → c = (env.cells.lookup n).getD 0) → (clOf env l acc).lookup n = some ((env.cells.lookup n).getD 0)
  | [], acc, h, ha => by
    rcases h with h | h
    · cases h
    · obtain ⟨c, hc⟩ := Option.isSome_iff_exists.mp h
      rw [clOf, hc, ha c (mem_of_lookup hc)]
  | (m, k) :: r, acc, h, ha => by
    rw [clOf]
    cases hk : (k == NameKind.free) with
    | false =>
      simp only [Bool.false_eq_true, if_false]
      refine clOf_lookup r acc ?_ ha
      rcases h with h | h
      · rw [List.lookup_cons] at h
        by_cases q : (n == m) = true
        · rw [q] at h
          have : k = .free := Option.some.inj h
          rw [this] at hk; exact absurd hk (by decide)
        · have q' : (n == m) = false := by simpa using q
          rw [q'] at h; exact .inl h
      · exact .inr h
    | true =>
      simp only [if_true]
      by_cases q : n = m
      · subst q
        refine clOf_lookup r _ (.inr ?_) fun c hc => ?_
        · rw [List.lookup_cons]; simp
        · rcases List.mem_cons.mp hc with e | hc
          · cases e; rfl
          · exact ha c hc
      · have q' : (n == m) = false := by simpa using q
        refine clOf_lookup r _ ?_ fun c hc => ?_
        · rcases h with h | h
          · rw [List.lookup_cons, q'] at h; exact .inl h
          · refine .inr ?_
            rw [List.lookup_cons, q']; exact h
        · rcases List.mem_cons.mp hc with e | hc
          · cases e; exact absurd rfl q
          · exact ha c hc
noncomputable def relab (env : Env) (q : Str × NameKind) : Str × NameKind := if (q.2 == NameKind.free && env.scope.kind == .function && env.kindOf q.1 == some .cell) then (q.1, NameKind.cell) else (q.1, q.2)
theorem relabel_free {env : Env} : ∀ {names : List (Str × NameKind)} {x : Str}, names.lookup x = some .free → (names.map (relab env)).lookup x = some .cell ∨ (names.map (relab env)).lookup x = some .free
  | [], _, h => by simp at h
  | (n, k) :: r, x, h => by
    have ih := @relabel_free env r x
    have hn : (relab env (n, k)).1 = n := by unfold relab; split <;> rfl
    rw [List.map_cons]
    have e : ∀ (p : Str × NameKind) (l : List (Str × NameKind)), List.lookup x (p :: l) = if (x == p.1) = true then some p.2 else l.lookup x := fun p l => by
      obtain ⟨p1, p2⟩ := p
      rw [List.lookup_cons]
      cases x == p1 <;> rfl
    rw [e] at h ⊢
    rw [hn]
    by_cases hx : (x == n) = true
    · rw [if_pos hx] at h ⊢
      have hk : k = .free := Option.some.inj h
      subst hk
      unfold relab
      split
      · exact .inl rfl
      · exact .inr rfl
    · rw [if_neg hx] at h ⊢
      exact ih h

noncomputable abbrev cenvOf (scope : Scope) (C : Addr) (env : Env) : Env := compEnvC scope (clOf env scope.names []) C env
/-- the names that the block draws from around it -/
noncomputable def rhoC (scope : Scope) (ρ : Rho) : Rho := ρ.filter fun q => scope.names.lookup q.1 == some .free
theorem rhoC_lookup {scope : Scope} {y : Str} {d : D} : ∀ {ρ : Rho}, (rhoC scope ρ).lookup y = some d → scope.names.lookup y = some .free ∧ ρ.lookup y = some d
  | [], h => by simp [rhoC] at h
  | (x, e) :: ρ, h => by
    have ih := @rhoC_lookup scope y d ρ
    unfold rhoC at h ih
    rw [List.filter_cons] at h
    split at h
    · rename_i hx
      rw [List.lookup_cons] at h ⊢
      by_cases q : y = x
      · subst q
        simp only [beq_self_eq_true] at h ⊢
        exact ⟨by simpa using hx, h⟩
      · have q' : (y == x) = false := by simpa using q
        rw [q'] at h ⊢
        exact ih h
    · rename_i hx
      obtain ⟨h1, h2⟩ := ih h
      refine ⟨h1, ?_⟩
      rw [List.lookup_cons]
      by_cases q : y = x
      · subst q
        exact absurd (by rw [h1]; rfl) hx
      · have q' : (y == x) = false := by simpa using q
        rw [q']; exact h2

structure CScope (scope : Scope) (env : Env) : Prop where
  free : (scope.names.all fun q => q.2 != .free || (env.cells.lookup q.1).isSome) = true
  nl : (scope.names.all fun q => q.2 != .free || env.kindOf q.1 != some .local) = true
  kind : scope.kind = .function
  nocell : (scope.names.all fun q => q.2 != .cell) = true
  locals : (scope.names.all fun q => q.2 != .local || scope.names.lookup q.1 == some .local) = true

theorem sees_comp {T : Th} {Z : Zo} {scope : Scope} {env : Env} {ρ : Rho} {h : Heap} {C : Addr} (sc : CScope scope env) (x : Sees Z env h ρ) : Sees Z (cenvOf scope C env) h (rhoC scope ρ) where
  kind := sc.kind
  has := fun y d e => by
    obtain ⟨h1, h2⟩ := rhoC_lookup e
    obtain ⟨v, a, r⟩ := x.has y d h2
    refine ⟨v, ?_, r⟩
    have hl := clOf_lookup (env := env) (n := y) scope.names [] (.inl h1) (fun c hc => by cases hc)
    have hs := List.all_eq_true.mp sc.free (y, .free) (mem_of_lookup h1)
    simp only [bne_self_eq_false, Bool.false_or] at hs
    obtain ⟨c, hc⟩ := Option.isSome_iff_exists.mp hs
    rw [hc] at hl
    refine .inr ⟨relabel_free (env := env) h1, c, hl, ?_⟩
    rcases a with ⟨e1, m1, n1, q1⟩ | ⟨e1, c1, l1, i1⟩
    · have hq := List.all_eq_true.mp sc.nl (y, .free) (mem_of_lookup h1)
      simp [e1] at hq
    · rw [hc] at l1; cases l1; exact i1
  cells := fun n c e => by
    rcases clOf_mem _ _ (mem_of_lookup e) with q | ⟨q1, q2⟩
    · cases q
    · have hs := List.all_eq_true.mp sc.free (n, .free) q2
      simp only [bne_self_eq_false, Bool.false_or] at hs
      obtain ⟨c', hc⟩ := Option.isSome_iff_exists.mp hs
      rw [q1, hc]
      exact x.cells n c' hc
end Mine

namespace Mine

noncomputable def CX (cenv : Env) (Dx : Addr) (b : Addr) : Prop := b = cenv.locals ∨ b = Dx
structure CSt (T : Th) (Z : Zo) (cenv : Env) (Dx : Addr) (es : List D) (ρ : Rho) (sh : Shared) : Prop extends Pre T Z cenv ρ sh where
  ns : ∃ m, sh.heap.Ns cenv.locals m
  low : T.n ≤ cenv.locals
  acc : ∃ ys, sh.heap.IsList Dx (List.toArray ys) ∧ RepL Z sh.heap ys es
  nm : nmL es = true
  zx : Z.x Dx
  zy : ¬ Z.y Dx
section
variable {T : Th} {k : Nat} {A : Around} {Z : Zo} {cenv : Env} {Dx I : Addr} {es : List D} {ρ ρ' : Rho} {s s' : Shared} {E : Value → Shared → Prop}
theorem CSt.sub (c : CSt T Z cenv Dx es ρ s) (hs : ∀ x d, ρ'.lookup x = some d → ρ.lookup x = some d) : CSt T Z cenv Dx es ρ' s := { c with s := c.s.sub hs }
theorem CSt.kp (c : CSt T Z cenv Dx es ρ s) (kp : Kp T s s') : CSt T Z cenv Dx es ρ s' where
  toPre := c.toPre.kp kp
  ns := let ⟨m, x⟩ := c.ns; ⟨m, kp.hk.ns x⟩
  low := c.low
  acc := let ⟨ys, a, b⟩ := c.acc; ⟨ys, kp.hk.isList a, b.hk kp.hk⟩
  nm := c.nm
  zx := c.zx
  zy := c.zy
theorem CSt.neD (c : CSt T Z cenv Dx es ρ s) : Dx ≠ cenv.locals := fun q => by
  obtain ⟨ys, ⟨o, e, hc, n, hd⟩, _⟩ := c.acc
  obtain ⟨m, x⟩ := c.ns
  obtain ⟨es', ep, hd'⟩ := ns_dict (q ▸ e) x
  rw [hd] at hd'; cases hd'
theorem CSt.offC (c : CSt T Z cenv Dx es ρ s) : OffX Z (fun b => b = cenv.locals) s.heap where
  l := fun {a vs} ⟨o, e, hc, n, hd⟩ _ q => by
    obtain ⟨m, x⟩ := c.ns
    obtain ⟨es', ep, hd'⟩ := ns_dict (q ▸ e) x
    rw [hd] at hd'; cases hd'
  t := fun {a vs} ⟨o, e, hc, n, hd⟩ _ q => by
    obtain ⟨m, x⟩ := c.ns
    obtain ⟨es', ep, hd'⟩ := ns_dict (q ▸ e) x
    rw [hd] at hd'; cases hd'
theorem CSt.offCX (c : CSt T Z cenv Dx es ρ s) : OffX Z (CX cenv Dx) s.heap :=
  ⟨fun hl nx q => q.elim (c.offC.l hl nx) fun q => nx (q ▸ c.zx), fun hl nx q => q.elim (c.offC.t hl nx) fun q => nx (q ▸ c.zx)⟩
theorem CSt.offI {ds : List D} (c : CSt T Z cenv Dx es ρ s) (it : ItSt Z s.heap I ds) (nz : ¬ Z.x I) : ¬ CX cenv Dx I := fun q => by
  obtain ⟨o, e, io⟩ := it.obj
  rcases q with q | q
  · obtain ⟨m, x⟩ := c.ns
    obtain ⟨es', ep, hd'⟩ := ns_dict (q ▸ e) x
    exact io.not_dict _ _ hd'
  · exact nz (q ▸ c.zx)
theorem CSt.iter {h' : Heap} {tk : Nat} {o : Obj} (c : CSt T Z cenv Dx es ρ s) (lo : Low T) (nz : ¬ Z.x I) (io : IterObj o) (e : s.heap.get? I = some o) (hb : Heap.ExtBut I s.heap h') : CSt T Z cenv Dx es ρ { s with heap := h', toks := tk } where
  toPre := c.toPre.iter lo nz io e hb
  ns := by
    obtain ⟨m, x⟩ := c.ns
    refine ⟨m, x.extBut hb fun q => ?_⟩
    obtain ⟨es', ep, hd'⟩ := ns_dict e (q ▸ x)
    exact io.not_dict _ _ hd'
  low := c.low
  acc := let ⟨ys, a, b⟩ := c.acc; ⟨ys, a.extBut hb fun q => nz (q ▸ c.zx), b.but hb (io.not_list e) (io.not_tup e)⟩
  nm := c.nm
  zx := c.zx
  zy := c.zy
/-- a local of the block is stored -/
theorem cstore {x : Str} {v : Value} {d : D} {Q : Unit → Shared → Prop} (lo : Low T) (c : CSt T Z cenv Dx es ρ s) (hl : cenv.kindOf x = some .local) (r : Rep Z s.heap v d)
    (hQ : ∀ s', MvX T (fun b => b = cenv.locals) s s' → CSt T Z cenv Dx es ((x, d) :: ρ) s' → Q () s') : wpAny (model T.prog T.w) A (storeName cenv x v) Q E s :=
  store_loc lo c.toPre c.ns c.low hl r fun s' mv P' hn => hQ s' mv
    { toPre := P', ns := hn, low := c.low, acc := by
        obtain ⟨ys, ⟨o, e, hc, n, hd⟩, b⟩ := c.acc
        exact ⟨ys, ⟨o, mv.hk.exact e (.seq hd) c.neD (by rw [hd]; nofun), hc, n, hd⟩, b.mv c.offC mv.hk _ _ c.nm⟩
      nm := c.nm, zx := c.zx, zy := c.zy }
noncomputable def ctVars (cenv : Env) : Expr → Prop
  | .Name x _ => cenv.kindOf x = some .local
  | .Tuple [.Name a _, .Name b _] _ _ => cenv.kindOf a = some .local ∧ cenv.kindOf b = some .local
  | _ => False
theorem cassign {tg : Expr} {v : Value} {d : D} {Q : Unit → Shared → Prop} (hh : A.handled = none) (lo : Low T) (c : CSt T Z cenv Dx es ρ s) (hx : ctVars cenv tg) (hb : bindTo tg d ρ = some ρ') (hm : d.nm = true) (r : Rep Z s.heap v d)
    (hQ : ∀ s', MvX T (fun b => b = cenv.locals) s s' → CSt T Z cenv Dx es ρ' s' → Q () s') : wpAny (model T.prog T.w) A (assign tg cenv v) Q E s := by
  unfold bindTo at hb
  split at hb
  · cases hb
    exact wpAny_assign_Name (cstore lo c hx r hQ)
  · rename_i a pa b pb i p d₁ d₂
    cases hb
    obtain ⟨ta, vs, rfl, nx, ht, rl⟩ := r.tup_inv
    obtain ⟨v1, v2, rfl, r1, r2⟩ := rl.two
    have hm2 : d₁.nm = true ∧ d₂.nm = true := by simpa [D.nm, nmL] using hm
    rw [arm_assign_Tuple]
    refine wpAny_bind (wpAny_standAt ?_)
    unfold unpack
    rw [show (assignEach [.Name a pa, .Name b pb] cenv).length = [v1, v2].toArray.size from rfl, show (assignEach [.Name a pa, .Name b pb] cenv).findIdx? (·.1) = none from rfl]
    refine wpAny_bind (wpAny_holding (unpackItems_tuple hh ht fun h' hb => ?_))
    have hne : ∀ b o, s.heap.get? b = some o → b ≠ s.heap.objs.size := fun b o e q => by rw [q, get?_size] at e; cases e
    have k1 : Kp T s { s with heap := h' } := Kp.of (tk := s.toks) fun b o e => hb b o (hne b o e) e
    rw [show (assignEach [.Name a pa, .Name b pb] cenv).map (·.2) = [assign (.Name a pa) cenv, assign (.Name b pb) cenv] from rfl, show [v1, v2].toArray.toList = [v1, v2] from rfl, assignInOrder]
    refine wpAny_bind (wpAny_holding (wpAny_assign_Name (cstore lo (c.kp k1) hx.1 (r1.hk k1.hk) fun s₁ m₁ P₁ => ?_)))
    rw [assignInOrder]
    have r2' : Rep Z s₁.heap v2 d₂ := (r2.hk k1.hk).mv (c.kp k1).offC m₁.hk _ _ hm2.2
    refine wpAny_bind (wpAny_holding (wpAny_assign_Name (cstore lo P₁ hx.2 r2' fun s₂ m₂ P₂ => wpAny_pure ?_)))
    exact hQ s₂ (.trans (.of_kp k1) (m₁.trans m₂)) P₂
  · cases hb
/-- an item goes onto the block's list -/
theorem cappend {y : Value} {e : D} {Q : Value → Shared → Prop} (lo : Low T) (c : CSt T Z cenv Dx es ρ s) (r : Rep Z s.heap y e) (hm : e.nm = true) (hsz : es.length ≤ 4096)
    (hQ : ∀ v s', MvX T (fun b => b = Dx) s s' → CSt T Z cenv Dx (es ++ [e]) ρ s' → Q v s') : wpAny (model T.prog T.w) A (call (.builtin "list.append") [.ref Dx, y]) Q E s := by
  obtain ⟨ys, hl, rl⟩ := c.acc
  obtain ⟨oD, eD, hcD, nD, hdD⟩ := id hl
  refine wpAny_list_append hl (fun h' hl' hs => ?_) (by rw [List.size_toArray, rl.length, sizeLine_eq]; omega)
  have hb := hs.extBut
  have l : Loose T oD Dx := .seq hdD
  have nD : ∀ {b m}, s.heap.Ns b m → b ≠ Dx := fun hn q => by
    obtain ⟨es', ep, hd'⟩ := ns_dict eD (q ▸ hn)
    rw [hdD] at hd'; cases hd'
  have hcell : ∀ {b v}, s.heap.IsCell b v → h'.IsCell b v := fun ⟨o, e, hd⟩ => ⟨o, hb _ o (fun q => by rw [q, eD] at e; cases e; rw [hdD] at hd; cases hd) e, hd⟩
  refine hQ _ { s with heap := h' } ⟨h', s.toks, rfl, fun b o e t nx => .inl (hb b o nx e), fun x => x.sameBut l eD hb⟩
    { g := c.g.sameBut lo l eD hb fun q => by obtain ⟨m, hf⟩ := c.g.fr; exact absurd q.symm (nD hf)
      z := ⟨fun a ha => by
        obtain ⟨o, e, t⟩ := c.z.x a ha
        by_cases q : a = Dx
        · obtain ⟨o', e', _, n', hd'⟩ := hl'
          exact ⟨o', q ▸ e', .seq hd'⟩
        · exact ⟨o, hb a o q e, t⟩, c.z.y⟩
      s := ⟨c.s.kind, fun x d e => by
        obtain ⟨v, a, r⟩ := c.s.has x d e
        refine ⟨v, ?_, r.butZ hb c.zx c.zy⟩
        rcases a with ⟨e1, m1, n1, q1⟩ | ⟨e1, c1, l1, i1⟩
        · exact .inl ⟨e1, m1, n1.extBut hb (nD n1), q1⟩
        · exact .inr ⟨e1, c1, l1, hcell i1⟩, fun n cc e => let ⟨v, i⟩ := c.s.cells n cc e; ⟨v, hcell i⟩⟩
      ns := let ⟨m, x⟩ := c.ns; ⟨m, x.extBut hb (nD x)⟩
      low := c.low
      acc := ⟨ys ++ [y], by simpa using hl', (rl.butZ hb c.zx c.zy).append (.cons (r.butZ hb c.zx c.zy) .nil)⟩
      nm := by rw [nmL_append, c.nm]; simp [nmL, hm]
      zx := c.zx
      zy := c.zy }
theorem MvX.drop {X : Addr → Prop} {s₁ : Shared} (kp : Kp T s s₁) (fr : Fresh s I) (m : MvX T (fun b => X b ∨ b = I) s₁ s') : MvX T X s s' := by
  have m' : MvX T (fun b => X b ∨ b = I) s s' := .trans (.of_kp kp) m
  obtain ⟨h, tk, rfl, a, b⟩ := m'
  exact ⟨h, tk, rfl, fun x o e t nx => a x o e t fun q => q.elim nx fun q => fr o (q ▸ e) (q ▸ t), b⟩
end

/-! the judgement of a block -/
noncomputable def EvIfs (T : Th) (k : Nat) (cenv : Env) (ρ : Rho) (b : Bool) : List Expr → Prop
  | [] => b = true
  | [c] => EvB T k cenv c ρ b
  | _ => False
mutual
inductive CBody (T : Th) (k : Nat) (cenv : Env) (elt : Expr) : List Comprehension → Rho → List D → Prop
  | nil {ρ : Rho} {e : D} : Ev T k cenv elt ρ e → e.nm = true → CBody T k cenv elt [] ρ [e]
  | cons {g : Comprehension} {gs : List Comprehension} {ρ : Rho} {ds out : List D} : EvI T k cenv g.iter ρ ds → (∀ x, foldedSetIterable g.iter cenv x = pure x) → CLoop T k cenv elt g gs ds ρ out → CBody T k cenv elt (g :: gs) ρ out
inductive CLoop (T : Th) (k : Nat) (cenv : Env) (elt : Expr) : Comprehension → List Comprehension → List D → Rho → List D → Prop
  | nil {g : Comprehension} {gs : List Comprehension} {ρ : Rho} : CLoop T k cenv elt g gs [] ρ []
  | skip {g : Comprehension} {gs : List Comprehension} {d : D} {ds : List D} {ρ ρ' : Rho} {out : List D} : bindTo g.target d ρ = some ρ' → (∀ x d, ρ.lookup x = some d → ρ'.lookup x = some d) → EvIfs T k cenv ρ' false g.ifs →
      CLoop T k cenv elt g gs ds ρ out → CLoop T k cenv elt g gs (d :: ds) ρ out
  | take {g : Comprehension} {gs : List Comprehension} {d : D} {ds : List D} {ρ ρ' : Rho} {o out : List D} : bindTo g.target d ρ = some ρ' → (∀ x d, ρ.lookup x = some d → ρ'.lookup x = some d) → EvIfs T k cenv ρ' true g.ifs →
      CBody T k cenv elt gs ρ' o → CLoop T k cenv elt g gs ds ρ out → CLoop T k cenv elt g gs (d :: ds) ρ (o ++ out)
end
end Mine

namespace Mine

noncomputable def compBody (elt : Expr) (gens : List Comprehension) (scope : Scope) (pos : Pos) (depth : Nat) (acc : Value) (env : Env) : Sem Unit :=
  match gens[depth]? with
  | some g' => do
    let x ← eval g'.iter env
    standAt g'.iter.pos
    let x ← foldedSetIterable g'.iter env x
    let _ ← runOwn (.compStart (.ListComp elt gens scope pos) depth (← holding [x] (pyIter x)) acc env) env
  | none => (do let _ ← call (.builtin "list.append") [acc, ← eval elt env])
theorem compTurn_eq (elt : Expr) (gens : List Comprehension) (scope : Scope) (pos : Pos) (depth : Nat) (it acc : Value) (env : Env) (g : Comprehension) (hg : gens[depth]? = some g) (ha : g.is_async = 0) (ha' : ∀ g', gens[depth + 1]? = some g' → g'.is_async = 0) :
    compTurn (.ListComp elt gens scope pos) depth it acc env = (standAt g.iter.pos >>= fun _ => pyNext it >>= fun r => match r with
      | none => pure (.done .next)
      | some v => letOwnedTupleGo g.target it v >>= fun _ => assign g.target env v >>= fun _ =>
        (forIn g.ifs true fun c r => if r = true then do let ok ← isTrue c env (eval c env); pure (ForInStep.yield ok) else pure (ForInStep.yield r)) >>= fun ok =>
        (if ok = true then compBody elt gens scope pos (depth + 1) acc env >>= fun _ => again (.compLoop (.ListComp elt gens scope pos) depth it acc env) else again (.compLoop (.ListComp elt gens scope pos) depth it acc env))) := by
  unfold compTurn
  unfold compBody
  simp only [hg, ha]
  cases h : gens[depth + 1]? with
  | none =>
    simp only [bne_self_eq_false, Bool.false_eq_true, if_false, bind_assoc, h]
    rfl
  | some g' =>
    simp only [bne_self_eq_false, Bool.false_eq_true, if_false, bind_assoc, h, ha' g' h, pure_bind]
    rfl

section
variable {T : Th} {k : Nat} {A : Around} {Z : Zo} {cenv : Env} {Dx : Addr} {elt : Expr} {gens : List Comprehension} {scope : Scope} {pos : Pos}
theorem comp_start {depth : Nat} {g : Comprehension} {I : Addr} {acc : Value} {s : Shared} {ds : List D} {R : Result → Shared → Prop} (hg : gens[depth]? = some g) (ha : g.is_async = 0) (it : ItSt Z s.heap I ds)
    (h : codeAny (model T.prog T.w) A (.compLoop (.ListComp elt gens scope pos) depth (.ref I) acc cenv) R s) : codeAny (model T.prog T.w) A (.compStart (.ListComp elt gens scope pos) depth (.ref I) acc cenv) R s := by
  refine codeAny_of_tree ?_
  show wpAny _ A ((compStart (.ListComp elt gens scope pos) depth (.ref I) acc cenv).onRaise (fun x => do noteFrame x cenv; standAt theWindowsPlace)) _ _ s
  refine wpAny_notedAt ?_
  unfold compStart
  have e : clausesOf (.ListComp elt gens scope pos) = gens := rfl
  simp only [e, hg, Option.elim, ha, bne_self_eq_false, Bool.false_eq_true, if_false]
  refine wpAny_bind (wpAny_askSetting (wpAny_ite ?_))
  split
  · first
      | exact wpAny_bind (wpAny_pure (wpAny_pure (And.intro rfl h)))
      | exact wpAny_pure (And.intro rfl h)
  · refine wpAny_bind (wpAny_rule (wpAny_bind (wpAny_standAt (wpAny_bind ?_))))
    cases it with
    | list hit _ _ _ _ => exact wpAny_pyIter_listiter hit (wpAny_pure (And.intro rfl h))
    | range hit _ => exact wpAny_pyIter_rangeiter hit (wpAny_pure (And.intro rfl h))

noncomputable def LoopOk (T : Th) (A : Around) (Z : Zo) (cenv : Env) (Dx : Addr) (elt : Expr) (gens : List Comprehension) (scope : Scope) (pos : Pos) (depth : Nat) (ds : List D) (ρ : Rho) (out : List D) : Prop :=
  ∀ (es : List D) (s : Shared) (I : Addr) (R : Result → Shared → Prop), CSt T Z cenv Dx es ρ s → ¬ Z.x I → ItSt Z s.heap I ds → es.length + out.length ≤ 4096 →
    (∀ s', MvX T (fun b => CX cenv Dx b ∨ b = I) s s' → CSt T Z cenv Dx (es ++ out) ρ s' → R (.ok .next) s') → codeAny (model T.prog T.w) A (.compLoop (.ListComp elt gens scope pos) depth (.ref I) (.ref Dx) cenv) R s
noncomputable def BodyOk (T : Th) (A : Around) (Z : Zo) (cenv : Env) (Dx : Addr) (elt : Expr) (gens : List Comprehension) (scope : Scope) (pos : Pos) (depth : Nat) (ρ : Rho) (out : List D) : Prop :=
  ∀ (es : List D) (s : Shared) (Q : Unit → Shared → Prop) (E : Value → Shared → Prop), CSt T Z cenv Dx es ρ s → es.length + out.length ≤ 4096 →
    (∀ s', MvX T (CX cenv Dx) s s' → CSt T Z cenv Dx (es ++ out) ρ s' → Q () s') → wpAny (model T.prog T.w) A (compBody elt gens scope pos depth (.ref Dx) cenv) Q E s

theorem MvX.tick {I : Addr} {s : Shared} {h' : Heap} {tk : Nat} {o : Obj} {X : Addr → Prop} (io : IterObj o) (e : s.heap.get? I = some o) (hb : Heap.ExtBut I s.heap h') : MvX T (fun b => X b ∨ b = I) s { s with heap := h', toks := tk } :=
  ⟨h', tk, rfl, fun b o' e' t nx => .inl (hb b o' (fun q => nx (.inr q)) e'), fun x => x.sameBut io.loose e hb⟩

theorem ifs_wp {ρ : Rho} {b : Bool} {ifs : List Expr} {s : Shared} {Q : Bool → Shared → Prop} {E : Value → Shared → Prop} (hA : OkN T k A) (P : Pre T Z cenv ρ s) (h : EvIfs T k cenv ρ b ifs) (hQ : ∀ s', Kp T s s' → Q b s') :
    wpAny (model T.prog T.w) A (forIn ifs true fun c r => if r = true then do let ok ← isTrue c cenv (eval c cenv); pure (ForInStep.yield ok) else pure (ForInStep.yield r)) Q E s := by
  match ifs, h with
  | [], h => 
    have h : b = true := h
    subst h
    exact wpAny_pure (hQ s .refl)
  | [c], h => exact wpAny_tests_one (h A Z s _ _ hA P hQ)

/-- one turn -/
theorem loop_turn {depth : Nat} {g : Comprehension} {d : D} {ds : List D} {ρ ρ' : Rho} {o out : List D} {b : Bool} (hA : OkN T k A) (lo : Low T) (hg : gens[depth]? = some g) (hok : ∀ g ∈ gens, g.is_async = 0 ∧ ctVars cenv g.target)
    (hb : bindTo g.target d ρ = some ρ') (hs : ∀ x d, ρ.lookup x = some d → ρ'.lookup x = some d) (hi : EvIfs T k cenv ρ' b g.ifs) (ho : b = false → o = [])
    (hB : b = true → BodyOk T A Z cenv Dx elt gens scope pos (depth + 1) ρ' o) (hL : LoopOk T A Z cenv Dx elt gens scope pos depth ds ρ out) : LoopOk T A Z cenv Dx elt gens scope pos depth (d :: ds) ρ (o ++ out) := by
  intro es s I R c nz it hlen hR
  have hgm : g ∈ gens := List.mem_of_getElem? hg
  refine codeAny_of_tree ?_
  show wpAny _ A ((compTurn (.ListComp elt gens scope pos) depth (.ref I) (.ref Dx) cenv).onRaise (fun x => do noteFrame x cenv; theTreesLotGoes x)) _ _ s
  refine wpAny_noted ?_
  rw [compTurn_eq elt gens scope pos depth _ _ cenv g hg (hok g hgm).1 fun g' e => (hok g' (List.mem_of_getElem? e)).1]
  obtain ⟨oI, eI, io⟩ := it.obj
  refine wpAny_bind (wpAny_standAt (wpAny_bind (it_next it fun v h' tk hs' it₁ r dm => ?_)))
  have c₁ : CSt T Z cenv Dx es ρ { s with heap := h', toks := tk } := c.iter lo nz io eI hs'.extBut
  refine wpAny_bind (ownGo_wp (T := T) (s := { s with heap := h', toks := tk }) it₁ hb r ?_)
  refine wpAny_bind (cassign hA.1 lo c₁ (hok g hgm).2 hb dm r fun s₂ m₂ c₂ => ?_)
  have it₂ : ItSt Z s₂.heap I ds := it₁.mvx c₁.offC (fun q => c₁.offI it₁ nz (.inl q)) m₂.hk
  refine wpAny_bind (ifs_wp hA c₂.toPre hi fun s₃ k₃ => ?_)
  have c₃ := c₂.kp k₃
  have it₃ := it₂.hk k₃.hk
  have mv₃ : MvX T (fun b => CX cenv Dx b ∨ b = I) s s₃ := (MvX.tick io eI hs'.extBut).trans ((m₂.mono fun b q => .inl (.inl q)).trans (.of_kp k₃))
  cases b with
  | false =>
    rw [if_neg (by decide)]
    have := ho rfl
    subst this
    refine wpAny_pure ⟨rfl, hL es s₃ I R (c₃.sub hs) nz it₃ hlen fun s' m c' => hR s' (mv₃.trans m) c'⟩
  | true =>
    rw [if_pos rfl]
    refine wpAny_bind (hB rfl es s₃ _ _ c₃ (by rw [List.length_append] at hlen; omega) fun s₄ m₄ c₄ => ?_)
    have it₄ : ItSt Z s₄.heap I ds := it₃.mvx c₃.offCX (c₃.offI it₃ nz) m₄.hk
    refine wpAny_pure ⟨rfl, hL (es ++ o) s₄ I R (c₄.sub hs) nz it₄ (by rw [List.length_append] at hlen ⊢; omega) fun s' m c' => hR s' (mv₃.trans ((m₄.mono fun b q => .inl q).trans m)) ?_⟩
    rw [← List.append_assoc]; exact c'
theorem loop_end {depth : Nat} {g : Comprehension} {ρ : Rho} (hA : OkN T k A) (lo : Low T) (hg : gens[depth]? = some g) (hok : ∀ g ∈ gens, g.is_async = 0 ∧ ctVars cenv g.target) : LoopOk T A Z cenv Dx elt gens scope pos depth [] ρ [] := by
  intro es s I R c nz it hlen hR
  have hgm : g ∈ gens := List.mem_of_getElem? hg
  refine codeAny_of_tree ?_
  show wpAny _ A ((compTurn (.ListComp elt gens scope pos) depth (.ref I) (.ref Dx) cenv).onRaise (fun x => do noteFrame x cenv; theTreesLotGoes x)) _ _ s
  refine wpAny_noted ?_
  rw [compTurn_eq elt gens scope pos depth _ _ cenv g hg (hok g hgm).1 fun g' e => (hok g' (List.mem_of_getElem? e)).1]
  obtain ⟨oI, eI, io⟩ := it.obj
  refine wpAny_bind (wpAny_standAt (wpAny_bind (it_done hA.1 it fun h' hb => wpAny_pure ?_)))
  have c₁ : CSt T Z cenv Dx es ρ { s with heap := h', toks := s.toks } := c.iter lo nz io eI hb
  exact hR _ (MvX.tick (tk := s.toks) io eI hb) (by rw [List.append_nil]; exact c₁)
theorem body_end {depth : Nat} {ρ : Rho} {e : D} (hA : OkN T k A) (lo : Low T) (hg : gens[depth]? = none) (he : Ev T k cenv elt ρ e) (hm : e.nm = true) : BodyOk T A Z cenv Dx elt gens scope pos depth ρ [e] := by
  intro es s Q E c hlen hQ
  unfold compBody
  rw [hg]
  refine wpAny_bind (he A Z s _ _ hA c.toPre fun v s₁ k₁ r₁ => wpAny_bind (cappend lo (c.kp k₁) r₁ hm (by simp at hlen; omega) fun v s₂ m₂ c₂ => wpAny_pure ?_))
  exact hQ s₂ (.trans (.of_kp k₁) (m₂.mono fun b q => .inr q)) c₂
theorem body_more {depth : Nat} {g : Comprehension} {ρ : Rho} {ds out : List D} (hA : OkN T k A) (lo : Low T) (hg : gens[depth]? = some g) (hok : ∀ g ∈ gens, g.is_async = 0 ∧ ctVars cenv g.target) (hi : EvI T k cenv g.iter ρ ds) (hf : ∀ x, foldedSetIterable g.iter cenv x = pure x)
    (hL : LoopOk T A Z cenv Dx elt gens scope pos depth ds ρ out) : BodyOk T A Z cenv Dx elt gens scope pos depth ρ out := by
  intro es s Q E c hlen hQ
  have hgm : g ∈ gens := List.mem_of_getElem? hg
  unfold compBody
  rw [hg]
  refine wpAny_bind (wpAny_mono (hi A Z s (fun v s' => ∃ I, v = .ref I ∧ Kp T s s' ∧ Fresh s I ∧ ¬ Z.x I ∧ ItSt Z s'.heap I ds) E hA c.toPre fun I s' a b c d => ⟨I, rfl, a, b, c, d⟩) (fun x s₁ h₁ => ?_) fun _ _ e => e)
  refine wpAny_bind (wpAny_standAt (wpAny_bind (wpAny_of_eq (hf x) (wpAny_bind (wpAny_holding (wpAny_mono h₁ (fun v s₂ h₂ => ?_) fun _ _ e => e))))))
  obtain ⟨I, rfl, k₂, fr, nz, it⟩ := h₂
  refine wpAny_bind (wpAny_runOwn ?_)
  refine comp_start hg (hok g hgm).1 it ?_
  refine hL es s₂ I _ (c.kp k₂) nz it hlen fun s' m c' => wpAny_pure ?_
  exact hQ s' (MvX.drop k₂ fr m) c'

theorem comp_ok {gs : List Comprehension} {ρ : Rho} {out : List D} (hA : OkN T k A) (lo : Low T) (hok : ∀ g ∈ gens, g.is_async = 0 ∧ ctVars cenv g.target) (h : CBody T k cenv elt gs ρ out) : ∀ pre, gens = pre ++ gs → BodyOk T A Z cenv Dx elt gens scope pos pre.length ρ out := by
  refine CBody.rec (motive_1 := fun gs ρ out _ => ∀ pre, gens = pre ++ gs → BodyOk T A Z cenv Dx elt gens scope pos pre.length ρ out)
    (motive_2 := fun g gs ds ρ out _ => ∀ pre, gens = pre ++ g :: gs → LoopOk T A Z cenv Dx elt gens scope pos pre.length ds ρ out) ?_ ?_ ?_ ?_ ?_ h
  · intro ρ e he hm pre hp
    exact body_end hA lo (by rw [hp]; simp) he hm
  · intro g gs ρ ds out hi hf hl ih pre hp
    exact body_more hA lo (by rw [hp]; simp) hok hi hf (ih pre hp)
  · intro g gs ρ pre hp
    exact loop_end hA lo (g := g) (by rw [hp]; simp) hok
  · intro g gs d ds ρ ρ' out hb hs hi hl ih pre hp
    exact loop_turn (o := []) hA lo (by rw [hp]; simp) hok hb hs hi (fun _ => rfl) (fun q => by cases q) (ih pre hp)
  · intro g gs d ds ρ ρ' o out hb hs hi hc hl ih1 ih2 pre hp
    refine loop_turn hA lo (by rw [hp]; simp) hok hb hs hi (fun q => by cases q) (fun _ => ?_) (ih2 pre hp)
    have := ih1 (pre ++ [g]) (by rw [hp]; simp)
    rw [List.length_append] at this
    exact this
theorem loop_ok {g : Comprehension} {gs : List Comprehension} {ρ : Rho} {ds out : List D} (hA : OkN T k A) (lo : Low T) (hok : ∀ g ∈ gens, g.is_async = 0 ∧ ctVars cenv g.target) (h : CLoop T k cenv elt g gs ds ρ out) : ∀ pre, gens = pre ++ g :: gs → LoopOk T A Z cenv Dx elt gens scope pos pre.length ds ρ out := by
  refine CLoop.rec (motive_1 := fun gs ρ out _ => ∀ pre, gens = pre ++ gs → BodyOk T A Z cenv Dx elt gens scope pos pre.length ρ out)
    (motive_2 := fun g gs ds ρ out _ => ∀ pre, gens = pre ++ g :: gs → LoopOk T A Z cenv Dx elt gens scope pos pre.length ds ρ out) ?_ ?_ ?_ ?_ ?_ h
  · intro ρ e he hm pre hp
    exact body_end hA lo (by rw [hp]; simp) he hm
  · intro g gs ρ ds out hi hf hl ih pre hp
    exact body_more hA lo (by rw [hp]; simp) hok hi hf (ih pre hp)
  · intro g gs ρ pre hp
    exact loop_end hA lo (g := g) (by rw [hp]; simp) hok
  · intro g gs d ds ρ ρ' out hb hs hi hl ih pre hp
    exact loop_turn (o := []) hA lo (by rw [hp]; simp) hok hb hs hi (fun _ => rfl) (fun q => by cases q) (ih pre hp)
  · intro g gs d ds ρ ρ' o out hb hs hi hc hl ih1 ih2 pre hp
    refine loop_turn hA lo (by rw [hp]; simp) hok hb hs hi (fun q => by cases q) (fun _ => ?_) (ih2 pre hp)
    have := ih1 (pre ++ [g]) (by rw [hp]; simp)
    rw [List.length_append] at this
    exact this
end
end Mine

namespace Mine

section
variable {T : Th} {k : Nat} {A : Around} {Z : Zo} {env : Env} {ρ : Rho} {s s' s₁ : Shared}
theorem MvX.dropAll {X : Addr → Prop} (kp : Kp T s s₁) (fr : ∀ b, X b → Fresh s b) (m : MvX T X s₁ s') : Kp T s s' := by
  obtain ⟨h, tk, rfl, a, b⟩ := MvX.trans (.of_kp kp) m
  exact ⟨h, tk, rfl, fun x o e t => a x o e t fun q => fr x q o e t, b⟩
theorem Fresh.kp {a : Addr} (kp : Kp T s s₁) (f : Fresh s₁ a) : Fresh s a := fun o e t => by
  rcases kp.hk a o e t with r | ⟨_, m, _, o', es, ep, e', hd, _⟩
  · exact f o r t
  · exact f o' e' (.dict hd)
theorem Fresh.none {a : Addr} (h : s.heap.get? a = none) : Fresh s a := fun o e _ => by rw [h] at e; cases e
theorem Fresh.ns {a b : Addr} {m} (f : Fresh s a) (h : s.heap.Ns b m) : b ≠ a := fun q => by
  obtain ⟨o, es, ep, e, hd, _⟩ := h
  exact f o (q ▸ e) (.dict hd)
theorem Fresh.zo {a : Addr} (f : Fresh s a) (z : ZOk Z s.heap) : ¬ Z.x a := fun q => by
  obtain ⟨o, e, t⟩ := z.x a q
  exact f o e t

theorem comp_core {elt target iter : Expr} {ifs : List Expr} {rest : List Comprehension} {scope : Scope} {pos : Pos} {ds out : List D} {RR : Value → Addr → Result → Shared → Prop} {E : Value → Shared → Prop}
    (hA : OkN T k A) (lo : Low T) (P : Pre T Z env ρ s) (sc : CScope scope env) (hi : EvI T k env iter ρ ds) (hok : ∀ C, ∀ g ∈ (⟨target, iter, ifs, 0⟩ :: rest : List Comprehension), g.is_async = 0 ∧ ctVars (cenvOf scope C env) g.target)
    (hl : ∀ C, CLoop T k (cenvOf scope C env) elt ⟨target, iter, ifs, 0⟩ rest ds (rhoC scope ρ) out) (hlen : out.length ≤ 4096)
    (hR : ∀ Dx C s', Kp T s s' → Fresh s C → T.n ≤ C → (∃ m, s'.heap.Ns C m) → Dx ≠ C → Rep Z s'.heap (.ref Dx) (.lst out) → RR (.ref Dx) C (.ok .next) s') :
    wpAny (model T.prog T.w) A (eval iter env) (fun x s₁ => wpAny (model T.prog T.w) A (pyIter x) (fun it s₂ => wpAny (model T.prog T.w) A (newList []) (fun acc s₃ =>
      wpAny (model T.prog T.w) A (newFunctionEnv scope env.globals (clOf env scope.names []) [] env.qual none .none (some env)) (fun cenv s₄ =>
        codeAny (model T.prog T.w) A (.compStart (.ListComp elt (⟨target, iter, ifs, 0⟩ :: rest) scope pos) 0 it acc { cenv with scope := relabel scope env }) (RR acc cenv.locals) s₄) E s₃) E s₂) E s₁) E s := by
  refine hi A Z s _ _ hA P fun I s₂ k₂ frI nzI it => ?_
  have P₂ := P.kp k₂
  refine wpAny_newObj_type (hd := by size_fits) (wpAny_newFunctionEnv (fun x hx => by have := List.all_eq_true.mp sc.nocell x hx; simpa using this) (by intro y hy; simp at hy) (fun h₁ hns hsb => ?_) sc.kind)
  dsimp only at hns hsb ⊢
  generalize hD : s₂.heap.objs.size = Dx at hns hsb ⊢
  have eH : Dx = s₂.heap.objs.size := hD.symm
  generalize hH : s₂.heap.push { cls := .type "list", dict := none, data := .seq ([] : List Value).toArray } = H at hns hsb ⊢
  generalize hC : H.objs.size = C at hns hsb ⊢
  have hDn : s₂.heap.get? Dx = none := by rw [eH]; exact get?_size _
  have hCn : H.get? C = none := by rw [← hC]; exact get?_size _
  have hHD : H.get? Dx = some { cls := .type "list", dict := none, data := .seq ([] : List Value).toArray } := by rw [← hH, eH]; exact Heap.get?_push_size _ rfl
  have hDC : Dx ≠ C := fun q => by rw [q, hCn] at hHD; cases hHD
  have keepH : ∀ b o, s₂.heap.get? b = some o → H.get? b = some o := fun b o e => by rw [← hH]; exact Heap.get?_push_of_some _ e
  have hb1 : ∀ b o, H.get? b = some o → h₁.get? b = some o := fun b o e => hsb.extBut b o (fun q => by rw [q, hCn] at e; cases e) (Heap.get?_push_of_some _ e)
  have keep : ∀ b o, s₂.heap.get? b = some o → h₁.get? b = some o := fun b o e => hb1 b o (keepH b o e)
  have k₄ : Kp T s₂ { s₂ with heap := h₁, toks := s₂.toks + ([] : List (Str × Value)).length } := .of keep
  have hCn2 : s₂.heap.get? C = none := by
    cases e : s₂.heap.get? C with
    | none => rfl
    | some o => rw [keepH C o e] at hCn; cases hCn
  have frD : Fresh s Dx := Fresh.kp k₂ (.none hDn)
  have frC : Fresh s C := Fresh.kp k₂ (.none hCn2)
  have hTn : T.n ≤ C := by
    obtain ⟨m, hf⟩ := P₂.g.fr
    rw [← hC, ← hH, Heap.size_push]
    exact Nat.le_succ_of_le (Nat.le_of_lt hf.lt)
  let Z' : Zo := ⟨fun a => Z.x a ∨ a = Dx, Z.y⟩
  have zx : ∀ a, Z'.x a → (s₂.heap.get? a).isSome = true → Z.x a := fun a ha hs => ha.elim id fun q => by rw [q, hDn] at hs; cases hs
  have it' : ItSt Z' s₂.heap I ds := by
    cases it with
    | list hit hl nx r m => exact .list hit hl (fun q => nx (zx _ q (by obtain ⟨o, e, _⟩ := hl; rw [e]; rfl))) (RepL.zone2 zx (fun _ q => q) _ _ r) m
    | range hit e => exact .range hit e
  have nzI' : ¬ Z'.x I := fun q => nzI (zx I q (by obtain ⟨o, e, _⟩ := it.obj; rw [e]; rfl))
  have z2 : ZOk Z' h₁ := ⟨fun a ha => by
    rcases ha with ha | ha
    · obtain ⟨o, e, t⟩ := P₂.z.x a ha
      exact ⟨o, keep a o e, t⟩
    · exact ⟨_, ha ▸ hb1 _ _ hHD, .seq rfl⟩, fun a ha => .inl (P₂.z.y a ha)⟩
  have sees : Sees Z' env s₂.heap ρ := ⟨P₂.s.kind, fun x d e => let ⟨v, a, r⟩ := P₂.s.has x d e; ⟨v, a, r.zone2 zx fun _ q => q⟩, P₂.s.cells⟩
  have c : CSt T Z' (cenvOf scope C env) Dx [] (rhoC scope ρ) { s₂ with heap := h₁, toks := s₂.toks + ([] : List (Str × Value)).length } :=
    { g := P₂.g.kp k₄, z := z2, s := sees_comp (T := T) sc (sees.hk k₄.hk), ns := ⟨_, hns⟩, low := hTn, acc := ⟨[], ⟨_, hb1 _ _ hHD, rfl, _, rfl⟩, .nil⟩, nm := rfl, zx := .inr rfl
      zy := fun q => by
        have := P₂.z.y _ q
        obtain ⟨o, e, _⟩ := P₂.z.x _ this
        rw [hDn] at e; cases e }
  refine comp_start (T := T) (cenv := cenvOf scope C env) (Z := Z') (g := ⟨target, iter, ifs, 0⟩) rfl rfl (it'.hk k₄.hk) ?_
  refine loop_ok (T := T) (cenv := cenvOf scope C env) (Z := Z') (Dx := Dx) hA lo (hok C) (hl C) [] rfl [] _ I _ c nzI' (it'.hk k₄.hk) (by simpa using hlen) fun s' m c' => ?_
  have kp : Kp T s s' := MvX.dropAll (k₂.trans k₄) (fun b q => by
    rcases q with (q | q) | q
    · exact q ▸ frC
    · exact q ▸ frD
    · exact q ▸ frI) m
  obtain ⟨ys, hl', rl⟩ := c'.acc
  refine hR Dx C s' kp frC hTn c'.ns hDC ?_
  rw [Rep]
  exact ⟨Dx, ys, rfl, frD.zo P.z, hl', RepL.zone2 (Z := Z') (Z' := Z) (fun a ha _ => .inl ha) (fun _ q => q) _ _ rl⟩

/-- the block's namespace is changed: nothing that is seen changes -/
theorem Kp.nsGo {C : Addr} {h' : Heap} {m} (kp : Kp T s s') (fr : Fresh s C) (hC : T.n ≤ C) (hn : s'.heap.Ns C m) (hb : Heap.ExtBut C s'.heap h') : Kp T s { s' with heap := h' } := by
  obtain ⟨h, tk, rfl, a, b⟩ := kp
  obtain ⟨o, es, ep, e, hd, _⟩ := id hn
  refine ⟨h', tk, rfl, fun x o' e' t => ?_, fun x => (b x).sameBut (.dict hd hC) e hb⟩
  have hne : x ≠ C := fun q => fr o' (q ▸ e') (q ▸ t)
  rcases a x o' e' t with r | ⟨hn, m, p, q⟩
  · exact .inl (hb x o' hne r)
  · exact .inr ⟨hn, m, p, q.extBut hb hne⟩
theorem Rep.nsGo {C : Addr} {h' : Heap} {m} {v : Value} {d : D} (r : Rep Z s.heap v d) (hn : s.heap.Ns C m) (hb : Heap.ExtBut C s.heap h') : Rep Z h' v d := by
  obtain ⟨o, es, ep, e, hd, _⟩ := hn
  exact r.but hb (fun vs ⟨o', e', _, n, hd'⟩ => by rw [e] at e'; cases e'; rw [hd] at hd'; cases hd') fun vs ⟨o', e', _, n, hd'⟩ => by rw [e] at e'; cases e'; rw [hd] at hd'; cases hd'

theorem Ev.comp {elt target iter : Expr} {ifs : List Expr} {rest : List Comprehension} {scope : Scope} {pos : Pos} {ds out : List D} (lo : Low T)
    (sc : CScope scope env) (hi : EvI T k env iter ρ ds) (hok : ∀ C, ∀ g ∈ (⟨target, iter, ifs, 0⟩ :: rest : List Comprehension), g.is_async = 0 ∧ ctVars (cenvOf scope C env) g.target)
    (hl : ∀ C, CLoop T k (cenvOf scope C env) elt ⟨target, iter, ifs, 0⟩ rest ds (rhoC scope ρ) out) (hlen : out.length ≤ 4096)
    (hs : ∀ x, foldedSetIterable iter env x = pure x := by intro _; rfl) : Ev T k env (.ListComp elt (⟨target, iter, ifs, 0⟩ :: rest) scope pos) ρ (.lst out) := fun A Z s Q E hA P hQ => by
  rw [eval_ListComp]
  refine wpAny_comprehension_free (use := none) rfl hs (closureFor_clOf sc.free) sc.kind (fun x hx hl => by
    have := List.all_eq_true.mp sc.locals x hx
    rw [hl] at this; simpa using this) ?_
  refine comp_core (RR := compPost (model T.prog T.w) A E none Q) hA lo P sc hi hok hl hlen fun Dx C s' kp fr hTn hns hne r => ?_
  obtain ⟨m, hns⟩ := hns
  exact ⟨m, hns, fun h' hs' => hQ _ _ (kp.nsGo fr hTn hns hs'.extBut) (r.nsGo hns hs'.extBut)⟩

theorem Ex1.assignC {R : Out → Prop} {y : Str} {py spos : Pos} {elt target iter : Expr} {ifs : List Expr} {rest : List Comprehension} {scope : Scope} {pos : Pos} {ds out : List D}
    (sc : CScope scope env) (hi : EvI T k env iter ρ ds) (hok : ∀ C, ∀ g ∈ (⟨target, iter, ifs, 0⟩ :: rest : List Comprehension), g.is_async = 0 ∧ ctVars (cenvOf scope C env) g.target)
    (hl : ∀ C, CLoop T k (cenvOf scope C env) elt ⟨target, iter, ifs, 0⟩ rest ds (rhoC scope ρ) out) (hlen : out.length ≤ 4096) (hy : env.kindOf y = some .local) (hR : R (.next ((y, .lst out) :: ρ)))
    (hsw : swapsWith (.ListComp elt (⟨target, iter, ifs, 0⟩ :: rest) scope pos) (some (.Name y py)) spos.line env = pure true)
    (hs : ∀ x, foldedSetIterable iter env x = pure x := by intro _; rfl) : Ex1 T k env (.Assign [.Name y py] (.ListComp elt (⟨target, iter, ifs, 0⟩ :: rest) scope pos) spos) ρ R := fun A Z s Q E hA lo P hQ => by
  rw [exec_Assign_Name_used _ _ _ _ hsw]
  refine wpAny_bind (wpAny_standAt (wpAny_bind ?_))
  rw [arm_evalThenUse_ListComp]
  refine wpAny_bind (wpAny_mono (wpAny_comprehension_free (Q := fun _ s' => Q .next s') rfl hs (closureFor_clOf sc.free) sc.kind (fun x hx hl => by
    have := List.all_eq_true.mp sc.locals x hx
    rw [hl] at this; simpa using this) ?_) (fun _ s' hq => wpAny_pure (wpAny_pure hq)) fun _ _ e => e)
  refine comp_core (RR := compPost (model T.prog T.w) A E (some (PySem.assign (.Name y py) env)) (fun _ s' => Q .next s')) hA lo P.toPre sc hi hok hl hlen fun Dx C s' kp fr hTn hns hne r => ?_
  have P' := P.kp kp
  refine wpAny_assign_Name (store_loc lo P'.toPre P'.f.ns P'.f.low hy r fun s₂ mv P₂ hn => ?_)
  have hCL : env.locals ≠ C := fun q => by
    obtain ⟨m, x⟩ := P.f.ns
    exact fr.ns x q
  obtain ⟨mC, nC⟩ := hns
  obtain ⟨h₂, tk₂, rfl, hk₂, ht₂⟩ := mv
  have nC₂ : ∃ m, h₂.Ns C m := by
    obtain ⟨o, es, ep, e, hd, rr⟩ := id nC
    rcases hk₂ C o e (.dict hd) (fun q => hCL q.symm) with r | ⟨_, m, _, x⟩
    · exact ⟨mC, o, es, ep, r, hd, rr⟩
    · exact ⟨m, x⟩
  obtain ⟨m₂, nC₂⟩ := nC₂
  refine ⟨m₂, nC₂, fun h' hs' => ?_⟩
  obtain ⟨o, es, ep, e, hd, _⟩ := id nC₂
  have hb := hs'.extBut
  have nc : ∀ {c v}, h₂.IsCell c v → h'.IsCell c v := fun {c v} ⟨oc, ec, hc⟩ => ⟨oc, hb c oc (fun q => by rw [q, e] at ec; cases ec; rw [hd] at hc; cases hc) ec, hc⟩
  refine hQ _ { s' with heap := h', toks := tk₂ } _ hR ?_ ⟨rfl, ⟨⟨?_, ?_, P₂.s.kind, fun x d q => ?_, fun n c q => ?_⟩, ?_, fun n c q => ?_, P.f.apart, P.f.low⟩⟩
  · obtain ⟨h₁, tk₁, rfl, hk₁, ht₁⟩ := kp
    refine ⟨h', tk₂, rfl, fun b ob eb tb nb => ?_, fun x => (ht₂ (ht₁ x)).sameBut (.dict hd hTn) e hb⟩
    have hne : b ≠ C := fun q => fr ob (q ▸ eb) (q ▸ tb)
    rcases hk₁ b ob eb tb with w | ⟨w1, m, w2, w3⟩
    · rcases hk₂ b ob w tb (fun q => nb (.inl q)) with u | ⟨u1, m, u2, u3⟩
      · exact .inl (hb b ob hne u)
      · refine .inr ⟨u1, m, ?_, u3.extBut hb hne⟩
        obtain ⟨o', es', ep', e', rr⟩ := u2
        rw [show ({ s with heap := h₁, toks := tk₁ } : Shared).heap.get? b = some ob from w] at e'; cases e'
        exact ⟨ob, es', ep', eb, rr⟩
    · obtain ⟨o', es', ep', e', hd', rr⟩ := id w3
      rcases hk₂ b o' e' (.dict hd') (fun q => nb (.inl q)) with u | ⟨_, m', u2, u3⟩
      · exact .inr ⟨w1, m, w2, (show h₂.Ns b m from ⟨o', es', ep', u, hd', rr⟩).extBut hb hne⟩
      · refine .inr ⟨w1, m, w2, ?_⟩
        rw [w3.eq_nsMap, ← u2.eq_nsMap]; exact u3.extBut hb hne
  · refine P₂.g.sameBut lo (.dict hd hTn) e hb fun q => ?_
    obtain ⟨m, hf⟩ := P.g.fr
    exact absurd q.symm (fr.ns hf)
  · exact ⟨fun a ha => let ⟨o', e', t⟩ := P₂.z.x a ha; ⟨o', hb a o' (fun q => fr.zo P.z (q ▸ ha)) e', t⟩, P₂.z.y⟩
  · obtain ⟨v, a, r⟩ := P₂.s.has x d q
    refine ⟨v, ?_, Rep.nsGo (s := { s' with heap := h₂ }) r nC₂ hb⟩
    rcases a with ⟨e1, m1, n1, q1⟩ | ⟨e1, c1, l1, i1⟩
    · exact .inl ⟨e1, m1, n1.extBut hb hCL, q1⟩
    · exact .inr ⟨e1, c1, l1, nc i1⟩
  · obtain ⟨v, i⟩ := P₂.s.cells n c q
    exact ⟨v, nc i⟩
  · obtain ⟨m, x⟩ := hn
    exact ⟨m, x.extBut hb hCL⟩
  · obtain ⟨v, i⟩ := P₂.s.cells n c q
    exact ⟨v, nc i⟩
end
end Mine

namespace Mine
open StrLaws (At)

noncomputable def S (l : List Nat) : Str := ⟨l.toArray⟩
theorem S_cps (l : List Nat) : (S l).cps.toList = l := by simp [S]
theorem S_len (l : List Nat) : (S l).length = l.length := by simp [S, Str.length]
theorem S_app (a b : List Nat) : S a ++ S b = S (a ++ b) := by
  show Str.append (S a) (S b) = S (a ++ b)
  simp [Str.append, S]
theorem S_inj {a b : List Nat} (h : S a = S b) : a = b := by
  have := congrArg (fun x => x.cps.toList) h
  simpa [S] using this
theorem S_of (x : Str) : S x.cps.toList = x := by
  obtain ⟨a⟩ := x
  simp [S]

/-! finding -/
theorem fromNat (n i : Nat) : fromIndex n (i : Int) = i := by
  unfold fromIndex
  rw [if_neg (by omega)]
  omega
theorem find4_spec (x y : Str) (lo hi : Nat) (hh : hi ≤ x.length) :
    (find4 x y lo hi = -1 ∧ ∀ i, lo ≤ i → ¬ At x y hi i) ∨ ∃ i : Nat, find4 x y lo hi = i ∧ lo ≤ i ∧ At x y hi i ∧ ∀ k, lo ≤ k → k < i → ¬ At x y hi k := by
  unfold find4
  rw [fromNat, fromNat, Nat.min_eq_left hh, StrLaws.occ_eq]
  rcases StrLaws.occ_first x y hi 1 (Nat.le_refl 1) (List.range' lo (hi + 1 - lo)) lo (fun i hi => by have := List.mem_range'_1.mp hi; omega) with ⟨h0, hn⟩ | ⟨pre, a, post, e, h0, ha, hn⟩
  · refine .inl ⟨by rw [h0], fun i hlo hi' => ?_⟩
    exact hn i (by have := hi'.1; rw [List.mem_range'_1]; omega) hi'
  · have hs := StrLaws.range'_split_from e
    refine .inr ⟨a, ?_, hs.1, ha, fun k hk0 hk => hn k (hs.2 k hk0 hk)⟩
    generalize (forIn (List.range' lo (hi + 1 - lo)) ((#[] : Array Nat), lo) (StrLaws.occBody x y hi 1)).run.fst = arr at h0
    have h1 : arr.toList[0]? = some a := by simpa using h0
    cases hL : arr.toList with
    | nil => rw [hL] at h1; cases h1
    | cons b t => rw [hL] at h1; simp at h1; rw [h1]
theorem rfind4_spec (x y : Str) (lo hi : Nat) (hh : hi ≤ x.length) :
    (rfind4 x y lo hi = -1 ∧ ∀ i, lo ≤ i → ¬ At x y hi i) ∨ ∃ i : Nat, rfind4 x y lo hi = i ∧ At x y hi i ∧ ∀ k, lo ≤ k → i < k → ¬ At x y hi k := by
  unfold rfind4
  rw [fromNat, fromNat, Nat.min_eq_left hh, StrLaws.last_eq]
  have key := StrLaws.last_run x y hi (List.range' lo (hi + 1 - lo)) [] none (fun _ h => nomatch h) (fun _ h => nomatch h) (by simpa using List.pairwise_lt_range' (s := lo) (n := hi + 1 - lo))
  have mem : ∀ i, lo ≤ i → At x y hi i → i ∈ [] ++ List.range' lo (hi + 1 - lo) := fun i h0 hi => by have := hi.1; rw [List.nil_append, List.mem_range'_1]; omega
  cases hr : (forIn (List.range' lo (hi + 1 - lo)) none (StrLaws.lastBody x y hi)).run with
  | none => rw [hr] at key; exact .inl ⟨rfl, fun i h0 hi => key i (mem i h0 hi) hi⟩
  | some a => rw [hr] at key; exact .inr ⟨a, rfl, key.1, fun k h0 hk hA => key.2 k (mem k h0 hA) hk hA⟩

theorem at_one {l : List Nat} {c hi i : Nat} : At (S l) (S [c]) hi i ↔ i < hi ∧ l[i]? = some c := by
  unfold At
  rw [StrLaws.subAt_eq, S_len, S_cps, S_cps]
  show i + 1 ≤ hi ∧ ((l.drop i).take 1 == [c]) = true ↔ _
  rw [StrLaws.take1_drop]
  exact ⟨fun ⟨a, b⟩ => ⟨a, b⟩, fun ⟨a, b⟩ => ⟨a, b⟩⟩
theorem find4_one_at {l : List Nat} {c hi i : Nat} (hh : hi ≤ l.length) (h1 : i < hi) (h2 : l[i]? = some c) (hn : ∀ k, k < i → l[k]? ≠ some c) : find4 (S l) (S [c]) 0 hi = i := by
  rcases find4_spec (S l) (S [c]) 0 hi (by rw [S_len]; exact hh) with ⟨_, q⟩ | ⟨j, e, _, a, q⟩
  · exact absurd (at_one.mpr ⟨h1, h2⟩) (q i (Nat.zero_le _))
  · obtain ⟨a1, a2⟩ := at_one.mp a
    have : j = i := by
      rcases Nat.lt_trichotomy j i with w | w | w
      · exact absurd a2 (hn j w)
      · exact w
      · exact absurd (at_one.mpr ⟨h1, h2⟩) (q i (Nat.zero_le _) w)
    rw [← this]; exact e
theorem find4_one_none {l : List Nat} {c hi : Nat} (hh : hi ≤ l.length) (hn : ∀ k, k < hi → l[k]? ≠ some c) : find4 (S l) (S [c]) 0 hi = -1 := by
  rcases find4_spec (S l) (S [c]) 0 hi (by rw [S_len]; exact hh) with ⟨e, _⟩ | ⟨j, e, _, a, q⟩
  · exact e
  · obtain ⟨a1, a2⟩ := at_one.mp a
    exact absurd a2 (hn j a1)
theorem rfind4_one_at {l : List Nat} {c hi i : Nat} (hh : hi ≤ l.length) (h1 : i < hi) (h2 : l[i]? = some c) (hn : ∀ k, i < k → k < hi → l[k]? ≠ some c) : rfind4 (S l) (S [c]) 0 hi = i := by
  rcases rfind4_spec (S l) (S [c]) 0 hi (by rw [S_len]; exact hh) with ⟨_, q⟩ | ⟨j, e, a, q⟩
  · exact absurd (at_one.mpr ⟨h1, h2⟩) (q i (Nat.zero_le _))
  · obtain ⟨a1, a2⟩ := at_one.mp a
    have : j = i := by
      rcases Nat.lt_trichotomy i j with w | w | w
      · exact absurd a2 (hn j w a1)
      · exact w.symm
      · exact absurd (at_one.mpr ⟨h1, h2⟩) (q i (Nat.zero_le _) w)
    rw [← this]; exact e
theorem rfind4_one_none {l : List Nat} {c hi : Nat} (hh : hi ≤ l.length) (hn : ∀ k, k < hi → l[k]? ≠ some c) : rfind4 (S l) (S [c]) 0 hi = -1 := by
  rcases rfind4_spec (S l) (S [c]) 0 hi (by rw [S_len]; exact hh) with ⟨e, _⟩ | ⟨j, e, a, q⟩
  · exact e
  · obtain ⟨a1, a2⟩ := at_one.mp a
    exact absurd a2 (hn j a1)
theorem find_one (l : List Nat) (c : Nat) : (Txt.find (S l) (S [c]) = -1 ∧ ∀ k : Nat, l[k]? ≠ some c) ∨ ∃ i : Nat, Txt.find (S l) (S [c]) = i ∧ l[i]? = some c ∧ ∀ k : Nat, k < i → l[k]? ≠ some c := by
  have lt : ∀ {k : Nat}, l[k]? = some c → k < l.length := fun h => (List.getElem?_eq_some_iff.mp h).1
  rcases find_whole (S l) (S [c]) with ⟨e, q⟩ | ⟨i, e, a, q⟩
  · exact .inl ⟨e, fun k hk => q k (at_one.mpr ⟨by rw [S_len]; exact lt hk, hk⟩)⟩
  · exact .inr ⟨i, e, (at_one.mp a).2, fun k h1 hk => q k h1 (at_one.mpr ⟨by rw [S_len]; exact lt hk, hk⟩)⟩

/-! cutting -/
theorem slice_ss {l : List Nat} {i j : Nat} (h1 : i ≤ j) (h2 : j ≤ l.length) : Txt.slice (S l) (some i) (some j) = S ((l.drop i).take (j - i)) := by
  show StrLaws.sliceText (S l) (some (i : Int)) (some (j : Int)) = _
  rw [StrLaws.sliceText_nat _ h1 (by rw [S_len]; exact h2), S_cps]
  rfl
theorem slice_to_neg {l : List Nat} {k : Nat} (hk : 0 < k) : Txt.slice (S l) none (some (-(k : Int))) = S (l.take (l.length - k)) := by
  have e : Builtin.Str.strSliceIndices none (some (-(k : Int))) 1 (S l).length = Builtin.Str.strSliceIndices none (some ((l.length - k : Nat) : Int)) 1 (S l).length := by
    unfold Builtin.Str.strSliceIndices
    have a1 : (-(k : Int) < 0) := by omega
    have a2 : ¬ (((l.length - k : Nat) : Int) < 0) := by omega
    simp only [a1, a2, if_true, if_false, S_len]
    have : max (0 : Int) (min (-(k : Int) + l.length) l.length) = max 0 (min ((l.length - k : Nat) : Int) l.length) := by omega
    simp only [this, show (1 : Int) > 0 by decide, if_true]
  have e2 : Txt.slice (S l) none (some (-(k : Int))) = StrLaws.sliceText (S l) none (some ((l.length - k : Nat) : Int)) := by
    unfold Txt.slice StrLaws.sliceText
    rw [e]
  rw [e2, StrLaws.sliceText_to ⟨by omega, by rw [S_cps]; omega⟩, S_cps]
  simp [S]

/-! a line -/
structure Menu (nm : Nat → Str) : Prop where
  clean : ∀ i, ∀ c ∈ (nm i).cps.toList, c ≠ 46 ∧ c ≠ 58 ∧ c ≠ 10 ∧ c ≠ 60 ∧ c ≠ 62
  short : ∀ i, (nm i).length ≤ 3
  lt : ∀ i j, i < 3 → j < 3 → ((nm i).cps.toList < (nm j).cps.toList ↔ i < j)
noncomputable def TailOk (t : Str) : Prop := t.length ≤ 8 ∧ (t.cps.toList = [] ∨ ∃ r, t.cps.toList = 58 :: r ∨ t.cps.toList = 10 :: r)
section
variable {nm : Nat → Str}
noncomputable abbrev cp (nm : Nat → Str) (i : Nat) : List Nat := (nm i).cps.toList
noncomputable def lineC (nm : Nat → Str) : List Nat → List Nat
  | [] => []
  | [x] => cp nm x
  | x :: y :: r => cp nm x ++ 46 :: lineC nm (y :: r)
noncomputable def line (nm : Nat → Str) (r : List Nat) : Str := S (lineC nm r)
theorem lineC_snoc : ∀ (r : List Nat) (x : Nat), r ≠ [] → lineC nm (r ++ [x]) = lineC nm r ++ 46 :: cp nm x
  | [], _, h => absurd rfl h
  | [y], x, _ => rfl
  | y :: z :: r, x, _ => by
    have ih := lineC_snoc (z :: r) x (by simp)
    show cp nm y ++ 46 :: lineC nm ((z :: r) ++ [x]) = _
    rw [ih]
    show _ = (cp nm y ++ 46 :: lineC nm (z :: r)) ++ 46 :: cp nm x
    simp
theorem lineC_len (m : Menu nm) : ∀ r : List Nat, (lineC nm r).length ≤ 4 * r.length
  | [] => Nat.zero_le _
  | [x] => by have : (cp nm x).length ≤ 3 := by have := m.short x; simpa [Str.length] using this
              show (cp nm x).length ≤ 4 * 1; omega
  | x :: y :: r => by
    have h1 : (cp nm x).length ≤ 3 := by have := m.short x; simpa [Str.length] using this
    have ih := lineC_len m (y :: r)
    show (cp nm x ++ 46 :: lineC nm (y :: r)).length ≤ _
    rw [List.length_append, List.length_cons]
    rw [List.length_cons] at ih ⊢
    rw [List.length_cons]
    omega
theorem lineC_clean (m : Menu nm) : ∀ r : List Nat, ∀ c ∈ lineC nm r, c ≠ 58 ∧ c ≠ 10
  | [], c, h => by cases h
  | [x], c, h => ⟨(m.clean x c h).2.1, (m.clean x c h).2.2.1⟩
  | x :: y :: r, c, h => by
    rcases List.mem_append.mp (show c ∈ cp nm x ++ 46 :: lineC nm (y :: r) from h) with h | h
    · exact ⟨(m.clean x c h).2.1, (m.clean x c h).2.2.1⟩
    · rcases List.mem_cons.mp h with rfl | h
      · decide
      · exact lineC_clean m (y :: r) c h
theorem strip2_line {l t : List Nat} (hl : ∀ c ∈ l, c ≠ 58 ∧ c ≠ 10) (ht : t = [] ∨ ∃ r, t = 58 :: r ∨ t = 10 :: r) : strip2 (S (l ++ t)) = l.length := by
  have inl : ∀ k, k < l.length → (l ++ t)[k]? ≠ some 58 ∧ (l ++ t)[k]? ≠ some 10 := fun k hk => by
    rw [List.getElem?_append_left hk]
    exact ⟨fun q => (hl _ (List.mem_of_getElem? q)).1 rfl, fun q => (hl _ (List.mem_of_getElem? q)).2 rfl⟩
  have c1 : ((":" : Str)) = S [58] := by decide +kernel
  have c2 : (("\n" : Str)) = S [10] := by decide +kernel
  rcases ht with rfl | ⟨r, rfl | rfl⟩
  · rw [List.append_nil]
    have e1 : strip1 (S l) = (l.length : Nat) := by
      unfold strip1
      rw [c2]
      rcases find_one l 10 with ⟨e, _⟩ | ⟨i, e, a, _⟩
      · rw [e, if_neg (by decide), S_len]
      · exact absurd rfl (hl _ (List.mem_of_getElem? a)).2
    unfold strip2
    rw [e1, c1, find4_one_none (Nat.le_refl _) fun k hk q => (inl k hk).1 (by rw [List.append_nil]; exact q)]
    rfl
  · have hm : (l ++ 58 :: r)[l.length]? = some 58 := by simp
    have e1 : ∃ e : Nat, strip1 (S (l ++ 58 :: r)) = e ∧ l.length < e ∧ e ≤ (l ++ 58 :: r).length := by
      unfold strip1
      rw [c2]
      rcases find_one (l ++ 58 :: r) 10 with ⟨e, _⟩ | ⟨i, e, a, _⟩
      · rw [e, if_neg (by decide)]
        exact ⟨_, rfl, by rw [S_len]; simp, by rw [S_len]; exact Nat.le_refl _⟩
      · rw [e, if_pos (by omega)]
        refine ⟨i, rfl, ?_, Nat.le_of_lt (List.getElem?_eq_some_iff.mp a).1⟩
        rcases Nat.lt_trichotomy i l.length with w | w | w
        · exact absurd a (inl i w).2
        · rw [w, hm] at a; cases a
        · exact w
    obtain ⟨e, e1, h1, h2⟩ := e1
    unfold strip2
    rw [e1, c1, find4_one_at h2 h1 hm fun k hk => (inl k hk).1, if_pos (by omega)]
  · have hm : (l ++ 10 :: r)[l.length]? = some 10 := by simp
    have e1 : strip1 (S (l ++ 10 :: r)) = (l.length : Nat) := by
      unfold strip1
      rw [c2]
      rcases find_one (l ++ 10 :: r) 10 with ⟨e, q⟩ | ⟨i, e, a, q⟩
      · exact absurd hm (q _)
      · rw [e, if_pos (by omega)]
        have : i = l.length := by
          rcases Nat.lt_trichotomy i l.length with w | w | w
          · exact absurd a (inl i w).2
          · exact w
          · exact absurd hm (q _ w)
        rw [this]
    unfold strip2
    rw [e1, c1, find4_one_none (by simp) fun k hk => (inl k hk).1]
    rfl
theorem strip_line (m : Menu nm) {t : Str} (ht : TailOk t) (r : List Nat) (x : Nat) : stripD (line nm (r ++ [x]) ++ t) = nm x := by
  have c3 : (("." : Str)) = S [46] := by decide +kernel
  have nd : ∀ k : Nat, (cp nm x)[k]? ≠ some 46 := fun k q => (m.clean x _ (List.mem_of_getElem? q)).1 rfl
  unfold line stripD
  rw [← S_of t, S_app]
  unfold strip3
  rw [strip2_line (lineC_clean m _) ht.2, c3]
  cases r with
  | nil =>
    have e0 : rfind4 (S (cp nm x ++ t.cps.toList)) (S [46]) 0 ((cp nm x).length : Nat) = -1 := rfind4_one_none (by simp) fun k hk => by rw [List.getElem?_append_left hk]; exact nd k
    show Txt.slice (S (cp nm x ++ t.cps.toList)) (some (if 0 ≤ rfind4 (S (cp nm x ++ t.cps.toList)) (S [46]) 0 ((cp nm x).length : Nat) then _ else 0)) (some ((cp nm x).length : Nat)) = nm x
    rw [e0, if_neg (by decide)]
    show Txt.slice _ (some ((0 : Nat) : Int)) _ = _
    rw [slice_ss (Nat.zero_le _) (by simp)]
    simp [S_of]
  | cons y r =>
    have e : lineC nm ((y :: r) ++ [x]) = lineC nm (y :: r) ++ 46 :: cp nm x := lineC_snoc _ _ (by simp)
    rw [e]
    have hlen : (lineC nm (y :: r) ++ 46 :: cp nm x).length = (lineC nm (y :: r)).length + 1 + (cp nm x).length := by simp; omega
    have hat : rfind4 (S (lineC nm (y :: r) ++ 46 :: cp nm x ++ t.cps.toList)) (S [46]) 0 ((lineC nm (y :: r) ++ 46 :: cp nm x).length : Nat) = ((lineC nm (y :: r)).length : Nat) := by
      refine rfind4_one_at (by rw [List.length_append (as := lineC nm (y :: r) ++ 46 :: cp nm x)]; omega) (by omega) ?_ fun k h1 h2 => ?_
      · rw [List.getElem?_append_left (by omega), List.getElem?_append_right (Nat.le_refl _)]; simp
      · rw [List.getElem?_append_left h2, List.getElem?_append_right (by omega)]
        have : k - (lineC nm (y :: r)).length = (k - (lineC nm (y :: r)).length - 1) + 1 := by omega
        rw [this, List.getElem?_cons_succ]
        exact nd _
    rw [hat, if_pos (by omega)]
    show Txt.slice _ (some (((lineC nm (y :: r)).length + 1 : Nat) : Int)) _ = _
    rw [slice_ss (by omega) (by rw [List.length_append (as := lineC nm (y :: r) ++ 46 :: cp nm x)]; omega)]
    rw [show nm x = S (cp nm x) from (S_of _).symm]
    congr 1
    have e3 : (lineC nm (y :: r) ++ 46 :: cp nm x ++ t.cps.toList) = (lineC nm (y :: r) ++ [46]) ++ (cp nm x ++ t.cps.toList) := by simp
    rw [e3, List.drop_append_of_le_length (by simp)]
    rw [hlen, show (lineC nm (y :: r)).length + 1 + (cp nm x).length - ((lineC nm (y :: r)).length + 1) = (cp nm x).length by omega]
    rw [show (lineC nm (y :: r)).length + 1 = (lineC nm (y :: r) ++ [46]).length by simp, List.drop_length, List.nil_append]
    rw [List.take_append_of_le_length (Nat.le_refl _), List.take_length]
theorem cut_line (m : Menu nm) (r : List Nat) (x : Nat) : Txt.slice (line nm (r ++ [x])) none (some (-((nm x).length : Int) - 1)) = line nm r := by
  unfold line
  rw [show -((nm x).length : Int) - 1 = -(((nm x).length + 1 : Nat) : Int) by omega, slice_to_neg (by omega)]
  have hn : (nm x).length = (cp nm x).length := by simp [Str.length]
  cases r with
  | nil =>
    show S ((cp nm x).take ((cp nm x).length - _)) = S []
    rw [hn, show (cp nm x).length - ((cp nm x).length + 1) = 0 by omega]
    rfl
  | cons y r =>
    rw [lineC_snoc _ _ (by simp), hn]
    congr 1
    rw [List.length_append, List.length_cons, show (lineC nm (y :: r)).length + ((cp nm x).length + 1) - ((cp nm x).length + 1) = (lineC nm (y :: r)).length by omega]
    rw [List.take_append_of_le_length (Nat.le_refl _), List.take_length]
end
end Mine

namespace Mine

section
variable {T : Th} {k : Nat} {env : Env} {ρ : Rho} {R : Out → Prop}
theorem Ex1.try {body : List Stmt} {h₀ : ExceptHandler} {hs : List ExceptHandler} {pos : Pos} (h : Ex T k env body ρ R) : Ex1 T k env (.Try body (h₀ :: hs) [] [] pos) ρ R := fun A Z s Q E hA lo P hQ =>
  wpAny_Try_except (h A Z s _ _ hA lo P fun f s' o ho mv is => by
    cases o with
    | next ρ' =>
      obtain ⟨rfl, P'⟩ := is
      exact wpAny_execs_nil (hQ _ s' _ ho mv ⟨rfl, P'⟩)
    | brk ρ' =>
      obtain ⟨rfl, P'⟩ := is
      exact hQ _ s' _ ho mv ⟨rfl, P'⟩
    | cont ρ' =>
      obtain ⟨rfl, P'⟩ := is
      exact hQ _ s' _ ho mv ⟨rfl, P'⟩
    | ret d =>
      obtain ⟨v, rfl, P'⟩ := is
      exact hQ _ s' _ ho mv ⟨v, rfl, P'⟩)

theorem draw_zero {M : Model} {A : Around} {E : Value → Shared → Prop} {s : Shared} {it : Value} {Q : List Value → Shared → Prop} (h : Q [] s) : wpAny M A (draw it 0) Q E s := wpAny_pure h
/-- two out of a list of two -/
theorem unpack2 {A : Around} {E : Value → Shared → Prop} {s : Shared} {l : Addr} {v1 v2 : Value} {Q : List Value → Shared → Prop} (hh : A.handled = none) (hl : s.heap.IsList l [v1, v2].toArray)
    (hQ : ∀ h', (∀ b o, s.heap.get? b = some o → h'.get? b = some o) → Q [v1, v2] { s with heap := h' }) : wpAny (model T.prog T.w) A (unpackItems (.ref l) 2 none) Q E s := by
  have hne : ∀ b o, s.heap.get? b = some o → b ≠ s.heap.objs.size := fun b o e q => by rw [q, get?_size] at e; cases e
  have hlt : l ≠ s.heap.objs.size := by obtain ⟨o, ho, _⟩ := hl; exact hne _ _ ho
  unfold unpackItems
  refine wpAny_bind ?_
  unfold notIterableAtAll
  refine wpAny_bind (wpAny_specialOf hl.typeIs slot_list_iter.lookup ?_)
  refine wpAny_pure ?_
  simp only [Bool.false_eq_true, if_false]
  refine wpAny_bind (wpAny_holding (wpAny_pyIter_list hl ?_))
  have it0 : (s.heap.push { cls := .type "list_iterator", data := .fields #[.ref l, .int 0 0] }).IsListIter s.heap.objs.size l 0 := ⟨_, Heap.get?_push_size _ rfl, rfl, rfl⟩
  refine wpAny_bind (wpAny_holding ?_)
  show wpAny _ _ (pyNext (.ref s.heap.objs.size) >>= _) _ _ _
  refine wpAny_bind (wpAny_pyNext_list_item it0 (hl.push _) (x := v1) rfl fun h₁ it₁ hs₁ => ?_)
  refine wpAny_bind (wpAny_holding ?_)
  show wpAny _ _ (pyNext (.ref s.heap.objs.size) >>= _) _ _ _
  have hl₁ := (hl.push { cls := .type "list_iterator", data := .fields #[.ref l, .int 0 0] }).extBut hs₁.extBut hlt
  refine wpAny_bind (wpAny_pyNext_list_item it₁ hl₁ (x := v2) rfl fun h₂ it₂ hs₂ => ?_)
  refine wpAny_bind (wpAny_holding (draw_zero (wpAny_pure (wpAny_pure ?_))))
  rw [if_neg (by simp)]
  refine wpAny_bind (wpAny_holding (wpAny_pyNext_list_end hh it₂ (hl₁.extBut hs₂.extBut hlt) (by simp) fun h₃ hb₃ => ?_))
  simp only [Option.isSome_none, Bool.false_eq_true, if_false]
  exact wpAny_pure (hQ h₃ fun b o e => hb₃ b o (hne b o e) (hs₂.extBut b o (hne b o e) (hs₁.extBut b o (hne b o e) (Heap.get?_push_of_some _ e))))
theorem Ex1.unpackL {a b : Str} {pa pb tp pos : Pos} {i : Nat} {value : Expr} {d₁ d₂ : D} (h : Ev T k env value ρ (.lst [d₁, d₂])) (hm : (D.lst [d₁, d₂]).nm = true) (ha : IsVar env a) (hb : IsVar env b) (hR : R (.next ((b, d₂) :: (a, d₁) :: ρ)))
    (hs : swapsWithSole [.Tuple [.Name a pa, .Name b pb] i tp] value pos.line env = pure false) (hw : swappedStores [.Tuple [.Name a pa, .Name b pb] i tp] value env = pure none) :
    Ex1 T k env (.Assign [.Tuple [.Name a pa, .Name b pb] i tp] value pos) ρ R := fun A Z s Q E hA lo P hQ =>
  PyProof.Rows.Assign_Tuple (h A Z s _ _ hA P.toPre fun v s₁ k₁ r₁ => by
    obtain ⟨ta, vs, rfl, nx, ht, rl⟩ := r₁.lst_inv
    obtain ⟨v1, v2, rfl, r1, r2⟩ := rl.two
    have hm2 : d₁.nm = true ∧ d₂.nm = true := by simpa [D.nm, nmL] using hm
    have P1 := P.kp k₁
    rw [arm_assign_Tuple]
    refine wpAny_bind (wpAny_standAt ?_)
    unfold unpack
    rw [show (assignEach [.Name a pa, .Name b pb] env).length = 2 from rfl, show (assignEach [.Name a pa, .Name b pb] env).findIdx? (·.1) = none from rfl]
    refine wpAny_bind (wpAny_holding (unpack2 hA.1 ht fun h' hk => ?_))
    have k1 : Kp T s₁ { s₁ with heap := h' } := Kp.of (tk := s₁.toks) hk
    rw [show (assignEach [.Name a pa, .Name b pb] env).map (·.2) = [PySem.assign (.Name a pa) env, PySem.assign (.Name b pb) env] from rfl, assignInOrder]
    refine wpAny_bind (wpAny_holding (wpAny_assign_Name (store_wp lo (P1.kp k1) ha (r1.hk k1.hk) fun s₂ m₂ P₂ => ?_)))
    rw [assignInOrder]
    have r2' : Rep Z s₂.heap v2 d₂ := (r2.hk k1.hk).mv (.frame (P1.kp k1).f (P1.kp k1).z) m₂.hk _ _ hm2.2
    refine wpAny_bind (wpAny_holding (wpAny_assign_Name (store_wp lo P₂ hb r2' fun s₃ m₃ P₃ => wpAny_pure ?_)))
    exact hQ _ s₃ _ hR (.trans (.of_kp (k₁.trans k1)) (m₂.trans m₃)) ⟨rfl, P₃⟩) hs hw
end

theorem sig6 : Sig 6 ["localetuple"] where
  of := rfl
  bind := fun vs pm code doc h => by
    match vs, h with
    | [x], _ => rfl
  nodup := by decide
  kinds := by decide
  co := rfl
  gen := rfl
  kind := rfl
/-- a locale's name out of a language, or none of it, and an encoding, or none of it -/
noncomputable def langD : Option Str → Str
  | none => "C"
  | some x => x
noncomputable def strO : Option Str → D
  | none => .none
  | some x => .str x
noncomputable def builtD (l e : Option Str) : Str := match e with
  | none => langD l
  | some y => langD l ++ "." ++ y
section
variable {T : Th} {k : Nat} {a : Addr}
theorem build_tail {env : Env} {ρ : Rho} {l e : Option Str} {R : Out → Prop} (hl : ρ.lookup (Str.ofString "language") = some (.str (langD l))) (he : ρ.lookup (Str.ofString "encoding") = some (strO e)) (hs : (langD l).length ≤ 4096 ∧ ∀ y, e = some y → y.length ≤ 4096)
    {p1 p2 p3 p4 p5 p6 p7 p8 p9 p10 p11 pos : Pos} {i1 i2 : Nat} (hR : R (.ret (.str (builtD l e)))) :
    Ex T k env [.If (.Compare (.Name "encoding" p1) [.Is] [.Constant .none i1 p2] p3) [.Return (some (.Name "language" p4)) p5] [.Return (some (.BinOp (.BinOp (.Name "language" p6) .Add (.Constant (.str ".") i2 p7) p8) .Add (.Name "encoding" p9) p10)) p11] pos] ρ R := by
  refine Ex.cons (Ex1.ife (EvB.cmp (Ev.name he rfl rfl) Ev.cnone CmpR.isNone rfl) (fun hc => ?_) fun hc => ?_)
  · cases e with
    | some y => cases hc
    | none => exact Ex.cons (Ex1.ret (Ev.name hl rfl rfl) hR)
  · cases e with
    | none => cases hc
    | some y =>
      have hd : ((Str.ofString ".").length) = 1 := by decide +kernel
      refine Ex.cons (Ex1.ret (Ev.bin (Ev.bin (Ev.name hl rfl rfl) Ev.cstr (BinR.addS (by rw [hd]; have := hs.1; omega))) (Ev.name he rfl rfl) (BinR.addS ?_)) hR)
      have : (langD l ++ Str.ofString ".").length = (langD l).length + 1 := by
        show (Str.append _ _).length = _
        simp [Str.append, Str.length] at hd ⊢
        omega
      have h1 := hs.1
      have h2 := hs.2 y rfl
      omega
theorem fn_buildT {l e : Option Str} (lo : Low T) (f : IsFn T 6 a) (hs : (langD l).length ≤ 4096 ∧ ∀ y, e = some y → y.length ≤ 4096) : CallR T (k + 1) (.ref a) [.tup [strO l, strO e]] (.str (builtD l e)) :=
  fn_of lo sig6 f rfl (by cases l <;> cases e <;> rfl) rfl fun pm code doc L _ => by
    refine Ex.cons (Ex1.try (Ex.cons (Ex1.unpackT (Ev.name rfl rfl rfl) (by cases l <;> cases e <;> rfl) (.inl rfl) (.inl rfl) ?_ rfl rfl)))
    refine Ex.cons (Ex1.ifSet (d := .str (langD l)) (EvB.cmp (Ev.name rfl rfl rfl) Ev.cnone CmpR.isNone rfl) (fun hc => ?_) (fun hc => ?_) (.inl rfl) ?_ rfl)
    · cases l with
      | some x => cases hc
      | none => exact Ev.cstr
    · cases l with
      | none => cases hc
      | some x => rfl
    exact build_tail (l := l) (e := e) rfl rfl hs rfl
theorem fn_buildL {l e : Option Str} (lo : Low T) (f : IsFn T 6 a) (hs : (langD l).length ≤ 4096 ∧ ∀ y, e = some y → y.length ≤ 4096) : CallR T (k + 1) (.ref a) [.lst [strO l, strO e]] (.str (builtD l e)) :=
  fn_of lo sig6 f rfl (by cases l <;> cases e <;> rfl) rfl fun pm code doc L _ => by
    refine Ex.cons (Ex1.try (Ex.cons (Ex1.unpackL (Ev.name rfl rfl rfl) (by cases l <;> cases e <;> rfl) (.inl rfl) (.inl rfl) ?_ rfl rfl)))
    refine Ex.cons (Ex1.ifSet (d := .str (langD l)) (EvB.cmp (Ev.name rfl rfl rfl) Ev.cnone CmpR.isNone rfl) (fun hc => ?_) (fun hc => ?_) (.inl rfl) ?_ rfl)
    · cases l with
      | some x => cases hc
      | none => exact Ev.cstr
    · cases l with
      | none => cases hc
      | some x => rfl
    exact build_tail (l := l) (e := e) rfl rfl hs rfl
end

theorem sig8 : Sig 8 ["one", "two"] where
  of := rfl
  bind := fun vs pm code doc h => by
    match vs, h with
    | [x, y], _ => rfl
  nodup := by decide
  kinds := by decide
  co := rfl
  gen := rfl
  kind := rfl
noncomputable def pairD (x : Str) : Option Str → Str
  | none => x
  | some y => x ++ "." ++ y
theorem built_pair (x : Str) (e : Option Str) : builtD (if x == "C" then none else some x) e = pairD x e := by
  cases h : (x == ("C" : Str)) with
  | true =>
    have : x = "C" := by simpa using h
    subst this
    cases e <;> rfl
  | false => cases e <;> rfl
section
variable {T : Th} {k : Nat} {a : Addr}
theorem fn_pair {x : Str} {e : Option Str} (N : Nm T) (lo : Low T) {b : Addr} (fb : IsFn T 6 b) (f : IsFn T 8 a) (hx : x.length ≤ 4096) (he : ∀ y, e = some y → y.length ≤ 4096) : CallR T (k + 2) (.ref a) [.str x, strO e] (.str (pairD x e)) :=
  fn_of lo sig8 f rfl (by cases e <;> rfl) rfl fun pm code doc L _ => by
    have hl : (langD (if x == "C" then none else some x)).length ≤ 4096 := by
      cases h : (x == ("C" : Str)) with
      | true => show (Str.ofString "C").length ≤ 4096; decide +kernel
      | false => exact hx
    refine Ex.cons (Ex1.assign (d := .tup [strO (if x == "C" then none else some x), strO e]) (Ev.tuple (EvL.cons (Ev.ite (EvB.cmp (Ev.name rfl rfl rfl) Ev.cstr CmpR.eqS rfl) (fun hc => ?_) fun hc => ?_) (EvL.cons (Ev.name rfl rfl rfl) EvL.nil rfl) rfl) (by simp)) (.inl rfl) ?_)
    · rw [hc]; exact Ev.cnone
    · rw [hc]; exact Ev.name rfl rfl rfl
    rw [← built_pair x e]
    cases e with
    | none =>
      refine Ex.cons (Ex1.ret (Ev.call ge_at (.inl fb) (fb.callee sig6) rfl rfl (EvL.cons (d := .lst [strO (if x == "C" then none else some x), strO none]) (Ev.ite (c := false) (EvB.cmp (Ev.name rfl rfl rfl) Ev.cnone CmpR.isNotNone rfl) (fun hc => by cases hc) fun _ => ?_) EvL.nil rfl) rfl rfl (fn_buildL lo fb ⟨hl, he⟩)) rfl)
      exact Ev.call ge_at (gv_list N) callee_t rfl rfl (EvL.cons (Ev.name rfl rfl rfl) EvL.nil rfl) rfl rfl (CallR.listT (by simp))
    | some y =>
      refine Ex.cons (Ex1.ret (Ev.call ge_at (.inl fb) (fb.callee sig6) rfl rfl (EvL.cons (d := .tup [strO (if x == "C" then none else some x), strO (some y)]) (Ev.ite (c := true) (EvB.cmp (Ev.name rfl rfl rfl) Ev.cnone CmpR.isNotNone rfl) (fun _ => Ev.name rfl rfl rfl) fun hc => by cases hc) EvL.nil rfl) rfl rfl (fn_buildT lo fb ⟨hl, he⟩)) rfl)
end
end Mine

namespace Mine

section
variable {T : Th} {k : Nat} {env : Env} {ρ : Rho} {R : Out → Prop}
/-- an item goes onto a list of the frame's own -/
theorem Ex1.appendM {x : Str} {px apos pos epos : Pos} {e : Expr} {ds : List D} {d : D} (h0 : ρ.lookup x = some (.mut ds)) (hx1 : (x == ("__debug__" : Str)) = false) (hx2 : (x == ("__classdict__" : Str)) = false)
    (ho : ∀ y d', ρ.lookup y = some d' → y ≠ x → d'.nm = true) (hds : nmL ds = true) (h : Ev T k env e ρ d) (hm : d.nm = true) (hlen : ds.length ≤ 4096)
    (hbase : attributeBase (.Name x px) "append" env (eval (.Name x px) env) = eval (.Name x px) env)
    (he : starEach [e] env = [(false, eval e env)]) (hp : (backTo pos (starEach [e] env)).any (·.1) = false)
    (hfew : ((backTo pos (starEach [e] env)).all (fun x => !x.1) && (backToKw pos (keywordEach [] env)).all (fun x => x.1.isSome) && decide ([e].length + ([] : List Keyword).length + (if ([] : List Keyword).isEmpty then 0 else 1) < 30)) = true)
    (hline : (apos.endLine == pos.line) = true) (hi : interactive env = false) (hsw : swapsWith (.Call (.Attribute (.Name x px) "append" apos) [e] [] pos) none epos.line env = pure false)
    (hR : R (.next ((x, .mut (ds ++ [d])) :: ρ))) : Ex1 T k env (.Expr (.Call (.Attribute (.Name x px) "append" apos) [e] [] pos) epos) ρ R := fun A Z s Q E hA lo P hQ => by
  obtain ⟨v, a0, r₁⟩ := P.s.has x _ h0
  refine wpAny_Expr_any (wpAny_Call_method_lateS hbase hfew hline (wpAny_Name (load_has P.s.kind hx2 a0 ?_) hx1)) hi hsw
  obtain ⟨a, vs, rfl, hy, hl, rl⟩ := r₁.mut_inv
  have P₁ := P
  refine ⟨"list", "list.append", F.plainAttrs_list, slot_list_append, type_list_append, hl.isList.typeIs, fun b e => by cases e; obtain ⟨o, e, _, q, _⟩ := hl; exact ⟨o, e, q⟩, ?_⟩
  refine callWith_of (T := T) (.inl ⟨_, rfl⟩) he hp (EvL.cons h .nil he A Z s pos _ _ hA P₁.toPre fun ws s₂ k₂ r₂ => ⟨(P₁.kp k₂).g, ?_⟩)
  obtain ⟨w, rfl, rw'⟩ := r₂.one
  have P₂ := P₁.kp k₂
  have hl₂ := k₂.hk.isListM hl
  have rl₂ := rl.hk k₂.hk
  obtain ⟨o, eo, hc, hdn, n, hd⟩ := id hl₂
  refine wpAny_call_entry slot_list_append hl₂.isList.typeIs entry_list_append ?_ (args_list_append _ _)
  show wpAny _ _ (updateSeq a (·.push w) >>= fun _ => PySem.ret .none) _ _ s₂
  refine wpAny_bind (wpAny_updateSeq eo hd (wpAny_pure ⟨.none, rfl, ?_⟩) (by rw [List.size_toArray, rl₂.length, sizeLine_eq]; omega) (by rw [Array.size_push, List.size_toArray, rl₂.length, sizeLine_eq]; omega))
  obtain ⟨n', hd'⟩ := Obj.data_mapSeq hd (·.push w)
  have hs := Heap.SameBut.update s₂.heap a (Obj.mapSeq (·.push w))
  have hb := hs.extBut
  have eo' : (s₂.heap.update a (Obj.mapSeq (·.push w))).get? a = some (Obj.mapSeq (·.push w) o) := Heap.get?_update_self _ eo (Obj.isFreed_of_seq hd')
  have hM : IsListM (s₂.heap.update a (Obj.mapSeq (·.push w))) a (vs ++ [w]).toArray := by
    refine ⟨_, eo', (Obj.cls_mapSeq ..).trans hc, ?_, n', by rw [hd']; simp⟩
    obtain ⟨c, dd, dt, sl⟩ := o
    simp only at hd hdn
    subst hd hdn
    rfl
  generalize s₂.heap.update a (Obj.mapSeq (·.push w)) = h' at hb hM hs eo' ⊢
  have zx := P₂.z.y a hy
  have l : Loose T o a := .seq hd
  have nD : ∀ {b m}, s₂.heap.Ns b m → b ≠ a := fun hn q => by
    obtain ⟨es', ep, hd''⟩ := ns_dict eo (q ▸ hn)
    rw [hd] at hd''; cases hd''
  have hcell : ∀ {b v}, s₂.heap.IsCell b v → h'.IsCell b v := fun ⟨oc, e, hdc⟩ => ⟨oc, hb _ oc (fun q => by rw [q, eo] at e; cases e; rw [hd] at hdc; cases hdc) e, hdc⟩
  have off : OffX Z (fun b => b = a) s₂.heap := ⟨fun _ nx q => nx (q ▸ zx), fun _ nx q => nx (q ▸ zx)⟩
  have hk : HKx (fun b => b = a) T.n s₂.heap h' := fun b o e t nx => .inl (hb b o nx e)
  refine hQ _ { s₂ with heap := h' } _ hR (.trans (.of_kp k₂) ⟨h', s₂.toks, rfl, fun b o e t nx => .inl (hb b o (fun q => nx (.inr (.inr (q ▸ hy)))) e), fun x => x.sameBut l eo hb⟩)
    ⟨rfl, ⟨⟨P₂.g.sameBut lo l eo hb fun q => by obtain ⟨m, hf⟩ := P₂.g.fr; exact absurd q.symm (nD hf), ⟨fun b hb' => ?_, P₂.z.y⟩, P₂.s.kind, fun y d' e' => ?_, fun n c e' => let ⟨v, i⟩ := P₂.s.cells n c e'; ⟨v, hcell i⟩⟩,
      let ⟨m, x⟩ := P₂.f.ns; ⟨m, x.extBut hb (nD x)⟩, fun n c e' => let ⟨v, i⟩ := P₂.f.cell n c e'; ⟨v, hcell i⟩, P₂.f.apart, P₂.f.low⟩⟩
  · obtain ⟨ob, e, t⟩ := P₂.z.x b hb'
    by_cases q : b = a
    · exact ⟨_, q ▸ eo', .seq hd'⟩
    · exact ⟨ob, hb b ob q e, t⟩
  · have has : ∀ {y v}, Has env s₂.heap y v → Has env h' y v := fun {y v} a' => by
      rcases a' with ⟨e1, m1, n1, q1⟩ | ⟨e1, c1, l1, i1⟩
      · exact .inl ⟨e1, m1, n1.extBut hb (nD n1), q1⟩
      · exact .inr ⟨e1, c1, l1, hcell i1⟩
    rw [List.lookup_cons] at e'
    by_cases q : y = x
    · subst q
      simp only [beq_self_eq_true] at e'
      cases e'
      refine ⟨_, has (a0.hk k₂.hk), ?_⟩
      rw [Rep]
      exact ⟨a, vs ++ [w], rfl, hy, hM, (rl₂.mv off hk _ _ hds).append (.cons (rw'.mv off hk _ _ hm) .nil)⟩
    · have q' : (y == x) = false := by simpa using q
      rw [q'] at e'
      obtain ⟨v', a', r'⟩ := P₂.s.has y d' e'
      exact ⟨v', has a', r'.mv off hk _ _ (ho y d' e' q)⟩
end

/-- a def whose first statement makes a list that it goes on to change -/
theorem fn_ofM {T : Th} {k n : Nat} {a : Addr} {names : List Str} {ds es : List D} {x : Str} {px lp pos : Pos} {rest : List Stmt} (lo : Low T) (sg : Sig n names) (f : IsFn T n a) (hlen : ds.length = names.length) (hnm : nmL ds = true) (hdm : nmL es = true)
    (hbody : bodyAt n = .Assign [.Name x px] (.List [] lp) pos :: rest) (hx : (scopeAt n).names.lookup x = some .local)
    (h : ∀ (pm code doc : Value) (L : Addr), Ex T k (envAt n pm code doc L a) rest ((x, .mut []) :: names.zip ds) (fun o => o = .ret (.lst es) ∨ o = .ret (.mut es))) : CallR T (k + 1) (.ref a) ds (.lst es) :=
  fn_enter lo sg f hlen hnm hdm fun pm code doc L A Z s Q E hA hZ P hcode hQ => by
    rw [hbody]
    refine wpAny_execs_cons (wpAny_Assign_Name (wpAny_List (wpAny_items_nil ⟨Nat.zero_le _, ?_⟩)) rfl)
    have kp : Kp T s { s with heap := s.heap.push { cls := .type "list", data := .seq ([] : List Value).toArray } } := .push
    generalize hD : s.heap.objs.size = Dx
    have hDn : s.heap.get? Dx = none := by rw [← hD]; exact get?_size _
    have eD : (s.heap.push { cls := .type "list", data := .seq ([] : List Value).toArray }).get? Dx = some { cls := .type "list", data := .seq ([] : List Value).toArray } := by rw [← hD]; exact Heap.get?_push_size _ rfl
    let Z' : Zo := ⟨fun b => Z.x b ∨ b = Dx, fun b => b = Dx⟩
    have zx : ∀ b, Z'.x b → (s.heap.get? b).isSome = true → Z.x b := fun b hb hs => hb.elim id fun q => by rw [q, hDn] at hs; cases hs
    have P₁ := P.kp kp
    have sees : Sees Z' (envAt n pm code doc L a) s.heap (names.zip ds) := ⟨P.s.kind, fun y d e => let ⟨v, b, r⟩ := P.s.has y d e; ⟨v, b, r.zone2 zx fun b q => absurd q (hZ b)⟩, P.s.cells⟩
    have P₁' : St T Z' (envAt n pm code doc L a) (names.zip ds) { s with heap := s.heap.push { cls := .type "list", data := .seq ([] : List Value).toArray } } :=
      ⟨⟨P₁.g, ⟨fun b hb => by
        rcases hb with hb | hb
        · exact P₁.z.x b hb
        · exact ⟨_, hb ▸ eD, .seq rfl⟩, fun b q => .inr q⟩, sees.hk kp.hk⟩, P₁.f⟩
    refine store_wp (d := .mut []) lo P₁' (.inl hx) (by rw [Rep]; exact ⟨Dx, [], rfl, rfl, ⟨_, eD, rfl, rfl, _, rfl⟩, .nil⟩) fun s₂ m₂ P₂ => ?_
    refine h pm code doc L A Z' s₂ _ _ hA lo P₂ fun fl s' o ho mv is => ?_
    have mv' : MvX T (FrP (envAt n pm code doc L a) Z) s s' := MvX.drop (I := Dx) kp (.none hDn) ((m₂.trans mv).mono fun b q => by
      rcases q with q | q | q
      · exact .inl (.inl q)
      · exact .inl (.inr (.inl q))
      · exact .inr q)
    rcases ho with rfl | rfl
    · obtain ⟨v, rfl, _, _, r⟩ := is
      exact hQ _ _ mv' (Rep.zone (Z := Z') (Z' := Z) (fun b q _ => .inl q) _ _ hdm r)
    · obtain ⟨v, rfl, _, _, r⟩ := is
      obtain ⟨b, vs, rfl, hb, hl, rl⟩ := r.mut_inv
      refine hQ _ _ mv' ?_
      rw [Rep]
      have hb' : b = Dx := hb
      exact ⟨b, vs, rfl, fun q => (Fresh.none (s := s) hDn).zo P.z (hb' ▸ q), hl.isList, RepL.zone (Z := Z') (Z' := Z) (fun b q _ => .inl q) _ _ hdm rl⟩
end Mine

namespace Mine

noncomputable def forBody : Stmt → List Stmt
  | .For _ _ b _ _ => b
  | _ => []
noncomputable def forTg : Stmt → Expr
  | .For t _ _ _ _ => t
  | _ => default
theorem lineLen {nm : Nat → Str} (m : Menu nm) (r : List Nat) : (line nm r).length ≤ 4 * r.length := by
  unfold line; rw [S_len]; exact lineC_len m r
theorem app_len (x y : Str) : (x ++ y).length = x.length + y.length := by
  show (Str.append x y).length = _
  simp [Str.append, Str.length]
noncomputable def strL (nm : Nat → Str) (r : List Nat) : List D := r.map fun i => .str (nm i)
theorem strL_nm {nm : Nat → Str} (r : List Nat) : nmL (strL nm r) = true := nmL_map _ (fun _ => rfl) r
theorem strL_len {nm : Nat → Str} (r : List Nat) : (strL nm r).length = r.length := by simp [strL]

noncomputable abbrev Lk (ρ : Rho) (x : Str) (d : D) : Prop := ρ.lookup x = some d
theorem sig10 : Sig 10 ["line", "many", "tail"] where
  of := rfl
  bind := fun vs pm code doc h => by
    match vs, h with
    | [x, y, z], _ => rfl
  nodup := by decide
  kinds := by decide
  co := rfl
  gen := rfl
  kind := rfl
section
variable {T : Th} {k : Nat} {a : Addr} {nm : Nat → Str} {t : Str}
theorem read_loop {pm code doc : Value} {L : Addr} {R : Out → Prop} (N : Nm T) (lo : Low T) {b : Addr} (fb : IsFn T 3 b) (m : Menu nm) (ht : TailOk t) (whole : List Nat) (hw : whole.length ≤ 64)
    (hR : ∀ ρ : Rho, Lk ρ "names" (.lst (strL nm whole)) → R (.next ρ)) :
    ∀ (rr g : List Nat) (c : Int) (ρ : Rho), rr.reverse ++ g = whole → Lk ρ "names" (.lst (strL nm g)) → Lk ρ "line" (.str (line nm rr.reverse)) → Lk ρ "tail" (.str t) →
      ForD T (k + 1) (envAt 10 pm code doc L a) (forTg ((bodyAt 10).getD 1 default)) (forBody ((bodyAt 10).getD 1 default)) R (rangeD c rr.length) ρ
  | [], g, c, ρ, hw', h1, h2, h3 => hR ρ (by simp at hw'; rw [← hw']; exact h1)
  | x :: rr, g, c, ρ, hw', h1, h2, h3 => by
    refine ⟨_, rfl, ?_⟩
    have hlen : rr.length + 1 + g.length ≤ 64 := by have := congrArg List.length hw'; simp at this; omega
    have hl : (line nm (x :: rr).reverse).length ≤ 256 := Nat.le_trans (lineLen m _) (by simp; omega)
    have ht1 := ht.1
    have hx := m.short x
    refine Ex.cons (Ex1.assign (d := .lst (strL nm (x :: g))) (Ev.bin (d₁ := .lst [.str (nm x)]) (Ev.list (EvL.cons (Ev.call (d := .str (nm x)) ge_at (.inl fb) (fb.callee sig3) rfl rfl
      (EvL.cons (Ev.bin (Ev.name (d := .str (line nm (x :: rr).reverse)) h2 rfl rfl) (Ev.name (d := .str t) h3 rfl rfl) (BinR.addS (by omega))) EvL.nil rfl) rfl rfl ?_) EvL.nil rfl) (by simp)) (Ev.name (d := .lst (strL nm g)) h1 rfl rfl) (BinR.addL (by rw [strL_len]; simp; omega))) (.inl rfl) ?_)
    · have e := strip_line m ht rr.reverse x
      rw [← e, List.reverse_cons]
      exact fn_strip N lo fb (by rw [app_len, ← List.reverse_cons]; omega)
    refine Ex.cons (Ex1.assign (d := .str (line nm rr.reverse)) ?_ (.inl rfl) ?_)
    · have e := cut_line m rr.reverse x
      rw [← e, ← List.reverse_cons]
      refine Ev.scut (Ev.name h2 rfl rfl) (Ev.bin (Ev.un (Ev.call ge_at (gv_len N) callee_b rfl rfl (EvL.cons (Ev.idx (d := .str (nm x)) (Ev.name rfl rfl rfl) Ev.cint (by decide) (by decide) rfl fun _ _ => rfl) EvL.nil rfl) rfl rfl (CallR.lenS (by omega))) UnR.neg) Ev.cint BinR.subI) (by omega)
    refine Ex.nil ?_
    exact read_loop N lo fb m ht whole hw hR rr (x :: g) (c + 1) _ (by rw [← hw']; simp) rfl rfl h3
theorem fn_read {r : List Nat} (N : Nm T) (lo : Low T) {b : Addr} (fb : IsFn T 3 b) (f : IsFn T 10 a) (m : Menu nm) (ht : TailOk t) (hr : r.length ≤ 64) : CallR T (k + 2) (.ref a) [.str (line nm r), .int r.length, .str t] (.lst (strL nm r)) :=
  fn_of lo sig10 f rfl rfl (strL_nm r) fun pm code doc L _ => by
    refine Ex.cons (Ex1.assign (d := .lst []) (Ev.list EvL.nil (by simp)) (.inl rfl) ?_)
    refine Ex.cons (Ex1.forl (EvI.range1 ge_at (gv_range N) rfl (Ev.name rfl rfl rfl) (by omega) (by omega) rfl) (.inl rfl) ?_)
    have := read_loop (T := T) (k := k) (a := a) (pm := pm) (code := code) (doc := doc) (L := L) N lo fb m ht r hr (R := fun o => match o with
      | .next ρ' => Ex T (k + 1) (envAt 10 pm code doc L a) ((bodyAt 10).drop 2) ρ' (fun o => o = .ret (.lst (strL nm r)))
      | o => o = .ret (.lst (strL nm r))) (fun ρ h => Ex.cons (Ex1.ret (Ev.name h rfl rfl) rfl)) r.reverse [] 0
      ((("names" : Str), D.lst []) :: ((["line", "many", "tail"] : List Str).zip [.str (line nm r), .int r.length, .str t])) (by simp) rfl (by rw [List.reverse_reverse]; rfl) rfl
    rw [List.length_reverse] at this
    exact this
end

/-! laying a name into the lines -/
noncomputable def popR (x : Nat) : List Nat → List Nat → List Nat × List Nat
  | [], g => ([], g)
  | y :: rr, g => if x < y then popR x rr (y :: g) else (y :: rr, g)
noncomputable def insR (x : Nat) (r : List Nat) : List Nat × Option Nat := ((popR x r.reverse []).1.reverse ++ x :: (popR x r.reverse []).2.tail, (popR x r.reverse []).2.head?)
noncomputable def laidL : List (List Nat) → Option Nat → List (List Nat)
  | [], none => []
  | [], some x => [[x]]
  | r :: rs, none => r :: laidL rs none
  | r :: rs, some x => (insR x r).1 :: laidL rs (insR x r).2
noncomputable def rowD (nm : Nat → Str) (r : List Nat) : D := .tup [.str (line nm r), .int r.length]
noncomputable def nameD (nm : Nat → Str) (o : Option Nat) : D := strO (o.map nm)
theorem nameD_nm {nm : Nat → Str} {o : Option Nat} : (nameD nm o).nm = true := by cases o <;> rfl
theorem popR_len (x : Nat) : ∀ (rr g : List Nat), (popR x rr g).1.length + (popR x rr g).2.length = rr.length + g.length
  | [], g => by simp [popR]
  | y :: rr, g => by
    rw [popR]
    split
    · rw [popR_len x rr (y :: g)]; simp; omega
    · simp
theorem popR_mem (x : Nat) {P : Nat → Prop} : ∀ (rr g : List Nat), (∀ y ∈ rr, P y) → (∀ y ∈ g, P y) → (∀ y ∈ (popR x rr g).1, P y) ∧ ∀ y ∈ (popR x rr g).2, P y
  | [], g, h1, h2 => ⟨h1, h2⟩
  | y :: rr, g, h1, h2 => by
    rw [popR]
    split
    · exact popR_mem x rr (y :: g) (fun z hz => h1 z (.tail _ hz)) fun z hz => by
        rcases List.mem_cons.mp hz with rfl | hz
        · exact h1 _ (.head _)
        · exact h2 z hz
    · exact ⟨h1, h2⟩
theorem collD_nm {nm : Nat → Str} (m : Menu nm) {x y : Nat} (hx : x < 3) (hy : y < 3) : collD (nm y) (nm x) = if x < y then 1 else if y < x then -1 else 0 := by
  unfold collD
  by_cases h1 : x < y
  · rw [if_pos h1, decide_eq_true ((m.lt x y hx hy).mpr h1), decide_eq_false (fun q => by have := (m.lt y x hy hx).mp q; omega)]; rfl
  · rw [if_neg h1, decide_eq_false (fun q => h1 ((m.lt x y hx hy).mp q))]
    by_cases h2 : y < x
    · rw [if_pos h2, decide_eq_true ((m.lt y x hy hx).mpr h2)]; rfl
    · rw [if_neg h2, decide_eq_false (fun q => h2 ((m.lt y x hy hx).mp q))]; rfl
theorem cut1 (l : List D) (h : l.length ≤ 64) : cutL l (some 1) none none = l.drop 1 := by
  have : ∀ n, n ≤ 64 → sliceRange (sliceBounds (some 1) none none n).1 (sliceBounds (some 1) none none n).2.1 (sliceBounds (some 1) none none n).2.2 = (List.range' 1 (n - 1)) := by decide +kernel
  unfold cutL
  rw [this _ h]
  have key : ∀ (l : List D) (j : Nat) (w : List D), (∀ i, w[j + i]? = l[i]?) → (List.range' j l.length).filterMap (w[·]?) = l := by
    intro l
    induction l with
    | nil => intro j w _; rfl
    | cons d l ih =>
      intro j w hw
      have h0 := hw 0
      simp at h0
      rw [List.length_cons, List.range'_succ, List.filterMap_cons, h0]
      simp only
      rw [ih (j + 1) w fun i => by have := hw (i + 1); rw [show j + (i + 1) = j + 1 + i by omega] at this; simpa using this]
  cases l with
  | nil => rfl
  | cons d l =>
    have := key l 1 (d :: l) fun i => by rw [Nat.add_comm]; simp
    simpa using this
theorem line_snoc {nm : Nat → Str} (c : List Nat) (o : Nat) : line nm (c ++ [o]) = if c.length = 0 then nm o else pairD (line nm c) (some (nm o)) := by
  have c3 : (("." : Str)) = S [46] := by decide +kernel
  cases c with
  | nil => exact S_of _
  | cons y c =>
    rw [if_neg (by simp)]
    show S (lineC nm ((y :: c) ++ [o])) = S (lineC nm (y :: c)) ++ "." ++ nm o
    rw [lineC_snoc _ _ (by simp), c3, S_app, show nm o = S (cp nm o) from (S_of _).symm, S_app]
    simp

theorem sig9 : Sig 9 ["lines", "name", "tail"] where
  of := rfl
  bind := fun vs pm code doc h => by
    match vs, h with
    | [x, y, z], _ => rfl
  nodup := by decide
  kinds := by decide
  co := rfl
  gen := rfl
  kind := rfl
noncomputable def laidBody : List Stmt := forBody ((bodyAt 9).getD 1 default)
section
variable {T : Th} {k : Nat} {a : Addr} {nm : Nat → Str} {t : Str} {pm code doc : Value} {L : Addr}
theorem pop_loop {R : Out → Prop} (N : Nm T) (lo : Low T) {b c : Addr} (fb : IsFn T 3 b) (fc : IsFn T 5 c) (m : Menu nm) (ht : TailOk t) {x : Nat} (hx : x < 3) (many : D) (made lines : D) :
    ∀ (rr g : List Nat) (i : Int) (ρ : Rho), rr.length + g.length ≤ 64 → (∀ y ∈ rr, y < 3) → Lk ρ "gone" (.lst (strL nm g)) → Lk ρ "line" (.str (line nm rr.reverse)) → Lk ρ "tail" (.str t) → Lk ρ "name" (.str (nm x)) → Lk ρ "many" many → Lk ρ "made" made →
      (∀ ρ' : Rho, Lk ρ' "gone" (.lst (strL nm (popR x rr g).2)) → Lk ρ' "line" (.str (line nm (popR x rr g).1.reverse)) → Lk ρ' "tail" (.str t) → Lk ρ' "name" (.str (nm x)) → Lk ρ' "many" many → Lk ρ' "made" made → R (.next ρ')) →
      ForD T (k + 1) (envAt 9 pm code doc L a) (forTg (laidBody.getD 1 default)) (forBody (laidBody.getD 1 default)) R (rangeD i rr.length) ρ
  | [], g, i, ρ, _, _, h1, h2, h3, h4, h5, h6, hR => hR ρ h1 h2 h3 h4 h5 h6
  | y :: rr, g, i, ρ, hlen, hy, h1, h2, h3, h4, h5, h6, hR => by
    refine ⟨_, rfl, ?_⟩
    rw [List.length_cons] at hlen
    have hl : (line nm (y :: rr).reverse).length ≤ 256 := Nat.le_trans (lineLen m _) (by simp; omega)
    have ht1 := ht.1
    have hys := m.short y
    have hy3 : y < 3 := hy y (.head _)
    refine Ex.cons (Ex1.assign (d := .str (nm y)) (Ev.call ge_at (.inl fb) (fb.callee sig3) rfl rfl (EvL.cons (Ev.bin (Ev.name (d := .str (line nm (y :: rr).reverse)) h2 rfl rfl) (Ev.name (d := .str t) h3 rfl rfl) (BinR.addS (by omega))) EvL.nil rfl) rfl rfl ?_) (.inl rfl) ?_)
    · have e := strip_line m ht rr.reverse y
      rw [← e, List.reverse_cons]
      exact fn_strip N lo fb (by rw [app_len, ← List.reverse_cons]; omega)
    refine Ex.cons (Ex1.ife (c := !decide (x < y)) ?_ (fun hc => ?_) fun hc => ?_)
    · have e : (collD (nm y) (nm x) != 1) = !decide (x < y) := by
        rw [collD_nm m hx hy3]
        by_cases q : x < y
        · rw [if_pos q, decide_eq_true q]; rfl
        · rw [if_neg q, decide_eq_false q]; split <;> rfl
      rw [← e]
      exact EvB.cmp (Ev.call ge_at (.inl fc) (fc.callee sig5) rfl rfl (EvL.cons (Ev.name rfl rfl rfl) (EvL.cons (Ev.name (d := .str (nm x)) h4 rfl rfl) EvL.nil rfl) rfl) rfl rfl (fn_strcoll lo fc)) Ev.cint CmpR.neI rfl
    · have q : ¬ x < y := by simpa using hc
      refine Ex.cons (Ex1.brk ?_)
      have e : popR x (y :: rr) g = (y :: rr, g) := by rw [popR, if_neg q]
      rw [e] at hR
      exact hR _ h1 h2 h3 h4 h5 h6
    · have q : x < y := by simpa using hc
      have e : popR x (y :: rr) g = popR x rr (y :: g) := by rw [popR, if_pos q]
      rw [e] at hR
      refine Ex.nil ?_
      refine Ex.cons (Ex1.assign (d := .lst (strL nm (y :: g))) (Ev.bin (d₁ := .lst [.str (nm y)]) (Ev.list (EvL.cons (Ev.name rfl rfl rfl) EvL.nil rfl) (by simp)) (Ev.name (d := .lst (strL nm g)) h1 rfl rfl) (BinR.addL (by rw [strL_len]; simp; omega))) (.inl rfl) ?_)
      refine Ex.cons (Ex1.assign (d := .str (line nm rr.reverse)) ?_ (.inl rfl) ?_)
      · have e := cut_line m rr.reverse y
        rw [← e, ← List.reverse_cons]
        exact Ev.scut (Ev.name h2 rfl rfl) (Ev.bin (Ev.un (Ev.call ge_at (gv_len N) callee_b rfl rfl (EvL.cons (Ev.name rfl rfl rfl) EvL.nil rfl) rfl rfl (CallR.lenS (by omega))) UnR.neg) Ev.cint BinR.subI) (by omega)
      refine Ex.nil ?_
      exact pop_loop N lo fb fc m ht hx many made lines rr (y :: g) (i + 1) _ (by simp; omega) (fun z hz => hy z (.tail _ hz)) rfl rfl h3 h4 h5 h6 hR
theorem lay_loop {R : Out → Prop} (N : Nm T) (lo : Low T) {b c : Addr} (fb : IsFn T 6 b) (fc : IsFn T 8 c) (m : Menu nm) (ht : TailOk t) (gone made : D) :
    ∀ (os cur : List Nat) (ρ : Rho), cur.length + os.length ≤ 64 → Lk ρ "left" (.int cur.length) → Lk ρ "line" (.str (line nm cur)) → Lk ρ "tail" (.str t) → Lk ρ "gone" gone → Lk ρ "made" made →
      (∀ ρ' : Rho, Lk ρ' "left" (.int (cur ++ os).length) → Lk ρ' "line" (.str (line nm (cur ++ os))) → Lk ρ' "tail" (.str t) → Lk ρ' "gone" gone → Lk ρ' "made" made → R (.next ρ')) →
      ForD T (k + 2) (envAt 9 pm code doc L a) (forTg (laidBody.getD 3 default)) (forBody (laidBody.getD 3 default)) R (strL nm os) ρ
  | [], cur, ρ, hlen, h1, h2, h3, h4, h5, hR => hR ρ (by rw [List.append_nil]; exact h1) (by rw [List.append_nil]; exact h2) h3 h4 h5
  | o :: os, cur, ρ, hlen, h1, h2, h3, h4, h5, hR => by
    refine ⟨_, rfl, ?_⟩
    rw [List.length_cons] at hlen
    have hl : (line nm cur).length ≤ 256 := Nat.le_trans (lineLen m _) (by omega)
    have ho := m.short o
    refine Ex.cons (Ex1.assign (d := .str (line nm (cur ++ [o]))) (Ev.ite (EvB.cmp (Ev.name (d := .int cur.length) h1 rfl rfl) Ev.cint CmpR.gtI rfl) (fun hc => ?_) fun hc => ?_) (.inl rfl) ?_)
    · have hc' : 0 < cur.length := by have := of_decide_eq_true hc; omega
      rw [line_snoc, if_neg (by omega)]
      exact Ev.call ge_at (.inl fc) (fc.callee sig8) rfl rfl (EvL.cons (Ev.name (d := .str (line nm cur)) h2 rfl rfl) (EvL.cons (d := strO (some (nm o))) (Ev.name rfl rfl rfl) EvL.nil rfl) rfl) rfl rfl (fn_pair N lo fb fc (by omega) fun y e => by cases e; omega)
    · have hc' : ¬ 0 < cur.length := by have := of_decide_eq_false hc; omega
      rw [line_snoc, if_pos (by omega)]
      exact Ev.call ge_at (.inl fc) (fc.callee sig8) rfl rfl (EvL.cons (Ev.name rfl rfl rfl) (EvL.cons (d := strO none) Ev.cnone EvL.nil rfl) rfl) rfl rfl (fn_pair (x := nm o) (e := none) N lo fb fc (by omega) fun y e => by cases e)
    refine Ex.cons (Ex1.assign (d := .int (cur ++ [o]).length) ?_ (.inl rfl) ?_)
    · have e : ((cur ++ [o]).length : Int) = cur.length + 1 := by simp
      rw [e]
      exact Ev.bin (Ev.name h1 rfl rfl) Ev.cint BinR.addI
    refine Ex.nil ?_
    exact lay_loop N lo fb fc m ht gone made os (cur ++ [o]) _ (by simp; omega) rfl rfl h3 h4 h5 (by rw [List.append_assoc]; exact hR)
theorem sub_of {ρ l : Rho} (h : ∀ p ∈ l, ρ.lookup p.1 = some p.2) : ∀ x d, l.lookup x = some d → ρ.lookup x = some d := fun x d e => h (x, d) (mem_of_lookup e)
noncomputable def letters (rs : List (List Nat)) : Prop := ∀ r ∈ rs, ∀ y ∈ r, y < 3
theorem laid_turn {R : Out → Prop} (N : Nm T) (lo : Low T) {b3 b5 b6 b8 : Addr} (f3 : IsFn T 3 b3) (f5 : IsFn T 5 b5) (f6 : IsFn T 6 b6) (f8 : IsFn T 8 b8) (m : Menu nm) (ht : TailOk t) {r : List Nat} (hr : r.length ≤ 60) (h3 : ∀ y ∈ r, y < 3)
    {o : Option Nat} (ho : ∀ x, o = some x → x < 3) {ms : List D} (hms : nmL ms = true) (hml : ms.length ≤ 64) {ρ : Rho} (hn : Lk ρ "name" (nameD nm o)) (htl : Lk ρ "tail" (.str t)) (hmd : Lk ρ "made" (.mut ms))
    (hR : ∀ ρ' : Rho, Lk ρ' "name" (nameD nm (match o with | none => none | some x => (insR x r).2)) → Lk ρ' "tail" (.str t) → Lk ρ' "made" (.mut (ms ++ [rowD nm (match o with | none => r | some x => (insR x r).1)])) → R (.next ρ')) :
    Ex T (k + 2) (envAt 9 pm code doc L a) laidBody (((Str.ofString "many"), D.int r.length) :: ((Str.ofString "line"), D.str (line nm r)) :: ρ) R := by
  refine Ex.cons (Ex1.assign (d := .lst (strL nm [])) (Ev.list EvL.nil (Nat.zero_le _)) (.inl rfl) ?_)
  -- what is left to do behind the two loops
  have fin : ∀ (g : List Nat) (r' : List Nat) (ρ' : Rho), g.length ≤ 64 → (∀ y ∈ g, y < 3) → Lk ρ' "left" (.int r'.length) → Lk ρ' "line" (.str (line nm r')) → Lk ρ' "tail" (.str t) → Lk ρ' "gone" (.lst (strL nm g)) → Lk ρ' "made" (.mut ms) →
      (∀ ρ'' : Rho, Lk ρ'' "name" (nameD nm g.head?) → Lk ρ'' "tail" (.str t) → Lk ρ'' "made" (.mut (ms ++ [rowD nm r'])) → R (.next ρ'')) →
      Ex T (k + 2) (envAt 9 pm code doc L a) (laidBody.drop 4) ρ' R := by
    intro g r' ρ' hg hg3 e1 e2 e3 e4 e5 hR'
    refine Ex.sub (ρ' := [((Str.ofString "left"), .int r'.length), ((Str.ofString "line"), .str (line nm r')), ((Str.ofString "tail"), .str t), ((Str.ofString "gone"), .lst (strL nm g)), ((Str.ofString "made"), .mut ms)]) ?_ (sub_of (by
      intro p hp
      simp only [List.mem_cons, List.not_mem_nil, or_false] at hp
      rcases hp with rfl | rfl | rfl | rfl | rfl
      · exact e1
      · exact e2
      · exact e3
      · exact e4
      · exact e5))
    refine Ex.cons (Ex1.appendM (ds := ms) (d := rowD nm r') rfl rfl rfl (fun y d' e hy => ?_) hms (Ev.tuple (EvL.cons (Ev.name rfl rfl rfl) (EvL.cons (Ev.name rfl rfl rfl) EvL.nil rfl) rfl) (by simp)) rfl (by omega) rfl rfl rfl rfl rfl rfl rfl ?_)
    · have := mem_of_lookup e
      simp only [List.mem_cons, List.not_mem_nil, or_false, Prod.mk.injEq] at this
      rcases this with ⟨_, rfl⟩ | ⟨_, rfl⟩ | ⟨_, rfl⟩ | ⟨_, rfl⟩ | ⟨q, _⟩
      · rfl
      · rfl
      · rfl
      · exact strL_nm g
      · exact absurd q hy
    refine Ex.cons (Ex1.assign (d := nameD nm g.head?) (Ev.ite (EvB.cmp (Ev.name (d := .lst (strL nm g)) rfl rfl rfl) (Ev.list EvL.nil (by simp)) (CmpR.neL (by cases g <;> trivial)) rfl) (fun hc => ?_) fun hc => ?_) (.inl rfl) ?_)
    · cases g with
      | nil => cases hc
      | cons y g => exact Ev.idx (Ev.name rfl rfl rfl) Ev.cint (by decide) (by decide) rfl fun _ _ => rfl
    · cases g with
      | nil => exact Ev.cnone
      | cons y g => cases hc
    exact Ex.nil (hR' _ rfl rfl rfl)
  cases o with
  | none =>
    refine Ex.cons (Ex1.forl (ds := rangeD 0 (0 : Int).toNat) (EvI.range1 ge_at (gv_range N) rfl (Ev.ite (c := false) (EvB.cmp (Ev.name (d := nameD nm none) hn rfl rfl) Ev.cnone CmpR.isNotNone rfl) (fun hc => by cases hc) fun _ => Ev.cint) (by decide) (by decide) rfl) (.inl rfl) ?_)
    refine Ex.cons (Ex1.assign (d := .int r.length) ?_ (.inl rfl) ?_)
    · have e : (r.length : Int) = (r.length : Int) - ((strL nm []).length : Nat) := by simp [strL]
      rw [e]
      exact Ev.bin (Ev.name rfl rfl rfl) (Ev.call ge_at (gv_len N) callee_b rfl rfl (EvL.cons (Ev.name (d := .lst (strL nm [])) rfl rfl rfl) EvL.nil rfl) rfl rfl (CallR.lenL (by simp [strL]))) BinR.subI
    refine Ex.cons (Ex1.forl (ds := []) (EvI.list (Ev.ite (c := false) (EvB.cmp (Ev.name (d := nameD nm none) hn rfl rfl) Ev.cnone CmpR.isNotNone rfl) (fun hc => by cases hc) fun _ => Ev.list EvL.nil (Nat.zero_le _)) rfl) (.inl rfl) ?_)
    exact fin [] r _ (Nat.zero_le _) (fun y hy => by cases hy) rfl rfl htl rfl hmd hR
  | some x =>
    have hx := ho x rfl
    have hxs := m.short x
    have hpl := popR_len x r.reverse []
    rw [List.length_reverse] at hpl
    replace hpl : (popR x r.reverse []).1.length + (popR x r.reverse []).2.length = r.length := by simpa using hpl
    have hpm := popR_mem x (P := (· < 3)) r.reverse [] (fun y hy => h3 y (List.mem_reverse.mp hy)) (fun y hy => by cases hy)
    refine Ex.cons (Ex1.forl (ds := rangeD 0 (r.length : Int).toNat) (EvI.range1 ge_at (gv_range N) rfl (Ev.ite (c := true) (EvB.cmp (Ev.name (d := nameD nm (some x)) hn rfl rfl) Ev.cnone CmpR.isNotNone rfl) (fun _ => Ev.name rfl rfl rfl) fun hc => by cases hc) (by omega) (by omega) rfl) (.inl rfl) ?_)
    have key := pop_loop (T := T) (k := k + 1) (a := a) (pm := pm) (code := code) (doc := doc) (L := L) N lo f3 f5 m ht hx (.int r.length) (.mut ms) .none (R := fun o => match o with
      | .next ρ' => Ex T (k + 2) (envAt 9 pm code doc L a) (laidBody.drop 2) ρ' R
      | o => R o) r.reverse [] 0 (((Str.ofString "gone"), D.lst (strL nm [])) :: ((Str.ofString "many"), D.int r.length) :: ((Str.ofString "line"), D.str (line nm r)) :: ρ) (by simp; omega) (fun y hy => h3 y (List.mem_reverse.mp hy)) rfl (by rw [List.reverse_reverse]; rfl) htl hn rfl hmd ?_
    · rw [List.length_reverse] at key
      exact key
    intro ρ' e1 e2 e3 e4 e5 e6
    refine Ex.cons (Ex1.assign (d := .int (popR x r.reverse []).1.reverse.length) ?_ (.inl rfl) ?_)
    · have e : ((popR x r.reverse []).1.reverse.length : Int) = (r.length : Int) - ((strL nm (popR x r.reverse []).2).length : Nat) := by rw [strL_len, List.length_reverse]; omega
      rw [e]
      exact Ev.bin (Ev.name e5 rfl rfl) (Ev.call ge_at (gv_len N) callee_b rfl rfl (EvL.cons (Ev.name (d := .lst (strL nm (popR x r.reverse []).2)) e1 rfl rfl) EvL.nil rfl) rfl rfl (CallR.lenL (by rw [strL_len]; omega))) BinR.subI
    refine Ex.cons (Ex1.forl (ds := strL nm (x :: (popR x r.reverse []).2.tail)) (EvI.list (Ev.ite (c := true) (EvB.cmp (Ev.name (d := nameD nm (some x)) e4 rfl rfl) Ev.cnone CmpR.isNotNone rfl) (fun _ => ?_) fun hc => by cases hc) (strL_nm _)) (.inl rfl) ?_)
    · have e : strL nm (x :: (popR x r.reverse []).2.tail) = [D.str (nm x)] ++ cutL (strL nm (popR x r.reverse []).2) (some 1) none none := by
        rw [cut1 _ (by rw [strL_len]; omega)]
        unfold strL
        rw [← List.map_drop, List.drop_one]
        rfl
      rw [e]
      refine Ev.bin (Ev.list (EvL.cons (Ev.name (d := .str (nm x)) e4 rfl rfl) EvL.nil rfl) (by simp)) (Ev.cut (lo := some 1) (hi := none) (st := none) (Ev.name (d := .lst (strL nm (popR x r.reverse []).2)) e1 rfl rfl) Ev.cint trivial trivial (by simp) (by rw [strL_len]; omega)) (BinR.addL ?_)
      rw [cut1 _ (by rw [strL_len]; omega)]
      simp [strL_len]
      omega
    refine lay_loop (T := T) (k := k) (a := a) N lo f6 f8 m ht (.lst (strL nm (popR x r.reverse []).2)) (.mut ms) (x :: (popR x r.reverse []).2.tail) (popR x r.reverse []).1.reverse _ (by simp; omega) rfl e2 e3 e1 e6 ?_
    intro ρ'' q1 q2 q3 q4 q5
    exact fin (popR x r.reverse []).2 _ ρ'' (by omega) hpm.2 q1 q2 q3 q4 q5 hR
noncomputable def total (rs : List (List Nat)) : Nat := (rs.map List.length).sum
theorem insR_mem {x : Nat} {r : List Nat} (hx : x < 3) (h3 : ∀ y ∈ r, y < 3) : (∀ y ∈ (insR x r).1, y < 3) ∧ ∀ y, (insR x r).2 = some y → y < 3 := by
  have hpm := popR_mem x (P := (· < 3)) r.reverse [] (fun y hy => h3 y (List.mem_reverse.mp hy)) (fun y hy => by cases hy)
  unfold insR
  refine ⟨fun y hy => ?_, fun y hy => hpm.2 y ?_⟩
  · rcases List.mem_append.mp hy with hy | hy
    · exact hpm.1 y (List.mem_reverse.mp hy)
    · rcases List.mem_cons.mp hy with rfl | hy
      · exact hx
      · exact hpm.2 y (List.mem_of_mem_tail hy)
  · exact List.mem_of_mem_head? (show (popR x r.reverse []).2.head? = some y from hy)
theorem laidL_letters : ∀ {rs : List (List Nat)} {o : Option Nat}, letters rs → (∀ x, o = some x → x < 3) → letters (laidL rs o)
  | [], none, h, _ => h
  | [], some x, h, ho => fun r hr y hy => by
    rw [laidL] at hr
    simp at hr; subst hr
    simp at hy; subst hy
    exact ho _ rfl
  | r :: rs, none, h, ho => fun r' hr => by
    rw [laidL] at hr
    rcases List.mem_cons.mp hr with rfl | hr
    · exact h _ (.head _)
    · exact laidL_letters (fun q hq => h q (.tail _ hq)) (fun _ e => by cases e) r' hr
  | r :: rs, some x, h, ho => fun r' hr => by
    rw [laidL] at hr
    have hm := insR_mem (ho x rfl) (h r (.head _))
    rcases List.mem_cons.mp hr with rfl | hr
    · exact hm.1
    · exact laidL_letters (fun q hq => h q (.tail _ hq)) hm.2 r' hr
theorem laid_loop {R : Out → Prop} (N : Nm T) (lo : Low T) {b3 b5 b6 b8 : Addr} (f3 : IsFn T 3 b3) (f5 : IsFn T 5 b5) (f6 : IsFn T 6 b6) (f8 : IsFn T 8 b8) (m : Menu nm) (ht : TailOk t) :
    ∀ (rs : List (List Nat)) (o : Option Nat) (ms : List (List Nat)) (ρ : Rho), (∀ r ∈ rs, r.length ≤ 60) → letters rs → (∀ x, o = some x → x < 3) → ms.length + rs.length ≤ 60 →
      Lk ρ "name" (nameD nm o) → Lk ρ "tail" (.str t) → Lk ρ "made" (.mut (ms.map (rowD nm))) →
      (∀ (o' : Option Nat) (ms' : List (List Nat)) (ρ' : Rho), Lk ρ' "name" (nameD nm o') → Lk ρ' "made" (.mut (ms'.map (rowD nm))) → (∀ x, o' = some x → x < 3) → ms' ++ laidL [] o' = ms ++ laidL rs o → ms'.length ≤ 60 → R (.next ρ')) →
      ForD T (k + 2) (envAt 9 pm code doc L a) (forTg ((bodyAt 9).getD 1 default)) laidBody R (rs.map (rowD nm)) ρ
  | [], o, ms, ρ, _, _, ho, hl, h1, h2, h3, hR => hR o ms ρ h1 h3 ho rfl (by simp at hl; omega)
  | r :: rs, o, ms, ρ, hr, h3', ho, hl, h1, h2, h3, hR => by
    rw [List.length_cons] at hl
    refine ⟨_, rfl, ?_⟩
    refine laid_turn (k := k) N lo f3 f5 f6 f8 m ht (hr r (.head _)) (h3' r (.head _)) ho (nmL_map _ (fun _ => rfl) ms) (by simp; omega) h1 h2 h3 fun ρ' e1 e2 e3 => ?_
    cases o with
    | none =>
      refine laid_loop N lo f3 f5 f6 f8 m ht rs none (ms ++ [r]) ρ' (fun q hq => hr q (.tail _ hq)) (fun q hq => h3' q (.tail _ hq)) (fun _ e => by cases e) (by simp; omega) e1 e2 (by rw [List.map_append]; exact e3) ?_
      intro o' ms' ρ'' q1 q2 q3 q4
      exact hR o' ms' ρ'' q1 q2 q3 (by rw [q4, laidL, List.append_assoc]; rfl)
    | some x =>
      have hm := insR_mem (ho x rfl) (h3' r (.head _))
      refine laid_loop N lo f3 f5 f6 f8 m ht rs (insR x r).2 (ms ++ [(insR x r).1]) ρ' (fun q hq => hr q (.tail _ hq)) (fun q hq => h3' q (.tail _ hq)) hm.2 (by simp; omega) e1 e2 (by rw [List.map_append]; exact e3) ?_
      intro o' ms' ρ'' q1 q2 q3 q4
      exact hR o' ms' ρ'' q1 q2 q3 (by rw [q4, laidL, List.append_assoc]; rfl)
theorem fn_laid {rs : List (List Nat)} {x : Nat} (N : Nm T) (lo : Low T) {b3 b5 b6 b8 : Addr} (f3 : IsFn T 3 b3) (f5 : IsFn T 5 b5) (f6 : IsFn T 6 b6) (f8 : IsFn T 8 b8) (f : IsFn T 9 a) (m : Menu nm) (ht : TailOk t) (hr : ∀ r ∈ rs, r.length ≤ 60) (hrl : rs.length ≤ 60) (h3 : letters rs) (hx : x < 3) :
    CallR T (k + 3) (.ref a) [.lst (rs.map (rowD nm)), .str (nm x), .str t] (.lst ((laidL rs (some x)).map (rowD nm))) := by
  refine fn_ofM lo sig9 f rfl ?_ (nmL_map _ (fun _ => rfl) _) rfl rfl fun pm code doc L => ?_
  · show nmL [.lst _, .str _, .str _] = true
    simp only [nmL, D.nm]
    rw [nmL_map _ (fun _ => rfl) rs]; rfl
  refine Ex.cons (Ex1.forl (ds := rs.map (rowD nm)) (EvI.list (Ev.name rfl rfl rfl) (nmL_map _ (fun _ => rfl) _)) ⟨.inl rfl, .inl rfl⟩ ?_)
  refine laid_loop (k := k) N lo f3 f5 f6 f8 m ht rs (some x) [] _ hr h3 (fun y e => by cases e; exact hx) (by simpa using hrl) rfl rfl rfl ?_
  intro o' ms' ρ' e1 e2 e3 e4 e5
  rw [List.nil_append] at e4
  rw [← e4]
  cases o' with
  | none =>
    refine Ex.cons (Ex1.ret (d := .mut (ms'.map (rowD nm))) (Ev.ite (c := false) (EvB.cmp (Ev.name (d := nameD nm none) e1 rfl rfl) Ev.cnone CmpR.isNotNone rfl) (fun hc => by cases hc) fun _ => Ev.name e2 rfl rfl) (.inr (by rw [laidL, List.append_nil])))
  | some y =>
    refine Ex.cons (Ex1.ret (d := .lst ((ms' ++ [[y]]).map (rowD nm))) (Ev.ite (c := true) (EvB.cmp (Ev.name (d := nameD nm (some y)) e1 rfl rfl) Ev.cnone CmpR.isNotNone rfl) (fun _ => ?_) fun hc => by cases hc) (.inl rfl))
    have hy := m.short y
    have el : line nm [y] = nm y := S_of _
    rw [List.map_append]
    refine Ev.bin (Ev.name (d := .mut (ms'.map (rowD nm))) e2 rfl rfl) (Ev.list (EvL.cons (d := rowD nm [y]) (Ev.tuple (EvL.cons (d := .str (line nm [y])) ?_ (EvL.cons Ev.cint EvL.nil rfl) rfl) (by simp)) EvL.nil rfl) (by simp)) (BinR.addM (by simp; omega))
    rw [el]
    exact Ev.call ge_at (.inl f8) (f8.callee sig8) rfl rfl (EvL.cons (Ev.name (d := .str (nm y)) e1 rfl rfl) (EvL.cons (d := strO none) Ev.cnone EvL.nil rfl) rfl) rfl rfl (fn_pair (x := nm y) (e := none) N lo f6 f8 (by omega) fun y e => by cases e)
end
end Mine

namespace Mine
open StrLaws (At)

noncomputable def tagC (nm : Nat → Str) (x : Nat) : List Nat := 60 :: (cp nm x ++ [62])
noncomputable def encC (nm : Nat → Str) : List Nat → List Nat
  | [] => []
  | x :: w => tagC nm x ++ encC nm w
noncomputable def enc (nm : Nat → Str) (w : List Nat) : Str := S (encC nm w)
section
variable {nm : Nat → Str}
theorem encC_app : ∀ a b : List Nat, encC nm (a ++ b) = encC nm a ++ encC nm b
  | [], b => rfl
  | x :: a, b => by
    show tagC nm x ++ encC nm (a ++ b) = (tagC nm x ++ encC nm a) ++ encC nm b
    rw [encC_app a b, List.append_assoc]
theorem tagC_len (x : Nat) : (tagC nm x).length = (cp nm x).length + 2 := by simp [tagC]
theorem encC_len (m : Menu nm) : ∀ w : List Nat, (encC nm w).length ≤ 5 * w.length
  | [] => Nat.zero_le _
  | x :: w => by
    have h1 : (cp nm x).length ≤ 3 := by have := m.short x; simpa [Str.length] using this
    have ih := encC_len m w
    show (tagC nm x ++ encC nm w).length ≤ _
    rw [List.length_append, tagC_len, List.length_cons]
    omega
theorem nm_inj (m : Menu nm) {i j : Nat} (hi : i < 3) (hj : j < 3) (h : cp nm i = cp nm j) : i = j := by
  rcases Nat.lt_trichotomy i j with q | q | q
  · have := (m.lt i j hi hj).mpr q
    rw [show (nm i).cps.toList = (nm j).cps.toList from h] at this
    exact absurd this (List.lt_irrefl _)
  · exact q
  · have := (m.lt j i hj hi).mpr q
    rw [show (nm i).cps.toList = (nm j).cps.toList from h] at this
    exact absurd this (List.lt_irrefl _)
theorem upto62 : ∀ {p q r : List Nat}, 62 ∉ p → 62 ∉ q → p ++ [62] <+: q ++ 62 :: r → p = q
  | [], [], _, _, _, _ => rfl
  | [], c :: q, r, _, hq, h => by
    have := (List.cons_prefix_cons.mp (show 62 :: [] <+: c :: (q ++ 62 :: r) from h)).1
    exact absurd (this ▸ .head _) hq
  | c :: p, [], r, hp, _, h => by
    have := (List.cons_prefix_cons.mp (show c :: (p ++ [62]) <+: 62 :: r from h)).1
    exact absurd (this ▸ .head _) hp
  | c :: p, d :: q, r, hp, hq, h => by
    have := List.cons_prefix_cons.mp (show c :: (p ++ [62]) <+: d :: (q ++ 62 :: r) from h)
    rw [this.1, upto62 (fun z => hp (.tail _ z)) (fun z => hq (.tail _ z)) this.2]
theorem no62 (m : Menu nm) (x : Nat) : 62 ∉ cp nm x := fun h => (m.clean x _ h).2.2.2.2 rfl
theorem no60 (m : Menu nm) (x : Nat) : 60 ∉ cp nm x := fun h => (m.clean x _ h).2.2.2.1 rfl
theorem no_at (m : Menu nm) {x : Nat} (hx : x < 3) : ∀ (b : List Nat) (rest : List Nat) (k : Nat), (∀ l ∈ b, l < 3 ∧ l ≠ x) → k < (encC nm b).length → ¬ tagC nm x <+: (encC nm b ++ rest).drop k
  | [], rest, k, _, hk, _ => by cases hk
  | l :: b, rest, k, hl, hk, h => by
    have e : encC nm (l :: b) ++ rest = tagC nm l ++ (encC nm b ++ rest) := by show (tagC nm l ++ encC nm b) ++ rest = _; rw [List.append_assoc]
    rw [e] at h
    by_cases q : (tagC nm l).length ≤ k
    · rw [List.drop_append, List.drop_of_length_le q, List.nil_append] at h
      refine no_at m hx b rest (k - (tagC nm l).length) (fun z hz => hl z (.tail _ hz)) ?_ h
      have : (encC nm (l :: b)).length = (tagC nm l).length + (encC nm b).length := by show (tagC nm l ++ encC nm b).length = _; rw [List.length_append]
      omega
    · cases k with
      | zero =>
        rw [List.drop_zero] at h
        have h' := (List.cons_prefix_cons.mp (show 60 :: (cp nm x ++ [62]) <+: 60 :: ((cp nm l ++ [62]) ++ (encC nm b ++ rest)) from h)).2
        rw [List.append_assoc] at h'
        exact (hl l (.head _)).2 (nm_inj m hx (hl l (.head _)).1 (upto62 (no62 m x) (no62 m l) h')).symm
      | succ k =>
        have q' : k < (cp nm l ++ [62]).length := by
          have := tagC_len (nm := nm) l
          rw [List.length_append, List.length_singleton]; omega
        have h0 : ((tagC nm l ++ (encC nm b ++ rest)).drop (k + 1))[0]? = some 60 := by
          obtain ⟨z, hz⟩ := h
          rw [← hz]; rfl
        rw [List.getElem?_drop] at h0
        have h1 : (cp nm l ++ [62])[k]? = some 60 := by
          have : (tagC nm l ++ (encC nm b ++ rest))[k + 1 + 0]? = (cp nm l ++ [62])[k]? := by
            show (60 :: ((cp nm l ++ [62]) ++ (encC nm b ++ rest)))[k + 1]? = _
            rw [List.getElem?_cons_succ, List.getElem?_append_left q']
          rw [← this]; exact h0
        rcases List.mem_append.mp (List.mem_of_getElem? h1) with w | w
        · exact no60 m l w
        · simp at w
theorem at_pre {l y : List Nat} {i : Nat} (h : At (S l) (S y) l.length i) : y <+: l.drop i := by
  obtain ⟨h1, h2⟩ := h
  rw [StrLaws.subAt_eq, S_len, S_cps, S_cps] at h2
  have : (l.drop i).take y.length = y := by simpa using h2
  rw [← this]
  exact List.take_prefix _ _
theorem pre_at {l y : List Nat} {i : Nat} (hi : i ≤ l.length) (h : y <+: l.drop i) : At (S l) (S y) l.length i := by
  obtain ⟨z, hz⟩ := h
  have hl : (l.drop i).length = y.length + z.length := by rw [← hz, List.length_append]
  rw [List.length_drop] at hl
  refine ⟨by rw [S_len]; omega, ?_⟩
  rw [StrLaws.subAt_eq, S_len, S_cps, S_cps, ← hz, List.take_append_of_le_length (Nat.le_refl _), List.take_length]
  simp

/-! the first of a letter in a word -/
noncomputable def after (x : Nat) : List Nat → Option (List Nat)
  | [] => none
  | y :: b => if y = x then some b else after x b
noncomputable def scan : List Nat → List Nat → Bool
  | [], _ => true
  | x :: xs, b => match after x b with
    | none => false
    | some b' => scan xs b'
theorem after_some {x : Nat} : ∀ {b b' : List Nat}, after x b = some b' → ∃ b₁, b = b₁ ++ x :: b' ∧ ∀ l ∈ b₁, l ≠ x
  | y :: b, b', h => by
    rw [after] at h
    split at h
    · rename_i e
      cases h; subst e
      exact ⟨[], rfl, fun _ q => by cases q⟩
    · rename_i e
      obtain ⟨b₁, rfl, hb⟩ := after_some h
      exact ⟨y :: b₁, rfl, fun l hl => by
        rcases List.mem_cons.mp hl with rfl | hl
        · exact e
        · exact hb l hl⟩
theorem after_none {x : Nat} : ∀ {b : List Nat}, after x b = none → ∀ l ∈ b, l ≠ x
  | y :: b, h, l, hl => by
    rw [after] at h
    split at h
    · cases h
    · rename_i e
      rcases List.mem_cons.mp hl with rfl | hl
      · exact e
      · exact after_none h l hl
theorem find_tag_some (m : Menu nm) {x : Nat} (hx : x < 3) (a b₁ b' : List Nat) (hb : ∀ l ∈ b₁, l < 3 ∧ l ≠ x) :
    find4 (enc nm (a ++ (b₁ ++ x :: b'))) (S (tagC nm x)) ((encC nm a).length : Nat) ((encC nm (a ++ (b₁ ++ x :: b'))).length : Nat) = ((encC nm (a ++ b₁)).length : Nat) := by
  have eW : encC nm (a ++ (b₁ ++ x :: b')) = encC nm a ++ (encC nm b₁ ++ (tagC nm x ++ encC nm b')) := by rw [encC_app, encC_app]; rfl
  have hat : At (S (encC nm (a ++ (b₁ ++ x :: b')))) (S (tagC nm x)) (encC nm (a ++ (b₁ ++ x :: b'))).length (encC nm (a ++ b₁)).length := by
    refine pre_at ?_ ?_
    · rw [eW, encC_app]; simp
    · rw [eW, encC_app, List.drop_append, List.drop_of_length_le (by simp), List.nil_append]
      rw [show (encC nm a ++ encC nm b₁).length - (encC nm a).length = (encC nm b₁).length by simp, List.drop_append, List.drop_length, List.nil_append, Nat.sub_self, List.drop_zero]
      exact List.prefix_append _ _
  have hn : ∀ k, (encC nm a).length ≤ k → k < (encC nm (a ++ b₁)).length → ¬ At (S (encC nm (a ++ (b₁ ++ x :: b')))) (S (tagC nm x)) (encC nm (a ++ (b₁ ++ x :: b'))).length k := fun k h1 h2 hA => by
    have := at_pre hA
    rw [eW, List.drop_append, List.drop_of_length_le h1, List.nil_append] at this
    refine no_at m hx b₁ _ _ hb ?_ this
    rw [encC_app, List.length_append] at h2
    omega
  unfold enc
  rcases find4_spec (S (encC nm (a ++ (b₁ ++ x :: b')))) (S (tagC nm x)) (encC nm a).length (encC nm (a ++ (b₁ ++ x :: b'))).length (by rw [S_len]; exact Nat.le_refl _) with ⟨_, q⟩ | ⟨j, e, h0, hA, q⟩
  · exact absurd hat (q _ (by rw [encC_app, List.length_append]; omega))
  · rw [e]
    rcases Nat.lt_trichotomy j (encC nm (a ++ b₁)).length with w | w | w
    · exact absurd hA (hn j h0 w)
    · rw [w]
    · exact absurd hat (q _ (by rw [encC_app, List.length_append]; omega) w)
theorem find_tag_none (m : Menu nm) {x : Nat} (hx : x < 3) (a b : List Nat) (hb : ∀ l ∈ b, l < 3 ∧ l ≠ x) :
    find4 (enc nm (a ++ b)) (S (tagC nm x)) ((encC nm a).length : Nat) ((encC nm (a ++ b)).length : Nat) = -1 := by
  unfold enc
  rcases find4_spec (S (encC nm (a ++ b))) (S (tagC nm x)) (encC nm a).length (encC nm (a ++ b)).length (by rw [S_len]; exact Nat.le_refl _) with ⟨e, _⟩ | ⟨j, e, h0, hA, q⟩
  · exact e
  · have h1 := at_pre hA
    have hj := hA.1
    rw [S_len, tagC_len] at hj
    rw [encC_app, List.drop_append, List.drop_of_length_le h0, List.nil_append] at h1
    rw [encC_app, List.length_append] at hj
    exact absurd (by rw [List.append_nil]; exact h1) (no_at m hx b [] (j - (encC nm a).length) hb (by omega))
theorem find_empty (x : Str) {i : Nat} (hi : i ≤ x.length) : find4 x (S []) (i : Nat) (x.length : Nat) = (i : Nat) := by
  have hat : At x (S []) x.length i := ⟨by rw [S_len]; exact hi, by rw [StrLaws.subAt_eq, S_len, S_cps]; simp⟩
  rcases find4_spec x (S []) i x.length (Nat.le_refl _) with ⟨_, q⟩ | ⟨j, e, h0, hA, q⟩
  · exact absurd hat (q i (Nat.le_refl _))
  · rw [e]
    by_cases w : i < j
    · exact absurd hat (q i (Nat.le_refl _) w)
    · have : j = i := by omega
      rw [this]
theorem enc_inj (m : Menu nm) : ∀ {v w : List Nat}, (∀ l ∈ v, l < 3) → (∀ l ∈ w, l < 3) → encC nm v = encC nm w → v = w
  | [], [], _, _, _ => rfl
  | [], y :: w, _, _, h => by cases h
  | x :: v, [], _, _, h => by cases h
  | x :: v, y :: w, hv, hw, h => by
    have h' : cp nm x ++ 62 :: encC nm v = cp nm y ++ 62 :: encC nm w := by
      have := (List.cons.inj (show 60 :: ((cp nm x ++ [62]) ++ encC nm v) = 60 :: ((cp nm y ++ [62]) ++ encC nm w) from h)).2
      simpa using this
    have e1 : cp nm x = cp nm y := upto62 (no62 m x) (no62 m y) (r := encC nm w) (by rw [← h']; exact ⟨encC nm v, by simp⟩)
    have e2 : x = y := nm_inj m (hv x (.head _)) (hw y (.head _)) e1
    subst e2
    have e3 : encC nm v = encC nm w := by
      have := List.append_cancel_left h'
      exact (List.cons.inj this).2
    rw [enc_inj m (fun l hl => hv l (.tail _ hl)) (fun l hl => hw l (.tail _ hl)) e3]
theorem cnt_app (c : Nat) : ∀ a b : List Nat, cnt c (a ++ b) = cnt c a + cnt c b
  | [], b => by rw [List.nil_append, cnt_none c [] (by simp)]; omega
  | x :: a, b => by
    rw [List.cons_append, cnt_cons, cnt_cons, cnt_app c a b]
    split <;> omega
theorem count_enc (m : Menu nm) (w : List Nat) : Txt.count (enc nm w) "<" = (w.length : Nat) := by
  have c1 : (("<" : Str)) = ⟨#[60]⟩ := by decide +kernel
  rw [c1, count_cnt]
  unfold enc
  rw [S_cps]
  induction w with
  | nil => rfl
  | cons x w ih =>
    show cnt 60 (tagC nm x ++ encC nm w) = _
    rw [cnt_app, ih]
    have : cnt 60 (tagC nm x) = 1 := by
      show cnt 60 (60 :: (cp nm x ++ [62])) = 1
      rw [cnt_cons, cnt_none 60 (cp nm x ++ [62]) (by simp [no60 m x])]
      rfl
    rw [this, List.length_cons]
    omega
end
end Mine

namespace Mine

theorem sig2 : Sig 2 ["want", "got"] where
  of := rfl
  bind := fun vs pm code doc h => by
    match vs, h with
    | [x, y], _ => rfl
  nodup := by decide
  kinds := by decide
  co := rfl
  gen := rfl
  kind := rfl
/-- a pattern: three dots around and between the tags -/
structure Want (nm : Nat → Str) (xs : List Nat) (want : Str) : Prop where
  split : Txt.split want "..." = S [] :: (xs.map (fun x => S (tagC nm x)) ++ [S []])
  has : (Builtin.Str.occurrences want "..." 0 want.length 1).isEmpty = false
  len : want.length ≤ 64
  parts : (Builtin.Str.partsBetween want (Builtin.Str.occurrences want "..." 0 want.length (want.length + 1)) ("..." : Str).length).length ≤ 4096
  letters : ∀ x ∈ xs, x < 3
noncomputable def wsD (nm : Nat → Str) (xs : List Nat) : List D := xs.map (fun x => D.str (S (tagC nm x))) ++ [.str (S [])]
section
variable {T : Th} {k : Nat} {a : Addr} {nm : Nat → Str} {pm code doc : Value} {L : Addr}
theorem match_blank {R : Out → Prop} (N : Nm T) (w p : List Nat) (hle : (encC nm p).length ≤ (encC nm w).length) (ds : List D) (ρ : Rho) (h1 : Lk ρ "got" (.str (enc nm w))) (h2 : Lk ρ "startpos" (.int (encC nm p).length)) (h3 : Lk ρ "endpos" (.int (encC nm w).length))
    (hT : ∀ ρ' : Rho, Lk ρ' "got" (.str (enc nm w)) → Lk ρ' "startpos" (.int (encC nm p).length) → Lk ρ' "endpos" (.int (encC nm w).length) → ForD T k (envAt 2 pm code doc L a) (forTg ((bodyAt 2).getD 9 default)) (forBody ((bodyAt 2).getD 9 default)) R ds ρ') :
    ForD T k (envAt 2 pm code doc L a) (forTg ((bodyAt 2).getD 9 default)) (forBody ((bodyAt 2).getD 9 default)) R (.str (S []) :: ds) ρ := by
    refine ⟨_, rfl, ?_⟩
    have e0 : find4 (enc nm w) (S []) ((encC nm p).length : Nat) ((encC nm w).length : Nat) = ((encC nm p).length : Nat) := by
      have := find_empty (enc nm w) (i := (encC nm p).length) (by unfold enc; rw [S_len]; exact hle)
      unfold enc at this ⊢
      rw [S_len] at this
      exact this
    refine Ex.cons (Ex1.assign (d := .int ((encC nm p).length : Nat)) ?_ (.inl rfl) ?_)
    · rw [← e0]
      exact Ev.smeth (Ev.name h1 rfl rfl) F.slot_str_find F.type_str_find (EvL.cons (Ev.name rfl rfl rfl) (EvL.cons (Ev.name h2 rfl rfl) (EvL.cons (Ev.name h3 rfl rfl) EvL.nil rfl) rfl) rfl) rfl rfl rfl rfl rfl CallR.find4
    refine Ex.cons (Ex1.ife (c := false) ?_ (fun hc => by cases hc) fun _ => Ex.nil ?_)
    · have : decide ((((encC nm p).length : Nat) : Int) < 0) = false := decide_eq_false (by omega)
      rw [← this]
      exact EvB.cmp (Ev.name rfl rfl rfl) Ev.cint CmpR.ltI rfl
    refine Ex.cons (Ex1.augAdd (a := ((encC nm p).length : Nat)) (b := (S []).length) rfl (Ev.call ge_at (gv_len N) callee_b rfl rfl (EvL.cons (Ev.name rfl rfl rfl) EvL.nil rfl) rfl rfl (CallR.lenS (by rw [S_len]; decide))) (.inl rfl) rfl ?_)
    exact Ex.nil (hT _ h1 (by show some (D.int ((((encC nm p).length : Nat) : Int) + ((S []).length : Nat))) = _; rw [S_len]; simp) h3)
theorem match_loop {R : Out → Prop} (N : Nm T) (m : Menu nm) (w : List Nat) (hw : ∀ l ∈ w, l < 3) (hlen : w.length ≤ 64) :
    ∀ (xs p b : List Nat) (ρ : Rho), (∀ x ∈ xs, x < 3) → p ++ b = w → Lk ρ "got" (.str (enc nm w)) → Lk ρ "startpos" (.int (encC nm p).length) → Lk ρ "endpos" (.int (encC nm w).length) →
      (scan xs b = true → ∀ ρ' : Rho, R (.next ρ')) → (scan xs b = false → R (.ret (.bool false))) →
      ForD T k (envAt 2 pm code doc L a) (forTg ((bodyAt 2).getD 9 default)) (forBody ((bodyAt 2).getD 9 default)) R (wsD nm xs) ρ
  | [], p, b, ρ, _, hp, h1, h2, h3, hT, hF => match_blank N w p (by rw [← hp, encC_app, List.length_append]; omega) [] ρ h1 h2 h3 fun ρ' _ _ _ => hT rfl ρ'
  | x :: xs, p, b, ρ, hx, hp, h1, h2, h3, hT, hF => by
    refine ⟨_, rfl, ?_⟩
    have hx3 := hx x (.head _)
    have hwl := encC_len m w
    have hb : ∀ l ∈ b, l < 3 := fun l hl => hw l (by rw [← hp]; exact List.mem_append_right _ hl)
    cases e : after x b with
    | none =>
      have e0 := find_tag_none m hx3 p b fun l hl => ⟨hb l hl, after_none e l hl⟩
      rw [hp] at e0
      refine Ex.cons (Ex1.assign (d := .int (-1)) ?_ (.inl rfl) ?_)
      · rw [← e0]
        exact Ev.smeth (Ev.name h1 rfl rfl) F.slot_str_find F.type_str_find (EvL.cons (Ev.name rfl rfl rfl) (EvL.cons (Ev.name h2 rfl rfl) (EvL.cons (Ev.name h3 rfl rfl) EvL.nil rfl) rfl) rfl) rfl rfl rfl rfl rfl CallR.find4
      refine Ex.cons (Ex1.ife (c := true) (EvB.cmp (Ev.name rfl rfl rfl) Ev.cint CmpR.ltI rfl) (fun _ => ?_) fun hc => by cases hc)
      exact Ex.cons (Ex1.ret Ev.cbool (hF (by rw [scan, e])))
    | some b' =>
      obtain ⟨b₁, hb1, hn⟩ := after_some e
      have e0 := find_tag_some m hx3 p b₁ b' fun l hl => ⟨hb l (by rw [hb1]; exact List.mem_append_left _ hl), hn l hl⟩
      rw [← hb1, hp] at e0
      refine Ex.cons (Ex1.assign (d := .int ((encC nm (p ++ b₁)).length : Nat)) ?_ (.inl rfl) ?_)
      · rw [← e0]
        exact Ev.smeth (Ev.name h1 rfl rfl) F.slot_str_find F.type_str_find (EvL.cons (Ev.name rfl rfl rfl) (EvL.cons (Ev.name h2 rfl rfl) (EvL.cons (Ev.name h3 rfl rfl) EvL.nil rfl) rfl) rfl) rfl rfl rfl rfl rfl CallR.find4
      refine Ex.cons (Ex1.ife (c := false) ?_ (fun hc => by cases hc) fun _ => Ex.nil ?_)
      · have : decide ((((encC nm (p ++ b₁)).length : Nat) : Int) < 0) = false := decide_eq_false (by omega)
        rw [← this]
        exact EvB.cmp (Ev.name rfl rfl rfl) Ev.cint CmpR.ltI rfl
      have hs := m.short x
      have ht : (S (tagC nm x)).length = (cp nm x).length + 2 := by rw [S_len, tagC_len]
      have hs' : (cp nm x).length ≤ 3 := by simpa [Str.length] using hs
      refine Ex.cons (Ex1.augAdd (a := ((encC nm (p ++ b₁)).length : Nat)) (b := (S (tagC nm x)).length) rfl (Ev.call ge_at (gv_len N) callee_b rfl rfl (EvL.cons (Ev.name rfl rfl rfl) EvL.nil rfl) rfl rfl (CallR.lenS (by rw [ht]; omega))) (.inl rfl) rfl ?_)
      refine Ex.nil ?_
      have e3 : (((encC nm (p ++ b₁)).length : Nat) : Int) + ((S (tagC nm x)).length : Nat) = ((encC nm (p ++ b₁ ++ [x])).length : Nat) := by
        rw [encC_app (p ++ b₁) [x], List.length_append, S_len]
        show _ = (((encC nm (p ++ b₁)).length + (tagC nm x ++ []).length : Nat) : Int)
        rw [List.append_nil]; omega
      rw [e3]
      refine match_loop N m w hw hlen xs (p ++ b₁ ++ [x]) b' _ (fun y hy => hx y (.tail _ hy)) (by rw [← hp, hb1]; simp) h1 rfl h3 (fun q => hT (by rw [scan, e]; exact q)) fun q => hF (by rw [scan, e]; exact q)
theorem fn_match {xs w : List Nat} {want : Str} (N : Nm T) (lo : Low T) (f : IsFn T 2 a) (m : Menu nm) (W : Want nm xs want) (hw : ∀ l ∈ w, l < 3) (hlen : w.length ≤ 64) : CallR T (k + 1) (.ref a) [.str want, .str (enc nm w)] (.bool (scan xs w)) :=
  fn_of lo sig2 f rfl rfl rfl fun pm code doc L _ => by
    obtain ⟨tm, hmark⟩ := N.mark
    have hwl := encC_len m w
    have hel : (enc nm w).length = (encC nm w).length := by unfold enc; rw [S_len]
    have h3 : ((Str.ofString "...").length == 0) = false := by decide +kernel
    refine Ex.cons (Ex1.ife (c := false) ?_ (fun hc => by cases hc) fun _ => Ex.nil ?_)
    · rw [← W.has]
      exact EvB.cmp (Ev.gstr ge_at (.inl hmark) rfl rfl) (Ev.name rfl rfl rfl) CmpR.notInS rfl
    refine Ex.cons (Ex1.assign (d := .lst (.str (S []) :: wsD nm xs)) ?_ (.inl rfl) ?_)
    · have e : (D.str (S []) :: wsD nm xs) = (Txt.split want "...").map .str := by rw [W.split, List.map_cons, List.map_append, List.map_map]; rfl
      rw [e]
      exact Ev.smeth (Ev.name rfl rfl rfl) F.slot_str_split F.type_str_split (EvL.cons (Ev.gstr ge_at (.inl hmark) rfl rfl) EvL.nil rfl) rfl rfl rfl rfl rfl (CallR.split h3 (by have := W.len; omega) W.parts)
    have hlen2 : (D.str (S []) :: wsD nm xs).length = xs.length + 2 := by simp [wsD]
    have hxs : xs.length ≤ 64 := by
      have h1 : (Txt.split want "...").length ≤ want.length + 2 := split_le want "..."
      rw [W.split, List.length_cons, List.length_append, List.length_map, List.length_singleton] at h1
      have := W.len
      omega
    refine Ex.cons (Ex1.asrt ?_ ?_)
    · have : decide ((2 : Int) ≤ ((D.str (S []) :: wsD nm xs).length : Nat)) = true := decide_eq_true (by rw [hlen2]; omega)
      rw [← this]
      exact EvB.cmp (Ev.call ge_at (gv_len N) callee_b rfl rfl (EvL.cons (Ev.name rfl rfl rfl) EvL.nil rfl) rfl rfl (CallR.lenL (by rw [hlen2]; omega))) Ev.cint CmpR.geI rfl
    refine Ex.cons (Ex1.assign2 (d₁ := .int 0) (d₂ := .int (encC nm w).length) (Ev.tuple (EvL.cons Ev.cint (EvL.cons ?_ EvL.nil rfl) rfl) (by simp)) rfl (.inl rfl) (.inl rfl) ?_ rfl rfl)
    · rw [← hel]
      exact Ev.call ge_at (gv_len N) callee_b rfl rfl (EvL.cons (Ev.name rfl rfl rfl) EvL.nil rfl) rfl rfl (CallR.lenS (by omega))
    refine Ex.cons (Ex1.assign (d := .str (S [])) (Ev.idx (Ev.name rfl rfl rfl) Ev.cint (by decide) (by decide) rfl fun _ _ => rfl) (.inl rfl) ?_)
    refine Ex.cons (Ex1.ife (c := false) (EvB.val (Ev.name rfl rfl rfl) (TruR.str (by rw [S_len]; decide)) rfl) (fun hc => by cases hc) fun _ => Ex.nil ?_)
    refine Ex.cons (Ex1.assign (d := .str (S [])) (Ev.idxNeg (i := -1) (Ev.name (d := .lst (.str (S []) :: wsD nm xs)) rfl rfl rfl) (Ev.un Ev.cint UnR.neg) (by decide) (by rw [hlen2]; omega) (by decide) ?_ fun _ _ => rfl) (.inl rfl) ?_)
    · rw [hlen2, show ((-1 : Int) + ((xs.length + 2 : Nat) : Int)).toNat = xs.length + 1 by omega]
      show (wsD nm xs)[xs.length]? = _
      unfold wsD
      rw [List.getElem?_append_right (by simp)]
      simp
    refine Ex.cons (Ex1.ife (c := false) (EvB.val (Ev.name rfl rfl rfl) (TruR.str (by rw [S_len]; decide)) rfl) (fun hc => by cases hc) fun _ => Ex.nil ?_)
    refine Ex.cons (Ex1.ife (c := false) ?_ (fun hc => by cases hc) fun _ => Ex.nil ?_)
    · have : decide ((((encC nm w).length : Nat) : Int) < 0) = false := decide_eq_false (by omega)
      rw [← this]
      exact EvB.cmp (Ev.name rfl rfl rfl) (Ev.name rfl rfl rfl) CmpR.gtI rfl
    refine Ex.cons (Ex1.forl (ds := .str (S []) :: wsD nm xs) (EvI.list (Ev.name rfl rfl rfl) ?_) (.inl rfl) ?_)
    · show (true && nmL (wsD nm xs)) = true
      rw [Bool.true_and]
      unfold wsD
      rw [nmL_append, nmL_map _ (fun _ => rfl) xs]; rfl
    refine match_blank (a := a) N w [] (Nat.zero_le _) _ _ rfl rfl rfl fun ρ' e1 e2 e3 => ?_
    refine match_loop (a := a) N m w hw hlen xs [] w ρ' W.letters rfl e1 e2 e3 (fun q ρ'' => ?_) fun q => by rw [q]
    rw [q]
    exact Ex.cons (Ex1.ret Ev.cbool rfl)
end
end Mine

namespace Mine

theorem rhoC_get {scope : Scope} {y : Str} {d : D} (hf : scope.names.lookup y = some .free) : ∀ {ρ : Rho}, ρ.lookup y = some d → (rhoC scope ρ).lookup y = some d
  | [], h => by cases h
  | (x, e) :: ρ, h => by
    have ih := @rhoC_get scope y d hf ρ
    unfold rhoC at ih ⊢
    rw [List.filter_cons]
    rw [List.lookup_cons] at h
    by_cases q : y = x
    · subst q
      simp only [beq_self_eq_true] at h
      rw [if_pos (by rw [hf]; rfl), List.lookup_cons]
      simp only [beq_self_eq_true]
      exact h
    · have q' : (y == x) = false := by simpa using q
      rw [q'] at h
      split
      · rw [List.lookup_cons, q']; exact ih h
      · exact ih h
theorem rhoC_none {scope : Scope} {y : Str} {ρ : Rho} (hf : (scope.names.lookup y == some .free) = false) : (rhoC scope ρ).lookup y = none := by
  cases h : (rhoC scope ρ).lookup y with
  | none => rfl
  | some d =>
    have := (rhoC_lookup h).1
    rw [this] at hf; cases hf
theorem cons_keeps {ρ : Rho} {x : Str} {d : D} (hx : ρ.lookup x = none) : ∀ y e, ρ.lookup y = some e → List.lookup y ((x, d) :: ρ) = some e := fun y e h => by
  rw [List.lookup_cons]
  by_cases q : y = x
  · subst q; rw [hx] at h; cases h
  · have q' : (y == x) = false := by simpa using q
    rw [q']; exact h
section
variable {T : Th} {k : Nat} {cenv : Env} {elt iter : Expr} {ifs : List Expr} {gs : List Comprehension} {ρ : Rho}
theorem CLoop.gen {α : Type} {x : Str} {px : Pos} (hx : ρ.lookup x = none) (g : α → D) (pz : α → Bool) (f : α → List D) : ∀ l : List α, (∀ i ∈ l, EvIfs T k cenv ((x, g i) :: ρ) (pz i) ifs) → (∀ i ∈ l, pz i = true → CBody T k cenv elt gs ((x, g i) :: ρ) (f i)) →
    CLoop T k cenv elt ⟨.Name x px, iter, ifs, 0⟩ gs (l.map g) ρ ((l.filter pz).flatMap f)
  | [], _, _ => .nil
  | i :: l, h1, h2 => by
    have ih := CLoop.gen (px := px) hx g pz f l (fun j hj => h1 j (.tail _ hj)) fun j hj => h2 j (.tail _ hj)
    rw [List.filter_cons]
    cases hp : pz i with
    | false =>
      simp only [Bool.false_eq_true, if_false]
      exact .skip rfl (cons_keeps hx) (hp ▸ h1 i (.head _)) ih
    | true =>
      simp only [if_true, List.flatMap_cons]
      exact .take rfl (cons_keeps hx) (hp ▸ h1 i (.head _)) (h2 i (.head _) hp) ih
theorem flatMap_one {α β : Type} (f : α → β) : ∀ l : List α, l.flatMap (fun i => [f i]) = l.map f
  | [] => rfl
  | a :: l => by rw [List.flatMap_cons, List.map_cons, flatMap_one f l]; rfl
theorem filter_true {α : Type} : ∀ l : List α, l.filter (fun _ => true) = l
  | [] => rfl
  | a :: l => by rw [List.filter_cons]; simp
/-- no tests, one item each -/
theorem CLoop.map {α : Type} {x : Str} {px : Pos} (hx : ρ.lookup x = none) (g f : α → D) (l : List α) (h : ∀ i ∈ l, Ev T k cenv elt ((x, g i) :: ρ) (f i)) (hm : ∀ i ∈ l, (f i).nm = true) :
    CLoop T k cenv elt ⟨.Name x px, iter, [], 0⟩ [] (l.map g) ρ (l.map f) := by
  have := CLoop.gen (T := T) (k := k) (cenv := cenv) (elt := elt) (iter := iter) (ifs := []) (gs := []) (px := px) hx g (fun _ => true) (fun i => [f i]) l (fun _ _ => rfl) fun i hi _ => .nil (h i hi) (hm i hi)
  rw [filter_true, flatMap_one] at this
  exact this
/-- one test, one item each -/
theorem CLoop.flt {α : Type} {x : Str} {px : Pos} {c : Expr} (hx : ρ.lookup x = none) (g f : α → D) (pz : α → Bool) (l : List α) (hc : ∀ i ∈ l, EvB T k cenv c ((x, g i) :: ρ) (pz i)) (h : ∀ i ∈ l, pz i = true → Ev T k cenv elt ((x, g i) :: ρ) (f i)) (hm : ∀ i ∈ l, (f i).nm = true) :
    CLoop T k cenv elt ⟨.Name x px, iter, [c], 0⟩ [] (l.map g) ρ ((l.filter pz).map f) := by
  have := CLoop.gen (T := T) (k := k) (cenv := cenv) (elt := elt) (iter := iter) (ifs := [c]) (gs := []) (px := px) hx g pz (fun i => [f i]) l hc fun i hi hp => .nil (h i hi hp) (hm i hi)
  rw [flatMap_one] at this
  exact this
theorem two_keeps {x y : Str} {d e : D} (hx : ρ.lookup x = none) (hy : ρ.lookup y = none) : ∀ z e', ρ.lookup z = some e' → List.lookup z ((y, e) :: (x, d) :: ρ) = some e' := fun z e' h => by
  rw [List.lookup_cons]
  by_cases q : z = y
  · subst q; rw [hy] at h; cases h
  · have q' : (z == y) = false := by simpa using q
    rw [q']; exact cons_keeps hx z e' h
/-- a pair for a target -/
theorem CLoop.map2 {α : Type} {x y : Str} {px py p : Pos} {n : Nat} (hx : ρ.lookup x = none) (hy : ρ.lookup y = none) (g₁ g₂ f : α → D) : ∀ (l : List α), (∀ i ∈ l, Ev T k cenv elt ((y, g₂ i) :: (x, g₁ i) :: ρ) (f i)) → (∀ i ∈ l, (f i).nm = true) →
    CLoop T k cenv elt ⟨.Tuple [.Name x px, .Name y py] n p, iter, [], 0⟩ [] (l.map fun i => .tup [g₁ i, g₂ i]) ρ (l.map f)
  | [], _, _ => .nil
  | i :: l, h, hm => .take (o := [f i]) rfl (two_keeps hx hy) rfl (.nil (h i (.head _)) (hm i (.head _))) (CLoop.map2 hx hy g₁ g₂ f l (fun j hj => h j (.tail _ hj)) fun j hj => hm j (.tail _ hj))
end
theorem ok1 {cenv : Addr → Env} {g : Comprehension} (h : ∀ C, g.is_async = 0 ∧ ctVars (cenv C) g.target) : ∀ C, ∀ g' ∈ [g], g'.is_async = 0 ∧ ctVars (cenv C) g'.target := fun C g' hg => by
  simp at hg; subst hg; exact h C
theorem ok2 {cenv : Addr → Env} {g₁ g₂ : Comprehension} (h₁ : ∀ C, g₁.is_async = 0 ∧ ctVars (cenv C) g₁.target) (h₂ : ∀ C, g₂.is_async = 0 ∧ ctVars (cenv C) g₂.target) : ∀ C, ∀ g' ∈ [g₁, g₂], g'.is_async = 0 ∧ ctVars (cenv C) g'.target := fun C g' hg => by
  simp at hg
  rcases hg with rfl | rfl
  · exact h₁ C
  · exact h₂ C

theorem sig12 : Sig 12 ["kept", "wants"] where
  of := rfl
  bind := fun vs pm code doc h => by
    match vs, h with
    | [x, y], _ => rfl
  nodup := by decide
  kinds := by decide
  co := rfl
  gen := rfl
  kind := rfl
/-- the first word that no pattern takes: its length -/
noncomputable def mostL (ps : List (List Nat)) : List (List Nat) → Option Nat
  | [] => none
  | w :: ws => if ps.any (fun p => scan p w) then mostL ps ws else some w.length
noncomputable def intO : Option Nat → D
  | none => .none
  | some n => .int n
section
variable {T : Th} {k : Nat} {a : Addr} {nm : Nat → Str} {pm code doc : Value} {L : Addr}
noncomputable def encD (nm : Nat → Str) (ws : List (List Nat)) : List D := ws.map fun w => .str (enc nm w)
theorem most_loop {R : Out → Prop} (N : Nm T) (lo : Low T) {b : Addr} (fb : IsFn T 2 b) (m : Menu nm) (ps : List (List Nat)) (want : List Nat → Str) (hW : ∀ p ∈ ps, Want nm p (want p)) (hps : ps.length ≤ 64) :
    ∀ (ws : List (List Nat)) (ρ : Rho), (∀ w ∈ ws, w.length ≤ 64 ∧ ∀ l ∈ w, l < 3) → Lk ρ "wants" (.lst (ps.map fun p => .str (want p))) →
      (∀ ρ' : Rho, mostL ps ws = none → R (.next ρ')) → (∀ n, mostL ps ws = some n → R (.ret (.int n))) →
      ForD T (k + 1) (envAt 12 pm code doc L a) (forTg ((bodyAt 12).getD 0 default)) (forBody ((bodyAt 12).getD 0 default)) R (encD nm ws) ρ
  | [], ρ, _, _, h1, _ => h1 ρ rfl
  | w :: ws, ρ, hw, hp, h1, h2 => by
    refine ⟨_, rfl, ?_⟩
    obtain ⟨hw1, hw2⟩ := hw w (.head _)
    refine Ex.cons (Ex1.assignC (ds := ps.map fun p => .str (want p)) (out := ps.map fun p => .bool (scan p w)) ⟨rfl, rfl, rfl, rfl, rfl⟩ (EvI.list (Ev.name hp rfl rfl) (nmL_map _ (fun _ => rfl) _)) (ok1 fun C => ⟨rfl, rfl⟩) (fun C => ?_) (by simp; omega) rfl ?_ rfl)
    · refine CLoop.map (rhoC_none rfl) (fun p => .str (want p)) (fun p => .bool (scan p w)) ps (fun p hp' => ?_) fun _ _ => rfl
      exact Ev.call ⟨rfl, rfl⟩ (.inl fb) (fb.callee sig2) rfl rfl (EvL.cons (Ev.name rfl rfl rfl) (EvL.cons (d := .str (enc nm w)) (Ev.name (rhoC_get rfl rfl) rfl rfl) EvL.nil rfl) rfl) rfl rfl (fn_match N lo fb m (hW p hp') hw2 hw1)
    refine Ex.cons (Ex1.ife (c := false) (EvB.cmp (d₁ := .lst []) (d₂ := .lst []) (Ev.comp lo (ds := ps.map fun p => .bool (scan p w)) ⟨rfl, rfl, rfl, rfl, rfl⟩ (EvI.list (Ev.name rfl rfl rfl) (nmL_map _ (fun _ => rfl) _)) (ok1 fun C => ⟨rfl, rfl⟩) (fun C => ?_) (Nat.zero_le _)) (Ev.list EvL.nil (Nat.zero_le _)) (CmpR.neL trivial) rfl) (fun hc => by cases hc) fun _ => Ex.nil ?_)
    · have e : (ps.filter fun p => ((scan p w != true) && (scan p w != false))).map (fun p => D.bool (scan p w)) = [] := by
        rw [List.filter_eq_nil_iff.mpr fun p _ => by cases scan p w <;> simp]; rfl
      rw [← e]
      exact CLoop.flt (rhoC_none rfl) (fun p => .bool (scan p w)) (fun p => .bool (scan p w)) _ ps (fun p _ => EvB.and2 (EvB.cmp (Ev.name rfl rfl rfl) Ev.cbool CmpR.isNotB rfl) fun _ => EvB.cmp (Ev.name rfl rfl rfl) Ev.cbool CmpR.isNotB rfl) (fun p _ _ => Ev.name rfl rfl rfl) fun _ _ => rfl
    have e : (!(ps.map fun p => D.bool (scan p w)).any (flatEq · (.bool true))) = !ps.any (fun p => scan p w) := by
      rw [List.any_map]
      congr 1
      congr 1
      funext p
      show (scan p w == true) = _
      simp
    refine Ex.cons (Ex1.ife (c := !ps.any (fun p => scan p w)) (by rw [← e]; exact EvB.cmp Ev.cbool (Ev.name rfl rfl rfl) (CmpR.notInL fun d' hd => by obtain ⟨p, _, rfl⟩ := List.mem_map.mp hd; trivial) rfl) (fun hc => ?_) fun hc => Ex.nil ?_)
    · have q : ps.any (fun p => scan p w) = false := by simpa using hc
      refine Ex.cons (Ex1.ret (d := .int w.length) ?_ (h2 _ (by rw [mostL, q]; rfl)))
      rw [← count_enc m w]
      exact Ev.smeth (Ev.name rfl rfl rfl) F.slot_str_count F.type_str_count (EvL.cons Ev.cstr EvL.nil rfl) rfl rfl rfl rfl rfl CallR.count
    · have q : ps.any (fun p => scan p w) = true := by simpa using hc
      have e2 : mostL ps (w :: ws) = mostL ps ws := by rw [mostL, q]; rfl
      rw [e2] at h1 h2
      exact Ex.nil (most_loop N lo fb m ps want hW hps ws _ (fun v hv => hw v (.tail _ hv)) hp h1 h2)
theorem fn_most {ws : List (List Nat)} (N : Nm T) (lo : Low T) {b : Addr} (fb : IsFn T 2 b) (f : IsFn T 12 a) (m : Menu nm) (ps : List (List Nat)) (want : List Nat → Str) (hW : ∀ p ∈ ps, Want nm p (want p)) (hps : ps.length ≤ 64) (hw : ∀ w ∈ ws, w.length ≤ 64 ∧ ∀ l ∈ w, l < 3) :
    CallR T (k + 2) (.ref a) [.lst (encD nm ws), .lst (ps.map fun p => .str (want p))] (intO (mostL ps ws)) :=
  fn_of lo sig12 f rfl (by simp only [nmL, D.nm]; unfold encD; rw [nmL_map _ (fun _ => rfl) ws, nmL_map _ (fun _ => rfl) ps]; rfl) (by cases mostL ps ws <;> rfl) fun pm code doc L _ => by
    refine Ex.cons (Ex1.forl (ds := encD nm ws) (EvI.list (Ev.name rfl rfl rfl) (nmL_map _ (fun _ => rfl) _)) (.inr ⟨rfl, rfl⟩) ?_)
    refine most_loop (a := a) N lo fb m ps want hW hps ws _ hw rfl (fun ρ' q => ?_) fun n q => by rw [q]; rfl
    rw [q]
    exact Ex.cons (Ex1.ret Ev.cnone rfl)
end
end Mine

namespace Mine

theorem perm_lift {α β : Type} {f : α → β} {l₁ l₂ : List β} (h : l₁.Perm l₂) : ∀ l : List α, l.map f = l₁ → ∃ l', l'.map f = l₂ ∧ l.Perm l' := by
  induction h with
  | nil => intro l e; exact ⟨l, e, .refl _⟩
  | cons x _ ih =>
    intro l e
    cases l with
    | nil => cases e
    | cons a l =>
      rw [List.map_cons] at e
      obtain ⟨rfl, e2⟩ := List.cons.inj e
      obtain ⟨l', e', p⟩ := ih l e2
      exact ⟨a :: l', by rw [List.map_cons, e'], p.cons a⟩
  | swap x y r =>
    intro l e
    match l, e with
    | a :: b :: l, e =>
      rw [List.map_cons, List.map_cons] at e
      obtain ⟨rfl, e2⟩ := List.cons.inj e
      obtain ⟨rfl, rfl⟩ := List.cons.inj e2
      exact ⟨b :: a :: l, rfl, .swap b a l⟩
  | trans _ _ ih1 ih2 =>
    intro l e
    obtain ⟨l', e', p⟩ := ih1 l e
    obtain ⟨l'', e'', p'⟩ := ih2 l' e'
    exact ⟨l'', e'', p.trans p'⟩

/-- all that stands beside one object -/
noncomputable def allBut (h : Heap) (L : Addr) : List (Addr × Obj) := (List.range h.objs.size).filterMap fun a => if a = L then none else (h.get? a).map fun o => (a, o)
theorem mem_allBut {h : Heap} {L a : Addr} {o : Obj} : (a, o) ∈ allBut h L ↔ a ≠ L ∧ h.get? a = some o := by
  unfold allBut
  rw [List.mem_filterMap]
  constructor
  · rintro ⟨b, hb, e⟩
    by_cases q : b = L
    · rw [if_pos q] at e; cases e
    · rw [if_neg q] at e
      obtain ⟨o', ho', e⟩ := Option.map_eq_some_iff.mp e
      cases e
      exact ⟨q, ho'⟩
  · rintro ⟨q, e⟩
    exact ⟨a, List.mem_range.mpr (Heap.lt_size e), by rw [if_neg q, e]; rfl⟩
noncomputable def noHeap : Heap := { (default : Heap) with objs := #[] }
theorem noHeap_get (a : Addr) : noHeap.get? a = none := Heap.get?_none_of_le (by simp [noHeap])

section
variable {T : Th} {k : Nat} {env : Env} {ρ : Rho} {R : Out → Prop}
theorem kp_allBut {s : Shared} {h : Heap} {tk : Nat} {L : Addr} {m : Str → Option Value} (hL : T.n ≤ L) (hn : s.heap.Ns L m) (nl : s.heap.get? T.P ≠ none → T.P ≠ L) (F : Fr noHeap L h m) (N : News noHeap L h (allBut s.heap L)) : Kp T s { s with heap := h, toks := tk } := by
  have keep : ∀ b o, b ≠ L → s.heap.get? b = some o → h.get? b = some o := fun b o hb e => (N (b, o) (mem_allBut.mpr ⟨hb, e⟩)).1
  refine ⟨h, tk, rfl, fun b o e t => ?_, fun x => ?_⟩
  · by_cases q : b = L
    · subst q
      exact .inr ⟨hL, m, hn, F.ns⟩
    · exact .inl (keep b o q e)
  · obtain ⟨ps, e, r⟩ := x
    refine ⟨ps, keep _ _ (nl (by rw [e]; nofun)) e, r.imp id fun ⟨c', e', c, o, vs, t, q1, ho, hd, hv⟩ => ⟨c', e', c, o, vs, t, q1, keep _ _ (fun q => ?_) ho, hd, hv⟩⟩
    obtain ⟨es, ep, hd'⟩ := ns_dict (q ▸ ho) hn
    rw [hd] at hd'; cases hd'

/-- the lambda is made -/
theorem lam_make {A : Around} {s : Shared} {E : Value → Shared → Prop} {Q : Value → Shared → Prop} {params : Arguments} {body : Expr} {scope : Scope} {pos : Pos} (G : Gl T s.heap) (hge : env.globals = mainGlobals) (hcode : env.code = .ref T.c) (hcl : closureFor scope env = pure [])
    (hdef : defaultsOf params env = ([], [])) (hl : pos.line = 88) (hc : pos.col = 28) (hq : env.qual ++ "<lambda>" = lamQ)
    (hQ : ∀ f s' c' ctv, Kp T s s' → s'.heap.get? f = some (kla_obj "<lambda>" lamQ params body scope [] ((T.mg "__name__").getD .none) c' ctv) → s'.heap.CodeRec (.ref c') lamQ → Q (.ref f) s') :
    wpAny (model T.prog T.w) A (eval (.Lambda params body scope pos) env) Q E s := by
  refine kla_eval hdef ?_
  rw [hq]
  obtain ⟨ps, hP, r⟩ := G.tab
  rcases r with rfl | ⟨c', rfl, hrec⟩
  · refine kla_makeFunction hcl hge G.g hcode G.hd hP trivial rfl G.ne G.bmain fun c' ctv h' tk hx hge' hlt hrec hP' => ?_
    refine hQ _ _ c' ctv ⟨_, tk, rfl, fun b o e t => .inl (Heap.get?_push_of_some _ (hx b o (fun q => ?_) e)), fun _ => ⟨_, Heap.get?_push_of_some _ hP', .inr ⟨c', ?_, hrec.keeps fun b o e => Heap.get?_push_of_some _ e⟩⟩⟩ (Heap.get?_push_size _ rfl) (hrec.keeps fun b o e => Heap.get?_push_of_some _ e)
    · rw [q, hP] at e; cases e
      exact t q #[] (by simp) rfl
    · rw [hl, hc]; rfl
  · have hf : codeAmong pos (#[rawInt 88, rawInt 28, .ref c'] : Array Value).toList = some (.ref c') := by
      show (if ((88 : Int) == pos.line && (28 : Int) == pos.col) = true then _ else _) = _
      rw [hl, hc]; rfl
    refine kla_makeFunctionHit hcl hge G.g hcode G.hd hP trivial hf G.bmain fun ctv h' tk hk hsz => ?_
    have hk' : ∀ b o, s.heap.get? b = some o → (h'.push { cls := .type "function", data := .func (kla_fn "<lambda>" lamQ params body scope [] ((T.mg "__name__").getD .none) (.ref c') ctv) }).get? b = some o := fun b o e => Heap.get?_push_of_some _ (hk b o e)
    exact hQ _ _ c' ctv (Kp.of hk') (Heap.get?_push_size _ rfl) (hrec.keeps hk')
/-- the lambda's call tells the number of the sign in the text -/
theorem lam_call {A : Around} {s : Shared} {f c' : Addr} {ctv pmv : Value} {params : Arguments} {scope : Scope} {p1 p2 p3 p4 : Pos} {i1 : Nat} {x c : Str} {t : Tok} {Q : Value → Shared → Prop} {E : Value → Shared → Prop} (hroom : A.depth < recursionLimit)
    (lim : s.heap.NoLimit) (ho : s.heap.get? f = some (kla_obj "<lambda>" lamQ params (.Call (.Attribute (.Name "part" p1) "count" p2) [.Constant (.str c) i1 p3] [] p4) scope [] pmv c' ctv)) (hrec : s.heap.CodeRec (.ref c') lamQ)
    (hbind : bindArgs (kla_fn "<lambda>" lamQ params (.Call (.Attribute (.Name "part" p1) "count" p2) [.Constant (.str c) i1 p3] [] p4) scope [] pmv (.ref c') ctv) ⟨[.str x t], []⟩ = pure [((Str.ofString "part"), Value.str x t)])
    (hco : scope.isCoroutine = false) (hgen : scope.isGenerator = false) (hkind : scope.kind = .function) (hnc : ∀ y ∈ scope.names, y.2 ≠ .cell) (hloc : scope.names.lookup (Str.ofString "part") = some .local) (hline : (p2.endLine == p4.line) = true)
    (hQ : ∀ h' tk t', (∀ b o, s.heap.get? b = some o → h'.get? b = some o) → Q (.int (Txt.count x c) t') { s with heap := h', toks := tk }) : wpAny (model T.prog T.w) A (call (.ref f) [.str x t]) Q E s := by
  refine wpAny_call (kla_callFunE hroom ho rfl hco hgen rfl hrec ?_)
  refine wpAny_of_eq hbind ?_
  refine wpAny_newFunctionEnv hnc (fun y hy => by simp at hy; subst hy; exact hloc) (fun h' hns hsb => ?_) hkind
  have keep : ∀ b o, s.heap.get? b = some o → h'.get? b = some o := fun b o e => hsb.extBut b o (fun q => by rw [q, get?_size] at e; cases e) (Heap.get?_push_of_some _ e)
  refine ⟨lim.keeps keep, kla_codeExpr ?_⟩
  refine wpAny_Call_method_lateS rfl rfl hline (wpAny_Name (wpAny_loadName_local hkind hloc hns rfl ?_) rfl)
  refine ⟨"str", "str.count", F.plainAttrs_str, F.slot_str_count, F.type_str_count, typeIs_str _ _ _, (fun _ e => nomatch e), Calls.callWith_builtin rfl (Calls.evalArgs_plain (wpAny_items_cons (wpAny_Constant_str (wpAny_items_nil ?_)) rfl))⟩
  exact SC.count (hQ _ _ _ keep)

/-- «return sorted(kept, key=lambda part: part.count('<'), reverse=True)» -/
theorem Ex1.retSorted {nm : Nat → Str} {ws : List (List Nat)} {params : Arguments} {scope : Scope} {p1 p2 p3 p4 sp xp cp kp kp2 pos rp : Pos} {i1 i2 : Nat} {lpos : Pos} (N : Nm T) (m : Menu nm) (ge : GEnv env) (hcode : env.code = .ref T.c)
    (hx : ρ.lookup (Str.ofString "kept") = some (.lst (encD nm ws))) (h64 : ws.length < 64)
    (hcl : closureFor scope env = pure []) (hdef : defaultsOf params env = ([], [])) (hl : lpos.line = 88) (hc : lpos.col = 28) (hq : env.qual ++ "<lambda>" = lamQ)
    (hbind : ∀ (pmv cv ctv : Value) (x : Str) (t : Tok), bindArgs (kla_fn "<lambda>" lamQ params (.Call (.Attribute (.Name "part" p1) "count" p2) [.Constant (.str "<") i1 p3] [] p4) scope [] pmv cv ctv) ⟨[.str x t], []⟩ = pure [((Str.ofString "part"), Value.str x t)])
    (hco : scope.isCoroutine = false) (hgen : scope.isGenerator = false) (hkind : scope.kind = .function) (hnc : ∀ y ∈ scope.names, y.2 ≠ .cell) (hloc : scope.names.lookup (Str.ofString "part") = some .local) (hline : (p2.endLine == p4.line) = true)
    (hks : env.kindOf "sorted" = some .globalImplicit)
    (hR : ∀ ws', ws'.Perm ws → ws'.Pairwise (fun v w => w.length ≤ v.length) → R (.ret (.lst (encD nm ws')))) :
    Ex1 T (k + 1) env (.Return (some (.Call (.Name "sorted" sp) [.Name "kept" xp] [⟨some "key", .Lambda params (.Call (.Attribute (.Name "part" p1) "count" p2) [.Constant (.str "<") i1 p3] [] p4) scope lpos, kp⟩, ⟨some "reverse", .Constant (.bool true) i2 cp, kp2⟩] pos)) rp) ρ R := fun A Z s Q E hA lo P hQ => by
  refine wpAny_Return_some (wpAny_Call_Name_kw (eval_global ge P.g P.s.kind hks rfl (gv_sorted N) (callWith_kw ?_)))
  refine EvL.cons (Ev.name (d := .lst (encD nm ws)) hx rfl rfl) EvL.nil rfl A Z s pos _ _ hA P.toPre fun vs s₁ k₁ r₁ => ?_
  obtain ⟨v, rfl, r⟩ := r₁.one
  refine kws_cons (lam_make (P.kp k₁).g ge.g hcode hcl hdef hl hc hq fun f s₂ c' ctv k₂ hf hrec => kws_cons (wpAny_Constant_bool (kws_nil ?_)))
  have k12 := k₁.trans k₂
  have P₂ := P.kp k12
  obtain ⟨l, vs, rfl, nx, hl', rl⟩ := (r.hk k₂.hk).lst_inv
  obtain ⟨mL, hn⟩ := P₂.f.ns
  show wpAny (model T.prog T.w) A (call (.builtin "sorted") [.ref l] [(Str.ofString "key", .ref f), (Str.ofString "reverse", .bool true)]) _ _ s₂
  have neL : ∀ {b o}, s₂.heap.get? b = some o → (∀ es ep, o.data ≠ .dict es ep) → b ≠ env.locals := fun {b o} e hd q => by
    obtain ⟨es, ep, q'⟩ := ns_dict (q ▸ e) hn
    exact hd _ _ q'
  have nP : T.P ≠ env.locals := by
    obtain ⟨ps, e, _⟩ := P₂.g.tab
    exact neL e (by intro es ep q; cases q)
  have F0 : Fr noHeap env.locals s₂.heap mL := ⟨hn, fun b o e => absurd e (by rw [noHeap_get]; nofun), Nat.zero_le _⟩
  have N0 : News noHeap env.locals s₂.heap (allBut s₂.heap env.locals) := fun p hp => by
    obtain ⟨b, o⟩ := p
    obtain ⟨q1, q2⟩ := mem_allBut.mp hp
    exact ⟨q2, q1, noHeap_get b⟩
  have hlen : (encD nm ws).length = ws.length := by simp [encD]
  have hvl : vs.length = ws.length := by rw [rl.length, hlen]
  have hpair : ∀ (i : Nat) (v : Value), vs[i]? = some v → ∃ w t, ws[i]? = some w ∧ v = .str (enc nm w) t := fun i v e => by
    obtain ⟨d, e1, e2⟩ := rl.get e
    unfold encD at e1
    rw [List.getElem?_map] at e1
    cases q : ws[i]? with
    | none => rw [q] at e1; cases e1
    | some w =>
      rw [q] at e1
      cases e1
      obtain ⟨t, rfl⟩ := e2.str_inv
      exact ⟨w, t, rfl, rfl⟩
  refine ksk_sorted (kz := ws.map fun w => (w.length : Int)) (b := true) (f := .ref f) F0 N0 hl' (by rw [List.length_map, hvl]) (by omega) (ksk_s2 _ _ _) (fun x => ksk_l2 _ _ _) (fun x => ksk_t2 _ _ _) (fun i v kk hv hk h tk own F' N' => ?_) fun D h' tk out c F' N' lt ko => ?_
  · obtain ⟨w, t, hw, rfl⟩ := hpair i v hv
    rw [List.getElem?_map, hw] at hk
    cases hk
    have kph : Kp T s₂ { s₂ with heap := h, toks := tk } := kp_allBut P₂.f.low hn (fun _ => nP) F' fun p hp => N' p (List.mem_append_left _ hp)
    have G' := P₂.g.kp kph
    have hf' : h.get? f = some _ := (N' (f, _) (List.mem_append_left _ (mem_allBut.mpr ⟨neL hf (by intro es ep q; cases q), hf⟩))).1
    refine lam_call (T := T) (s := { s₂ with heap := h, toks := tk }) (by have := hA.2.1; show A.depth < _; omega) G'.lim hf' (kph.hk.codeRec hrec) (hbind _ _ _ _ _) hco hgen hkind hnc hloc hline fun h₂ tk₂ t' keep => ?_
    rw [count_enc m w]
    exact ⟨h₂, tk₂, t', rfl, rfl, F'.kept keep, N'.grown keep⟩
  · have kp' : Kp T s₂ { s₂ with heap := h', toks := tk } := kp_allBut P₂.f.low hn (fun _ => nP) F' fun p hp => N' p (.tail _ hp)
    obtain ⟨ps, hp, ho, hs⟩ := ko
    -- the words beside the values
    have hz : (ws.map fun w => (w.length : Int)).zip vs = (ws.zip vs).map fun p => ((p.1.length : Int), p.2) := by rw [List.zip_map_left]; rfl
    rw [hz] at hp
    obtain ⟨prs, e1, e2⟩ := perm_lift hp.symm (ws.zip vs) rfl
    have hmem : ∀ p ∈ prs, ∃ t, p.2 = .str (enc nm p.1) t := fun p hp => by
      have := e2.mem_iff.mpr hp
      obtain ⟨i, hi, e⟩ := List.getElem_of_mem this
      have h1 : ws[i]? = some p.1 := by
        have := List.getElem?_eq_some_iff.mpr ⟨hi, e⟩
        rw [List.getElem?_zip_eq_some] at this
        exact this.1
      have h2 : vs[i]? = some p.2 := by
        have := List.getElem?_eq_some_iff.mpr ⟨hi, e⟩
        rw [List.getElem?_zip_eq_some] at this
        exact this.2
      obtain ⟨w, t, hw, hv⟩ := hpair i _ h2
      rw [h1] at hw; cases hw
      exact ⟨t, hv⟩
    have hperm : (prs.map (·.1)).Perm ws := by
      have := e2.symm.map (fun p : List Nat × Value => p.1)
      rwa [show (ws.zip vs).map (fun p : List Nat × Value => p.1) = ws by rw [← List.unzip_fst, List.unzip_zip (by omega)]] at this
    have hsort : (prs.map (·.1)).Pairwise (fun v w => w.length ≤ v.length) := by
      rw [← e1, List.pairwise_map] at hs
      rw [List.pairwise_map]
      exact hs.imp fun h => by simpa using h
    have hout : out.toList = prs.map (·.2) := by rw [ho, ← e1, List.map_map]; rfl
    have hD := N' (D, seqObj "list" out c) (.head _)
    refine hQ _ _ _ (hR (prs.map (·.1)) hperm hsort) (.of_kp (k12.trans kp')) ⟨_, rfl, P₂.g.kp kp', P₂.z.hk kp'.hk, ?_⟩
    rw [Rep]
    refine ⟨D, out.toList, rfl, fun q => ?_, ⟨_, hD.1, rfl, c, by simp⟩, ?_⟩
    · obtain ⟨o, e, _⟩ := P₂.z.x D q
      exact Nat.lt_irrefl _ (lt (D, o) (mem_allBut.mpr ⟨hD.2.1, e⟩))
    · rw [hout]
      have : ∀ l : List (List Nat × Value), (∀ p ∈ l, ∃ t, p.2 = .str (enc nm p.1) t) → RepL Z h' (l.map (·.2)) (encD nm (l.map (·.1))) := by
        intro l
        induction l with
        | nil => intro _; exact .nil
        | cons p l ih =>
          intro h
          obtain ⟨t, e⟩ := h p (.head _)
          exact .cons (by show Rep Z h' p.2 _; rw [e]; exact rep_str) (ih fun q hq => h q (.tail _ hq))
      exact this prs hmem
end
end Mine

namespace Mine

/-- a call whose answer is one of several -/
noncomputable def CallX (T : Th) (k : Nat) (f : Value) (ds : List D) (Pd : D → Prop) : Prop :=
  ∀ (A : Around) (Z : Zo) (s : Shared) (vs : List Value) (Q : Value → Shared → Prop) (E : Value → Shared → Prop), OkN T k A → Gl T s.heap → ZOk Z s.heap → RepL Z s.heap vs ds →
    (∀ v s' d, Pd d → Kp T s s' → Rep Z s'.heap v d → Q v s') → wpAny (model T.prog T.w) A (call f vs) Q E s
theorem fn_enterX {T : Th} {k n : Nat} {a : Addr} {names : List Str} {ds : List D} {Pd : D → Prop} (lo : Low T) (sg : Sig n names) (f : IsFn T n a) (hlen : ds.length = names.length) (hnm : nmL ds = true) (hdm : ∀ d, Pd d → d.nm = true)
    (h : ∀ (pm code doc : Value) (L : Addr) (A : Around) (Z : Zo) (s : Shared) (Q : Flow → Shared → Prop) (E : Value → Shared → Prop), OkN T k A → (∀ b, ¬ Z.y b) → St T Z (envAt n pm code doc L a) (names.zip ds) s →
      (n = 11 → code = .ref T.c) →
      (∀ fl s' d, Pd d → Mv T Z (envAt n pm code doc L a) s s' → Rep Z s'.heap (match fl with | .ret v => v | _ => .none) d → Q fl s') → wpAny (model T.prog T.w) A (execs (bodyAt n) (envAt n pm code doc L a)) Q E s) :
    CallX T (k + 1) (.ref a) ds Pd := fun A Z s vs Q E hA G z r hQ => by
  obtain ⟨o, pm, code, doc, h2, h3, h4, hcode⟩ : ∃ o pm code doc, s.heap.get? a = some o ∧ o.data = .func (fdAt n pm code doc) ∧ s.heap.CodeRec code (nameAt n) ∧ (n = 11 → code = .ref T.c) := by
    by_cases hn : n = 11
    · subst hn
      obtain ⟨a', o, pm, doc, dd, h0, h1, h2, h3, h4⟩ := G.kept
      have e := sg.of
      rw [h0] at e; cases e
      have : a' = a := by have := f; unfold IsFn nameAt at this; rw [h1] at this; cases this; rfl
      subst this
      exact ⟨o, pm, _, doc, h2, h3, h4, fun _ => rfl⟩
    · obtain ⟨a', o, pm, code, doc, h1, h2, h3, h4⟩ := G.fn n _ sg.of
      have : a' = a := by have := f; unfold IsFn nameAt at this; rw [h1] at this; cases this; rfl
      subst this
      exact ⟨o, pm, code, doc, h2, h3, h4, fun q => absurd q hn⟩
  have hvl : vs.length = names.length := by rw [r.length, hlen]
  have hfst : (names.zip vs).map (·.1) = names := by rw [zip_fst, hvl, List.take_length]
  have hmem : ∀ x ∈ names.zip vs, x.1 ∈ names := fun x hx => by rw [← hfst]; exact List.mem_map_of_mem hx
  refine wpAny_call (codeAny_call_cells (fd := fdAt n pm code doc) (body := bodyAt n) (binds := names.zip vs) (by have := hA.2.1; omega) h2 h3 G.lim h4 rfl (sg.bind vs pm code doc hvl) rfl
    (fun x hx => (sg.kinds x.1 (hmem x hx)).imp id fun q => ⟨q, cellsFrom_some _ _ _ (.inl q)⟩) (fun s₁ x => ?_) sg.co sg.gen sg.kind)
  obtain ⟨h₁, tk₁, rfl, keep⟩ := x.done
  have k1 : Kp T s { s with heap := h₁, toks := tk₁ } := .of keep
  have hL : T.n ≤ s.heap.objs.size := let ⟨m, hm⟩ := G.fr; Nat.le_of_lt hm.lt
  let Z' : Zo := ⟨Z.x, fun _ => False⟩
  have hfm : Fm T (envAt n pm code doc s.heap.objs.size a) h₁ := ⟨⟨_, x.toInCall.ns⟩, fun nm c q => ⟨_, x.cell nm c q⟩, x.apart, hL⟩
  have rl : RepL Z' h₁ vs ds := RepL.zone (Z := Z) (Z' := Z') (h := h₁) (fun b q _ => q) _ _ hnm (r.hk k1.hk)
  refine h pm code doc s.heap.objs.size _ Z' { s with heap := h₁, toks := tk₁ } _ _ (hA.deeper _) (fun b q => q) ⟨⟨G.kp k1, ⟨(z.hk k1.hk).x, fun b q => q.elim⟩, sg.kind, fun y d' e => ?_, hfm.cell⟩, hfm⟩ hcode fun fl s' d hPd mv r' => ?_
  · obtain ⟨v, hm, hr⟩ := zip_lookup names ds vs rl e
    refine ⟨v, ?_, hr⟩
    have hnd : ((names.zip vs).map (·.1)).Nodup := by rw [hfst]; exact sg.nodup
    rcases sg.kinds y (hmem _ hm) with q | q
    · exact .inl ⟨q, _, x.toInCall.ns, bindL_get q _ _ hnd hm⟩
    · obtain ⟨c, hc⟩ := Option.isSome_iff_exists.mp (cellsFrom_some (x := y) (scopeAt n).names (s.heap.objs.size + 1) [] (.inl q))
      refine .inr ⟨.inl q, c, hc, ?_⟩
      have := x.cell y c hc
      rw [bindC_get q _ _ hnd hm] at this
      exact this
  · have kp : Kp T s s' := by
      obtain ⟨h', tk', rfl, hk, ht⟩ := mv
      refine ⟨h', tk', rfl, fun b ob e t => ?_, fun q => ht (k1.tab q)⟩
      have nf : ¬ FrP (envAt n pm code doc s.heap.objs.size a) Z' b := fun q => by
        have hlt := Heap.lt_size e
        rcases q with q | ⟨nm, q⟩ | q
        · have q' : b = s.heap.objs.size := q
          rw [q'] at hlt
          exact Nat.lt_irrefl _ hlt
        · have hc : s.heap.objs.size < b := x.above nm b (mem_of_lookup q)
          exact Nat.lt_asymm hc hlt
        · exact q
      rcases hk b ob (keep b ob e) t nf with w | ⟨w1, m, w2, w3⟩
      · exact .inl w
      · refine .inr ⟨w1, m, ?_, w3⟩
        obtain ⟨o', es, ep, e', rr⟩ := w2
        have e'' := keep b ob e
        rw [show ({ s with heap := h₁, toks := tk₁ } : Shared).heap.get? b = some ob from e''] at e'; cases e'
        exact ⟨ob, es, ep, e, rr⟩
    exact hQ _ _ d hPd kp (Rep.zone (Z := Z') (Z' := Z) (fun b q _ => q) _ _ (hdm d hPd) r')

section
variable {T : Th} {k : Nat} {env : Env} {ρ : Rho} {R : Out → Prop}
theorem Ex1.assignX {x f : Str} {px spos p pos : Pos} {fv : Value} {e : Expr} {es : List Expr} {ds : List D} {Pd : D → Prop} (ge : GEnv env) (gv : GV T f fv) (hc : Callee T fv) (hxf : env.kindOf f = some .globalImplicit) (h1 : (f == ("__debug__" : Str)) = false)
    (hes : EvL T k env (e :: es) ρ ds) (he : starEach (e :: es) env = (false, eval e env) :: starEach es env) (hp : (backTo pos (starEach (e :: es) env)).any (·.1) = false) (h : CallX T k fv ds Pd) (hx : IsVar env x) (hR : ∀ d, Pd d → R (.next ((x, d) :: ρ)))
    (hs : swapsWith (.Call (.Name f p) (e :: es) [] pos) (some (.Name x px)) spos.line env = pure false) : Ex1 T k env (.Assign [.Name x px] (.Call (.Name f p) (e :: es) [] pos) spos) ρ R := fun A Z s Q E hA lo P hQ =>
  wpAny_Assign_Name (PyProof.Rows.Call_Name rfl (eval_global ge P.g P.s.kind hxf h1 gv (callWith_of hc he hp (hes A Z s pos _ _ hA P.toPre fun vs s₁ k₁ r₁ => ⟨(P.kp k₁).g, h A Z s₁ vs _ _ hA (P.kp k₁).g (P.kp k₁).z r₁ fun v s' d hd k' r' =>
    store_wp lo ((P.kp k₁).kp k') hx r' fun s₂ mv P' => hQ _ s₂ _ (hR d hd) (.trans (.of_kp (k₁.trans k')) mv) ⟨rfl, P'⟩⟩)))) hs
end

theorem sig11 : Sig 11 ["names"] where
  of := rfl
  bind := fun vs pm code doc h => by
    match vs, h with
    | [x], _ => rfl
  nodup := by decide
  kinds := by decide
  co := rfl
  gen := rfl
  kind := rfl
noncomputable def keptStep (ws : List (List Nat)) (x : Nat) : List (List Nat) := ws ++ (ws.map (· ++ [x])).filter fun v => !ws.contains v
noncomputable def keptL (names : List Nat) : List (List Nat) := names.foldl keptStep [[]]
theorem kept_le : ∀ (names : List Nat) (ws : List (List Nat)), ws.length ≤ (names.foldl keptStep ws).length
  | [], ws => Nat.le_refl _
  | x :: names, ws => Nat.le_trans (by unfold keptStep; simp) (kept_le names (keptStep ws x))
theorem enc_snoc {nm : Nat → Str} (w : List Nat) (x : Nat) : enc nm w ++ "<" ++ nm x ++ ">" = enc nm (w ++ [x]) := by
  have c1 : (("<" : Str)) = S [60] := by decide +kernel
  have c2 : ((">" : Str)) = S [62] := by decide +kernel
  unfold enc
  rw [c1, c2, S_app, show nm x = S (cp nm x) from (S_of _).symm, S_app, S_app, encC_app]
  show _ = S (encC nm w ++ (tagC nm x ++ []))
  simp [tagC]
noncomputable def WordsOk (n : Nat) (ws : List (List Nat)) : Prop := ∀ w ∈ ws, w.length ≤ n ∧ ∀ l ∈ w, l < 3
theorem keptStep_ok {n x : Nat} {ws : List (List Nat)} (h : WordsOk n ws) (hx : x < 3) : WordsOk (n + 1) (keptStep ws x) := fun w hw => by
  unfold keptStep at hw
  rcases List.mem_append.mp hw with hw | hw
  · exact ⟨Nat.le_succ_of_le (h w hw).1, (h w hw).2⟩
  · obtain ⟨v, hv, rfl⟩ := List.mem_map.mp (List.mem_filter.mp hw).1
    refine ⟨by simp; exact (h v hv).1, fun l hl => ?_⟩
    rcases List.mem_append.mp hl with hl | hl
    · exact (h v hv).2 l hl
    · simp at hl; subst hl; exact hx
theorem keptL_ok : ∀ (names : List Nat) {n : Nat} {ws : List (List Nat)}, WordsOk n ws → (∀ x ∈ names, x < 3) → WordsOk (n + names.length) (names.foldl keptStep ws)
  | [], n, ws, h, _ => h
  | x :: names, n, ws, h, hx => by
    have := keptL_ok names (keptStep_ok h (hx x (.head _))) fun y hy => hx y (.tail _ hy)
    rw [List.length_cons, show n + (names.length + 1) = n + 1 + names.length by omega]
    exact this
section
variable {T : Th} {k : Nat} {a : Addr} {nm : Nat → Str} {pm code doc : Value} {L : Addr}
theorem enc_len (m : Menu nm) {w : List Nat} : (enc nm w).length ≤ 5 * w.length := by unfold enc; rw [S_len]; exact encC_len m w
theorem kept_loop {R : Out → Prop} (lo : Low T) (m : Menu nm) : ∀ (names : List Nat) (ws : List (List Nat)) (n : Nat) (ρ : Rho), WordsOk n ws → n + names.length ≤ 64 → (∀ x ∈ names, x < 3) → (names.foldl keptStep ws).length < 64 → Lk ρ "kept" (.lst (encD nm ws)) →
    (∀ ρ' : Rho, Lk ρ' "kept" (.lst (encD nm (names.foldl keptStep ws))) → R (.next ρ')) →
    ForD T k (envAt 11 pm code doc L a) (forTg ((bodyAt 11).getD 1 default)) (forBody ((bodyAt 11).getD 1 default)) R (strL nm names) ρ
  | [], ws, n, ρ, _, _, _, _, h1, hR => hR ρ h1
  | x :: names, ws, n, ρ, hws, hn, hx, hlen, h1, hR => by
    refine ⟨_, rfl, ?_⟩
    have hx3 := hx x (.head _)
    have hxs := m.short x
    have hle := kept_le names (keptStep ws x)
    have hlen' : (names.foldl keptStep (keptStep ws x)).length < 64 := hlen
    have hws64 : ws.length < 64 := by have : ws.length ≤ (keptStep ws x).length := by unfold keptStep; simp
                                      omega
    rw [List.length_cons] at hn
    refine Ex.cons (Ex1.assign (d := .lst (encD nm (keptStep ws x))) ?_ (.inr ⟨rfl, rfl⟩) ?_)
    · have e : encD nm (keptStep ws x) = encD nm ws ++ ((ws.map (· ++ [x])).filter fun v => !ws.contains v).map (fun v => D.str (enc nm v)) := by unfold encD keptStep; rw [List.map_append]
      rw [e]
      have fl : (((ws.map (· ++ [x])).filter fun v => !ws.contains v).map (fun v => D.str (enc nm v))).length ≤ ws.length := by
        rw [List.length_map]; exact Nat.le_trans (List.length_filter_le _ _) (by simp)
      refine Ev.bin (Ev.name (d := .lst (encD nm ws)) h1 rfl rfl) (Ev.comp lo (ds := (ws.map (· ++ [x])).map (fun v => D.str (enc nm v))) ⟨rfl, rfl, rfl, rfl, rfl⟩ (EvI.list (Ev.comp lo (ds := encD nm ws) ⟨rfl, rfl, rfl, rfl, rfl⟩ (EvI.list (Ev.name (d := .lst (encD nm ws)) h1 rfl rfl) (nmL_map _ (fun _ => rfl) _)) (ok1 fun C => ⟨rfl, rfl⟩) (fun C => ?_) (by simp; omega)) (nmL_map _ (fun _ => rfl) _)) (ok1 fun C => ⟨rfl, rfl⟩) (fun C => ?_) (by omega)) (BinR.addL (by rw [show (encD nm ws).length = ws.length by simp [encD]]; omega))
      · rw [List.map_map]
        refine CLoop.map (rhoC_none rfl) (fun w => .str (enc nm w)) (fun w => .str (enc nm (w ++ [x]))) ws (fun w hw => ?_) fun _ _ => rfl
        have hw1 := (hws w hw).1
        have hel := enc_len m (w := w)
        have c1 : (Str.ofString "<").length = 1 := by decide +kernel
        have c2 : (Str.ofString ">").length = 1 := by decide +kernel
        rw [← enc_snoc]
        exact Ev.bin (Ev.bin (Ev.bin (Ev.name rfl rfl rfl) Ev.cstr (BinR.addS (by omega))) (Ev.name (d := .str (nm x)) (rhoC_get rfl rfl) rfl rfl) (BinR.addS (by rw [app_len]; omega))) Ev.cstr (BinR.addS (by rw [app_len, app_len]; omega))
      · refine CLoop.flt (rhoC_none rfl) (fun v => .str (enc nm v)) (fun v => .str (enc nm v)) (fun v => !ws.contains v) (ws.map (· ++ [x])) (fun v hv => ?_) (fun _ _ _ => Ev.name rfl rfl rfl) fun _ _ => rfl
        have hv3 : ∀ l ∈ v, l < 3 := by
          obtain ⟨w, hw, rfl⟩ := List.mem_map.mp hv
          intro l hl
          rcases List.mem_append.mp hl with hl | hl
          · exact (hws w hw).2 l hl
          · simp at hl; subst hl; exact hx3
        have e : (!(encD nm ws).any (flatEq · (.str (enc nm v)))) = !ws.contains v := by
          congr 1
          have : ∀ l : List (List Nat), (∀ w ∈ l, ∀ y ∈ w, y < 3) → (encD nm l).any (flatEq · (.str (enc nm v))) = l.contains v := by
            intro l
            induction l with
            | nil => intro _; rfl
            | cons w l ih =>
              intro hl
              show ((enc nm w == enc nm v) || (encD nm l).any (flatEq · (.str (enc nm v)))) = _
              rw [ih fun u hu => hl u (.tail _ hu), List.contains_cons]
              congr 1
              by_cases q : v = w
              · subst q; simp
              · have : ¬ enc nm w = enc nm v := fun z => q (enc_inj m hv3 (hl w (.head _)) (S_inj z).symm)
                rw [show (v == w) = false by simpa using q]
                simpa using this
          exact this ws fun w hw => (hws w hw).2
        rw [← e]
        exact EvB.cmp (Ev.name rfl rfl rfl) (Ev.name (d := .lst (encD nm ws)) (rhoC_get rfl h1) rfl rfl) (CmpR.notInL fun d' hd => by obtain ⟨w, _, rfl⟩ := List.mem_map.mp hd; trivial) rfl
    refine Ex.nil ?_
    exact kept_loop lo m names (keptStep ws x) (n + 1) _ (keptStep_ok hws hx3) (by omega) (fun y hy => hx y (.tail _ hy)) hlen' rfl hR
noncomputable def KeptP (nm : Nat → Str) (names : List Nat) (d : D) : Prop := ∃ ws, ws.Perm (keptL names) ∧ ws.Pairwise (fun v w => w.length ≤ v.length) ∧ d = .lst (encD nm ws)
theorem fn_kept {names : List Nat} (N : Nm T) (lo : Low T) (f : IsFn T 11 a) (m : Menu nm) (hx : ∀ x ∈ names, x < 3) (hl : names.length ≤ 64) (hlen : (keptL names).length < 64) : CallX T (k + 2) (.ref a) [.lst (strL nm names)] (KeptP nm names) := by
  refine fn_enterX lo sig11 f rfl (by simp only [nmL, D.nm]; rw [strL_nm]; rfl) (fun d hd => by obtain ⟨ws, _, _, rfl⟩ := hd; exact nmL_map _ (fun _ => rfl) ws) fun pm code doc L A Z s Q E hA _ P hcode hQ => ?_
  have body : Ex T (k + 1) (envAt 11 pm code doc L a) (bodyAt 11) (([(Str.ofString "names")] : List Str).zip [.lst (strL nm names)]) (fun o => ∃ d, KeptP nm names d ∧ o = .ret d) := by
    have e0 : (Str.ofString "") = enc nm [] := by show _ = S []; decide +kernel
    refine Ex.cons (Ex1.assign (d := .lst (encD nm [[]])) (Ev.list (EvL.cons (d := .str (enc nm [])) (by rw [← e0]; exact Ev.cstr) EvL.nil rfl) (show 1 ≤ 4096 by decide)) (.inr ⟨rfl, rfl⟩) ?_)
    refine Ex.cons (Ex1.forl (ds := strL nm names) (EvI.list (Ev.name rfl rfl rfl) (strL_nm _)) (.inr ⟨rfl, rfl⟩) ?_)
    refine kept_loop (a := a) lo m names [[]] 0 _ (fun w hw => by simp at hw; subst hw; exact ⟨Nat.le_refl _, fun l hl => by cases hl⟩) (by omega) hx hlen rfl fun ρ' h1 => ?_
    refine Ex.cons (Ex1.retSorted N m ge_at (hcode rfl) h1 hlen rfl rfl rfl rfl rfl (fun _ _ _ _ _ => rfl) rfl rfl rfl (by decide) rfl rfl rfl fun ws' hp hs => ?_)
    exact ⟨_, ⟨ws', hp, hs, rfl⟩, rfl⟩
  refine body A Z s Q E hA lo P fun fl s' o ho mv is => ?_
  obtain ⟨d, hd, rfl⟩ := ho
  obtain ⟨v, rfl, _, _, r⟩ := is
  exact hQ _ _ d hd mv r
end
end Mine

namespace Mine

noncomputable def enumD (i : Nat) : List D → List D
  | [] => []
  | d :: ds => .tup [.int i, d] :: enumD (i + 1) ds
section
variable {T : Th} {k : Nat} {A : Around} {Z : Zo} {cenv : Env} {Dx : Addr} {elt iter : Expr} {scope : Scope} {pos : Pos} {ρ : Rho}
/-- two iterators changed at once, as one and then the other -/
theorem two_steps {h h' : Heap} {e it : Addr} {oe oe' : Obj} (he : h.get? e = some oe) (he' : h'.get? e = some oe') (nf : oe.isFreed = false) (hk : ∀ b o, b ≠ e → b ≠ it → h.get? b = some o → h'.get? b = some o) :
    ∃ hm, Heap.ExtBut it h hm ∧ Heap.ExtBut e hm h' ∧ hm.get? e = some oe := by
  refine ⟨h'.update e (fun _ => oe), fun b o hb e0 => ?_, fun b o hb e0 => ?_, Heap.get?_update_self _ he' nf⟩
  · by_cases q : b = e
    · subst q
      rw [he] at e0; cases e0
      exact Heap.get?_update_self _ he' nf
    · rw [Heap.get?_update_other _ _ (Ne.symm q)]
      exact hk b o q hb e0
  · rw [Heap.get?_update_other _ _ (Ne.symm hb)] at e0
    exact e0
theorem enumObj {h : Heap} {e it : Addr} {i : Int} {old : Value} (he : IsEnum h e it i old) : ∃ o, h.get? e = some o ∧ IterObj o ∧ o.isFreed = false :=
  ⟨_, he, ⟨⟨_, rfl, fun x t q => by simp at q⟩, nofun, fun q => by injection q with q; exact absurd q (by decide)⟩, rfl⟩
theorem listIterObj {h : Heap} {it l : Addr} {i : Nat} (hit : h.IsListIter it l i) : ∃ o, h.get? it = some o ∧ IterObj o := by
  obtain ⟨o, e, hc, hd⟩ := hit
  exact ⟨o, e, ⟨_, hd, fun x t q => by simp at q⟩, by rw [hc]; nofun, by rw [hc]; decide⟩
theorem isIterOff {es : List D} {s : Shared} {I : Addr} {o : Obj} (c : CSt T Z cenv Dx es ρ s) (e : s.heap.get? I = some o) (io : IterObj o) (nz : ¬ Z.x I) : ¬ CX cenv Dx I := fun q => by
  rcases q with q | q
  · obtain ⟨m, x⟩ := c.ns
    obtain ⟨es', ep, hd'⟩ := ns_dict (q ▸ e) x
    exact io.not_dict _ _ hd'
  · exact nz (q ▸ c.zx)

structure EnSt (Z : Zo) (h : Heap) (e it l : Addr) (i : Nat) (vs : List Value) (ds : List D) : Prop where
  en : ∃ old, IsEnum h e it i old
  li : h.IsListIter it l i
  ls : h.IsList l vs.toArray
  r : RepL Z h (vs.drop i) ds
  ne : e ≠ it
  ze : ¬ Z.x e
  zi : ¬ Z.x it
  zl : ¬ Z.x l
theorem EnSt.mvx {X : Addr → Prop} {n : Nat} {h h' : Heap} {e it l : Addr} {i : Nat} {vs : List Value} {ds : List D} (x : EnSt Z h e it l i vs ds) (hm : nmL ds = true) (o : OffX Z X h) (ne : ¬ X e) (ni : ¬ X it) (k : HKx X n h h') : EnSt Z h' e it l i vs ds where
  en := by
    obtain ⟨old, he⟩ := x.en
    obtain ⟨o', e', io, _⟩ := enumObj he
    refine ⟨old, ?_⟩
    exact k.exact he (.cls nofun) ne (by nofun)
  li := by
    obtain ⟨o', e', hc, hd⟩ := x.li
    exact ⟨o', k.exact e' (.cls (by rw [hc]; nofun)) ni (by rw [hd]; nofun), hc, hd⟩
  ls := by
    obtain ⟨o', e', hc, n', hd⟩ := id x.ls
    exact ⟨o', k.exact e' (.seq hd) (o.l x.ls x.zl) (by rw [hd]; nofun), hc, n', hd⟩
  r := x.r.mv o k _ _ hm
  ne := x.ne
  ze := x.ze
  zi := x.zi
  zl := x.zl

theorem enum_loop {x y : Str} {px py p : Pos} {n : Nat} (hA : OkN T k A) (lo : Low T) (hok : ctVars cenv (.Tuple [.Name x px, .Name y py] n p)) (hx : ρ.lookup x = none) (hy : ρ.lookup y = none) (f : Nat → D → D)
    {e it l : Addr} {vs : List Value} : ∀ (ds : List D) (i : Nat) (es : List D) (s : Shared) (R : Result → Shared → Prop), (∀ j d, ds[j]? = some d → Ev T k cenv elt ((y, d) :: (x, .int ((i + j : Nat) : Int)) :: ρ) (f (i + j) d) ∧ (f (i + j) d).nm = true) → nmL ds = true →
      CSt T Z cenv Dx es ρ s → EnSt Z s.heap e it l i vs ds → es.length + ds.length ≤ 4096 →
      (∀ s', MvX T (fun b => CX cenv Dx b ∨ b = e ∨ b = it) s s' → CSt T Z cenv Dx (es ++ ds.mapIdx fun j d => f (i + j) d) ρ s' → R (.ok .next) s') →
      codeAny (model T.prog T.w) A (.compLoop (.ListComp elt [⟨.Tuple [.Name x px, .Name y py] n p, iter, [], 0⟩] scope pos) 0 (.ref e) (.ref Dx) cenv) R s
  | [], i, es, s, R, hf, hm, c, en, hlen, hR => by
    refine codeAny_of_tree ?_
    show wpAny _ A ((compTurn (.ListComp elt [⟨.Tuple [.Name x px, .Name y py] n p, iter, [], 0⟩] scope pos) 0 (.ref e) (.ref Dx) cenv).onRaise (fun x => do noteFrame x cenv; theTreesLotGoes x)) _ _ s
    refine wpAny_noted ?_
    rw [compTurn_eq elt _ scope pos 0 _ _ cenv _ rfl rfl (by intro g' q; cases q)]
    obtain ⟨old, he⟩ := en.en
    obtain ⟨o, eo, io⟩ := listIterObj en.li
    have hlen' := en.r.length
    simp at hlen'
    refine wpAny_bind (wpAny_standAt (wpAny_bind (wpAny_pyNext_enum_end hA.1 he en.li en.ls (by simp; omega) fun h' hb => wpAny_pure ?_)))
    have c₁ : CSt T Z cenv Dx es ρ { s with heap := h', toks := s.toks } := c.iter lo en.zi io eo hb
    exact hR _ ((MvX.tick (T := T) (X := CX cenv Dx) (tk := s.toks) io eo hb).mono fun b q => q.imp id .inr) (by simpa using c₁)
  | d :: ds, i, es, s, R, hf, hm, c, en, hlen, hR => by
    refine codeAny_of_tree ?_
    show wpAny _ A ((compTurn (.ListComp elt [⟨.Tuple [.Name x px, .Name y py] n p, iter, [], 0⟩] scope pos) 0 (.ref e) (.ref Dx) cenv).onRaise (fun x => do noteFrame x cenv; theTreesLotGoes x)) _ _ s
    refine wpAny_noted ?_
    rw [compTurn_eq elt _ scope pos 0 _ _ cenv _ rfl rfl (by intro g' q; cases q)]
    obtain ⟨old, he⟩ := en.en
    obtain ⟨oe, eoe, ioe, nfe⟩ := enumObj he
    obtain ⟨oi, eoi, ioi⟩ := listIterObj en.li
    have hm2 : d.nm = true ∧ nmL ds = true := by rw [nmL, Bool.and_eq_true] at hm; exact hm
    obtain ⟨v, r', ed, r1, r2⟩ := (by have := en.r; rw [RepL] at this; exact this : ∃ v r', vs.drop i = v :: r' ∧ Rep Z s.heap v d ∧ RepL Z s.heap r' ds)
    have hv : vs[i]? = some v := by have := congrArg (fun l => l[0]?) ed; simpa using this
    have hr' : vs.drop (i + 1) = r' := by have := congrArg List.tail ed; simpa using this
    refine wpAny_bind (wpAny_standAt (wpAny_bind (wpAny_pyNext_enum_item he en.li en.ls (by simpa using hv) en.ne fun h₁ heo hit₁ htup hsz hk => ?_)))
    refine wpAny_bind (wpAny_letOwnedTupleGo_enum heo fun h₂ he₂ hs₂ => ?_)
    have htn : s.heap.get? s.heap.objs.size = none := get?_size _
    have hte : s.heap.objs.size ≠ e := fun q => by rw [q, eoe] at htn; cases htn
    have hk₂ : ∀ b o, b ≠ e → b ≠ it → s.heap.get? b = some o → h₂.get? b = some o := fun b o h1 h2 e0 => hs₂.extBut b o h1 (hk b o h1 h2 e0)
    obtain ⟨hmid, b1, b2, emid⟩ := two_steps eoe he₂ nfe hk₂
    have c₁ : CSt T Z cenv Dx es ρ { s with heap := hmid, toks := s.toks } := c.iter lo en.zi ioi eoi b1
    have c₂ : CSt T Z cenv Dx es ρ { s with heap := h₂, toks := s.toks + 1 } := c₁.iter (tk := s.toks + 1) lo en.ze ioe emid b2
    have mv₂ : MvX T (fun b => CX cenv Dx b ∨ b = e ∨ b = it) s { s with heap := h₂, toks := s.toks + 1 } :=
      ((MvX.tick (T := T) (X := CX cenv Dx) (tk := s.toks) ioi eoi b1).mono fun b q => q.imp id .inr).trans ((MvX.tick (T := T) (s := { s with heap := hmid, toks := s.toks }) (X := CX cenv Dx) (tk := s.toks + 1) ioe emid b2).mono fun b q => q.imp id .inl)
    have htup₂ : IsTup h₂ s.heap.objs.size #[.int i s.toks, v] := ⟨_, hs₂.extBut _ _ hte htup, rfl, _, rfl⟩
    have rd : Rep Z h₂ v d := (r1.but b1 (ioi.not_list eoi) (ioi.not_tup eoi)).but b2 (ioe.not_list emid) (ioe.not_tup emid)
    have rt : Rep Z h₂ (.ref s.heap.objs.size) (.tup [.int ((i : Nat) : Int), d]) := by
      rw [Rep]
      exact ⟨_, [.int i s.toks, v], rfl, c.z.fresh htn, htup₂, .cons rep_int (.cons rd .nil)⟩
    refine wpAny_bind (cassign (s := { s with heap := h₂, toks := s.toks + 1 }) hA.1 lo c₂ hok (d := .tup [.int ((i : Nat) : Int), d]) (ρ' := (y, d) :: (x, .int ((i : Nat) : Int)) :: ρ) rfl (by simp [D.nm, nmL, hm2.1]) rt fun s₃ m₃ c₃ => ?_)
    have en₂ : EnSt Z h₂ e it l (i + 1) vs ds := by
      refine ⟨⟨_, he₂⟩, hit₁.extBut hs₂.extBut (Ne.symm en.ne), ?_, ?_, en.ne, en.ze, en.zi, en.zl⟩
      · exact (en.ls.extBut b1 (fun q => ioi.not_list eoi _ (q ▸ en.ls))).extBut b2 fun q => ioe.not_list eoe _ (q ▸ en.ls)
      · rw [hr']; exact (r2.but b1 (ioi.not_list eoi) (ioi.not_tup eoi)).but b2 (ioe.not_list emid) (ioe.not_tup emid)
    obtain ⟨oe2, eoe2, ioe2, _⟩ := enumObj he₂
    obtain ⟨oi2, eoi2, ioi2⟩ := listIterObj en₂.li
    have offe := isIterOff c₂ eoe2 ioe2 en.ze
    have offi := isIterOff c₂ eoi2 ioi2 en.zi
    have en₃ : EnSt Z s₃.heap e it l (i + 1) vs ds := en₂.mvx hm2.2 c₂.offC (fun q => offe (.inl q)) (fun q => offi (.inl q)) m₃.hk
    rw [show (forIn (⟨.Tuple [.Name x px, .Name y py] n p, iter, [], 0⟩ : Comprehension).ifs true fun c r => if r = true then do let ok ← isTrue c cenv (eval c cenv); pure (ForInStep.yield ok) else pure (ForInStep.yield r)) = (pure true : Sem Bool) from rfl]
    refine wpAny_bind (wpAny_pure ?_)
    rw [if_pos rfl]
    have h0 := hf 0 d rfl
    rw [Nat.add_zero] at h0
    rw [List.length_cons] at hlen
    refine wpAny_bind (body_end (Z := Z) hA lo (by rfl) h0.1 h0.2 es s₃ _ _ c₃ (by simp; omega) fun s₄ m₄ c₄ => ?_)
    obtain ⟨old3, he3⟩ := en₃.en
    obtain ⟨oe3, eoe3, ioe3, _⟩ := enumObj he3
    obtain ⟨oi3, eoi3, ioi3⟩ := listIterObj en₃.li
    have en₄ : EnSt Z s₄.heap e it l (i + 1) vs ds := en₃.mvx hm2.2 c₃.offCX (isIterOff c₃ eoe3 ioe3 en.ze) (isIterOff c₃ eoi3 ioi3 en.zi) m₄.hk
    refine wpAny_pure ⟨rfl, enum_loop hA lo hok hx hy f ds (i + 1) (es ++ [f i d]) s₄ R (fun j d' q => ?_) hm2.2 (c₄.sub (two_keeps hx hy)) en₄ (by simp; omega) fun s' m c' => ?_⟩
    · have := hf (j + 1) d' (by simpa using q)
      rw [show i + (j + 1) = i + 1 + j by omega] at this
      exact this
    · refine hR s' (mv₂.trans ((m₃.mono fun b q => .inl (.inl q)).trans ((m₄.mono fun b q => .inl q).trans m))) ?_
      have e1 : es ++ (d :: ds).mapIdx (fun j d => f (i + j) d) = es ++ [f i d] ++ ds.mapIdx (fun j d => f (i + 1 + j) d) := by
        rw [List.mapIdx_cons, Nat.add_zero, List.append_assoc]
        show _ = es ++ (f i d :: _)
        congr 2
        congr 1
        funext j d'
        rw [show i + (j + 1) = i + 1 + j by omega]
      rw [e1]; exact c'
end
end Mine

namespace Mine

section
variable {T : Th} {k : Nat} {A : Around} {Z : Zo} {env : Env} {ρ : Rho} {s s' s₁ : Shared}
theorem enum_iter {s : Shared} {e it : Addr} {i : Int} {old : Value} {Q : Value → Shared → Prop} {E : Value → Shared → Prop} (he : IsEnum s.heap e it i old) (h : Q (.ref e) s) : wpAny (model T.prog T.w) A (pyIter (.ref e)) Q E s := by
  have hT : s.TypeIs (.ref e) "enumerate" := ⟨_, he, rfl⟩
  refine wpAny_pyIter_slot hT F.slot_enumerate_iter (wpAny_call_entry F.slot_enumerate_iter hT F.entry_enumerate_iter ?_ (F.args_enumerate_iter_1 _))
  show wpAny _ _ (ret (.ref e)) _ _ s
  exact wpAny_pure ⟨_, rfl, "enumerate", _, hT, F.slot_enumerate_next.lookup, h⟩
theorem comp_startE {cenv : Env} {elt : Expr} {gens : List Comprehension} {scope : Scope} {pos : Pos} {depth : Nat} {g : Comprehension} {e it : Addr} {i : Int} {old acc : Value} {s : Shared} {R : Result → Shared → Prop} (hg : gens[depth]? = some g) (ha : g.is_async = 0) (he : IsEnum s.heap e it i old)
    (h : codeAny (model T.prog T.w) A (.compLoop (.ListComp elt gens scope pos) depth (.ref e) acc cenv) R s) : codeAny (model T.prog T.w) A (.compStart (.ListComp elt gens scope pos) depth (.ref e) acc cenv) R s := by
  refine codeAny_of_tree ?_
  show wpAny _ A ((compStart (.ListComp elt gens scope pos) depth (.ref e) acc cenv).onRaise (fun x => do noteFrame x cenv; standAt theWindowsPlace)) _ _ s
  refine wpAny_notedAt ?_
  unfold compStart
  have e1 : clausesOf (.ListComp elt gens scope pos) = gens := rfl
  simp only [e1, hg, Option.elim, ha, bne_self_eq_false, Bool.false_eq_true, if_false]
  refine wpAny_bind (wpAny_askSetting (wpAny_ite ?_))
  split
  · first
      | exact wpAny_bind (wpAny_pure (wpAny_pure (And.intro rfl h)))
      | exact wpAny_pure (And.intro rfl h)
  · exact wpAny_bind (wpAny_rule (wpAny_bind (wpAny_standAt (wpAny_bind (enum_iter he (wpAny_pure (And.intro rfl h)))))))
theorem comp_coreE {elt le : Expr} {x y : Str} {px py tp np ip : Pos} {n : Nat} {scope : Scope} {pos : Pos} {ds : List D} (f : Nat → D → D) {RR : Value → Addr → Result → Shared → Prop} {E : Value → Shared → Prop}
    (hA : OkN T k A) (lo : Low T) (P : Pre T Z env ρ s) (sc : CScope scope env) (ge : GEnv env) (N : Nm T) (hke : env.kindOf "enumerate" = some .globalImplicit) (hi : Ev T k env le ρ (.lst ds)) (hse : starEach [le] env = [(false, eval le env)]) (hdm : nmL ds = true) (hok : ∀ C, ctVars (cenvOf scope C env) (.Tuple [.Name x px, .Name y py] n tp)) (hx : (rhoC scope ρ).lookup x = none) (hy : (rhoC scope ρ).lookup y = none)
    (hf : ∀ C (j : Nat) d, ds[j]? = some d → Ev T k (cenvOf scope C env) elt ((y, d) :: (x, .int ((j : Nat) : Int)) :: rhoC scope ρ) (f j d) ∧ (f j d).nm = true) (hlen : ds.length ≤ 4096)
    (hR : ∀ Dx C s', Kp T s s' → Fresh s C → T.n ≤ C → (∃ m, s'.heap.Ns C m) → Dx ≠ C → Rep Z s'.heap (.ref Dx) (.lst (ds.mapIdx f)) → RR (.ref Dx) C (.ok .next) s') :
    wpAny (model T.prog T.w) A (eval (.Call (.Name "enumerate" np) [le] [] ip) env) (fun xv s₁ => wpAny (model T.prog T.w) A (pyIter xv) (fun it s₂ => wpAny (model T.prog T.w) A (newList []) (fun acc s₃ =>
      wpAny (model T.prog T.w) A (newFunctionEnv scope env.globals (clOf env scope.names []) [] env.qual none .none (some env)) (fun cenv s₄ =>
        codeAny (model T.prog T.w) A (.compStart (.ListComp elt [⟨.Tuple [.Name x px, .Name y py] n tp, .Call (.Name "enumerate" np) [le] [] ip, [], 0⟩] scope pos) 0 it acc { cenv with scope := relabel scope env }) (RR acc cenv.locals) s₄) E s₃) E s₂) E s₁) E s := by
  refine PyProof.Rows.Call_Name rfl (eval_global ge P.g P.s.kind hke rfl (N.gv (x := "enumerate") (v := .type "enumerate") (by decide) (by decide) (by decide +kernel)) (callWith_of (T := T) (.inr (.inl ⟨_, rfl⟩)) hse (by rw [hse]; rfl) ?_))
  refine EvL.cons hi .nil hse A Z s ip _ _ hA P fun ws s₁ k₁ r₁ => ⟨(P.kp k₁).g, ?_⟩
  obtain ⟨v, rfl, rv⟩ := r₁.one
  obtain ⟨l, vs, rfl, nxl, hl, rl⟩ := rv.lst_inv
  refine call_enumerate_list hl fun h₀ hen hit hsz0 hk0 => ?_
  have k₀ : Kp T s₁ { s₁ with heap := h₀ } := Kp.of (tk := s₁.toks) hk0
  have k₂ := k₁.trans k₀
  have P₂ := P.kp k₂
  have hsN : s₁.heap.get? s₁.heap.objs.size = none := get?_size _
  have hsN1 : s₁.heap.get? (s₁.heap.objs.size + 1) = none := Heap.get?_none_of_le (Nat.le_succ _)
  have fre : Fresh s (s₁.heap.objs.size + 1) := Fresh.kp k₁ (.none hsN1)
  have fri : Fresh s s₁.heap.objs.size := Fresh.kp k₁ (.none hsN)
  have ens : EnSt Z h₀ (s₁.heap.objs.size + 1) s₁.heap.objs.size l 0 vs ds := ⟨⟨_, hen⟩, hit, k₀.hk.isList hl, by simpa using rl.hk k₀.hk, Nat.succ_ne_self _, fre.zo P.z, fri.zo P.z, nxl⟩
  generalize hE : s₁.heap.objs.size + 1 = en at fre ens hen ⊢
  generalize hI : s₁.heap.objs.size = it at fri ens hen hit ⊢
  generalize hs2 : ({ s₁ with heap := h₀ } : Shared) = s₂ at k₂ P₂ ⊢
  have ens : EnSt Z s₂.heap en it l 0 vs ds := by rw [← hs2]; exact ens
  have hen2 : IsEnum s₂.heap en it 0 .none := by rw [← hs2]; exact hen
  refine enum_iter hen2 ?_
  refine wpAny_newObj_type (hd := by size_fits) (wpAny_newFunctionEnv (fun x hx => by have := List.all_eq_true.mp sc.nocell x hx; simpa using this) (by intro y hy; simp at hy) (fun h₁ hns hsb => ?_) sc.kind)
  dsimp only at hns hsb ⊢
  generalize hD : s₂.heap.objs.size = Dx at hns hsb ⊢
  have eH : Dx = s₂.heap.objs.size := hD.symm
  generalize hH : s₂.heap.push { cls := .type "list", dict := none, data := .seq ([] : List Value).toArray } = H at hns hsb ⊢
  generalize hC : H.objs.size = C at hns hsb ⊢
  have hDn : s₂.heap.get? Dx = none := by rw [eH]; exact get?_size _
  have hCn : H.get? C = none := by rw [← hC]; exact get?_size _
  have hHD : H.get? Dx = some { cls := .type "list", dict := none, data := .seq ([] : List Value).toArray } := by rw [← hH, eH]; exact Heap.get?_push_size _ rfl
  have hDC : Dx ≠ C := fun q => by rw [q, hCn] at hHD; cases hHD
  have keepH : ∀ b o, s₂.heap.get? b = some o → H.get? b = some o := fun b o e => by rw [← hH]; exact Heap.get?_push_of_some _ e
  have hb1 : ∀ b o, H.get? b = some o → h₁.get? b = some o := fun b o e => hsb.extBut b o (fun q => by rw [q, hCn] at e; cases e) (Heap.get?_push_of_some _ e)
  have keep : ∀ b o, s₂.heap.get? b = some o → h₁.get? b = some o := fun b o e => hb1 b o (keepH b o e)
  have k₄ : Kp T s₂ { s₂ with heap := h₁, toks := s₂.toks + ([] : List (Str × Value)).length } := .of keep
  have hCn2 : s₂.heap.get? C = none := by
    cases e : s₂.heap.get? C with
    | none => rfl
    | some o => rw [keepH C o e] at hCn; cases hCn
  have frD : Fresh s Dx := Fresh.kp k₂ (.none hDn)
  have frC : Fresh s C := Fresh.kp k₂ (.none hCn2)
  have hTn : T.n ≤ C := by
    obtain ⟨m, hf⟩ := P₂.g.fr
    rw [← hC, ← hH, Heap.size_push]
    exact Nat.le_succ_of_le (Nat.le_of_lt hf.lt)
  let Z' : Zo := ⟨fun a => Z.x a ∨ a = Dx, Z.y⟩
  have zx : ∀ a, Z'.x a → (s₂.heap.get? a).isSome = true → Z.x a := fun a ha hs => ha.elim id fun q => by rw [q, hDn] at hs; cases hs
  have somE : ∀ {b o}, s₂.heap.get? b = some o → ¬ Z.x b → ¬ Z'.x b := fun {b o} e0 nz q => nz (zx b q (by rw [e0]; rfl))
  obtain ⟨oe, eoe, ioe, _⟩ := enumObj hen2
  obtain ⟨oi, eoi, ioi⟩ := listIterObj ens.li
  have ens' : EnSt Z' s₂.heap en it l 0 vs ds := ⟨ens.en, ens.li, ens.ls, RepL.zone2 zx (fun _ q => q) _ _ ens.r, ens.ne, somE eoe ens.ze, somE eoi ens.zi, by obtain ⟨ol, el, _⟩ := ens.ls; exact somE el ens.zl⟩
  have z2 : ZOk Z' h₁ := ⟨fun a ha => by
    rcases ha with ha | ha
    · obtain ⟨o, e, t⟩ := P₂.z.x a ha
      exact ⟨o, keep a o e, t⟩
    · exact ⟨_, ha ▸ hb1 _ _ hHD, .seq rfl⟩, fun a ha => .inl (P₂.z.y a ha)⟩
  have sees : Sees Z' env s₂.heap ρ := ⟨P₂.s.kind, fun x d e => let ⟨v, a, r⟩ := P₂.s.has x d e; ⟨v, a, r.zone2 zx fun _ q => q⟩, P₂.s.cells⟩
  have c : CSt T Z' (cenvOf scope C env) Dx [] (rhoC scope ρ) { s₂ with heap := h₁, toks := s₂.toks + ([] : List (Str × Value)).length } :=
    { g := P₂.g.kp k₄, z := z2, s := sees_comp (T := T) sc (sees.hk k₄.hk), ns := ⟨_, hns⟩, low := hTn, acc := ⟨[], ⟨_, hb1 _ _ hHD, rfl, _, rfl⟩, .nil⟩, nm := rfl, zx := .inr rfl
      zy := fun q => by
        have := P₂.z.y _ q
        obtain ⟨o, e, _⟩ := P₂.z.x _ this
        rw [hDn] at e; cases e }
  have ens₄ : EnSt Z' h₁ en it l 0 vs ds := ens'.mvx (X := fun _ => False) hdm ⟨fun _ _ q => q, fun _ _ q => q⟩ (fun q => q) (fun q => q) (.of_hk k₄.hk)
  have hen4 : IsEnum h₁ en it 0 .none := keep _ _ hen2
  refine comp_startE (T := T) (cenv := cenvOf scope C env) (g := ⟨.Tuple [.Name x px, .Name y py] n tp, .Call (.Name "enumerate" np) [le] [] ip, [], 0⟩) rfl rfl hen4 ?_
  refine enum_loop (T := T) (cenv := cenvOf scope C env) (Z := Z') (Dx := Dx) hA lo (hok C) hx hy f ds 0 [] _ _ (fun j d q => by rw [Nat.zero_add]; exact hf C j d q) hdm c ens₄ (by simpa using hlen) fun s' m c' => ?_
  have kp : Kp T s s' := MvX.dropAll (k₂.trans k₄) (fun b q => by
    rcases q with (q | q) | q | q
    · exact q ▸ frC
    · exact q ▸ frD
    · exact q ▸ fre
    · exact q ▸ fri) m
  have c' : CSt T Z' (cenvOf scope C env) Dx (ds.mapIdx f) (rhoC scope ρ) s' := by
    have := c'
    simp only [Nat.zero_add, List.nil_append] at this
    exact this
  obtain ⟨ys, hl', rl⟩ := c'.acc
  refine hR Dx C s' kp frC hTn c'.ns hDC ?_
  rw [Rep]
  exact ⟨Dx, ys, rfl, frD.zo P.z, hl', RepL.zone2 (Z := Z') (Z' := Z) (fun a ha _ => .inl ha) (fun _ q => q) _ _ rl⟩

theorem Ex1.assignE {R : Out → Prop} {y : Str} {py spos : Pos} {elt le : Expr} {x z : Str} {px pz tp np ip : Pos} {n : Nat} {scope : Scope} {pos : Pos} {ds : List D} (f : Nat → D → D)
    (sc : CScope scope env) (ge : GEnv env) (N : Nm T) (hke : env.kindOf "enumerate" = some .globalImplicit) (hi : Ev T k env le ρ (.lst ds)) (hse : starEach [le] env = [(false, eval le env)]) (hdm : nmL ds = true) (hok : ∀ C, ctVars (cenvOf scope C env) (.Tuple [.Name x px, .Name z pz] n tp)) (hx : (rhoC scope ρ).lookup x = none) (hz : (rhoC scope ρ).lookup z = none)
    (hf : ∀ C (j : Nat) d, ds[j]? = some d → Ev T k (cenvOf scope C env) elt ((z, d) :: (x, .int ((j : Nat) : Int)) :: rhoC scope ρ) (f j d) ∧ (f j d).nm = true) (hlen : ds.length ≤ 4096) (hy : env.kindOf y = some .local) (hR : R (.next ((y, .lst (ds.mapIdx f)) :: ρ)))
    (hsw : swapsWith (.ListComp elt [⟨.Tuple [.Name x px, .Name z pz] n tp, .Call (.Name "enumerate" np) [le] [] ip, [], 0⟩] scope pos) (some (.Name y py)) spos.line env = pure true)
    (hs : ∀ x, foldedSetIterable (.Call (.Name "enumerate" np) [le] [] ip) env x = pure x := by intro _; rfl) : Ex1 T k env (.Assign [.Name y py] (.ListComp elt [⟨.Tuple [.Name x px, .Name z pz] n tp, .Call (.Name "enumerate" np) [le] [] ip, [], 0⟩] scope pos) spos) ρ R := fun A Z s Q E hA lo P hQ => by
  rw [exec_Assign_Name_used _ _ _ _ hsw]
  refine wpAny_bind (wpAny_standAt (wpAny_bind ?_))
  rw [arm_evalThenUse_ListComp]
  refine wpAny_bind (wpAny_mono (wpAny_comprehension_free (Q := fun _ s' => Q .next s') rfl hs (closureFor_clOf sc.free) sc.kind (fun x hx hl => by
    have := List.all_eq_true.mp sc.locals x hx
    rw [hl] at this; simpa using this) ?_) (fun _ s' hq => wpAny_pure (wpAny_pure hq)) fun _ _ e => e)
  refine comp_coreE (RR := compPost (model T.prog T.w) A E (some (PySem.assign (.Name y py) env)) (fun _ s' => Q .next s')) f hA lo P.toPre sc ge N hke hi hse hdm hok hx hz hf hlen fun Dx C s' kp fr hTn hns hne r => ?_
  have P' := P.kp kp
  refine wpAny_assign_Name (store_loc lo P'.toPre P'.f.ns P'.f.low hy r fun s₂ mv P₂ hn => ?_)
  have hCL : env.locals ≠ C := fun q => by
    obtain ⟨m, x⟩ := P.f.ns
    exact fr.ns x q
  obtain ⟨mC, nC⟩ := hns
  obtain ⟨h₂, tk₂, rfl, hk₂, ht₂⟩ := mv
  have nC₂ : ∃ m, h₂.Ns C m := by
    obtain ⟨o, es, ep, e, hd, rr⟩ := id nC
    rcases hk₂ C o e (.dict hd) (fun q => hCL q.symm) with r | ⟨_, m, _, x⟩
    · exact ⟨mC, o, es, ep, r, hd, rr⟩
    · exact ⟨m, x⟩
  obtain ⟨m₂, nC₂⟩ := nC₂
  refine ⟨m₂, nC₂, fun h' hs' => ?_⟩
  obtain ⟨o, es, ep, e, hd, _⟩ := id nC₂
  have hb := hs'.extBut
  have nc : ∀ {c v}, h₂.IsCell c v → h'.IsCell c v := fun {c v} ⟨oc, ec, hc⟩ => ⟨oc, hb c oc (fun q => by rw [q, e] at ec; cases ec; rw [hd] at hc; cases hc) ec, hc⟩
  refine hQ _ { s' with heap := h', toks := tk₂ } _ hR ?_ ⟨rfl, ⟨⟨?_, ?_, P₂.s.kind, fun x d q => ?_, fun n c q => ?_⟩, ?_, fun n c q => ?_, P.f.apart, P.f.low⟩⟩
  · obtain ⟨h₁, tk₁, rfl, hk₁, ht₁⟩ := kp
    refine ⟨h', tk₂, rfl, fun b ob eb tb nb => ?_, fun x => (ht₂ (ht₁ x)).sameBut (.dict hd hTn) e hb⟩
    have hne : b ≠ C := fun q => fr ob (q ▸ eb) (q ▸ tb)
    rcases hk₁ b ob eb tb with w | ⟨w1, m, w2, w3⟩
    · rcases hk₂ b ob w tb (fun q => nb (.inl q)) with u | ⟨u1, m, u2, u3⟩
      · exact .inl (hb b ob hne u)
      · refine .inr ⟨u1, m, ?_, u3.extBut hb hne⟩
        obtain ⟨o', es', ep', e', rr⟩ := u2
        rw [show ({ s with heap := h₁, toks := tk₁ } : Shared).heap.get? b = some ob from w] at e'; cases e'
        exact ⟨ob, es', ep', eb, rr⟩
    · obtain ⟨o', es', ep', e', hd', rr⟩ := id w3
      rcases hk₂ b o' e' (.dict hd') (fun q => nb (.inl q)) with u | ⟨_, m', u2, u3⟩
      · exact .inr ⟨w1, m, w2, (show h₂.Ns b m from ⟨o', es', ep', u, hd', rr⟩).extBut hb hne⟩
      · refine .inr ⟨w1, m, w2, ?_⟩
        rw [w3.eq_nsMap, ← u2.eq_nsMap]; exact u3.extBut hb hne
  · refine P₂.g.sameBut lo (.dict hd hTn) e hb fun q => ?_
    obtain ⟨m, hf⟩ := P.g.fr
    exact absurd q.symm (fr.ns hf)
  · exact ⟨fun a ha => let ⟨o', e', t⟩ := P₂.z.x a ha; ⟨o', hb a o' (fun q => fr.zo P.z (q ▸ ha)) e', t⟩, P₂.z.y⟩
  · obtain ⟨v, a, r⟩ := P₂.s.has x d q
    refine ⟨v, ?_, Rep.nsGo (s := { s' with heap := h₂ }) r nC₂ hb⟩
    rcases a with ⟨e1, m1, n1, q1⟩ | ⟨e1, c1, l1, i1⟩
    · exact .inl ⟨e1, m1, n1.extBut hb hCL, q1⟩
    · exact .inr ⟨e1, c1, l1, nc i1⟩
  · obtain ⟨v, i⟩ := P₂.s.cells n c q
    exact ⟨v, nc i⟩
  · obtain ⟨m, x⟩ := hn
    exact ⟨m, x.extBut hb hCL⟩
  · obtain ⟨v, i⟩ := P₂.s.cells n c q
    exact ⟨v, nc i⟩
end
end Mine

namespace Mine

theorem rising_le {nm : Nat → Str} (m : Menu nm) : ∀ (p : Nat) (l : List Nat), p < 3 → (∀ y ∈ l, y < 3) → risingS (nm p) (l.map nm) = true → (p :: l).Pairwise (· ≤ ·)
  | p, [], _, _, _ => List.pairwise_singleton _ _
  | p, x :: r, hp, hl, h => by
    rw [List.map_cons, risingS, Bool.and_eq_true] at h
    have hx := hl x (.head _)
    have h1 : ¬ x < p := fun q => by
      have := (m.lt x p hx hp).mpr q
      rw [ltCps_eq, decide_eq_true this] at h
      exact absurd h.1 (by decide)
    have ih := rising_le m x r hx (fun y hy => hl y (.tail _ hy)) h.2
    refine List.pairwise_cons.mpr ⟨fun y hy => ?_, ih⟩
    rcases List.mem_cons.mp hy with rfl | hy
    · omega
    · have := (List.pairwise_cons.mp ih).1 y hy
      omega
theorem perm_sorted_eq : ∀ {a b : List Nat}, a.Perm b → a.Pairwise (· ≤ ·) → b.Pairwise (· ≤ ·) → a = b
  | [], b, h, _, _ => h.nil_eq
  | x :: a, [], h, _, _ => by simpa using h.length_eq
  | x :: a, y :: b, h, ha, hb => by
    have e : x = y := by
      have h1 : x ∈ y :: b := h.mem_iff.mp (.head _)
      have h2 : y ∈ x :: a := h.mem_iff.mpr (.head _)
      have l1 : y ≤ x := by
        rcases List.mem_cons.mp h1 with q | q
        · omega
        · exact (List.pairwise_cons.mp hb).1 x q
      have l2 : x ≤ y := by
        rcases List.mem_cons.mp h2 with q | q
        · omega
        · exact (List.pairwise_cons.mp ha).1 y q
      omega
    subst e
    rw [perm_sorted_eq h.cons_inv (List.pairwise_cons.mp ha).2 (List.pairwise_cons.mp hb).2]
section
variable {T : Th} {k : Nat}
theorem CallR.sortS {nm : Nat → Str} {r : List Nat} (m : Menu nm) (hr : r.Pairwise (· ≤ ·)) (h3 : ∀ y ∈ r, y < 3) (h64 : r.length < 64) : CallR T k (.builtin "sorted") [.lst (strL nm r)] (.lst (strL nm r)) := fun A Z s vs Q E hA G z rl hQ => by
  obtain ⟨v, rfl, r1⟩ := rl.one
  obtain ⟨a, ws, rfl, nx, hl, rs⟩ := r1.lst_inv
  have hS : StrsAre ws (r.map nm) := strs_of (by rw [List.map_map]; exact rs)
  refine sorted_strs hl hS (by rw [rs.length, strL_len]; exact h64) fun out ss' h1 h2 h3' => ?_
  obtain ⟨r', e1, e2⟩ := perm_lift h2.symm r rfl
  have hr' : r'.Pairwise (· ≤ ·) := by
    cases r' with
    | nil => exact .nil
    | cons p l =>
      rw [← e1] at h3'
      have h3r : ∀ y ∈ p :: l, y < 3 := fun y hy => h3 y (e2.mem_iff.mpr hy)
      exact rising_le m p l (h3r p (.head _)) (fun y hy => h3r y (.tail _ hy)) h3'
  have : r = r' := perm_sorted_eq e2 hr hr'
  subst this
  obtain ⟨e, he⟩ := sortedAll_at s.heap ws out
  have kp : Kp T s { s with heap := sortedAll s.heap ws out } := Kp.of (tk := s.toks) fun _ _ => sortedAll_old
  refine hQ _ _ kp ?_
  rw [Rep]
  refine ⟨_, out.toList, rfl, fun q => ?_, ⟨_, he, rfl, e, by simp⟩, ?_⟩
  · obtain ⟨o, eo, _⟩ := z.x _ q
    exact absurd (Heap.lt_size eo) (Nat.not_lt.mpr (Nat.le_succ _))
  · rw [← e1] at h1
    have := of_strs (Z := Z) (h := sortedAll s.heap ws out) h1
    rw [List.map_map] at this
    exact this
variable {env : Env} {ρ : Rho}
theorem EvB.isBool {x : Str} {n : Int} {p1 p2 p3 p4 : Pos} (ge : GEnv env) (N : Nm T) (hk1 : env.kindOf "isinstance" = some .globalImplicit) (hk2 : env.kindOf "bool" = some .globalImplicit) (h : ρ.lookup x = some (.int n)) (hx1 : (x == ("__debug__" : Str)) = false) (hx2 : (x == ("__classdict__" : Str)) = false)
    (he : isTrue (.Call (.Name "isinstance" p1) [.Name x p2, .Name "bool" p3] [] p4) env (eval (.Call (.Name "isinstance" p1) [.Name x p2, .Name "bool" p3] [] p4) env) = (do let v ← eval (.Call (.Name "isinstance" p1) [.Name x p2, .Name "bool" p3] [] p4) env; standAt (Expr.pos (.Call (.Name "isinstance" p1) [.Name x p2, .Name "bool" p3] [] p4)); holding [v] (truthy v)) := by rfl) :
    EvB T k env (.Call (.Name "isinstance" p1) [.Name x p2, .Name "bool" p3] [] p4) ρ false := fun A Z s Q E hA P hQ => by
  refine wpAny_isTrue_value ?_ he
  refine PyProof.Rows.Call_Name rfl (eval_global ge P.g P.s.kind hk1 rfl (N.gv (x := "isinstance") (v := .builtin "isinstance") (by decide) (by decide) (by decide +kernel)) (callWith_of (T := T) (.inl ⟨_, rfl⟩) rfl rfl ?_))
  refine wpAny_items_cons (Ev.name (T := T) (k := k) h hx1 hx2 A Z s _ _ hA P fun v s₁ k₁ r₁ => ?_) rfl
  obtain ⟨t, rfl⟩ := r₁.int_inv
  have P₁ := P.kp k₁
  refine wpAny_items_cons (eval_global ge P₁.g P₁.s.kind hk2 rfl (N.gv (x := "bool") (v := .type "bool") (by decide) (by decide) (by decide +kernel)) (wpAny_items_nil ⟨P₁.g, ?_⟩)) rfl
  exact call_isinstance (isinstance_false_int (by decide +kernel) F.isi_meta_bool F.sub_int_bool) (wpAny_truthy_bool (hQ _ (k₁.trans .toks)))
end
end Mine

namespace Mine

noncomputable def laidAll (w : List Nat) : List (List Nat) := w.foldl (fun rs x => laidL rs (some x)) []
noncomputable def maxL (l : List Nat) : Nat := l.foldl max 0
noncomputable def bestL (ps K : List (List Nat)) : Nat := maxL ((K.filter fun w => !ps.any fun p => scan p w).map List.length)
noncomputable def pairsL : Nat → List (List Nat)
  | 2 => [[1, 0]]
  | 3 => [[1, 0], [2, 0], [2, 1]]
  | _ => []
noncomputable def below (low : Nat) (w : List Nat) : List Nat := w.filter (· < low)
noncomputable def countK (low k : Nat) (rs : List (List Nat)) : Nat := (below low (rs.take k).flatten).length
noncomputable def leq : List Nat → Bool
  | [] => true
  | [_] => true
  | x :: y :: r => Nat.ble x y && leq (y :: r)
theorem leq_pairwise : ∀ {r : List Nat}, leq r = true → r.Pairwise (· ≤ ·)
  | [], _ => .nil
  | [x], _ => List.pairwise_singleton _ _
  | x :: y :: r, h => by
    rw [leq, Bool.and_eq_true] at h
    have ih := leq_pairwise h.2
    have h1 : x ≤ y := Nat.le_of_ble_eq_true h.1
    refine List.pairwise_cons.mpr ⟨fun z hz => ?_, ih⟩
    rcases List.mem_cons.mp hz with rfl | hz
    · exact h1
    · exact Nat.le_trans h1 ((List.pairwise_cons.mp ih).1 z hz)

/-! the longest -/
theorem foldl_max_ge : ∀ (l : List Nat) (a : Nat), a ≤ l.foldl max a ∧ ∀ x ∈ l, x ≤ l.foldl max a
  | [], a => ⟨Nat.le_refl _, fun _ h => by cases h⟩
  | y :: l, a => by
    obtain ⟨h1, h2⟩ := foldl_max_ge l (max a y)
    refine ⟨Nat.le_trans (Nat.le_max_left _ _) h1, fun x hx => ?_⟩
    rcases List.mem_cons.mp hx with rfl | hx
    · exact Nat.le_trans (Nat.le_max_right _ _) h1
    · exact h2 x hx
theorem foldl_max_le : ∀ (l : List Nat) (a n : Nat), a ≤ n → (∀ x ∈ l, x ≤ n) → l.foldl max a ≤ n
  | [], a, n, h, _ => h
  | y :: l, a, n, h, hl => foldl_max_le l (max a y) n (Nat.max_le.mpr ⟨h, hl y (.head _)⟩) fun x hx => hl x (.tail _ hx)
theorem most_spec (ps : List (List Nat)) : ∀ {ws : List (List Nat)}, ws.Pairwise (fun v w => w.length ≤ v.length) → (∃ w ∈ ws, (ps.any fun p => scan p w) = false) →
    ∃ n, mostL ps ws = some n ∧ (∃ w ∈ ws, (ps.any fun p => scan p w) = false ∧ w.length = n) ∧ ∀ v ∈ ws, (ps.any fun p => scan p v) = false → v.length ≤ n
  | [], _, h => by obtain ⟨w, hw, _⟩ := h; cases hw
  | w :: ws, hp, h => by
    obtain ⟨hp1, hp2⟩ := List.pairwise_cons.mp hp
    cases q : ps.any (fun p => scan p w) with
    | false =>
      refine ⟨w.length, by rw [mostL, q]; rfl, ⟨w, .head _, q, rfl⟩, fun v hv _ => ?_⟩
      rcases List.mem_cons.mp hv with rfl | hv
      · exact Nat.le_refl _
      · exact hp1 v hv
    | true =>
      have h' : ∃ w ∈ ws, (ps.any fun p => scan p w) = false := by
        obtain ⟨v, hv, hq⟩ := h
        rcases List.mem_cons.mp hv with rfl | hv
        · rw [q] at hq; cases hq
        · exact ⟨v, hv, hq⟩
      obtain ⟨n, h1, ⟨v, hv, h2, h3⟩, h4⟩ := most_spec ps hp2 h'
      refine ⟨n, by rw [mostL, q]; exact h1, ⟨v, .tail _ hv, h2, h3⟩, fun u hu hq => ?_⟩
      rcases List.mem_cons.mp hu with rfl | hu
      · rw [q] at hq; cases hq
      · exact h4 u hu hq
theorem most_best {ps K ws : List (List Nat)} (hp : ws.Perm K) (hs : ws.Pairwise (fun v w => w.length ≤ v.length)) (h : ∃ w ∈ K, (ps.any fun p => scan p w) = false) : mostL ps ws = some (bestL ps K) := by
  obtain ⟨n, h1, ⟨w, hw, h2, h3⟩, h4⟩ := most_spec ps hs (by obtain ⟨w, hw, hq⟩ := h; exact ⟨w, hp.mem_iff.mpr hw, hq⟩)
  rw [h1]
  congr 1
  unfold bestL maxL
  refine Nat.le_antisymm ?_ ?_
  · refine (foldl_max_ge _ 0).2 n (List.mem_map.mpr ⟨w, List.mem_filter.mpr ⟨hp.mem_iff.mp hw, by rw [h2]; rfl⟩, h3⟩)
  · refine foldl_max_le _ 0 n (Nat.zero_le _) fun x hx => ?_
    obtain ⟨v, hv, rfl⟩ := List.mem_map.mp hx
    obtain ⟨hv1, hv2⟩ := List.mem_filter.mp hv
    exact h4 v (hp.mem_iff.mpr hv1) (by simpa using hv2)
theorem nil_kept : ∀ (names : List Nat) (ws : List (List Nat)), [] ∈ ws → [] ∈ names.foldl keptStep ws
  | [], ws, h => h
  | x :: names, ws, h => nil_kept names _ (List.mem_append_left _ h)
theorem nil_avoids {ps : List (List Nat)} (h : ∀ p ∈ ps, p ≠ []) : (ps.any fun p => scan p []) = false := by
  rw [List.any_eq_false]
  intro p hp
  cases p with
  | nil => exact absurd rfl (h _ hp)
  | cons x xs => simp [scan, after]

/-! what is kept: the parts of the word -/
theorem scan_cons {x y : Nat} {xs b : List Nat} : scan (x :: xs) (y :: b) = if y = x then scan xs b else scan (x :: xs) b := by
  unfold scan
  rw [after]
  by_cases h : y = x
  · rw [if_pos h, if_pos h]
    cases xs <;> rfl
  · rw [if_neg h, if_neg h]
theorem scan_sub : ∀ {b p : List Nat}, scan p b = true ↔ p.Sublist b
  | [], [] => ⟨fun _ => .slnil, fun _ => rfl⟩
  | [], x :: xs => ⟨fun h => by simp [scan, after] at h, fun h => by cases h⟩
  | y :: b, [] => ⟨fun _ => List.nil_sublist _, fun _ => by unfold scan; rfl⟩
  | y :: b, x :: xs => by
    rw [scan_cons]
    by_cases h : y = x
    · subst h
      rw [if_pos rfl, scan_sub, List.cons_sublist_cons]
    · rw [if_neg h, scan_sub]
      constructor
      · exact fun q => q.cons _
      · intro q
        cases q with
        | cons _ q => exact q
        | cons_cons _ q => exact absurd rfl h
theorem kept_mem {v : List Nat} : ∀ {names : List Nat} {ws : List (List Nat)}, v ∈ names.foldl keptStep ws ↔ ∃ u ∈ ws, ∃ s, s.Sublist names ∧ v = u ++ s
  | [], ws => ⟨fun h => ⟨v, h, [], .slnil, by simp⟩, fun ⟨u, hu, s, hs, e⟩ => by cases hs; rw [e, List.append_nil]; exact hu⟩
  | x :: names, ws => by
    show v ∈ names.foldl keptStep (keptStep ws x) ↔ _
    rw [kept_mem]
    constructor
    · rintro ⟨u, hu, s, hs, rfl⟩
      unfold keptStep at hu
      rcases List.mem_append.mp hu with hu | hu
      · exact ⟨u, hu, s, hs.cons _, rfl⟩
      · obtain ⟨u', hu', rfl⟩ := List.mem_map.mp (List.mem_filter.mp hu).1
        exact ⟨u', hu', x :: s, hs.cons_cons _, by simp⟩
    · rintro ⟨u, hu, s, hs, rfl⟩
      cases hs with
      | cons _ hs => exact ⟨u, List.mem_append_left _ hu, _, hs, rfl⟩
      | @cons_cons s' _ _ hs =>
        refine ⟨u ++ [x], ?_, s', hs, by simp⟩
        unfold keptStep
        by_cases q : ws.contains (u ++ [x]) = true
        · exact List.mem_append_left _ (List.contains_iff_mem.mp q)
        · exact List.mem_append_right _ (List.mem_filter.mpr ⟨List.mem_map.mpr ⟨u, hu, rfl⟩, by simpa using q⟩)
theorem keptL_mem {v u : List Nat} : v ∈ keptL u ↔ v.Sublist u := by
  unfold keptL
  rw [kept_mem]
  constructor
  · rintro ⟨u', hu', s, hs, rfl⟩
    simp at hu'
    subst hu'
    exact hs
  · exact fun h => ⟨[], .head _, v, h, rfl⟩
theorem best_eq {ps : List (List Nat)} {u : List Nat} {n : Nat} (h1 : ∃ s : List Nat, s.Sublist u ∧ (ps.any fun p => scan p s) = false ∧ s.length = n) (h2 : ∀ s : List Nat, s.Sublist u → (ps.any fun p => scan p s) = false → s.length ≤ n) : bestL ps (keptL u) = n := by
  unfold bestL maxL
  refine Nat.le_antisymm (foldl_max_le _ 0 n (Nat.zero_le _) fun x hx => ?_) ?_
  · obtain ⟨v, hv, rfl⟩ := List.mem_map.mp hx
    obtain ⟨hv1, hv2⟩ := List.mem_filter.mp hv
    exact h2 v (keptL_mem.mp hv1) (by simpa using hv2)
  · obtain ⟨s, hs, ha, rfl⟩ := h1
    exact (foldl_max_ge _ 0).2 _ (List.mem_map.mpr ⟨s, List.mem_filter.mpr ⟨keptL_mem.mpr hs, by rw [ha]; rfl⟩, rfl⟩)
noncomputable def mx2 (a b : Nat) : Nat := bif Nat.ble a b then b else a
theorem mx2_l {a b : Nat} : a ≤ mx2 a b := by
  unfold mx2
  cases h : Nat.ble a b with
  | true => exact Nat.le_of_ble_eq_true h
  | false => exact Nat.le_refl _
theorem mx2_r {a b : Nat} : b ≤ mx2 a b := by
  unfold mx2
  cases h : Nat.ble a b with
  | true => exact Nat.le_refl _
  | false =>
    have : ¬ a ≤ b := fun q => by rw [Nat.ble_eq_true_of_le q] at h; cases h
    show b ≤ a
    omega
theorem mx2_or {a b : Nat} : mx2 a b = a ∨ mx2 a b = b := by
  unfold mx2
  cases Nat.ble a b with
  | true => exact .inr rfl
  | false => exact .inl rfl
/-- the longest rising part above m -/
noncomputable def inc : Nat → List Nat → Nat
  | _, [] => 0
  | m, x :: w => bif Nat.blt x m then inc m w else mx2 (inc m w) (inc x w + 1)
theorem inc_spec : ∀ (u : List Nat) (m : Nat), (∃ s : List Nat, s.Sublist u ∧ s.Pairwise (· ≤ ·) ∧ (∀ x ∈ s, m ≤ x) ∧ s.length = inc m u) ∧ ∀ s : List Nat, s.Sublist u → s.Pairwise (· ≤ ·) → (∀ x ∈ s, m ≤ x) → s.length ≤ inc m u
  | [], m => ⟨⟨[], .slnil, .nil, fun _ h => (by cases h), rfl⟩, fun s hs _ _ => by cases hs; exact Nat.le_refl _⟩
  | x :: w, m => by
    obtain ⟨⟨s, h1, h2, h3, h4⟩, h5⟩ := inc_spec w m
    obtain ⟨⟨t, g1, g2, g3, g4⟩, g5⟩ := inc_spec w x
    rw [inc]
    cases q : Nat.blt x m with
    | true =>
      have hx : x < m := Nat.le_of_ble_eq_true q
      refine ⟨⟨s, h1.cons _, h2, h3, h4⟩, fun v hv hp hm => ?_⟩
      cases hv with
      | cons _ hv => exact h5 v hv hp hm
      | cons_cons _ hv => exact absurd (hm x (.head _)) (Nat.not_le.mpr hx)
    | false =>
      have hx : m ≤ x := by
        rcases Nat.lt_or_ge x m with z | z
        · rw [show Nat.blt x m = true from Nat.ble_eq_true_of_le z] at q; cases q
        · exact z
      show (∃ s : List Nat, _ ∧ _ ∧ _ ∧ s.length = mx2 (inc m w) (inc x w + 1)) ∧ ∀ s : List Nat, _ → _ → _ → s.length ≤ mx2 (inc m w) (inc x w + 1)
      refine ⟨?_, fun v hv hp hm => ?_⟩
      · rcases mx2_or (a := inc m w) (b := inc x w + 1) with e | e
        · exact ⟨s, h1.cons _, h2, h3, by rw [e, h4]⟩
        · refine ⟨x :: t, g1.cons_cons _, List.pairwise_cons.mpr ⟨g3, g2⟩, fun y hy => ?_, by rw [e, List.length_cons, g4]⟩
          rcases List.mem_cons.mp hy with rfl | hy
          · exact hx
          · exact Nat.le_trans hx (g3 y hy)
      · cases hv with
        | cons _ hv => exact Nat.le_trans (h5 v hv hp hm) mx2_l
        | cons_cons _ hv =>
          refine Nat.le_trans ?_ mx2_r
          rw [List.length_cons]
          exact Nat.succ_le_succ (g5 _ hv (List.pairwise_cons.mp hp).2 (List.pairwise_cons.mp hp).1)
/-- the falling word below k -/
noncomputable def pat : Nat → List Nat
  | 0 => []
  | k + 1 => k :: pat k
/-- the longest part without the falling word below k -/
noncomputable def av : Nat → List Nat → Nat
  | _, [] => 0
  | k, x :: u => bif Nat.beq k (x + 1) then (bif Nat.beq x 0 then av k u else mx2 (av k u) (av x u + 1)) else av k u + 1
theorem av_spec : ∀ (u : List Nat) (k : Nat), 0 < k → (∃ s : List Nat, s.Sublist u ∧ ¬ (pat k).Sublist s ∧ s.length = av k u) ∧ ∀ s : List Nat, s.Sublist u → ¬ (pat k).Sublist s → s.length ≤ av k u
  | [], k + 1, _ => ⟨⟨[], .slnil, fun h => (by cases h), rfl⟩, fun s hs _ => by cases hs; exact Nat.le_refl _⟩
  | x :: u, k + 1, hk => by
    obtain ⟨⟨s, h1, h2, h3⟩, h4⟩ := av_spec u (k + 1) hk
    rw [av]
    cases q : Nat.beq (k + 1) (x + 1) with
    | true =>
      have e : k = x := Nat.succ.inj (Nat.eq_of_beq_eq_true q)
      subst e
      cases q0 : Nat.beq k 0 with
      | true =>
        have e := Nat.eq_of_beq_eq_true q0
        subst e
        refine ⟨⟨s, h1.cons _, h2, h3⟩, fun v hv hn => ?_⟩
        cases hv with
        | cons _ hv => exact h4 v hv hn
        | cons_cons _ hv => exact absurd (List.cons_sublist_cons.mpr (List.nil_sublist _)) hn
      | false =>
        have hk0 : 0 < k := Nat.pos_of_ne_zero fun z => by rw [z] at q0; cases q0
        obtain ⟨⟨t, g1, g2, g3⟩, g4⟩ := av_spec u k hk0
        show (∃ s : List Nat, _ ∧ _ ∧ s.length = mx2 (av (k + 1) u) (av k u + 1)) ∧ ∀ s : List Nat, _ → _ → s.length ≤ mx2 (av (k + 1) u) (av k u + 1)
        refine ⟨?_, fun v hv hn => ?_⟩
        · rcases mx2_or (a := av (k + 1) u) (b := av k u + 1) with e | e
          · exact ⟨s, h1.cons _, h2, by rw [e, h3]⟩
          · exact ⟨k :: t, g1.cons_cons _, fun z => g2 (List.cons_sublist_cons.mp z), by rw [e, List.length_cons, g3]⟩
        · cases hv with
          | cons _ hv => exact Nat.le_trans (h4 v hv hn) mx2_l
          | cons_cons _ hv =>
            refine Nat.le_trans ?_ mx2_r
            rw [List.length_cons]
            exact Nat.succ_le_succ (g4 _ hv fun z => hn (List.cons_sublist_cons.mpr z))
    | false =>
      have hne : k ≠ x := fun z => by rw [z, show Nat.beq (x + 1) (x + 1) = true from Nat.beq_refl _] at q; cases q
      have hc : ∀ {v : List Nat}, (pat (k + 1)).Sublist (x :: v) → (pat (k + 1)).Sublist v := fun z => by
        cases z with
        | cons _ z => exact z
        | cons_cons _ z => exact absurd rfl hne
      show (∃ s : List Nat, _ ∧ _ ∧ s.length = av (k + 1) u + 1) ∧ ∀ s : List Nat, _ → _ → s.length ≤ av (k + 1) u + 1
      refine ⟨⟨x :: s, h1.cons_cons _, fun z => h2 (hc z), by rw [List.length_cons, h3]⟩, fun v hv hn => ?_⟩
      cases hv with
      | cons _ hv => exact Nat.le_succ_of_le (h4 v hv hn)
      | cons_cons _ hv =>
        rw [List.length_cons]
        exact Nat.succ_le_succ (h4 _ hv fun z => hn (z.cons _))
theorem best_inc {low : Nat} {u : List Nat} (h0 : 1 ≤ low) (hl : low ≤ 3) (hu : ∀ x ∈ u, x < low) : bestL (pairsL low) (keptL u) = inc 0 u := by
  have key : ∀ s : List Nat, s.Sublist u → (((pairsL low).any fun p => scan p s) = false ↔ s.Pairwise (· ≤ ·)) := by
    intro s hs
    rw [List.pairwise_iff_forall_sublist, List.any_eq_false]
    constructor
    · intro h a b hab
      have ha : a < low := hu a (hs.subset (hab.subset (by simp)))
      have hb : b < low := hu b (hs.subset (hab.subset (by simp)))
      rcases Nat.lt_or_ge b a with z | z
      · exfalso
        refine h [a, b] ?_ (scan_sub.mpr hab)
        match low, h0, hl with
        | 1, _, _ => omega
        | 2, _, _ =>
          obtain ⟨rfl, rfl⟩ : a = 1 ∧ b = 0 := by omega
          simp [pairsL]
        | 3, _, _ =>
          have : (a = 1 ∧ b = 0) ∨ (a = 2 ∧ b = 0) ∨ (a = 2 ∧ b = 1) := by omega
          rcases this with ⟨rfl, rfl⟩ | ⟨rfl, rfl⟩ | ⟨rfl, rfl⟩ <;> simp [pairsL]
      · exact z
    · intro h p hp hsc
      have hsub := scan_sub.mp hsc
      have : ∃ a b, p = [a, b] ∧ b < a := by
        match low, h0, hl with
        | 1, _, _ => cases hp
        | 2, _, _ =>
          simp [pairsL] at hp
          exact ⟨1, 0, hp, by decide⟩
        | 3, _, _ =>
          simp [pairsL] at hp
          rcases hp with rfl | rfl | rfl
          · exact ⟨1, 0, rfl, by decide⟩
          · exact ⟨2, 0, rfl, by decide⟩
          · exact ⟨2, 1, rfl, by decide⟩
      obtain ⟨a, b, rfl, hab⟩ := this
      exact absurd (h hsub) (Nat.not_le.mpr hab)
  obtain ⟨⟨s, h1, h2, _, h4⟩, h5⟩ := inc_spec u 0
  exact best_eq ⟨s, h1, (key s h1).mpr h2, h4⟩ fun v hv hn => h5 v hv ((key v hv).mp hn) fun _ _ => Nat.zero_le _
theorem best_av {u : List Nat} : bestL [[2, 1, 0]] (keptL u) = av 3 u := by
  have key : ∀ s : List Nat, (([[2, 1, 0]] : List (List Nat)).any fun p => scan p s) = false ↔ ¬ (pat 3).Sublist s := by
    intro s
    rw [← scan_sub, Bool.not_eq_true]
    simp [pat]
  obtain ⟨⟨s, h1, h2, h3⟩, h4⟩ := av_spec u 3 (by decide)
  exact best_eq ⟨s, h1, (key s).mpr h2, h3⟩ fun v hv hn => h4 v hv ((key v).mp hn)
theorem keptStep_len (ws : List (List Nat)) (x : Nat) : (keptStep ws x).length ≤ 2 * ws.length := by
  unfold keptStep
  rw [List.length_append]
  have := List.length_filter_le (fun v => !ws.contains v) (ws.map (· ++ [x]))
  rw [List.length_map] at this
  omega
theorem kept_len : ∀ (names : List Nat) (ws : List (List Nat)), (names.foldl keptStep ws).length ≤ 2 ^ names.length * ws.length
  | [], ws => by simp
  | x :: names, ws => by
    have h1 := kept_len names (keptStep ws x)
    have h2 := keptStep_len ws x
    rw [List.foldl_cons, List.length_cons, Nat.pow_succ, Nat.mul_assoc]
    exact Nat.le_trans h1 (Nat.mul_le_mul_left _ h2)

/-! the words -/
noncomputable def words3 : Nat → List (List Nat)
  | 0 => [[]]
  | n + 1 => (words3 n).flatMap fun w => [0 :: w, 1 :: w, 2 :: w]
theorem mem_words3 : ∀ (w : List Nat), (∀ x ∈ w, x < 3) → w ∈ words3 w.length
  | [], _ => .head _
  | x :: w, h => by
    have ih := mem_words3 w fun y hy => h y (.tail _ hy)
    have hx := h x (.head _)
    rw [List.length_cons, words3, List.mem_flatMap]
    refine ⟨w, ih, ?_⟩
    match x, hx with
    | 0, _ => exact .head _
    | 1, _ => exact .tail _ (.head _)
    | 2, _ => exact .tail _ (.tail _ (.head _))
theorem four : (words3 4).all (fun w => Nat.ble (keptL w).length 15) = true := by decide +kernel
theorem kept_small {u : List Nat} (h6 : u.length ≤ 6) (h3 : ∀ x ∈ u, x < 3) : (keptL u).length < 64 := by
  by_cases h : u.length ≤ 5
  · have h1 := kept_len u [[]]
    have h2 : 2 ^ u.length ≤ 2 ^ 5 := Nat.pow_le_pow_right (by decide) h
    unfold keptL
    simp only [List.length_singleton, Nat.mul_one] at h1
    omega
  · have hl : u.length = 6 := by omega
    have h4 : (u.take 4).length = 4 := by rw [List.length_take]; omega
    have hm := mem_words3 (u.take 4) fun x hx => h3 x (List.mem_of_mem_take hx)
    rw [h4] at hm
    have h15 := Nat.le_of_ble_eq_true (List.all_eq_true.mp four _ hm)
    have h1 := kept_len (u.drop 4) (keptL (u.take 4))
    have hd : (u.drop 4).length = 2 := by rw [List.length_drop]; omega
    rw [hd] at h1
    have e : keptL u = (u.drop 4).foldl keptStep (keptL (u.take 4)) := by
      unfold keptL
      rw [← List.foldl_append, List.take_append_drop]
    rw [e]
    omega
noncomputable def chkLow (w : List Nat) (rs : List (List Nat)) (low : Nat) : Bool :=
  Nat.beq (countK low 1 rs) (inc 0 (below low w)) && (Nat.beq (countK low 2 rs) (av 3 (below low w)) && Nat.beq (countK low 3 rs) (below low w).length)
noncomputable def chkW (w : List Nat) (rs : List (List Nat)) : Bool := rs.all leq && (chkLow w rs 1 && (chkLow w rs 2 && chkLow w rs 3))
/-- the lines, reckoned with Booleans -/
noncomputable def popB (x : Nat) : List Nat → List Nat → List Nat × List Nat
  | [], g => ([], g)
  | y :: rr, g => bif Nat.blt x y then popB x rr (y :: g) else (y :: rr, g)
theorem popB_eq (x : Nat) : ∀ rr g : List Nat, popB x rr g = popR x rr g
  | [], g => rfl
  | y :: rr, g => by
    rw [popB, popR, popB_eq x rr]
    by_cases h : x < y
    · rw [if_pos h, show Nat.blt x y = true from Nat.ble_eq_true_of_le h]; rfl
    · rw [if_neg h, show Nat.blt x y = false from by
        cases q : Nat.blt x y with
        | false => rfl
        | true => exact absurd (Nat.le_of_ble_eq_true q) h]; rfl
noncomputable def laidB : List (List Nat) → Option Nat → List (List Nat)
  | [], none => []
  | [], some x => [[x]]
  | r :: rs, none => r :: laidB rs none
  | r :: rs, some x => match popB x r.reverse [] with
    | (a, []) => (a.reverse ++ [x]) :: laidB rs none
    | (a, y :: g) => (a.reverse ++ x :: g) :: laidB rs (some y)
theorem laidB_eq : ∀ (rs : List (List Nat)) (o : Option Nat), laidB rs o = laidL rs o
  | [], none => rfl
  | [], some x => rfl
  | r :: rs, none => by rw [laidB, laidL, laidB_eq rs]
  | r :: rs, some x => by
    rw [laidB, laidL, popB_eq]
    unfold insR
    split
    · rename_i a e
      rw [e, laidB_eq rs]; rfl
    · rename_i a y g e
      rw [e, laidB_eq rs]; rfl
noncomputable def allB (w : List Nat) : List (List Nat) := w.foldl (fun rs x => laidB rs (some x)) []
theorem allB_eq (w : List Nat) : allB w = laidAll w := by
  unfold allB laidAll
  congr 1
  funext rs x
  exact laidB_eq rs (some x)
noncomputable def checkB (a b : Nat) : Bool := (words3 4).all fun v => chkW (a :: b :: v) (allB (a :: b :: v))
theorem check00 : checkB 0 0 = true := by decide +kernel
theorem check01 : checkB 0 1 = true := by decide +kernel
theorem check02 : checkB 0 2 = true := by decide +kernel
theorem check10 : checkB 1 0 = true := by decide +kernel
theorem check11 : checkB 1 1 = true := by decide +kernel
theorem check12 : checkB 1 2 = true := by decide +kernel
theorem check20 : checkB 2 0 = true := by decide +kernel
theorem check21 : checkB 2 1 = true := by decide +kernel
theorem check22 : checkB 2 2 = true := by decide +kernel
theorem check_ab : ∀ a b : Nat, a < 3 → b < 3 → checkB a b = true
  | 0, 0, _, _ => check00
  | 0, 1, _, _ => check01
  | 0, 2, _, _ => check02
  | 1, 0, _, _ => check10
  | 1, 1, _, _ => check11
  | 1, 2, _, _ => check12
  | 2, 0, _, _ => check20
  | 2, 1, _, _ => check21
  | 2, 2, _, _ => check22
theorem check_of {w : List Nat} (h6 : w.length = 6) (h3 : ∀ x ∈ w, x < 3) : chkW w (laidAll w) = true := by
  match w, h6, h3 with
  | a :: b :: v, h6, h3 =>
    have h4 : v.length = 4 := by simpa using h6
    have := mem_words3 v fun y hy => h3 y (.tail _ (.tail _ hy))
    rw [h4] at this
    have h := List.all_eq_true.mp (check_ab a b (h3 a (.head _)) (h3 b (.tail _ (.head _)))) v this
    rwa [allB_eq] at h
structure LowOk (w : List Nat) (rs : List (List Nat)) (low : Nat) : Prop where
  k : (keptL (below low w)).length < 64
  c1 : countK low 1 rs = bestL (pairsL low) (keptL (below low w))
  c2 : countK low 2 rs = bestL [[2, 1, 0]] (keptL (below low w))
  c3 : countK low 3 rs = (below low w).length
theorem low_of {w : List Nat} {rs : List (List Nat)} {low : Nat} (h6 : w.length = 6) (h3 : ∀ x ∈ w, x < 3) (h0 : 1 ≤ low) (hl : low ≤ 3) (h : chkLow w rs low = true) : LowOk w rs low := by
  unfold chkLow at h
  simp only [Bool.and_eq_true] at h
  have hlen : (below low w).length ≤ 6 := by rw [← h6]; exact List.length_filter_le _ _
  have hb : ∀ x ∈ below low w, x < low := fun x hx => by simpa using (List.mem_filter.mp hx).2
  refine ⟨kept_small hlen fun x hx => Nat.lt_of_lt_of_le (hb x hx) hl, ?_, ?_, Nat.eq_of_beq_eq_true h.2.2⟩
  · rw [best_inc h0 hl hb]; exact Nat.eq_of_beq_eq_true h.1
  · rw [best_av]; exact Nat.eq_of_beq_eq_true h.2.1
theorem checks {w : List Nat} (h6 : w.length = 6) (h3 : ∀ x ∈ w, x < 3) : (∀ r ∈ laidAll w, r.Pairwise (· ≤ ·)) ∧ LowOk w (laidAll w) 1 ∧ LowOk w (laidAll w) 2 ∧ LowOk w (laidAll w) 3 := by
  have h := check_of h6 h3
  unfold chkW at h
  simp only [Bool.and_eq_true] at h
  exact ⟨fun r hr => leq_pairwise (List.all_eq_true.mp h.1 r hr), low_of h6 h3 (by decide) (by decide) h.2.1, low_of h6 h3 (by decide) (by decide) h.2.2.1, low_of h6 h3 (by decide) (by decide) h.2.2.2⟩

/-! how long the lines may get -/
theorem insR_len (x : Nat) (r : List Nat) : (insR x r).1.length ≤ r.length + 1 := by
  have := popR_len x r.reverse []
  unfold insR
  simp only [List.length_append, List.length_reverse, List.length_cons, List.length_tail]
  rw [List.length_reverse, List.length_nil] at this
  omega
theorem laidL_len : ∀ (rs : List (List Nat)) (o : Option Nat) (n : Nat), 0 < n → (∀ r ∈ rs, r.length < n) → (laidL rs o).length ≤ rs.length + 1 ∧ ∀ r ∈ laidL rs o, r.length ≤ n
  | [], none, n, hn, h => ⟨Nat.zero_le _, fun r hr => by cases hr⟩
  | [], some x, n, hn, h => ⟨Nat.le_refl _, fun r hr => by rw [laidL] at hr; simp at hr; subst hr; exact hn⟩
  | r :: rs, none, n, hn, h => by
    obtain ⟨h1, h2⟩ := laidL_len rs none n hn fun q hq => h q (.tail _ hq)
    rw [laidL]
    refine ⟨by simp; omega, fun q hq => ?_⟩
    rcases List.mem_cons.mp hq with rfl | hq
    · exact Nat.le_of_lt (h _ (.head _))
    · exact h2 q hq
  | r :: rs, some x, n, hn, h => by
    obtain ⟨h1, h2⟩ := laidL_len rs (insR x r).2 n hn fun q hq => h q (.tail _ hq)
    rw [laidL]
    refine ⟨by simp; omega, fun q hq => ?_⟩
    rcases List.mem_cons.mp hq with rfl | hq
    · have := h r (.head _)
      have := insR_len x r
      omega
    · exact h2 q hq
end Mine

namespace Mine

structure Fns (T : Th) where
  a2 : Addr
  f2 : IsFn T 2 a2
  a3 : Addr
  f3 : IsFn T 3 a3
  a5 : Addr
  f5 : IsFn T 5 a5
  a6 : Addr
  f6 : IsFn T 6 a6
  a8 : Addr
  f8 : IsFn T 8 a8
  a9 : Addr
  f9 : IsFn T 9 a9
  a10 : Addr
  f10 : IsFn T 10 a10
  a11 : Addr
  f11 : IsFn T 11 a11
  a12 : Addr
  f12 : IsFn T 12 a12
  a13 : Addr
  f13 : IsFn T 13 a13
noncomputable def wordsAt : Str := match (bodyAt 14).getD 9 default with
  | .Assign _ (.Constant (.str x) _ _) _ => x
  | _ => Str.empty
theorem sig13 : Sig 13 ["things"] where
  of := rfl
  bind := fun vs pm code doc h => by
    match vs, h with
    | [x], _ => rfl
  nodup := by decide
  kinds := by decide
  co := rfl
  gen := rfl
  kind := rfl
/-- what is refused -/
inductive Ref : D → Prop
  | six {a b c d e f : Str} : Ref (.lst [.str a, .str b, .str c, .str d, .str e, .str f])
  | nil : Ref (.tup [])
  | five : Ref (.int 5)
  | enc {a b : Str} (h : a.length ≤ 64) : Ref (.tup [.str a, .lst [.str b]])

theorem rangeD_eq : ∀ (n : Nat) (a : Int), rangeD a n = (List.range n).map fun i => .int (a + (i : Nat))
  | 0, _ => rfl
  | n + 1, a => by
    rw [rangeD, rangeD_eq n (a + 1), List.range_succ_eq_map, List.map_cons, List.map_map]
    congr 1
    · simp
    · congr 1
      funext i
      show D.int (a + 1 + (i : Nat)) = D.int (a + ((i + 1 : Nat) : Int))
      congr 1
      omega
theorem cutTo (l : List D) (k : Nat) (h : l.length ≤ 8) (hk : k ≤ 3) : cutL l none (some (k : Int)) none = l.take k := by
  have : ∀ n : Nat, n ≤ 8 → ∀ k : Nat, k ≤ 3 → sliceRange (sliceBounds none (some (k : Int)) none n).1 (sliceBounds none (some (k : Int)) none n).2.1 (sliceBounds none (some (k : Int)) none n).2.2 = List.range (min k n) := by decide +kernel
  unfold cutL
  rw [this _ h k hk]
  have key : ∀ (l : List D) (k : Nat), (List.range (min k l.length)).filterMap (l[·]?) = l.take k := by
    intro l
    induction l with
    | nil => intro k; simp
    | cons d l ih =>
      intro k
      cases k with
      | zero => simp
      | succ k =>
        rw [List.length_cons, show min (k + 1) (l.length + 1) = min k l.length + 1 by omega, List.range_succ_eq_map, List.filterMap_cons]
        simp only [List.getElem?_cons_zero, List.take_succ_cons]
        rw [List.filterMap_map]
        congr 1
        rw [← ih k]
        rfl
  exact key l k
theorem listEq_str : ∀ l : List Str, listEq (l.map .str) (l.map .str) = true
  | [] => rfl
  | x :: l => by rw [List.map_cons, listEq, listEq_str l]; simp [flatEq]
theorem sameKinds_str : ∀ l k : List Str, sameKinds (l.map .str) (k.map .str)
  | [], _ => trivial
  | _ :: _, [] => trivial
  | x :: l, y :: k => ⟨trivial, sameKinds_str l k⟩
theorem join_line {nm : Nat → Str} : ∀ r : List Nat, Txt.join "." (r.map nm) = line nm r := by
  intro r
  have c3 : (("." : Str)) = S [46] := by decide +kernel
  unfold Txt.join line
  rw [StrLaws.glued_eq_join]
  have : ∀ r : List Nat, Str.join "." (r.map nm) = S (lineC nm r) := by
    intro r
    match r with
    | [] => rfl
    | [x] => exact (S_of _).symm
    | x :: y :: r =>
      have ih : Str.join "." ((y :: r).map nm) = S (lineC nm (y :: r)) := by
        induction r generalizing y with
        | nil => exact (S_of _).symm
        | cons z r ih =>
          show nm y ++ "." ++ Str.join "." ((z :: r).map nm) = S (cp nm y ++ 46 :: lineC nm (z :: r))
          rw [ih z, c3, show nm y = S (cp nm y) from (S_of _).symm, S_app, S_app]
          simp
      show nm x ++ "." ++ Str.join "." ((y :: r).map nm) = S (cp nm x ++ 46 :: lineC nm (y :: r))
      rw [ih, c3, show nm x = S (cp nm x) from (S_of _).symm, S_app, S_app]
      simp
  exact this r
theorem in_menu {nm : Nat → Str} (m : Menu nm) {i : Nat} (hi : i < 3) : ∀ {low : Nat}, low ≤ 3 → (strL nm (List.range low)).any (flatEq · (.str (nm i))) = decide (i < low) := by
  intro low hl
  rw [Bool.eq_iff_iff, List.any_eq_true, decide_eq_true_iff]
  constructor
  · rintro ⟨d, hd, he⟩
    obtain ⟨j, hj, rfl⟩ := List.mem_map.mp hd
    have hj' := List.mem_range.mp hj
    have : nm j = nm i := by simpa [flatEq] using he
    have := nm_inj m (by omega) hi (congrArg (fun x => x.cps.toList) this)
    omega
  · intro h
    exact ⟨.str (nm i), List.mem_map.mpr ⟨i, List.mem_range.mpr h, rfl⟩, by simp [flatEq]⟩
noncomputable def wantP (nm : Nat → Str) : List Nat → Str
  | [p, q] => "...<" ++ nm p ++ ">...<" ++ nm q ++ ">..."
  | _ => Str.empty
noncomputable def wantT (nm : Nat → Str) : Str := "...<" ++ Txt.join ">...<" [nm 2, nm 1, nm 0] ++ ">..."
structure Wants (nm : Nat → Str) : Prop where
  p : ∀ xs ∈ [[1, 0], [2, 0], [2, 1]], Want nm xs (wantP nm xs)
  t : Want nm [2, 1, 0] (wantT nm)
theorem pairsL_sub {low : Nat} : ∀ xs ∈ pairsL low, xs ∈ ([[1, 0], [2, 0], [2, 1]] : List (List Nat)) := by
  intro xs h
  unfold pairsL at h
  split at h
  · simp at h; subst h; simp
  · exact h
  · cases h

section
variable {T : Th} {a : Addr} {nm : Nat → Str} {t : Str} {pm code doc : Value} {L : Addr}
/-- names below a bound -/
theorem ev_below {k : Nat} {env : Env} {ρ : Rho} {low : Nat} {w : List Nat} (lo : Low T) (m : Menu nm) (hw : ∀ x ∈ w, x < 3) (hwl : w.length ≤ 64) (hl : low ≤ 3) : True := trivial
theorem lay_all {R : Out → Prop} (N : Nm T) (lo : Low T) (F : Fns T) (m : Menu nm) (ht : TailOk t) : ∀ (w : List Nat) (rs : List (List Nat)) (n : Nat) (ρ : Rho), (∀ x ∈ w, x < 3) → letters rs → (∀ r ∈ rs, r.length ≤ n) → rs.length ≤ n → n + w.length ≤ 50 →
    Lk ρ "lines" (.lst (rs.map (rowD nm))) → Lk ρ "tail" (.str t) → Lk ρ "names" (.lst (strL nm w)) ∨ True →
    (∀ ρ' : Rho, (∀ (y : Str) (d : D), y ≠ Str.ofString "lines" → y ≠ Str.ofString "name" → ρ.lookup y = some d → ρ'.lookup y = some d) → Lk ρ' "lines" (.lst ((w.foldl (fun rs x => laidL rs (some x)) rs).map (rowD nm))) → R (.next ρ')) →
    ForD T 40 (envAt 14 pm code doc L a) (forTg ((bodyAt 14).getD 12 default)) (forBody ((bodyAt 14).getD 12 default)) R (strL nm w) ρ
  | [], rs, n, ρ, _, _, _, _, _, h1, h2, _, hR => hR ρ (fun y d _ _ e => e) h1
  | x :: w, rs, n, ρ, hw, hls, hr, hrl, hn, h1, h2, _, hR => by
    rw [List.length_cons] at hn
    refine ⟨_, rfl, ?_⟩
    refine Ex.cons (Ex1.assign (d := .lst ((laidL rs (some x)).map (rowD nm))) (Ev.call ge_at (.inl F.f9) (F.f9.callee sig9) rfl rfl (EvL.cons (Ev.name (d := .lst (rs.map (rowD nm))) h1 rfl rfl) (EvL.cons (d := .str (nm x)) (Ev.name rfl rfl rfl) (EvL.cons (Ev.name (d := .str t) h2 rfl rfl) EvL.nil rfl) rfl) rfl) rfl rfl (fn_laid (k := 37) N lo F.f3 F.f5 F.f6 F.f8 F.f9 m ht (fun r hr' => by have := hr r hr'; omega) (by omega) hls (hw x (.head _)))) (.inl rfl) ?_)
    refine Ex.nil ?_
    have hll := laidL_len rs (some x) (n + 1) (Nat.succ_pos _) fun r hr' => Nat.lt_succ_of_le (hr r hr')
    refine lay_all N lo F m ht w (laidL rs (some x)) (n + 1) _ (fun y hy => hw y (.tail _ hy)) (laidL_letters hls fun y e => by cases e; exact hw x (.head _)) hll.2 (by have := hll.1; omega) (by omega) rfl h2 (.inr trivial) fun ρ' hk hl => ?_
    refine hR ρ' (fun y d e1 e2 e => hk y d e1 e2 ?_) hl
    rw [List.lookup_cons, show (y == Str.ofString "lines") = false by simpa using e1, List.lookup_cons, show (y == Str.ofString "name") = false by simpa using e2]
    exact e
end
end Mine

namespace Mine

theorem cons_none {ρ : Rho} {x y : Str} {d : D} (h1 : (y == x) = false) (h2 : ρ.lookup y = none) : List.lookup y ((x, d) :: ρ) = none := by rw [List.lookup_cons, h1]; exact h2
section
variable {T : Th} {a : Addr} {nm : Nat → Str} {t : Str} {pm code doc : Value} {L : Addr}
theorem cut_menu {low : Nat} (hl : low ≤ 3) : cutL (strL nm [0, 1, 2]) none (some (low : Int)) none = strL nm (List.range low) := by
  rw [cutTo _ low (by simp [strL]) hl]
  match low, hl with
  | 0, _ => rfl
  | 1, _ => rfl
  | 2, _ => rfl
  | 3, _ => rfl
theorem evb_in {k : Nat} {env : Env} {ρ : Rho} {e1 e2 e3 : Expr} {p p' p'' : Pos} {i low : Nat} (m : Menu nm) (hi : i < 3) (hl : low ≤ 3) (h1 : Ev T k env e1 ρ (.str (nm i))) (h2 : Ev T k env e2 ρ (.lst (strL nm [0, 1, 2]))) (h3 : Ev T k env e3 ρ (.int low))
    (hm : behindInMarks .In (.Subscript e2 (.Slice none (some e3) none p) p') = false) : EvB T k env (.Compare e1 [.In] [.Subscript e2 (.Slice none (some e3) none p) p'] p'') ρ (decide (i < low)) := by
  rw [← in_menu m hi hl]
  have h := Ev.cut (lower := none) (upper := some e3) (step := none) (lo := none) (hi := some (low : Int)) (st := none) (p := p) (pos := p') h2 trivial h3 trivial (by simp) (by simp [strL])
  rw [cut_menu hl] at h
  exact EvB.cmp h1 h (CmpR.inL fun d' hd => by obtain ⟨j, _, rfl⟩ := List.mem_map.mp hd; trivial) hm
theorem below_strL (low : Nat) (w : List Nat) : (w.filter fun i => decide (i < low)).map (fun i => D.str (nm i)) = strL nm (below low w) := rfl
theorem below_len (low : Nat) (w : List Nat) : (below low w).length ≤ w.length := List.length_filter_le _ _
theorem below_mem {low : Nat} {w : List Nat} (h : ∀ x ∈ w, x < 3) : ∀ x ∈ below low w, x < 3 := fun x hx => h x (List.mem_filter.mp hx).1
noncomputable def pairOut (nm : Nat → Str) (low : Nat) : List D := ((List.range low).filter fun _ => true).flatMap fun p => (List.range p).map fun q => .str (wantP nm [p, q])
theorem pairOut_eq {low : Nat} (h0 : 1 ≤ low) (hl : low ≤ 3) : pairOut nm low = (pairsL low).map fun xs => .str (wantP nm xs) := by
  match low, h0, hl with
  | 1, _, _ => rfl
  | 2, _, _ => rfl
  | 3, _, _ => rfl
theorem menu_at {p : Nat} (hp : p < 3) : (strL nm [0, 1, 2])[((p : Nat) : Int).toNat]? = some (.str (nm p)) := by
  match p, hp with
  | 0, _ => rfl
  | 1, _ => rfl
  | 2, _ => rfl
theorem want_len {xs : List Nat} {want : Str} (W : Want nm xs want) : want.length ≤ 64 := W.len

theorem low_turn {R : Out → Prop} (N : Nm T) (lo : Low T) (G : Fns T) (m : Menu nm) (W : Wants nm) {w : List Nat} {rs : List (List Nat)} (hw : ∀ x ∈ w, x < 3) (hwl : w.length ≤ 64) (hrl : rs.length ≤ 8) (hr3 : ∀ r ∈ rs, ∀ x ∈ r, x < 3) (hrn : ∀ r ∈ rs, r.length ≤ 64) {low : Nat} (h0 : 1 ≤ low) (hl : low ≤ 3) (K : LowOk w rs low)
    {ρ : Rho} (hlow : Lk ρ "low" (.int low)) (hmenu : Lk ρ "menu" (.lst (strL nm [0, 1, 2]))) (hnames : Lk ρ "names" (.lst (strL nm w))) (hrows : Lk ρ "rows" (.lst (rs.map fun r => .lst (strL nm r))))
    (hR : ∀ ρ' : Rho, Lk ρ' "menu" (.lst (strL nm [0, 1, 2])) → Lk ρ' "names" (.lst (strL nm w)) → Lk ρ' "rows" (.lst (rs.map fun r => .lst (strL nm r))) → R (.next ρ')) :
    Ex T 40 (envAt 14 pm code doc L a) (forBody ((bodyAt 14).getD 15 default)) ρ R := by
  have hnm := fun (l : List Nat) => strL_nm (nm := nm) l
  have hbl := below_len low w
  refine Ex.cons (Ex1.assignX (ds := [.lst (strL nm (below low w))]) ge_at (.inl G.f11) (G.f11.callee sig11) rfl rfl (EvL.cons ?_ EvL.nil rfl) rfl rfl (fn_kept (k := 38) N lo G.f11 m (below_mem hw) (by omega) K.k) (.inl rfl) (fun d hd => ?_) rfl)
  · rw [← below_strL]
    refine Ev.comp lo (ds := strL nm w) ⟨rfl, rfl, rfl, rfl, rfl⟩ (EvI.list (Ev.name hnames rfl rfl) (hnm w)) (ok1 fun C => ⟨rfl, rfl⟩) (fun C => ?_) (by rw [List.length_map]; exact Nat.le_trans hbl (by omega))
    exact CLoop.flt (rhoC_none rfl) (fun i => .str (nm i)) (fun i => .str (nm i)) _ w (fun i hi => evb_in m (hw i hi) hl (Ev.name rfl rfl rfl) (Ev.name (rhoC_get rfl hmenu) rfl rfl) (Ev.name (rhoC_get rfl hlow) rfl rfl) rfl) (fun _ _ _ => Ev.name rfl rfl rfl) fun _ _ => rfl
  obtain ⟨ws, hp, hs, rfl⟩ := hd
  have hok := keptL_ok (below low w) (n := 0) (ws := [[]]) (fun v hv => by simp at hv; subst hv; exact ⟨Nat.le_refl _, fun l hl => by cases hl⟩) (below_mem hw)
  have hws : ∀ v ∈ ws, v.length ≤ 64 ∧ ∀ l ∈ v, l < 3 := fun v hv => by
    have := hok v (hp.mem_iff.mp hv)
    exact ⟨by omega, this.2⟩
  have hnil : [] ∈ keptL (below low w) := nil_kept _ _ (.head _)
  -- the pairs
  refine Ex.cons (Ex1.assignC (ds := rangeD 0 (low : Int).toNat) (out := pairOut nm low) ⟨rfl, rfl, rfl, rfl, rfl⟩ (EvI.range1 ge_at (gv_range N) rfl (Ev.name hlow rfl rfl) (by omega) (by omega) rfl) (ok2 (fun C => ⟨rfl, rfl⟩) fun C => ⟨rfl, rfl⟩) (fun C => ?_) ?_ rfl ?_ rfl)
  · rw [show (low : Int).toNat = low by omega, rangeD_eq]
    refine CLoop.gen (rhoC_none rfl) (fun p => .int (0 + (p : Nat))) (fun _ => true) (fun p => (List.range p).map fun q => .str (wantP nm [p, q])) (List.range low) (fun _ _ => rfl) fun p hp _ => ?_
    have hp3 : p < 3 := Nat.lt_of_lt_of_le (List.mem_range.mp hp) hl
    have e0 : (0 : Int) + (p : Nat) = (p : Nat) := by omega
    rw [e0]
    refine CBody.cons (ds := rangeD 0 ((p : Nat) : Int).toNat) (EvI.range1 ⟨rfl, rfl⟩ (gv_range N) rfl (Ev.name rfl rfl rfl) (by omega) (by omega) rfl) (fun _ => rfl) ?_
    rw [show ((p : Nat) : Int).toNat = p by omega, rangeD_eq]
    refine CLoop.map (cons_none rfl (rhoC_none rfl)) (fun q => .int (0 + (q : Nat))) (fun q => .str (wantP nm [p, q])) (List.range p) (fun q hq => ?_) fun _ _ => rfl
    have hqp := List.mem_range.mp hq
    have hq3 : q < 3 := by omega
    have e1 : (0 : Int) + (q : Nat) = (q : Nat) := by omega
    rw [e1]
    have c1 : (Str.ofString "...<").length = 4 := by decide +kernel
    have c2 : (Str.ofString ">...<").length = 5 := by decide +kernel
    have c3 : (Str.ofString ">...").length = 4 := by decide +kernel
    have hps := m.short p
    have hqs := m.short q
    show Ev T 40 _ _ _ (.str ("...<" ++ nm p ++ ">...<" ++ nm q ++ ">..."))
    exact Ev.bin (Ev.bin (Ev.bin (Ev.bin Ev.cstr (Ev.idx (Ev.name (d := .lst (strL nm [0, 1, 2])) (rhoC_get rfl hmenu) rfl rfl) (Ev.name (d := .int (p : Nat)) rfl rfl rfl) (by omega) (by omega) (menu_at hp3) fun _ _ => rfl) (BinR.addS (by omega))) Ev.cstr (BinR.addS (by rw [app_len]; omega))) (Ev.idx (Ev.name (d := .lst (strL nm [0, 1, 2])) (rhoC_get rfl hmenu) rfl rfl) (Ev.name (d := .int (q : Nat)) rfl rfl rfl) (by omega) (by omega) (menu_at hq3) fun _ _ => rfl) (BinR.addS (by rw [app_len, app_len]; omega))) Ev.cstr (BinR.addS (by rw [app_len, app_len, app_len]; omega))
  · rw [pairOut_eq h0 hl, List.length_map]
    match low, h0, hl with
    | 1, _, _ => decide
    | 2, _, _ => decide
    | 3, _, _ => decide
  rw [pairOut_eq h0 hl]
  -- what is due
  have hpl : (pairsL low).length ≤ 64 := by
    match low, h0, hl with
    | 1, _, _ => decide
    | 2, _, _ => decide
    | 3, _, _ => decide
  have b1 : mostL (pairsL low) ws = some (bestL (pairsL low) (keptL (below low w))) := most_best hp hs ⟨[], hnil, nil_avoids fun p hp' => by have := pairsL_sub p hp'; intro q; subst q; simp at this⟩
  have b2 : mostL [[2, 1, 0]] ws = some (bestL [[2, 1, 0]] (keptL (below low w))) := most_best hp hs ⟨[], hnil, nil_avoids fun p hp' => by simp at hp'; subst hp'; nofun⟩
  refine Ex.cons (Ex1.assign (d := .lst [.int (bestL (pairsL low) (keptL (below low w)) : Nat), .int (bestL [[2, 1, 0]] (keptL (below low w)) : Nat), .int ((below low w).length : Nat)]) (Ev.list (EvL.cons ?_ (EvL.cons ?_ (EvL.cons ?_ EvL.nil rfl) rfl) rfl) (show 3 ≤ 4096 by decide)) (.inl rfl) ?_)
  · have := fn_most (T := T) (k := 38) (ws := ws) N lo G.f2 G.f12 m (pairsL low) (wantP nm) (fun p hp' => W.p p (pairsL_sub p hp')) hpl hws
    rw [b1] at this
    exact Ev.call ge_at (.inl G.f12) (G.f12.callee sig12) rfl rfl (EvL.cons (Ev.name rfl rfl rfl) (EvL.cons (Ev.name rfl rfl rfl) EvL.nil rfl) rfl) rfl rfl this
  · have := fn_most (T := T) (k := 38) (ws := ws) N lo G.f2 G.f12 m [[2, 1, 0]] (fun _ => wantT nm) (fun p hp' => by simp at hp'; subst hp'; exact W.t) (by decide) hws
    rw [b2] at this
    have c1 : (Str.ofString "...<").length = 4 := by decide +kernel
    have c2 : (Str.ofString ">...<").length = 5 := by decide +kernel
    have c3 : (Str.ofString ">...").length = 4 := by decide +kernel
    have s0 := m.short 0
    have s1 := m.short 1
    have s2 := m.short 2
    have hj : ([nm 2, nm 1, nm 0].map (·.length)).sum + [nm 2, nm 1, nm 0].length * (Str.ofString ">...<").length ≤ 16777216 := by simp [c2]; omega
    have hjl : (Txt.join ">...<" [nm 2, nm 1, nm 0]).length ≤ 64 := by
      have := W.t.len
      unfold wantT at this
      rw [app_len, app_len] at this
      omega
    refine Ev.call ge_at (.inl G.f12) (G.f12.callee sig12) rfl rfl (EvL.cons (Ev.name rfl rfl rfl) (EvL.cons (Ev.list (EvL.cons (d := .str (wantT nm)) ?_ EvL.nil rfl) (show 1 ≤ 4096 by decide)) EvL.nil rfl) rfl) rfl rfl this
    refine Ev.bin (Ev.bin Ev.cstr (Ev.smeth Ev.cstr F.slot_str_join F.type_str_join (EvL.cons (d := .lst ([nm 2, nm 1, nm 0].map .str)) ?_ EvL.nil rfl) rfl rfl rfl rfl rfl (CallR.join hj)) (BinR.addS (by omega))) Ev.cstr (BinR.addS (by rw [app_len]; omega))
    have ec : cutL (strL nm [0, 1, 2]) none none (some (-1)) = [nm 2, nm 1, nm 0].map .str := by
      have idx : sliceRange (sliceBounds none none (some (-1)) 3).1 (sliceBounds none none (some (-1)) 3).2.1 (sliceBounds none none (some (-1)) 3).2.2 = [2, 1, 0] := by decide +kernel
      unfold cutL
      rw [show (strL nm [0, 1, 2]).length = 3 from rfl, idx]
      rfl
    rw [← ec]
    exact Ev.cut (lo := none) (hi := none) (st := some (-1)) (Ev.name (d := .lst (strL nm [0, 1, 2])) hmenu rfl rfl) trivial trivial (Ev.un Ev.cint UnR.neg) (by simp) (by simp [strL])
  · have e : ((below low w).length : Nat) = (strL nm (below low w)).length := by rw [strL_len]
    rw [e]
    refine Ev.call ge_at (gv_len N) callee_b rfl rfl (EvL.cons ?_ EvL.nil rfl) rfl rfl (CallR.lenL (by rw [strL_len]; omega))
    rw [← below_strL]
    refine Ev.comp lo (ds := strL nm w) ⟨rfl, rfl, rfl, rfl, rfl⟩ (EvI.list (Ev.name hnames rfl rfl) (hnm w)) (ok1 fun C => ⟨rfl, rfl⟩) (fun C => ?_) (by rw [List.length_map]; exact Nat.le_trans hbl (by omega))
    exact CLoop.flt (rhoC_none rfl) (fun i => .str (nm i)) (fun i => .str (nm i)) _ w (fun i hi => evb_in m (hw i hi) hl (Ev.name rfl rfl rfl) (Ev.name (rhoC_get rfl hmenu) rfl rfl) (Ev.name (rhoC_get rfl hlow) rfl rfl) rfl) (fun _ _ _ => Ev.name rfl rfl rfl) fun _ _ => rfl
  -- the lines
  have hfl : ∀ k, ((rs.take k).filter fun _ => true).flatMap (fun r => (r.filter fun i => decide (i < low)).map fun i => D.str (nm i)) = strL nm (below low (rs.take k).flatten) := by
    intro k
    rw [filter_true]
    induction rs.take k with
    | nil => rfl
    | cons r l ih =>
      rw [List.flatMap_cons, ih, List.flatten_cons]
      unfold below strL
      rw [List.filter_append, List.map_append]
  have hcl : ∀ k, (strL nm (below low (rs.take k).flatten)).length ≤ 512 := by
    intro k
    rw [strL_len]
    refine Nat.le_trans (below_len _ _) ?_
    have : ∀ l : List (List Nat), (∀ r ∈ l, r.length ≤ 64) → l.flatten.length ≤ 64 * l.length := by
      intro l
      induction l with
      | nil => intro _; exact Nat.le_refl _
      | cons r l ih =>
        intro h
        have h1 := h r (.head _)
        have h2 := ih fun q hq => h q (.tail _ hq)
        rw [List.flatten_cons, List.length_append, List.length_cons]
        omega
    refine Nat.le_trans (this _ fun r hr => hrn r (List.mem_of_mem_take hr)) ?_
    have : (rs.take k).length ≤ rs.length := by rw [List.length_take]; omega
    omega
  refine Ex.cons (Ex1.ife (c := false) ?_ (fun hc => by cases hc) fun _ => Ex.nil (Ex.nil (hR _ hmenu hnames hrows)))
  have e9 : (!listEq (([1, 2, 3] : List Nat).map fun k => D.int (countK low k rs : Nat)) [.int (bestL (pairsL low) (keptL (below low w)) : Nat), .int (bestL [[2, 1, 0]] (keptL (below low w)) : Nat), .int ((below low w).length : Nat)]) = false := by
    rw [← K.c1, ← K.c2, ← K.c3]
    simp [listEq, flatEq]
  rw [← e9]
  refine EvB.cmp (Ev.comp lo (ds := rangeD 1 ((4 : Int) - 1).toNat) (out := ([1, 2, 3] : List Nat).map fun k => D.int (countK low k rs : Nat)) ⟨rfl, rfl, rfl, rfl, rfl⟩ (EvI.range2 ge_at (gv_range N) rfl Ev.cint Ev.cint (by decide) (by decide) (by decide) (by decide) rfl rfl) (ok1 fun C => ⟨rfl, rfl⟩) (fun C => ?_) (show 3 ≤ 4096 by decide)) (Ev.name rfl rfl rfl) (CmpR.neL ⟨trivial, trivial, trivial, trivial⟩) rfl
  show CLoop T 40 _ _ _ _ (([1, 2, 3] : List Nat).map fun k => D.int (k : Nat)) _ _
  refine CLoop.map (rhoC_none rfl) (fun k => .int (k : Nat)) (fun k => .int (countK low k rs : Nat)) [1, 2, 3] (fun k hk => ?_) fun _ _ => rfl
  have hk3 : k ≤ 3 := by simp at hk; omega
  have e : (countK low k rs : Nat) = (strL nm (below low (rs.take k).flatten)).length := by rw [strL_len]; rfl
  rw [e]
  refine Ev.call ⟨rfl, rfl⟩ (gv_len N) callee_b rfl rfl (EvL.cons ?_ EvL.nil rfl) rfl rfl (CallR.lenL (by have := hcl k; omega))
  rw [← hfl k]
  refine Ev.comp lo (ds := (rs.take k).map fun r => .lst (strL nm r)) ⟨rfl, rfl, rfl, rfl, rfl⟩ (EvI.list ?_ (nmL_map (fun r => D.lst (strL nm r)) (fun r => hnm r) _)) (ok2 (fun C => ⟨rfl, rfl⟩) fun C => ⟨rfl, rfl⟩) (fun C' => ?_) (by rw [hfl k]; have := hcl k; omega)
  · have ec : cutL (rs.map fun r => D.lst (strL nm r)) none (some (k : Int)) none = (rs.take k).map fun r => D.lst (strL nm r) := by rw [cutTo _ k (by simp; omega) hk3, ← List.map_take]
    rw [← ec]
    exact Ev.cut (lo := none) (hi := some (k : Int)) (st := none) (Ev.name (d := .lst (rs.map fun r => .lst (strL nm r))) (rhoC_get rfl hrows) rfl rfl) trivial (Ev.name (d := .int (k : Nat)) rfl rfl rfl) trivial (by simp) (by simp; omega)
  · refine CLoop.gen (rhoC_none rfl) (fun r => .lst (strL nm r)) (fun _ => true) _ (rs.take k) (fun _ _ => rfl) fun r hr _ => ?_
    refine CBody.cons (ds := strL nm r) (EvI.list (Ev.name rfl rfl rfl) (hnm r)) (fun _ => rfl) ?_
    have hr' := List.mem_of_mem_take hr
    exact CLoop.flt (cons_none rfl (rhoC_none rfl)) (fun i => .str (nm i)) (fun i => .str (nm i)) _ r (fun i hi => evb_in m (hr3 r hr' i hi) hl (Ev.name rfl rfl rfl) (Ev.name (rhoC_get rfl (rhoC_get rfl hmenu)) rfl rfl) (Ev.name (rhoC_get rfl (rhoC_get rfl hlow)) rfl rfl) rfl) (fun _ _ _ => Ev.name rfl rfl rfl) fun _ _ => rfl
end
end Mine

namespace Mine

section
variable {T : Th} {a : Addr} {nm : Nat → Str} {t : Str} {pm code doc : Value} {L : Addr}
theorem ordersD {m : Menu nm} : (([0, 1, 2] : List Nat).filter fun _ => true).flatMap (fun i => ([0, 1, 2] : List Nat).map fun j => D.int (collD (nm i) (nm j))) = ([0, -1, -1, 1, 0, -1, 1, 1, 0] : List Int).map .int := by
  have e : ∀ i j, i < 3 → j < 3 → collD (nm i) (nm j) = if j < i then 1 else if i < j then -1 else 0 := fun i j hi hj => collD_nm m hj hi
  simp only [filter_true, List.flatMap_cons, List.flatMap_nil, List.map_cons, List.map_nil, List.append_nil, List.cons_append, List.nil_append]
  rw [e 0 0 (by decide) (by decide), e 0 1 (by decide) (by decide), e 0 2 (by decide) (by decide), e 1 0 (by decide) (by decide), e 1 1 (by decide) (by decide), e 1 2 (by decide) (by decide), e 2 0 (by decide) (by decide), e 2 1 (by decide) (by decide), e 2 2 (by decide) (by decide)]
  rfl
theorem law_low {R : Out → Prop} (N : Nm T) (lo : Low T) (G : Fns T) (m : Menu nm) (W : Wants nm) {w : List Nat} {rs : List (List Nat)} (hw : ∀ x ∈ w, x < 3) (hwl : w.length ≤ 64) (hrl : rs.length ≤ 8) (hr3 : ∀ r ∈ rs, ∀ x ∈ r, x < 3) (hrn : ∀ r ∈ rs, r.length ≤ 64)
    (hR : ∀ ρ : Rho, R (.next ρ)) : ∀ (ls : List Nat) (ρ : Rho), (∀ l ∈ ls, 1 ≤ l ∧ l ≤ 3 ∧ LowOk w rs l) → Lk ρ "menu" (.lst (strL nm [0, 1, 2])) → Lk ρ "names" (.lst (strL nm w)) → Lk ρ "rows" (.lst (rs.map fun r => .lst (strL nm r))) →
    ForD T 40 (envAt 14 pm code doc L a) (forTg ((bodyAt 14).getD 15 default)) (forBody ((bodyAt 14).getD 15 default)) R (ls.map fun l => .int (l : Nat)) ρ
  | [], ρ, _, _, _, _ => hR ρ
  | l :: ls, ρ, hl, h1, h2, h3 => by
    refine ⟨_, rfl, ?_⟩
    obtain ⟨l0, l3, K⟩ := hl l (.head _)
    exact low_turn N lo G m W hw hwl hrl hr3 hrn l0 l3 K rfl h1 h2 h3 fun ρ' e1 e2 e3 => law_low N lo G m W hw hwl hrl hr3 hrn hR ls ρ' (fun l' hl' => hl l' (.tail _ hl')) e1 e2 e3
theorem law_rest (N : Nm T) (lo : Low T) (G : Fns T) (m : Menu nm) (W : Wants nm) (ht : TailOk t) (hRef : ∀ d, Ref d → CallR T 40 (.ref G.a13) [d] (.str wordsAt)) {x0 x1 x2 x3 x4 x5 : Nat} (hw : ∀ x ∈ [x0, x1, x2, x3, x4, x5], x < 3) {ρ : Rho}
    (hmenu : Lk ρ "menu" (.lst (strL nm [0, 1, 2]))) (htail : Lk ρ "tail" (.str t)) (hnames : Lk ρ "names" (.lst (strL nm [x0, x1, x2, x3, x4, x5]))) :
    Ex T 40 (envAt 14 pm code doc L a) ((bodyAt 14).drop 5) ρ (fun o => o = .ret (.bool true)) := by
  have hnm := fun (l : List Nat) => strL_nm (nm := nm) l
  obtain ⟨hsorted, K1, K2, K3⟩ := checks (w := [x0, x1, x2, x3, x4, x5]) rfl hw
  -- orders
  refine Ex.cons (Ex1.assignC (ds := strL nm [0, 1, 2]) (out := ([0, -1, -1, 1, 0, -1, 1, 1, 0] : List Int).map .int) ⟨rfl, rfl, rfl, rfl, rfl⟩ (EvI.list (Ev.name hmenu rfl rfl) (hnm _)) (ok2 (fun C => ⟨rfl, rfl⟩) fun C => ⟨rfl, rfl⟩) (fun C => ?_) (show 9 ≤ 4096 by decide) rfl ?_ rfl)
  · rw [← ordersD (m := m)]
    refine CLoop.gen (rhoC_none rfl) (fun i => .str (nm i)) (fun _ => true) _ [0, 1, 2] (fun _ _ => rfl) fun i hi _ => ?_
    refine CBody.cons (ds := strL nm [0, 1, 2]) (EvI.list (Ev.name (rhoC_get rfl hmenu) rfl rfl) (hnm _)) (fun _ => rfl) ?_
    refine CLoop.map (cons_none rfl (rhoC_none rfl)) (fun j => .str (nm j)) (fun j => .int (collD (nm i) (nm j))) [0, 1, 2] (fun j hj => ?_) fun _ _ => rfl
    exact Ev.call ⟨rfl, rfl⟩ (.inl G.f5) (G.f5.callee sig5) rfl rfl (EvL.cons (Ev.name rfl rfl rfl) (EvL.cons (Ev.name rfl rfl rfl) EvL.nil rfl) rfl) rfl rfl (fn_strcoll (k := 39) lo G.f5)
  refine Ex.cons (Ex1.ife (c := (false || false)) (EvB.or2 ?_ fun _ => ?_) (fun hc => by cases hc) fun _ => Ex.nil ?_)
  · exact EvB.cmp (d₂ := .lst (([0, -1, -1, 1, 0, -1, 1, 1, 0] : List Int).map .int)) (b := !listEq (([0, -1, -1, 1, 0, -1, 1, 1, 0] : List Int).map .int) (([0, -1, -1, 1, 0, -1, 1, 1, 0] : List Int).map .int)) (Ev.name rfl rfl rfl)
      (Ev.list (EvL.cons Ev.cint (EvL.cons (Ev.un Ev.cint UnR.neg) (EvL.cons (Ev.un Ev.cint UnR.neg) (EvL.cons Ev.cint (EvL.cons Ev.cint (EvL.cons (Ev.un Ev.cint UnR.neg) (EvL.cons Ev.cint (EvL.cons Ev.cint (EvL.cons Ev.cint EvL.nil rfl) rfl) rfl) rfl) rfl) rfl) rfl) rfl) rfl) (show 9 ≤ 4096 by decide)) (CmpR.neL (by simp [sameKinds, sameKind])) rfl
  · refine EvB.cmp (d₁ := .lst []) (d₂ := .lst []) (Ev.comp lo (ds := ([0, -1, -1, 1, 0, -1, 1, 1, 0] : List Int).map .int) ⟨rfl, rfl, rfl, rfl, rfl⟩ (EvI.list (Ev.name rfl rfl rfl) rfl) (ok1 fun C => ⟨rfl, rfl⟩) (fun C => ?_) (Nat.zero_le _)) (Ev.list EvL.nil (Nat.zero_le _)) (CmpR.neL trivial) rfl
    exact CLoop.flt (rhoC_none rfl) (fun i => .int i) (fun i => .int i) (fun _ => false) ([0, -1, -1, 1, 0, -1, 1, 1, 0] : List Int) (fun i _ => EvB.isBool ⟨rfl, rfl⟩ N rfl rfl rfl rfl rfl) (fun _ _ q => by cases q) fun _ _ => rfl
  -- handed
  refine Ex.cons (Ex1.assign (d := .lst (strL nm [x0, x1, x2, x3, x4, x5])) ?_ (.inl rfl) ?_)
  · have ec : cutL (strL nm [x0, x1, x2, x3, x4, x5]) none none none = strL nm [x0, x1, x2, x3, x4, x5] := by
      have idx : sliceRange (sliceBounds none none none 6).1 (sliceBounds none none none 6).2.1 (sliceBounds none none none 6).2.2 = [0, 1, 2, 3, 4, 5] := by decide +kernel
      unfold cutL
      rw [show (strL nm [x0, x1, x2, x3, x4, x5]).length = 6 from rfl, idx]
      rfl
    rw [← ec]
    exact Ev.cut (lo := none) (hi := none) (st := none) (Ev.name (d := .lst (strL nm [x0, x1, x2, x3, x4, x5])) hnames rfl rfl) trivial trivial trivial (by simp) (by simp [strL])
  -- refused
  refine Ex.cons (Ex1.assignC (ds := [.lst (strL nm [x0, x1, x2, x3, x4, x5]), .tup [], .int 5, .tup [.str (nm x0), .lst [.str (nm x1)]]]) (out := [.str wordsAt, .str wordsAt, .str wordsAt, .str wordsAt]) ⟨rfl, rfl, rfl, rfl, rfl⟩ (EvI.list (Ev.list (EvL.cons (Ev.name rfl rfl rfl) (EvL.cons (Ev.tuple EvL.nil (Nat.zero_le _)) (EvL.cons Ev.cint (EvL.cons (Ev.tuple (EvL.cons (Ev.idx (Ev.name (d := .lst (strL nm [x0, x1, x2, x3, x4, x5])) hnames rfl rfl) Ev.cint (by decide) (by decide) rfl fun _ _ => rfl) (EvL.cons ?_ EvL.nil rfl) rfl) (show 2 ≤ 4096 by decide)) EvL.nil rfl) rfl) rfl) rfl) (show 4 ≤ 4096 by decide)) rfl) (ok1 fun C => ⟨rfl, rfl⟩) (fun C => ?_) (show 4 ≤ 4096 by decide) rfl ?_ rfl)
  · have ec : cutL (strL nm [x0, x1, x2, x3, x4, x5]) (some 1) (some 2) none = [.str (nm x1)] := by
      have idx : sliceRange (sliceBounds (some 1) (some 2) none 6).1 (sliceBounds (some 1) (some 2) none 6).2.1 (sliceBounds (some 1) (some 2) none 6).2.2 = [1] := by decide +kernel
      unfold cutL
      rw [show (strL nm [x0, x1, x2, x3, x4, x5]).length = 6 from rfl, idx]
      rfl
    rw [← ec]
    exact Ev.cut (lo := some 1) (hi := some 2) (st := none) (Ev.name (d := .lst (strL nm [x0, x1, x2, x3, x4, x5])) hnames rfl rfl) Ev.cint Ev.cint trivial (by simp) (by simp [strL])
  · refine CLoop.map (α := D) (rhoC_none rfl) (fun d => d) (fun _ => .str wordsAt) [.lst (strL nm [x0, x1, x2, x3, x4, x5]), .tup [], .int 5, .tup [.str (nm x0), .lst [.str (nm x1)]]] (fun d hd => ?_) fun _ _ => rfl
    have hk : Ref d := by
      simp only [List.mem_cons, List.not_mem_nil, or_false] at hd
      rcases hd with rfl | rfl | rfl | rfl
      · exact .six
      · exact .nil
      · exact .five
      · exact .enc (by have := m.short x0; omega)
    exact Ev.call ⟨rfl, rfl⟩ (.inl G.f13) (G.f13.callee sig13) rfl rfl (EvL.cons (Ev.name rfl rfl rfl) EvL.nil rfl) rfl rfl (hRef d hk)
  refine Ex.cons (Ex1.assign (d := .str wordsAt) Ev.cstr (.inl rfl) ?_)
  refine Ex.cons (Ex1.ife (c := (false || false)) (EvB.or2 ?_ fun _ => ?_) (fun hc => by cases hc) fun _ => Ex.nil ?_)
  · have e : (!listEq [.str wordsAt, .str wordsAt, .str wordsAt, .str wordsAt] (List.replicate (4 : Int).toNat [.str wordsAt]).flatten) = false := by
      show (!listEq (([wordsAt, wordsAt, wordsAt, wordsAt] : List Str).map .str) (([wordsAt, wordsAt, wordsAt, wordsAt] : List Str).map .str)) = false
      rw [listEq_str]; rfl
    rw [← e]
    exact EvB.cmp (Ev.name rfl rfl rfl) (Ev.bin (Ev.list (EvL.cons (Ev.name rfl rfl rfl) EvL.nil rfl) (show 1 ≤ 4096 by decide)) Ev.cint (BinR.mulL (by decide) (by decide) (show 4 ≤ 4096 by decide))) (CmpR.neL ⟨trivial, trivial, trivial, trivial, trivial⟩) rfl
  · have e : (!listEq (strL nm [x0, x1, x2, x3, x4, x5]) (strL nm [x0, x1, x2, x3, x4, x5])) = false := by
      show (!listEq (([nm x0, nm x1, nm x2, nm x3, nm x4, nm x5] : List Str).map .str) (([nm x0, nm x1, nm x2, nm x3, nm x4, nm x5] : List Str).map .str)) = false
      rw [listEq_str]; rfl
    rw [← e]
    exact EvB.cmp (Ev.name rfl rfl rfl) (Ev.name (d := .lst (strL nm [x0, x1, x2, x3, x4, x5])) hnames rfl rfl) (CmpR.neL ⟨trivial, trivial, trivial, trivial, trivial, trivial, trivial⟩) rfl
  -- the lines
  refine Ex.cons (Ex1.assign (d := .lst (([] : List (List Nat)).map (rowD nm))) (Ev.list EvL.nil (Nat.zero_le _)) (.inl rfl) ?_)
  refine Ex.cons (Ex1.forl (ds := strL nm [x0, x1, x2, x3, x4, x5]) (EvI.list (Ev.name hnames rfl rfl) (hnm _)) (.inl rfl) ?_)
  refine lay_all N lo G m ht [x0, x1, x2, x3, x4, x5] [] 0 _ hw (fun r hr => by cases hr) (fun r hr => by cases hr) (Nat.le_refl _) (show 6 ≤ 50 by decide) rfl htail (.inr trivial) fun ρ' hk hlines => ?_
  have hmenu' : Lk ρ' "menu" (.lst (strL nm [0, 1, 2])) := hk _ _ (by decide) (by decide) hmenu
  have htail' : Lk ρ' "tail" (.str t) := hk _ _ (by decide) (by decide) htail
  have hnames' : Lk ρ' "names" (.lst (strL nm [x0, x1, x2, x3, x4, x5])) := hk _ _ (by decide) (by decide) hnames
  have hlines' : Lk ρ' "lines" (.lst ((laidAll [x0, x1, x2, x3, x4, x5]).map (rowD nm))) := hlines
  have bounds : ∀ (w : List Nat) (rs : List (List Nat)) (n : Nat), (∀ x ∈ w, x < 3) → letters rs → (∀ r ∈ rs, r.length ≤ n) → rs.length ≤ n → letters (w.foldl (fun rs x => laidL rs (some x)) rs) ∧ (∀ r ∈ w.foldl (fun rs x => laidL rs (some x)) rs, r.length ≤ n + w.length) ∧ (w.foldl (fun rs x => laidL rs (some x)) rs).length ≤ n + w.length := by
    intro w
    induction w with
    | nil => intro rs n _ h1 h2 h3; exact ⟨h1, h2, h3⟩
    | cons x w ih =>
      intro rs n hx h1 h2 h3
      have hll := laidL_len rs (some x) (n + 1) (Nat.succ_pos _) fun r hr' => Nat.lt_succ_of_le (h2 r hr')
      obtain ⟨q1, q2, q3⟩ := ih (laidL rs (some x)) (n + 1) (fun y hy => hx y (.tail _ hy)) (laidL_letters h1 fun y e => by cases e; exact hx x (.head _)) hll.2 (by have := hll.1; omega)
      refine ⟨q1, fun r hr => ?_, ?_⟩
      · have := q2 r hr; rw [List.length_cons]; omega
      · rw [List.length_cons]; show (w.foldl _ (laidL rs (some x))).length ≤ _; omega
  obtain ⟨b1, b2, b3⟩ := bounds [x0, x1, x2, x3, x4, x5] [] 0 hw (fun r hr => by cases hr) (fun r hr => by cases hr) (Nat.le_refl _)
  replace b1 : letters (laidAll [x0, x1, x2, x3, x4, x5]) := b1
  replace b2 : ∀ r ∈ laidAll [x0, x1, x2, x3, x4, x5], r.length ≤ 6 := b2
  replace b3 : (laidAll [x0, x1, x2, x3, x4, x5]).length ≤ 6 := b3
  clear hk hlines
  generalize laidAll [x0, x1, x2, x3, x4, x5] = rs at hsorted K1 K2 K3 b1 b2 b3 hlines'
  -- the rows
  have hlen : (rs.map (rowD nm)).length = rs.length := List.length_map ..
  refine Ex.cons (Ex1.assign (d := .lst (rs.map fun r => .lst (strL nm r))) (Ev.comp lo (ds := rs.map (rowD nm)) ⟨rfl, rfl, rfl, rfl, rfl⟩ (EvI.list (Ev.name hlines' rfl rfl) (nmL_map _ (fun _ => rfl) _)) (ok1 fun C => ⟨rfl, rfl, rfl⟩) (fun C => ?_) (by rw [List.length_map]; omega)) (.inr ⟨rfl, rfl⟩) ?_)
  · refine CLoop.map2 (rhoC_none rfl) (rhoC_none rfl) (fun r => .str (line nm r)) (fun r => .int r.length) (fun r => .lst (strL nm r)) rs (fun r hr => ?_) fun r _ => hnm r
    exact Ev.call ⟨rfl, rfl⟩ (.inl G.f10) (G.f10.callee sig10) rfl rfl (EvL.cons (Ev.name (d := .str (line nm r)) rfl rfl rfl) (EvL.cons (Ev.name (d := .int r.length) rfl rfl rfl) (EvL.cons (Ev.name (d := .str t) (rhoC_get rfl htail') rfl rfl) EvL.nil rfl) rfl) rfl) rfl rfl (fn_read (k := 38) N lo G.f3 G.f10 m ht (by have := b2 r hr; omega))
  refine Ex.cons (Ex1.ife (c := false) ?_ (fun hc => by cases hc) fun _ => Ex.nil ?_)
  · have e : (!listEq (rs.map fun r => D.str (line nm r)) (rs.map fun r => D.str (line nm r))) = false := by
      have : (rs.map fun r => D.str (line nm r)) = (rs.map (line nm)).map .str := by rw [List.map_map]; rfl
      rw [this, listEq_str]; rfl
    rw [← e]
    refine EvB.cmp (Ev.comp lo (ds := rs.map (rowD nm)) ⟨rfl, rfl, rfl, rfl, rfl⟩ (EvI.list (Ev.name (d := .lst (rs.map (rowD nm))) hlines' rfl rfl) (nmL_map _ (fun _ => rfl) _)) (ok1 fun C => ⟨rfl, rfl, rfl⟩) (fun C => ?_) (by rw [List.length_map]; omega)) (Ev.comp lo (ds := rs.map fun r => .lst (strL nm r)) ⟨rfl, rfl, rfl, rfl, rfl⟩ (EvI.list (Ev.name rfl rfl rfl) (nmL_map (fun r => D.lst (strL nm r)) (fun r => hnm r) _)) (ok1 fun C => ⟨rfl, rfl⟩) (fun C => ?_) (by rw [List.length_map]; omega)) (CmpR.neL ?_) rfl
    · exact CLoop.map2 (rhoC_none rfl) (rhoC_none rfl) (fun r => .str (line nm r)) (fun r => .int r.length) (fun r => .str (line nm r)) rs (fun r hr => Ev.name rfl rfl rfl) fun r _ => rfl
    · refine CLoop.map (rhoC_none rfl) (fun r => .lst (strL nm r)) (fun r => .str (line nm r)) rs (fun r hr => ?_) fun r _ => rfl
      have hr6 := b2 r hr
      rw [← join_line]
      have hj : ((r.map nm).map (·.length)).sum + (r.map nm).length * (Str.ofString ".").length ≤ 16777216 := by
        have c1 : (Str.ofString ".").length = 1 := by decide +kernel
        have : ∀ l : List Nat, ((l.map nm).map (·.length)).sum ≤ 3 * l.length := by
          intro l
          induction l with
          | nil => exact Nat.le_refl _
          | cons x l ih =>
            have := m.short x
            simp only [List.map_cons, List.sum_cons, List.length_cons]
            omega
        have := this r
        rw [c1, List.length_map]
        omega
      refine Ev.smeth Ev.cstr F.slot_str_join F.type_str_join (EvL.cons (d := .lst ((r.map nm).map .str)) ?_ EvL.nil rfl) rfl rfl rfl rfl rfl (CallR.join hj)
      rw [List.map_map]
      exact Ev.call ⟨rfl, rfl⟩ (gv_sorted N) callee_b rfl rfl (EvL.cons (Ev.name rfl rfl rfl) EvL.nil rfl) rfl rfl (CallR.sortS m (hsorted r hr) (b1 r hr) (by omega))
    · have : (rs.map fun r => D.str (line nm r)) = (rs.map (line nm)).map .str := by rw [List.map_map]; rfl
      rw [this]
      exact sameKinds_str _ _
  refine Ex.cons (Ex1.forl (ds := ([1, 2, 3] : List Nat).map fun l => .int (l : Nat)) (EvI.range2 (a := 1) (b := 4) ge_at (gv_range N) rfl Ev.cint Ev.cint (by decide) (by decide) (by decide) (by decide) rfl rfl) (.inr ⟨rfl, rfl⟩) ?_)
  refine law_low N lo G m W hw (by simp) (by omega) b1 (fun r hr => by have := b2 r hr; omega) (fun ρ'' => ?_) [1, 2, 3] _ (fun l hl => ?_) hmenu' hnames' rfl
  · exact Ex.cons (Ex1.ret Ev.cbool rfl)
  · simp only [List.mem_cons, List.not_mem_nil, or_false] at hl
    rcases hl with rfl | rfl | rfl
    · exact ⟨by decide, by decide, K1⟩
    · exact ⟨by decide, by decide, K2⟩
    · exact ⟨by decide, by decide, K3⟩
end
end Mine

namespace Mine

noncomputable def strOfE : Expr → Str
  | .Constant (.str x) _ _ => x
  | _ => Str.empty
noncomputable def strsOfE : Expr → List Str
  | .List es _ => es.map strOfE
  | _ => []
noncomputable def menus : List (List Str) := match (bodyAt 14).getD 2 default with
  | .Assign _ (.Subscript (.List es _) _ _) _ => es.map strsOfE
  | _ => []
noncomputable def tails : List Str := match (bodyAt 14).getD 3 default with
  | .Assign _ (.Subscript e _ _) _ => strsOfE e
  | _ => []
noncomputable def nmOf (q i : Nat) : Str := (menus.getD q []).getD i Str.empty
noncomputable def tailOf (r : Nat) : Str := tails.getD r Str.empty
noncomputable def cleanC (c : Nat) : Bool := c != 46 && c != 58 && c != 10 && c != 60 && c != 62
noncomputable def ltB (a b : List Nat) : Bool := decide (a < b)
theorem menu_ok {q : Nat} (hq : q < 4) : Menu (nmOf q) := by
  have hlen : ∀ q < 4, (menus.getD q []).length = 3 := by decide +kernel
  have far : ∀ i, 3 ≤ i → nmOf q i = Str.empty := fun i hi => by
    unfold nmOf
    rw [List.getD_eq_getElem?_getD, List.getElem?_eq_none (by rw [hlen q hq]; exact hi)]; rfl
  have h1 : ∀ q < 4, ∀ i < 3, (nmOf q i).cps.toList.all cleanC = true := by decide +kernel
  have h2 : ∀ q < 4, ∀ i < 3, (nmOf q i).length ≤ 3 := by decide +kernel
  have h3 : ∀ q < 4, ∀ i < 3, ∀ j < 3, ltB (nmOf q i).cps.toList (nmOf q j).cps.toList = decide (i < j) := by decide +kernel
  refine ⟨fun i c hc => ?_, fun i => ?_, fun i j hi hj => ?_⟩
  · by_cases hi : i < 3
    · have := List.all_eq_true.mp (h1 q hq i hi) c hc
      simpa [cleanC, and_assoc] using this
    · rw [far i (by omega)] at hc
      simp [Str.empty] at hc
  · by_cases hi : i < 3
    · exact h2 q hq i hi
    · rw [far i (by omega)]; decide
  · have := h3 q hq i hi j hj
    unfold ltB at this
    rw [decide_eq_decide] at this
    exact this
theorem tail_ok {r : Nat} (hr : r < 7) : TailOk (tailOf r) := by
  have h1 : ∀ r < 7, (tailOf r).length ≤ 8 := by decide +kernel
  have h2 : ∀ r < 7, ((tailOf r).cps.toList.head? == none || (tailOf r).cps.toList.head? == some 58 || (tailOf r).cps.toList.head? == some 10) = true := by decide +kernel
  refine ⟨h1 r hr, ?_⟩
  have := h2 r hr
  cases e : (tailOf r).cps.toList with
  | nil => exact .inl rfl
  | cons c l =>
    rw [e] at this
    have : c = 58 ∨ c = 10 := by simpa using this
    rcases this with rfl | rfl
    · exact .inr ⟨l, .inl rfl⟩
    · exact .inr ⟨l, .inr rfl⟩
noncomputable def occB (want : Str) (n : Nat) : List Nat := (forIn (List.range' 0 (want.length + 1 - 0)) ((#[] : Array Nat), 0) (StrLaws.occBody want "..." want.length n)).run.fst.toList
theorem want_of {nm : Nat → Str} {xs : List Nat} {want : Str} (h1 : Builtin.Str.partsBetween want (occB want (want.length + 1)) (Str.ofString "...").length = S [] :: (xs.map (fun x => S (tagC nm x)) ++ [S []])) (h2 : (occB want 1).isEmpty = false) (h3 : want.length ≤ 64) (h4 : ∀ x ∈ xs, x < 3)
    (h5 : (decide (want.length < (Str.ofString "...").length) || decide (Builtin.Str.strKind want < Builtin.Str.strKind "...")) = false) (h6 : (occB want (want.length + 1)).isEmpty = false) (h7 : xs.length ≤ 8) : Want nm xs want := by
  have e : ∀ n, Builtin.Str.occurrences want "..." 0 want.length n = occB want n := fun n => StrLaws.occ_eq want "..." 0 want.length n
  refine ⟨?_, by rw [e]; exact h2, h3, ?_, h4⟩
  · unfold Txt.split
    rw [e, if_neg (by rw [h5]; decide), if_neg (by rw [h6]; decide)]
    exact h1
  · rw [e, h1, List.length_cons, List.length_append, List.length_map, List.length_singleton]
    omega
noncomputable def wantB (nm : Nat → Str) (xs : List Nat) (want : Str) : Bool :=
  decide (Builtin.Str.partsBetween want (occB want (want.length + 1)) (Str.ofString "...").length = S [] :: (xs.map (fun x => S (tagC nm x)) ++ [S []])) && !(occB want 1).isEmpty && decide (want.length ≤ 64) && xs.all (fun x => decide (x < 3)) &&
    !(decide (want.length < (Str.ofString "...").length) || decide (Builtin.Str.strKind want < Builtin.Str.strKind "...")) && !(occB want (want.length + 1)).isEmpty && decide (xs.length ≤ 8)
theorem want_B {nm : Nat → Str} {xs : List Nat} {want : Str} (h : wantB nm xs want = true) : Want nm xs want := by
  unfold wantB at h
  simp only [Bool.and_eq_true, Bool.not_eq_true', decide_eq_true_eq, List.all_eq_true] at h
  exact want_of h.1.1.1.1.1.1 h.1.1.1.1.1.2 h.1.1.1.1.2 h.1.1.1.2 h.1.1.2 h.1.2 h.2
theorem wants_ok {q : Nat} (hq : q < 4) : Wants (nmOf q) := by
  have h1 : ∀ q < 4, ∀ xs ∈ ([[1, 0], [2, 0], [2, 1]] : List (List Nat)), wantB (nmOf q) xs (wantP (nmOf q) xs) = true := by decide +kernel
  have h2 : ∀ q < 4, wantB (nmOf q) [2, 1, 0] (wantT (nmOf q)) = true := by decide +kernel
  exact ⟨fun xs hx => want_B (h1 q hq xs hx), want_B (h2 q hq)⟩
end Mine

namespace Mine

theorem cutL_map {α β : Type} (f : α → β) (l : List α) (lo hi st : Option Int) : cutL (l.map f) lo hi st = (cutL l lo hi st).map f := by
  unfold cutL
  rw [List.length_map]
  generalize sliceRange _ _ _ = idx
  induction idx with
  | nil => rfl
  | cons i idx ih =>
    rw [List.filterMap_cons, List.filterMap_cons, List.getElem?_map]
    cases l[i]? with
    | none => exact ih
    | some x => simp only [Option.map_some, List.map_cons]; rw [ih]
noncomputable def cell (ns : List Int) (j : Nat) (b : Int) : Int := (b + (cutL ns (some (j : Int)) (some 60) (some 7)).sum).fmod (10 ^ 6)
noncomputable def cellD (ns : List Int) (j : Nat) : D → D
  | .int b => .int (cell ns j b)
  | d => d
theorem cell_bd (ns : List Int) (j : Nat) (b : Int) : 0 ≤ cell ns j b ∧ cell ns j b < 10 ^ 6 := ⟨Int.fmod_nonneg_of_pos _ (by decide), Int.fmod_lt_of_pos _ (by decide)⟩
theorem cells_mapIdx (ns : List Int) : (([1, 2, 0, 2, 1, 0, 3] : List Int).map D.int).mapIdx (cellD ns) = [cell ns 0 1, cell ns 1 2, cell ns 2 0, cell ns 3 2, cell ns 4 1, cell ns 5 0, cell ns 6 3].map .int := rfl
section
variable {T : Th} {a : Addr} {pm code doc : Value} {L : Addr} {R : Out → Prop} {ρ : Rho}
theorem Ex.at {k n m : Nat} {env : Env} (hn : n < (bodyAt 14).length) (hm : m = n + 1) (h : Ex1 T k env ((bodyAt 14).getD n default) ρ (fun o => match o with | .next ρ' => Ex T k env ((bodyAt 14).drop m) ρ' R | o => R o)) : Ex T k env ((bodyAt 14).drop n) ρ R := by
  subst hm
  rw [List.drop_eq_getElem_cons hn]
  refine Ex.cons ?_
  rw [List.getD_eq_getElem?_getD, List.getElem?_eq_getElem hn] at h
  exact h
theorem body_len : (bodyAt 14).length = 17 := rfl
/-- a literal, told by its own text -/
noncomputable def litS : Expr → Option D
  | .Constant (.str x) _ _ => some (.str x)
  | .List [.Constant (.str x) _ _, .Constant (.str y) _ _, .Constant (.str z) _ _] _ => some (.lst [.str x, .str y, .str z])
  | _ => none
noncomputable def litL : List Expr → Option (List D)
  | [] => some []
  | e :: es => match litS e, litL es with
    | some d, some ds => some (d :: ds)
    | _, _ => none
theorem litS_ev {k : Nat} {env : Env} : ∀ (e : Expr) (d : D), litS e = some d → Ev T k env e ρ d ∧ ∀ es, starEach (e :: es) env = (false, eval e env) :: starEach es env := fun e d h => by
  unfold litS at h
  split at h
  · cases h; exact ⟨Ev.cstr, fun _ => rfl⟩
  · cases h; exact ⟨Ev.list (EvL.cons Ev.cstr (EvL.cons Ev.cstr (EvL.cons Ev.cstr EvL.nil rfl) rfl) rfl) (show 3 ≤ 4096 by decide), fun _ => rfl⟩
  · cases h
theorem litL_ev {k : Nat} {env : Env} : ∀ (es : List Expr) (ds : List D), litL es = some ds → EvL T k env es ρ ds
  | [], ds, h => by cases h; exact EvL.nil
  | e :: es, ds, h => by
    unfold litL at h
    split at h
    · rename_i d ds' h1 h2
      cases h
      have := litS_ev (T := T) (ρ := ρ) (k := k) (env := env) e d h1
      exact EvL.cons this.1 (litL_ev es ds' h2) (this.2 es)
    · cases h
/-- «x = [..][i]» out of a written list -/
theorem stm_idx (T : Th) (env : Env) (ρ : Rho) (R : Out → Prop) (n m : Nat) (x : Str) (px pos p lp : Pos) (es : List Expr) (slice : Expr) (ds : List D) (i : Int) (d : D) (hst : (bodyAt 14).getD n default = .Assign [.Name x px] (.Subscript (.List es lp) slice p) pos) (hn : n < (bodyAt 14).length) (hm : m = n + 1)
    (hl : litL es = some ds) (hsz : ds.length ≤ 4096) (hi : Ev T 40 env slice ρ (.int i)) (h0 : 0 ≤ i) (hi2 : i < 2 ^ 62) (hd : ds[i.toNat]? = some d) (hs : ∀ o j, subscripted slice false o j = operate [o, j] (getItem o j)) (hx : IsVar env x)
    (hsw : swapsWith (.Subscript (.List es lp) slice p) (some (.Name x px)) pos.line env = pure false) (h : Ex T 40 env ((bodyAt 14).drop m) ((x, d) :: ρ) R) : Ex T 40 env ((bodyAt 14).drop n) ρ R := by
  refine Ex.at hn hm ?_
  rw [hst]
  exact Ex1.assign (Ev.idx (Ev.list (litL_ev es ds hl) hsz) hi h0 hi2 hd hs) hx h hsw
theorem law_cells (N : Nm T) (lo : Low T) (ns : List Int) (hns : ns.length ≤ 63) (hs : Lk ρ "script" (.lst (ns.map .int)))
    (h : ∀ c0 c1 c2 c3 c4 c5 c6 : Int, (∀ c ∈ [c0, c1, c2, c3, c4, c5, c6], 0 ≤ c ∧ c < 10 ^ 6) → Ex T 40 (envAt 14 pm code doc L a) ((bodyAt 14).drop 1) (("cells", .lst ([c0, c1, c2, c3, c4, c5, c6].map .int)) :: ρ) R) :
    Ex T 40 (envAt 14 pm code doc L a) ((bodyAt 14).drop 0) ρ R := by
  refine Ex.at (m := 1) (by rw [body_len]; decide) rfl (Ex1.assignE (ds := ([1, 2, 0, 2, 1, 0, 3] : List Int).map .int) (cellD ns) ⟨rfl, rfl, rfl, rfl, rfl⟩ ge_at N rfl (Ev.list (EvL.cons Ev.cint (EvL.cons Ev.cint (EvL.cons Ev.cint (EvL.cons Ev.cint (EvL.cons Ev.cint (EvL.cons Ev.cint (EvL.cons Ev.cint EvL.nil rfl) rfl) rfl) rfl) rfl) rfl) rfl) (show 7 ≤ 4096 by decide)) rfl rfl (fun C => ⟨rfl, rfl⟩) (rhoC_none rfl) (rhoC_none rfl) (fun C j d hd => ?_) (show 7 ≤ 4096 by decide) rfl ?_ rfl)
  · rw [List.getElem?_map] at hd
    cases q : ([1, 2, 0, 2, 1, 0, 3] : List Int)[j]? with
    | none => rw [q] at hd; cases hd
    | some b =>
      rw [q] at hd
      cases hd
      refine ⟨?_, rfl⟩
      show Ev T 40 _ _ _ (.int ((b + (cutL ns (some (j : Int)) (some 60) (some 7)).sum).fmod (10 ^ 6)))
      refine Ev.bin (Ev.bin (Ev.name rfl rfl rfl) (Ev.call ⟨rfl, rfl⟩ (gv_sum N) callee_b rfl rfl (EvL.cons (d := .lst ((cutL ns (some (j : Int)) (some 60) (some 7)).map .int)) ?_ EvL.nil rfl) rfl rfl CallR.sumL) BinR.addI) (Ev.bin Ev.cint Ev.cint (BinR.powI (by decide) (by decide) (by decide))) (BinR.modI (by decide))
      rw [← cutL_map]
      exact Ev.cut (lo := some (j : Int)) (hi := some 60) (st := some 7) (Ev.name (d := .lst (ns.map .int)) (rhoC_get rfl hs) rfl rfl) (Ev.name rfl rfl rfl) Ev.cint Ev.cint (by simp) (by simp; omega)
  rw [cells_mapIdx]
  dsimp only
  with_reducible refine h _ _ _ _ _ _ _ fun c hc => ?_
  simp only [List.mem_cons, List.not_mem_nil, or_false] at hc
  rcases hc with rfl | rfl | rfl | rfl | rfl | rfl | rfl <;> exact cell_bd ..
theorem law_pick (N : Nm T) {cs : List Int} (hc : Lk ρ "cells" (.lst (cs.map .int)))
    (h : Ex T 40 (envAt 14 pm code doc L a) ((bodyAt 14).drop 2) (("pick", .int cs.sum) :: ρ) R) : Ex T 40 (envAt 14 pm code doc L a) ((bodyAt 14).drop 1) ρ R := by
  refine Ex.at (m := 2) (by rw [body_len]; decide) rfl (Ex1.assign (d := .int cs.sum) (Ev.call ge_at (gv_sum N) callee_b rfl rfl (EvL.cons (Ev.name (d := .lst (cs.map .int)) hc rfl rfl) EvL.nil rfl) rfl rfl CallR.sumL) (.inl rfl) ?_)
  dsimp only
  with_reducible exact h
theorem law_menu {p : Int} (hp : Lk ρ "pick" (.int p))
    (h : Ex T 40 (envAt 14 pm code doc L a) ((bodyAt 14).drop 3) (("menu", .lst (strL (nmOf (p.fmod 4).toNat) [0, 1, 2])) :: ρ) R) : Ex T 40 (envAt 14 pm code doc L a) ((bodyAt 14).drop 2) ρ R := by
  have hm0 := Int.fmod_nonneg_of_pos p (show (0 : Int) < 4 by decide)
  have hm1 := Int.fmod_lt_of_pos p (show (0 : Int) < 4 by decide)
  have hq : (p.fmod 4).toNat < 4 := by omega
  refine @stm_idx T (envAt 14 pm code doc L a) ρ R 2 3 _ _ _ _ _ _ _ _ (p.fmod 4) _ rfl (by rw [body_len]; decide) rfl rfl (show 4 ≤ 4096 by decide) (Ev.bin (Ev.name hp rfl rfl) Ev.cint (BinR.modI (by decide))) hm0 (by omega) ?_ (fun _ _ => rfl) (.inr ⟨rfl, rfl⟩) rfl (by with_reducible exact h)
  clear h hp hm0 hm1
  generalize (p.fmod 4).toNat = q at hq ⊢
  match q, hq with
  | 0, _ => kernel_rfl
  | 1, _ => kernel_rfl
  | 2, _ => kernel_rfl
  | 3, _ => kernel_rfl
theorem law_tail {p : Int} (hb : 0 ≤ p ∧ p < 7 * 10 ^ 6) (hp : Lk ρ "pick" (.int p))
    (h : Ex T 40 (envAt 14 pm code doc L a) ((bodyAt 14).drop 4) (("tail", .str (tailOf ((p.fdiv 4).fmod 7).toNat)) :: ρ) R) : Ex T 40 (envAt 14 pm code doc L a) ((bodyAt 14).drop 3) ρ R := by
  have ht0 := Int.fmod_nonneg_of_pos (p.fdiv 4) (show (0 : Int) < 7 by decide)
  have ht1 := Int.fmod_lt_of_pos (p.fdiv 4) (show (0 : Int) < 7 by decide)
  have hq : ((p.fdiv 4).fmod 7).toNat < 7 := by omega
  refine @stm_idx T (envAt 14 pm code doc L a) ρ R 3 4 _ _ _ _ _ _ _ _ ((p.fdiv 4).fmod 7) _ rfl (by rw [body_len]; decide) rfl rfl (show 7 ≤ 4096 by decide) (Ev.bin (Ev.bin (Ev.name hp rfl rfl) Ev.cint (BinR.divI (by decide) hb.1 (by omega) (by decide) (by decide))) Ev.cint (BinR.modI (by decide))) ht0 (by omega) ?_ (fun _ _ => rfl) (.inr ⟨rfl, rfl⟩) rfl (by with_reducible exact h)
  clear h hp ht0 ht1 hb
  generalize ((p.fdiv 4).fmod 7).toNat = q at hq ⊢
  match q, hq with
  | 0, _ => kernel_rfl
  | 1, _ => kernel_rfl
  | 2, _ => kernel_rfl
  | 3, _ => kernel_rfl
  | 4, _ => kernel_rfl
  | 5, _ => kernel_rfl
  | 6, _ => kernel_rfl
theorem law_names (lo : Low T) {nm : Nat → Str} {c0 c1 c2 c3 c4 c5 c6 : Int} (hc : Lk ρ "cells" (.lst ([c0, c1, c2, c3, c4, c5, c6].map .int))) (hmn : Lk ρ "menu" (.lst (strL nm [0, 1, 2])))
    (h : Ex T 40 (envAt 14 pm code doc L a) ((bodyAt 14).drop 5) (("names", .lst (([c0, c1, c2, c3, c4, c5].map fun c => (c.fmod 3).toNat).map fun i => .str (nm i))) :: ρ) R) : Ex T 40 (envAt 14 pm code doc L a) ((bodyAt 14).drop 4) ρ R := by
  refine Ex.at (m := 5) (by rw [body_len]; decide) rfl (Ex1.assignC (ds := [c0, c1, c2, c3, c4, c5].map .int) (out := ([c0, c1, c2, c3, c4, c5].map fun c => (c.fmod 3).toNat).map fun i => .str (nm i)) ⟨rfl, rfl, rfl, rfl, rfl⟩ (EvI.list ?_ (nmL_map _ (fun _ => rfl) _)) (ok1 fun C => ⟨rfl, rfl⟩) (fun C => ?_) (show 6 ≤ 4096 by decide) rfl ?_ rfl)
  · have ec : cutL ([c0, c1, c2, c3, c4, c5, c6].map D.int) none (some 6) none = [c0, c1, c2, c3, c4, c5].map .int := by
      have idx : sliceRange (sliceBounds none (some 6) none 7).1 (sliceBounds none (some 6) none 7).2.1 (sliceBounds none (some 6) none 7).2.2 = [0, 1, 2, 3, 4, 5] := by decide +kernel
      unfold cutL
      rw [show ([c0, c1, c2, c3, c4, c5, c6].map D.int).length = 7 from rfl, idx]
      rfl
    rw [← ec]
    exact Ev.cut (lo := none) (hi := some 6) (st := none) (Ev.name (d := .lst ([c0, c1, c2, c3, c4, c5, c6].map .int)) hc rfl rfl) trivial Ev.cint trivial (by simp) (show 7 ≤ 4096 by decide)
  · rw [List.map_map]
    refine CLoop.map (rhoC_none rfl) (fun c => .int c) (fun c => .str (nm (c.fmod 3).toNat)) [c0, c1, c2, c3, c4, c5] (fun c hc' => ?_) fun _ _ => rfl
    have h0 := Int.fmod_nonneg_of_pos c (show (0 : Int) < 3 by decide)
    have h1 := Int.fmod_lt_of_pos c (show (0 : Int) < 3 by decide)
    refine Ev.idx (Ev.name (d := .lst (strL nm [0, 1, 2])) (rhoC_get rfl hmn) rfl rfl) (Ev.bin (Ev.name rfl rfl rfl) Ev.cint (BinR.modI (by decide))) h0 (by omega) ?_ fun _ _ => rfl
    have := menu_at (nm := nm) (p := (c.fmod 3).toNat) (by omega)
    rwa [Int.toNat_natCast] at this
  dsimp only
  with_reducible exact h
theorem law_ex (N : Nm T) (lo : Low T) (G : Fns T) (hRef : ∀ d, Ref d → CallR T 40 (.ref G.a13) [d] (.str wordsAt)) (ns : List Int) (hns : ns.length ≤ 63) (hs : Lk ρ "script" (.lst (ns.map .int))) :
    Ex T 40 (envAt 14 pm code doc L a) (bodyAt 14) ρ (fun o => o = .ret (.bool true)) := by
  have e0 : (bodyAt 14).drop 0 = bodyAt 14 := List.drop_zero
  rw [← e0]
  refine @law_cells T a pm code doc L _ ρ N lo ns hns hs fun c0 c1 c2 c3 c4 c5 c6 hb => ?_
  have hsum : 0 ≤ [c0, c1, c2, c3, c4, c5, c6].sum ∧ [c0, c1, c2, c3, c4, c5, c6].sum < 7 * 10 ^ 6 := by
    have h0 := hb c0 (by simp)
    have h1 := hb c1 (by simp)
    have h2 := hb c2 (by simp)
    have h3 := hb c3 (by simp)
    have h4 := hb c4 (by simp)
    have h5 := hb c5 (by simp)
    have h6 := hb c6 (by simp)
    simp only [List.sum_cons, List.sum_nil]
    omega
  refine @law_pick T a pm code doc L _ _ N [c0, c1, c2, c3, c4, c5, c6] rfl ?_
  generalize [c0, c1, c2, c3, c4, c5, c6].sum = p at hsum ⊢
  have hq : (p.fmod 4).toNat < 4 := by
    have h1 := Int.fmod_nonneg_of_pos p (show (0 : Int) < 4 by decide)
    have h2 := Int.fmod_lt_of_pos p (show (0 : Int) < 4 by decide)
    omega
  have hr : ((p.fdiv 4).fmod 7).toNat < 7 := by
    have h1 := Int.fmod_nonneg_of_pos (p.fdiv 4) (show (0 : Int) < 7 by decide)
    have h2 := Int.fmod_lt_of_pos (p.fdiv 4) (show (0 : Int) < 7 by decide)
    omega
  refine @law_menu T a pm code doc L _ _ p rfl ?_
  refine @law_tail T a pm code doc L _ _ p hsum rfl ?_
  have hmn := menu_ok hq
  have hwn := wants_ok hq
  have htl := tail_ok hr
  generalize nmOf (p.fmod 4).toNat = nm at hmn hwn ⊢
  generalize tailOf ((p.fdiv 4).fmod 7).toNat = t at htl ⊢
  refine @law_names T a pm code doc L _ _ lo nm c0 c1 c2 c3 c4 c5 c6 rfl rfl ?_
  have hw : ∀ x ∈ ([c0, c1, c2, c3, c4, c5].map fun c => (c.fmod 3).toNat), x < 3 := fun x hx => by
    obtain ⟨c, _, rfl⟩ := List.mem_map.mp hx
    have h0 := Int.fmod_nonneg_of_pos c (show (0 : Int) < 3 by decide)
    have h1 := Int.fmod_lt_of_pos c (show (0 : Int) < 3 by decide)
    omega
  have hl : ([c0, c1, c2, c3, c4, c5].map fun c => (c.fmod 3).toNat).length = 6 := rfl
  generalize ([c0, c1, c2, c3, c4, c5].map fun c => (c.fmod 3).toNat) = w at hw hl ⊢
  match w, hl with
  | [x0, x1, x2, x3, x4, x5], _ => exact @law_rest T a nm t pm code doc L N lo G hmn hwn htl hRef x0 x1 x2 x3 x4 x5 hw _ rfl rfl rfl
end
end Mine

namespace Mine

/-! exceptions in flight -/
noncomputable def FrOk (T : Th) (h : Heap) (l : List Env) : Prop := ∀ env ∈ l, env.scope.kind = .function ∧ ∃ F m, env.frame = some F ∧ T.n ≤ F ∧ h.Ns F m
theorem FrOk.hk {T : Th} {h h' : Heap} {l : List Env} (x : FrOk T h l) (k : HK T.n h h') : FrOk T h' l := fun env he => let ⟨a, F, m, b, c, d⟩ := x env he; ⟨a, F, m, b, c, k.ns d⟩
theorem FrOk.mvx {T : Th} {X : Addr → Prop} {h h' : Heap} {l : List Env} (x : FrOk T h l) (k : HKx X T.n h h') (hx : ∀ F m, h.Ns F m → ¬ X F) : FrOk T h' l := fun env he => by
  obtain ⟨a, F, m, b, c, d⟩ := x env he
  obtain ⟨o, es, ep, e, hd, rr⟩ := id d
  rcases k F o e (.dict hd) (hx F m d) with r | ⟨_, m', x', y'⟩
  · exact ⟨a, F, m, b, c, o, es, ep, r, hd, rr⟩
  · exact ⟨a, F, m', b, c, y'⟩
section
variable {T : Th} {A : Around} {E : Value → Shared → Prop}
theorem ready_wp : ∀ (l : List Env) {s : Shared} {Q : Unit → Shared → Prop}, FrOk T s.heap l → (∀ h', Kp T s { s with heap := h' } → Q () { s with heap := h' }) → wpAny (model T.prog T.w) A (readyFrames l) Q E s
  | [], s, Q, _, hQ => wpAny_pure (hQ s.heap .refl)
  | env :: outer, s, Q, hf, hQ => by
    obtain ⟨hk, F, m, hF, hn, ns⟩ := hf env (.head _)
    obtain ⟨o, es, ep, eo, hd, rr⟩ := id ns
    simp only [readyFrames, hF]
    refine wpAny_bind (wpAny_load eo ?_)
    by_cases hr : ((o.slots.getD 3 none).isSome) = true
    · rw [if_pos hr]; exact wpAny_pure (hQ s.heap .refl)
    · rw [if_neg hr]
      refine wpAny_bind (wpAny_of_eq (a := false) (by simp [behindIsImport, hk]) ?_)
      have rest : ∀ v : Value, wpAny (model T.prog T.w) A (do
          update F fun o => { o with slots := #[some env.code, some (.ref env.globals), o.slots.getD 2 none, some v, o.slots.getD 4 none, env.func.map Value.ref, some (.ref env.builtins)] ++ (env.cells.map fun c => some (.ref c.2)).toArray }
          readyFrames outer) Q E s := fun v => by
        refine wpAny_bind (wpAny_update eo ?_)
        generalize hg : (fun o : Obj => ({ o with slots := #[some env.code, some (.ref env.globals), o.slots.getD 2 none, some v, o.slots.getD 4 none, env.func.map Value.ref, some (.ref env.builtins)] ++ (env.cells.map fun c => some (.ref c.2)).toArray } : Obj)) = g
        have hgd : (g o).data = o.data := by rw [← hg]
        have eo' : (s.heap.update F g).get? F = some (g o) := Heap.get?_update_self _ eo (by
          rw [← hg]
          obtain ⟨c0, d0, dt0, sl0⟩ := o
          simp only at hd
          subst hd
          rfl)
        have hb : Heap.ExtBut F s.heap (s.heap.update F g) := (Heap.SameBut.update ..).extBut
        have ns' : (s.heap.update F g).Ns F m := ⟨g o, es, ep, eo', by rw [hgd]; exact hd, rr⟩
        have kp : Kp T s { s with heap := s.heap.update F g } := by
          refine ⟨_, s.toks, rfl, fun b ob e t => ?_, fun x => x.sameBut (.dict hd hn) eo hb⟩
          by_cases q : b = F
          · subst q; exact .inr ⟨hn, m, ns, ns'⟩
          · exact .inl (hb b ob q e)
        exact ready_wp outer (s := { s with heap := s.heap.update F g }) (fun e he => (hf.hk kp.hk) e (.tail _ he)) fun h' k' => hQ h' (kp.trans k')
      cases outer with
      | nil => exact wpAny_bind (wpAny_keptBack_nil fun v => rest v)
      | cons c r => exact wpAny_bind (wpAny_pure (rest _))
theorem frameOf_wp {env : Env} {outer : List Env} {s : Shared} {Q : Value → Shared → Prop} (hA : A.frames = some (env :: outer)) (hf : FrOk T s.heap (env :: outer)) (hQ : ∀ h' F, env.frame = some F → Kp T s { s with heap := h' } → Q (.ref F) { s with heap := h' }) : wpAny (model T.prog T.w) A (PySem.frameOf env) Q E s := by
  unfold PySem.frameOf
  refine wpAny_bind (wpAny_frameEnvs hA ?_)
  have hdw : ((env :: outer).dropWhile fun x => x.frame != env.frame) = env :: outer := by simp [List.dropWhile]
  rw [hdw]
  unfold frameObject
  obtain ⟨_, F, m, hF, _, _⟩ := hf env (.head _)
  refine wpAny_bind (wpAny_bind (ready_wp _ hf fun h' kp => wpAny_pure ?_))
  rw [hF]
  exact wpAny_pure (hQ h' F hF kp)

noncomputable def TbV (s₀ s : Shared) (e : Addr) (v : Value) : Prop := v = .none ∨ ∃ tb ot tvs, v = .ref tb ∧ tb ≠ e ∧ Fresh s₀ tb ∧ s.heap.get? tb = some ot ∧ ot.cls = .type "traceback" ∧ ot.data = .fields tvs ∧ 3 < tvs.size ∧ ∀ (x : Str) (u : Tok), tvs[1]? ≠ some (.str x u)
/-- an exception's object, made since s₀ -/
structure Exo (T : Th) (s₀ : Shared) (e : Addr) (X : String) (a0 c2 : Value) (s : Shared) : Prop where
  kp : Kp T s₀ s
  fe : Fresh s₀ e
  xc : ("code" : String) ≠ X
  obj : ∃ oe vs v1, s.heap.get? e = some oe ∧ oe.cls = .type X ∧ oe.data = .fields vs ∧ 4 < vs.size ∧ vs[0]? = some a0 ∧ vs[1]? = some v1 ∧ vs[2]? = some c2 ∧ TbV s₀ s e v1
variable {s₀ s s' : Shared} {e : Addr} {X : String} {a0 c2 : Value}
theorem Exo.more (x : Exo T s₀ e X a0 c2 s) (k : Kp T s s') : Exo T s₀ e X a0 c2 s' where
  kp := x.kp.trans k
  fe := x.fe
  xc := x.xc
  obj := by
    obtain ⟨oe, vs, v1, h1, h2, h3, h4, h5, h6, h7, h8⟩ := x.obj
    refine ⟨oe, vs, v1, k.hk.exact h1 (.cls (by rw [h2]; nofun)) (by rw [h3]; nofun), h2, h3, h4, h5, h6, h7, ?_⟩
    rcases h8 with h8 | ⟨tb, ot, tvs, q1, q2, q3, q4, q5, q6, q7, q8⟩
    · exact .inl h8
    · exact .inr ⟨tb, ot, tvs, q1, q2, q3, k.hk.exact q4 (.cls (by rw [q5]; nofun)) (by rw [q6]; nofun), q5, q6, q7, q8⟩
/-- a field of the exception's is set -/
theorem Exo.setE {l : List Env} {i : Nat} {v c2' : Value} (x : Exo T s₀ e X a0 c2 s) (hf : FrOk T s.heap l) (hi : 1 ≤ i ∧ i ≤ 4) (hv : i = 1 → TbV s₀ s e v) (hc : c2' = if i = 2 then v else c2) {Q : Unit → Shared → Prop}
    (hQ : ∀ s', Exo T s₀ e X a0 c2' s' → FrOk T s'.heap l → (i = 1 → ∃ oe vs, s'.heap.get? e = some oe ∧ oe.data = .fields vs ∧ vs[1]? = some v) → (∀ b o, b ≠ e → s.heap.get? b = some o → s'.heap.get? b = some o) → Q () s') : wpAny (model T.prog T.w) A (setField (.ref e) i v) Q E s := by
  obtain ⟨oe, vs, v1, h1, h2, h3, h4, h5, h6, h7, h8⟩ := x.obj
  refine wpAny_setField h1 h3 (by omega) ?_
  have hb : Heap.ExtBut e s.heap (s.heap.update e (Obj.mapFields (·.setIfInBounds i v))) := (Heap.SameBut.update ..).extBut
  have hd' := Obj.data_mapFields h3 (·.setIfInBounds i v)
  have eo' : (s.heap.update e (Obj.mapFields (·.setIfInBounds i v))).get? e = some (oe.mapFields (·.setIfInBounds i v)) := Heap.get?_update_self _ h1 (Obj.isFreed_of_fields hd')
  have l0 : Loose T oe e := .iter h3 (fun y u q => by
    rw [h6] at q
    rcases h8 with h8 | ⟨tb, _, _, q1, _⟩
    · rw [h8] at q; cases q
    · rw [q1] at q; cases q) (by rw [h2]; nofun) (by rw [h2]; intro q; injection q with q; exact x.xc q.symm)
  have mv : MvX T (fun b => b = e) s { s with heap := s.heap.update e (Obj.mapFields (·.setIfInBounds i v)) } := ⟨_, s.toks, rfl, fun b o e' t nx => .inl (hb b o nx e'), fun x => x.sameBut l0 h1 hb⟩
  have tbv : ∀ w, TbV s₀ s e w → TbV s₀ { s with heap := s.heap.update e (Obj.mapFields (·.setIfInBounds i v)) } e w := fun w hw => by
    rcases hw with hw | ⟨tb, ot, tvs, q1, q2, q3, q4, r⟩
    · exact .inl hw
    · exact .inr ⟨tb, ot, tvs, q1, q2, q3, hb tb ot q2 q4, r⟩
  have hsz : (vs.setIfInBounds i v).size = vs.size := Array.size_setIfInBounds
  refine hQ _ ⟨MvX.dropAll (X := fun b => b = e) x.kp (fun b q => q ▸ x.fe) mv, x.fe, x.xc, _, vs.setIfInBounds i v, (if i = 1 then v else v1), eo', (Obj.cls_mapFields ..).trans h2, hd', by rw [hsz]; exact h4, ?_, ?_, ?_, ?_⟩ (hf.mvx mv.hk fun F m ns q => ?_) (fun h => ⟨_, _, eo', hd', ?_⟩) fun b o hne e' => hb b o hne e'
  · rw [Array.getElem?_setIfInBounds_ne (by omega)]; exact h5
  · by_cases q : i = 1
    · subst q; rw [if_pos rfl, Array.getElem?_setIfInBounds_self_of_lt (by omega)]
    · rw [if_neg q, Array.getElem?_setIfInBounds_ne q]; exact h6
  · rw [hc]
    by_cases q : i = 2
    · subst q; rw [if_pos rfl, Array.getElem?_setIfInBounds_self_of_lt (by omega)]
    · rw [if_neg q, Array.getElem?_setIfInBounds_ne q]; exact h7
  · by_cases q : i = 1
    · rw [if_pos q]; exact tbv v (hv q)
    · rw [if_neg q]; exact tbv v1 h8
  · obtain ⟨es, ep, hd⟩ := ns_dict h1 (q ▸ ns)
    rw [h3] at hd; cases hd
  · subst h; rw [Array.getElem?_setIfInBounds_self_of_lt (by omega)]
/-- the flight mark of the exception's first entry is set -/
theorem Exo.setT {l : List Env} {v : Value} {tb : Addr} {oe : Obj} {vs : Array Value} (x : Exo T s₀ e X a0 c2 s) (hf : FrOk T s.heap l) (h1 : s.heap.get? e = some oe) (h3 : oe.data = .fields vs) (h6 : vs[1]? = some (.ref tb)) {Q : Unit → Shared → Prop}
    (hQ : ∀ s', Exo T s₀ e X a0 c2 s' → FrOk T s'.heap l → s'.heap.get? e = some oe → (∃ ot tvs, s'.heap.get? tb = some ot ∧ ot.data = .fields tvs ∧ tvs[3]? = some v) → (∀ b o, b ≠ tb → s.heap.get? b = some o → s'.heap.get? b = some o) → Q () s') : wpAny (model T.prog T.w) A (setField (.ref tb) 3 v) Q E s := by
  obtain ⟨oe', vs', v1, g1, g2, g3, g4, g5, g6, g7, g8⟩ := x.obj
  rw [h1] at g1; cases g1
  rw [h3] at g3; cases g3
  rw [h6] at g6; cases g6
  rcases g8 with g8 | ⟨tb', ot, tvs, q1, q2, q3, q4, q5, q6, q7, q8⟩
  · cases g8
  · cases q1
    refine wpAny_setField q4 q6 q7 ?_
    have hb : Heap.ExtBut tb s.heap (s.heap.update tb (Obj.mapFields (·.setIfInBounds 3 v))) := (Heap.SameBut.update ..).extBut
    have hd' := Obj.data_mapFields q6 (·.setIfInBounds 3 v)
    have eo' : (s.heap.update tb (Obj.mapFields (·.setIfInBounds 3 v))).get? tb = some (ot.mapFields (·.setIfInBounds 3 v)) := Heap.get?_update_self _ q4 (Obj.isFreed_of_fields hd')
    have l0 : Loose T ot tb := .iter q6 q8 (by rw [q5]; nofun) (by rw [q5]; decide)
    have mv : MvX T (fun b => b = tb) s { s with heap := s.heap.update tb (Obj.mapFields (·.setIfInBounds 3 v)) } := ⟨_, s.toks, rfl, fun b o e' t nx => .inl (hb b o nx e'), fun x => x.sameBut l0 q4 hb⟩
    have hsz : (tvs.setIfInBounds 3 v).size = tvs.size := Array.size_setIfInBounds
    have e1 := hb e oe (Ne.symm q2) h1
    refine hQ _ ⟨MvX.dropAll (X := fun b => b = tb) x.kp (fun b q => q ▸ q3) mv, x.fe, x.xc, oe, vs, .ref tb, e1, g2, h3, g4, g5, h6, g7, .inr ⟨tb, _, _, rfl, q2, q3, eo', (Obj.cls_mapFields ..).trans q5, hd', by rw [hsz]; exact q7, ?_⟩⟩ (hf.mvx mv.hk fun F m ns q => ?_) e1 ⟨_, _, eo', hd', ?_⟩ fun b o hne e' => hb b o hne e'
    · rw [Array.getElem?_setIfInBounds_ne (by decide)]; exact q8
    · obtain ⟨es, ep, hd⟩ := ns_dict q4 (q ▸ ns)
      rw [q6] at hd; cases hd
    · rw [Array.getElem?_setIfInBounds_self_of_lt q7]
end
end Mine

namespace Mine
section
variable {T : Th} {A : Around} {E : Value → Shared → Prop} {s₀ s s' : Shared} {e : Addr} {X : String} {a0 c2 : Value} {env : Env} {outer : List Env}
/-- it has an entry -/
noncomputable def Hd (s : Shared) (e tb : Addr) : Prop := ∃ oe vs, s.heap.get? e = some oe ∧ oe.data = .fields vs ∧ vs[1]? = some (.ref tb)
theorem entry_wp {v1 : Value} {F : Addr} {b : Bool} {Q : Unit → Shared → Prop} (hA : A.frames = some (env :: outer)) (hF : env.frame = some F) (x : Exo T s₀ e X a0 c2 s) (hf : FrOk T s.heap (env :: outer))
    (hQ : ∀ s' tb, Exo T s₀ e X a0 c2 s' → FrOk T s'.heap (env :: outer) → Hd s' e tb → (∃ ot tvs, s'.heap.get? tb = some ot ∧ ot.data = .fields tvs ∧ tvs[3]? = some (rawInt F)) → HKx (fun b => b = e) T.n s.heap s'.heap → Q () s') :
    wpAny (model T.prog T.w) A (do setField (.ref e) 1 (← EntryCells.newEntry v1 (← PySem.frameOf env) .none (rawInt F) .none (← entryPlaceOf F b))) Q E s := by
  refine wpAny_bind (frameOf_wp hA hf fun h' F' hF' kp => ?_)
  rw [hF] at hF'; cases hF'
  refine wpAny_bind (wpAny_entryPlaceOf fun pl hpl => ?_)
  unfold EntryCells.newEntry newFields
  refine wpAny_bind (wpAny_newObj_type ?_ (hpl.sizeOk5 _ _ _ _ _))
  have x1 := x.more kp
  have f1 := hf.hk kp.hk
  have k2 : Kp T { s with heap := h' } { s with heap := h'.push { cls := .type "traceback", dict := none, data := .fields ([v1, .ref F, .none, rawInt F, .none] ++ (if pl.isEmpty then List.replicate 6 Value.none else pl)).toArray } } := Kp.push (s := { s with heap := h' })
  have x2 := x1.more k2
  have f2 := f1.hk k2.hk
  have hn : h'.get? h'.objs.size = none := get?_size _
  obtain ⟨oe, vs, w1, g1, _⟩ := x1.obj
  have hne : h'.objs.size ≠ e := fun q => by rw [q] at hn; rw [show ({ s with heap := h' } : Shared).heap.get? e = some oe from g1] at hn; cases hn
  have et : (h'.push { cls := .type "traceback", dict := none, data := .fields ([v1, .ref F, .none, rawInt F, .none] ++ (if pl.isEmpty then List.replicate 6 Value.none else pl)).toArray }).get? h'.objs.size = some { cls := .type "traceback", dict := none, data := .fields ([v1, .ref F, .none, rawInt F, .none] ++ (if pl.isEmpty then List.replicate 6 Value.none else pl)).toArray } := Heap.get?_push_size _ rfl
  refine x2.setE (i := 1) (v := .ref h'.objs.size) (c2' := c2) f2 ⟨by decide, by decide⟩ (fun _ => .inr ⟨_, _, _, rfl, hne, Fresh.kp x1.kp (.none hn), et, rfl, rfl, by simp, fun y u q => by simp at q⟩) rfl fun s' x' f' hd hk => ?_
  obtain ⟨oe', vs', g1', g2', g3'⟩ := hd rfl
  refine hQ s' h'.objs.size x' f' ⟨oe', vs', g1', g2', g3'⟩ ⟨_, _, hk _ _ hne et, rfl, by simp⟩ fun b o eb tb nx => ?_
  rcases (kp.trans k2).hk b o eb tb with r | ⟨r1, m, r2, r3⟩
  · exact .inl (hk b o nx r)
  · obtain ⟨o3, es, ep, e3, rr⟩ := id r3
    exact .inr ⟨r1, m, r2, o3, es, ep, hk b o3 nx e3, rr⟩
theorem rawInt_ne {x : Value} : (x == rawInt 0) = (x == rawInt 0) := rfl
/-- the frame is noted upon the exception -/
theorem note_wp {F : Addr} {Q : Unit → Shared → Prop} (hA : A.frames = some (env :: outer)) (hF : env.frame = some F) (x : Exo T s₀ e X a0 c2 s) (hf : FrOk T s.heap (env :: outer))
    (hQ : ∀ s' tb, Exo T s₀ e X a0 c2 s' → FrOk T s'.heap (env :: outer) → Hd s' e tb → HKx (fun b => b = e ∨ ∃ o, s.heap.get? b = some o ∧ o.cls = .type "traceback") T.n s.heap s'.heap → Q () s') :
    wpAny (model T.prog T.w) A (noteFrame (.ref e) env) Q E s := by
  obtain ⟨oe, vs, v1, h1, h2, h3, h4, h5, h6, h7, h8⟩ := id x.obj
  unfold noteFrame
  simp only [hF]
  refine wpAny_bind (wpAny_field h1 h3 h6 ?_)
  rcases h8 with rfl | ⟨tb, ot, tvs, rfl, q2, q3, q4, q5, q6, q7, q8⟩
  · rw [if_neg (by decide)]
    exact entry_wp hA hF x hf fun s' tb x' f' hd _ hk => hQ s' tb x' f' hd fun b o eb t nx => hk b o eb t fun q => nx (.inl q)
  · rw [if_pos (show (Value.ref tb != Value.none) = true from by simp)]
    obtain ⟨x3, hx3⟩ : ∃ x3, tvs[3]? = some x3 := ⟨_, Array.getElem?_eq_getElem q7⟩
    refine wpAny_bind (wpAny_field q4 q6 hx3 ?_)
    by_cases q : (x3 == rawInt F) = true
    · rw [if_pos q]
      exact wpAny_pure (hQ s tb x hf ⟨oe, vs, h1, h3, h6⟩ fun b o eb t nx => .inl eb)
    · rw [if_neg q]
      refine wpAny_bind (x.setT hf h1 h3 h6 fun s1 x1 f1 e1 _ hk1 => ?_)
      refine entry_wp hA hF x1 f1 fun s' tb' x' f' hd _ hk => hQ s' tb' x' f' hd (HKx.trans (h' := s1.heap) (fun b o eb t nx => ?_) fun b o eb t nx => hk b o eb t fun z => nx (.inl z))
      have hb : b ≠ tb := fun z => nx (.inr ⟨o, eb, by rw [z, q4] at eb; cases eb; exact q5⟩)
      exact .inl (hk1 b o hb eb)
/-- the flight mark -/
theorem flight_wp {fr : Option Addr} {l : List Env} {tb : Addr} {Q : Unit → Shared → Prop} (x : Exo T s₀ e X a0 c2 s) (hf : FrOk T s.heap l) (hd : Hd s e tb)
    (hQ : ∀ s', Exo T s₀ e X a0 c2 s' → FrOk T s'.heap l → Hd s' e tb → (∃ ot tvs, s'.heap.get? tb = some ot ∧ ot.data = .fields tvs ∧ tvs[3]? = some (fr.elim .none fun f => rawInt f)) → (∀ b o, b ≠ tb → s.heap.get? b = some o → s'.heap.get? b = some o) → Q () s') : wpAny (model T.prog T.w) A (setFlight (.ref e) fr) Q E s := by
  obtain ⟨oe, vs, h1, h3, h6⟩ := hd
  unfold setFlight
  refine wpAny_bind (wpAny_field h1 h3 h6 ?_)
  rw [if_pos (show (Value.ref tb != Value.none) = true from by simp)]
  exact x.setT hf h1 h3 h6 fun s' x' f' e' ht hk => hQ s' x' f' ⟨oe, vs, e', h3, h6⟩ ht hk
/-- noted already: nothing is done -/
theorem note_again {F tb : Addr} {Q : Unit → Shared → Prop} (hF : env.frame = some F) (hd : Hd s e tb) (ht : ∃ ot tvs, s.heap.get? tb = some ot ∧ ot.data = .fields tvs ∧ tvs[3]? = some (rawInt F)) (h : Q () s) : wpAny (model T.prog T.w) A (noteFrame (.ref e) env) Q E s := by
  obtain ⟨oe, vs, h1, h3, h6⟩ := hd
  obtain ⟨ot, tvs, q4, q6, q7⟩ := ht
  unfold noteFrame
  simp only [hF]
  refine wpAny_bind (wpAny_field h1 h3 h6 ?_)
  rw [if_pos (show (Value.ref tb != Value.none) = true from by simp)]
  refine wpAny_bind (wpAny_field q4 q6 q7 ?_)
  rw [if_pos (show (rawInt F == rawInt F) = true from by first | (simp; done) | exact beq_self_eq_true _)]
  exact wpAny_pure h
/-- a handler's error comes back to the frame -/
theorem back_wp {F tb : Addr} {E' : Value → Shared → Prop} (hF : env.frame = some F) {l : List Env} (x : Exo T s₀ e X a0 c2 s) (hf : FrOk T s.heap l) (hd : Hd s e tb)
    (hQ : ∀ s', Exo T s₀ e X a0 c2 s' → FrOk T s'.heap l → Hd s' e tb → (∃ ot tvs, s'.heap.get? tb = some ot ∧ ot.data = .fields tvs ∧ tvs[3]? = some (rawInt F)) → (∀ b o, b ≠ tb → s.heap.get? b = some o → s'.heap.get? b = some o) → E' (.ref e) s') : cameBackBy (model T.prog T.w) A env E' (.ref e) s := by
  obtain ⟨oe, vs, h1, h3, h6⟩ := id hd
  unfold cameBackBy
  refine wpAny_bind (wpAny_field h1 h3 h6 ?_)
  rw [if_neg (by simp)]
  refine flight_wp x hf hd fun s' x' f' hd' ht hk => ?_
  rw [hF] at ht
  exact hQ s' x' f' hd' ht hk
end
end Mine

namespace Mine
theorem entry_unchain : entryFor table "proto.unchain" = some Builtin.«proto.unchain» := entryFor_of_fast (by kernel_rfl)
section
variable {T : Th} {A : Around} {E : Value → Shared → Prop} {s₀ s s' : Shared} {env : Env} {l : List Env}
theorem unchain_wp {e e1 : Addr} {o1 : Obj} {vs1 : Array Value} {Q : Value → Shared → Prop} (h1 : s.heap.get? e1 = some o1) (h2 : o1.data = .fields vs1) (h3 : vs1[2]? = some .none) (h : Q .none s) :
    wpAny (model T.prog T.w) A (runValue (.builtin "proto.unchain" ⟨[.ref e, .ref e1, .ref e1, .bool false], []⟩)) Q E s := by
  refine wpAny_runValue (codeAny_builtin entry_unchain ?_)
  show wpAny _ _ (field (.ref e1) 2 >>= _) _ _ s
  refine wpAny_bind (wpAny_field h1 h2 h3 ?_)
  exact wpAny_pure h
theorem raise_wp {w : Str} {p1 p2 p3 p4 pos : Pos} {i1 i2 : Nat} {e1 : Addr} {o1 : Obj} {vs1 : Array Value} {Q : Flow → Shared → Prop} (N : Nm T) (ge : GEnv env) (hk : env.kindOf "TypeError" = some .globalImplicit) (hkind : env.scope.kind = .function) (hh : A.handled = some (.ref e1)) (G : Gl T s.heap)
    (h1 : s.heap.get? e1 = some o1) (h2 : o1.data = .fields vs1) (h3 : vs1[2]? = some .none) (h4 : o1.cls ≠ .type "traceback") (k0 : Kp T s₀ s) (hf : FrOk T s.heap l)
    (hQ : ∀ e2 t tok s', Exo T s₀ e2 "TypeError" (.ref t) (.ref e1) s' → FrOk T s'.heap l → IsTup s'.heap t #[.str w tok] → e2 ≠ e1 → E (.ref e2) s') :
    wpAny (model T.prog T.w) A (exec (.Raise (some (.Call (.Name "TypeError" p1) [.Constant (.str w) i1 p2] [] p3)) (some (.Constant .none i2 p4)) pos) env) Q E s := by
  rw [arm_exec_Raise]
  refine wpAny_bind (wpAny_standAt ?_)
  show wpAny _ _ (raiseStmt env (some (do let v ← eval (.Call (.Name "TypeError" p1) [.Constant (.str w) i1 p2] [] p3) env; standAt pos; pure v)) (some (do let v ← eval (.Constant .none i2 p4) env; standAt pos; pure v))) _ _ s
  unfold raiseStmt
  dsimp only
  refine wpAny_bind (wpAny_bind (PyProof.Rows.Call_Name rfl (eval_global ge G hkind hk rfl (N.gv (x := "TypeError") (v := .type "TypeError") (by decide) (by decide) (by decide +kernel)) (callWith_of (T := T) (.inr (.inl ⟨_, rfl⟩)) rfl rfl (wpAny_items_cons (wpAny_Constant_str (wpAny_items_nil ⟨G, wpAny_call_exc F.excCall_TypeError fun h' e hm => ?_⟩)) rfl)))))
  refine wpAny_bind (wpAny_standAt (wpAny_pure ?_))
  obtain ⟨t, he, htn, ht⟩ := hm.there
  have kk : Kp T s { s with heap := h', toks := s.toks + 1 } := Kp.of hm.keeps
  have hne1 : e ≠ e1 := fun q => by have := hm.new; rw [q, h1] at this; cases this
  have hx0 : Exo T s₀ e "TypeError" (.ref t) .none { s with heap := h', toks := s.toks + 1 } := ⟨k0.trans kk, Fresh.kp k0 (.none hm.new), by decide, _, _, .none, he, rfl, rfl, by simp, rfl, rfl, rfl, .inl rfl⟩
  have hf0 : FrOk T h' l := hf.hk kk.hk
  have h1' := hm.keeps _ _ h1
  have htup : IsTup h' t #[.str w s.toks] := ⟨_, ht, rfl, _, rfl⟩
  have tne : t ≠ e := fun q => by
    rw [q, he] at ht
    have z := congrArg Obj.data (Option.some.inj ht)
    cases z
  refine wpAny_bind (wpAny_holding (wpAny_bind (wpAny_Constant_none (wpAny_bind (wpAny_standAt (wpAny_pure ?_))))))
  refine wpAny_bind (wpAny_pure ?_)
  have hT : ∀ {s2 : Shared} {o2 : Obj}, s2.heap.get? e = some o2 → o2.cls = .type "TypeError" → s2.TypeIs (.ref e) "TypeError" := fun a b => ⟨_, a, b⟩
  have hnt : ∀ {s2 : Shared} {o2 : Obj} {vs2 : Array Value} {Q' : Bool → Shared → Prop}, s2.heap.get? e = some o2 → o2.data = .fields vs2 → Q' false s2 → wpAny (model T.prog T.w) A (isType (.ref e)) Q' E s2 := by
    intro s2 o2 vs2 Q' a b hq
    simp only [isType, loadHead]
    refine wpAny_bind (wpAny_loadPart a ?_)
    rw [b]; exact wpAny_pure hq
  refine wpAny_bind (wpAny_holding ?_)
  unfold excFromValue isExcClass
  refine wpAny_bind (wpAny_bind (hnt he rfl ?_))
  simp only [Bool.false_eq_true, if_false]
  refine wpAny_pure ?_
  simp only [Bool.false_eq_true, if_false]
  refine wpAny_bind (wpAny_isInstance (hT he rfl) F.excRaise_TypeError.isExc ?_)
  simp only [if_true]
  refine wpAny_pure ?_
  simp only [beq_self_eq_true, if_true]
  refine wpAny_bind (wpAny_pure ?_)
  refine wpAny_bind (hx0.setE (i := 3) (v := .none) (c2' := .none) hf0 ⟨by decide, by decide⟩ (fun q => by cases q) rfl fun s1 x1 f1 _ hk1 => ?_)
  refine wpAny_bind (x1.setE (i := 4) (v := .bool true) (c2' := .none) f1 ⟨by decide, by decide⟩ (fun q => by cases q) rfl fun s2 x2 f2 _ hk2 => ?_)
  obtain ⟨oe, vs, v1, g1, g2, g3, g4, g5, g6, g7, g8⟩ := id x2.obj
  refine wpAny_bind (hnt g1 g3 ?_)
  simp only [Bool.false_eq_true, if_false]
  unfold raisedInstance
  refine wpAny_bind (wpAny_bind (wpAny_typeOf (hT g1 g2) (wpAny_bind (m := typeOf (.type "TypeError")) (wpAny_pure ?_))))
  rw [if_pos F.excRaise_TypeError.plainMeta]
  refine wpAny_pure ?_
  have e1s2 : s2.heap.get? e1 = some o1 := hk2 _ _ (Ne.symm hne1) (hk1 _ _ (Ne.symm hne1) h1')
  have tup2 : IsTup s2.heap t #[.str w s.toks] := by
    obtain ⟨o, eo, r⟩ := htup
    exact ⟨o, hk2 _ _ tne (hk1 _ _ tne eo), r⟩
  -- the raise itself
  have last : ∀ s3 : Shared, Exo T s₀ e "TypeError" (.ref t) .none s3 → FrOk T s3.heap l → s3.heap.get? e1 = some o1 → IsTup s3.heap t #[.str w s.toks] → wpAny (model T.prog T.w) A (raiseNew (.ref e) : Sem Flow) Q E s3 := by
    intro s3 x3 f3 h3' t3
    unfold raiseNew
    refine wpAny_bind (wpAny_handled ?_)
    rw [hh]
    dsimp only
    rw [if_pos (by simpa using (Ne.symm hne1))]
    refine wpAny_bind (wpAny_holding (unchain_wp h3' h2 h3 ?_))
    show wpAny _ _ (setField (.ref e) 2 (.ref e1) >>= _) _ _ s3
    refine wpAny_bind (x3.setE (i := 2) (v := .ref e1) (c2' := .ref e1) f3 ⟨by decide, by decide⟩ (fun q => by cases q) rfl fun s4 x4 f4 _ hk4 => wpAny_throw ?_)
    refine hQ e t s.toks s4 x4 f4 ?_ hne1
    obtain ⟨o, eo, r⟩ := t3
    exact ⟨o, hk4 _ _ tne eo, r⟩
  unfold setFlight
  refine wpAny_bind (wpAny_bind (wpAny_field g1 g3 g6 ?_))
  rcases g8 with rfl | ⟨tb, ot, tvs, rfl, q2, q3, q4, q5, q6, q7, q8⟩
  · rw [if_neg (by decide)]
    exact wpAny_pure (last s2 x2 f2 e1s2 tup2)
  · rw [if_pos (show (Value.ref tb != Value.none) = true from by simp)]
    refine x2.setT f2 g1 g3 g6 fun s3 x3 f3 _ _ hk3 => last s3 x3 f3 (hk3 _ _ (fun z => ?_) e1s2) ?_
    · rw [z, q4] at e1s2; cases e1s2; exact h4 q5
    · obtain ⟨o, eo, r⟩ := tup2
      refine ⟨o, hk3 _ _ (fun z => ?_) eo, r⟩
      rw [z, q4] at eo; cases eo
      rw [q5] at r
      have := r.1
      injection this with z2
      exact absurd z2 (by decide)
end
end Mine

namespace Mine
/-- a call that raises -/
theorem fn_raises {T : Th} {k n : Nat} {a : Addr} {names : List Str} {ds : List D} (lo : Low T) (sg : Sig n names) (f : IsFn T n a) (hlen : ds.length = names.length) (hnm : nmL ds = true)
    {A : Around} {Z : Zo} {s : Shared} {vs : List Value} {Q : Value → Shared → Prop} {E : Value → Shared → Prop} {l : List Env} {W : Str} {c2 : Addr → Value → Prop} (hA : OkN T (k + 1) A) (hl : A.frames = some l) (hfl : FrOk T s.heap l) (G : Gl T s.heap) (z : ZOk Z s.heap) (r : RepL Z s.heap vs ds)
    (h : ∀ (pm code doc : Value) (L : Addr) (Z' : Zo) (s₁ : Shared) (Q' : Flow → Shared → Prop) (E' : Value → Shared → Prop), (∀ b, FrP (envAt n pm code doc L a) Z' b → Fresh s b) → Kp T s s₁ → St T Z' (envAt n pm code doc L a) (names.zip ds) s₁ → FrOk T s₁.heap (envAt n pm code doc L a :: l) → (A.deeper (envAt n pm code doc L a)).frames = some (envAt n pm code doc L a :: l) → OkN T k (A.deeper (envAt n pm code doc L a)) →
      (∀ e2 t tok cv tb s', Exo T s e2 "TypeError" (.ref t) cv s' → FrOk T s'.heap (envAt n pm code doc L a :: l) → IsTup s'.heap t #[.str W tok] → Hd s' e2 tb → (∃ ot tvs, s'.heap.get? tb = some ot ∧ ot.data = .fields tvs ∧ tvs[3]? = some (rawInt L)) → E' (.ref e2) s') →
      wpAny (model T.prog T.w) (A.deeper (envAt n pm code doc L a)) (execs (bodyAt n) (envAt n pm code doc L a)) Q' E' s₁)
    (hE : ∀ e2 t tok cv tb s', Exo T s e2 "TypeError" (.ref t) cv s' → FrOk T s'.heap l → IsTup s'.heap t #[.str W tok] → Hd s' e2 tb → E (.ref e2) s') :
    wpAny (model T.prog T.w) A (call (.ref a) vs) Q E s := by
  obtain ⟨o, pm, code, doc, h2, h3, h4, hcode⟩ : ∃ o pm code doc, s.heap.get? a = some o ∧ o.data = .func (fdAt n pm code doc) ∧ s.heap.CodeRec code (nameAt n) ∧ (n = 11 → code = .ref T.c) := by
    by_cases hn : n = 11
    · subst hn
      obtain ⟨a', o, pm, doc, dd, h0, h1, h2, h3, h4⟩ := G.kept
      have e := sg.of
      rw [h0] at e; cases e
      have : a' = a := by have := f; unfold IsFn nameAt at this; rw [h1] at this; cases this; rfl
      subst this
      exact ⟨o, pm, _, doc, h2, h3, h4, fun _ => rfl⟩
    · obtain ⟨a', o, pm, code, doc, h1, h2, h3, h4⟩ := G.fn n _ sg.of
      have : a' = a := by have := f; unfold IsFn nameAt at this; rw [h1] at this; cases this; rfl
      subst this
      exact ⟨o, pm, code, doc, h2, h3, h4, fun q => absurd q hn⟩
  have hvl : vs.length = names.length := by rw [r.length, hlen]
  have hfst : (names.zip vs).map (·.1) = names := by rw [zip_fst, hvl, List.take_length]
  have hmem : ∀ x ∈ names.zip vs, x.1 ∈ names := fun x hx => by rw [← hfst]; exact List.mem_map_of_mem hx
  refine wpAny_call (codeAny_call_cells (fd := fdAt n pm code doc) (body := bodyAt n) (binds := names.zip vs) (by have := hA.2.1; omega) h2 h3 G.lim h4 rfl (sg.bind vs pm code doc hvl) rfl
    (fun x hx => (sg.kinds x.1 (hmem x hx)).imp id fun q => ⟨q, cellsFrom_some _ _ _ (.inl q)⟩) (fun s₁ x => ?_) sg.co sg.gen sg.kind)
  obtain ⟨h₁, tk₁, rfl, keep⟩ := x.done
  have k1 : Kp T s { s with heap := h₁, toks := tk₁ } := .of keep
  have hL : T.n ≤ s.heap.objs.size := let ⟨m, hm⟩ := G.fr; Nat.le_of_lt hm.lt
  let Z' : Zo := ⟨Z.x, fun _ => False⟩
  have hfm : Fm T (envAt n pm code doc s.heap.objs.size a) h₁ := ⟨⟨_, x.toInCall.ns⟩, fun nm c q => ⟨_, x.cell nm c q⟩, x.apart, hL⟩
  have rl : RepL Z' h₁ vs ds := RepL.zone (Z := Z) (Z' := Z') (h := h₁) (fun b q _ => q) _ _ hnm (r.hk k1.hk)
  have st : St T Z' (envAt n pm code doc s.heap.objs.size a) (names.zip ds) { s with heap := h₁, toks := tk₁ } := by
    refine ⟨⟨G.kp k1, ⟨(z.hk k1.hk).x, fun b q => q.elim⟩, sg.kind, fun y d' e => ?_, hfm.cell⟩, hfm⟩
    obtain ⟨v, hm, hr⟩ := zip_lookup names ds vs rl e
    refine ⟨v, ?_, hr⟩
    have hnd : ((names.zip vs).map (·.1)).Nodup := by rw [hfst]; exact sg.nodup
    rcases sg.kinds y (hmem _ hm) with q | q
    · exact .inl ⟨q, _, x.toInCall.ns, bindL_get q _ _ hnd hm⟩
    · obtain ⟨c, hc⟩ := Option.isSome_iff_exists.mp (cellsFrom_some (x := y) (scopeAt n).names (s.heap.objs.size + 1) [] (.inl q))
      refine .inr ⟨.inl q, c, hc, ?_⟩
      have := x.cell y c hc
      rw [bindC_get q _ _ hnd hm] at this
      exact this
  have hfr : FrOk T h₁ (envAt n pm code doc s.heap.objs.size a :: l) := fun en he => by
    rcases List.mem_cons.mp he with rfl | he
    · exact ⟨sg.kind, _, _, rfl, hL, x.toInCall.ns⟩
    · exact (hfl.hk k1.hk) en he
  have hA' : (A.deeper (envAt n pm code doc s.heap.objs.size a)).frames = some (envAt n pm code doc s.heap.objs.size a :: l) := Around.frames_deeper hl
  refine h pm code doc s.heap.objs.size Z' { s with heap := h₁, toks := tk₁ } _ _ (fun b q o e tt => ?_) k1 st hfr hA' (hA.deeper _) fun e2 t tok cv tb s' x' f' t' hd ht => ?_
  · have hlt := Heap.lt_size e
    rcases q with q | ⟨nm, q⟩ | q
    · have q' : b = s.heap.objs.size := q
      rw [q'] at hlt
      exact Nat.lt_irrefl _ hlt
    · have hc : s.heap.objs.size < b := x.above nm b (mem_of_lookup q)
      exact Nat.lt_asymm hc hlt
    · exact q
  unfold leaving
  refine wpAny_bind (note_again rfl hd ht (flight_wp x' f' hd fun s2 x2 f2 hd2 _ hk2 => ?_))
  refine hE e2 t tok cv tb s2 x2 (fun en he => f2 en (.tail _ he)) ?_ hd2
  obtain ⟨o, eo, hc, nn, hdd⟩ := t'
  refine ⟨o, hk2 _ _ (fun q => ?_) eo, hc, nn, hdd⟩
  obtain ⟨ot, tvs, q4, q6, _⟩ := ht
  rw [q, q4] at eo; cases eo; rw [q6] at hdd; cases hdd
end Mine

namespace Mine
/-- a new exception out of a state that keeps -/
noncomputable def Raised (T : Th) (L : Addr) (s : Shared) (E : Value → Shared → Prop) : Prop := ∀ s1 h' tk e X, Kp T s s1 → (∃ m, s1.heap.Ns L m) → (X = "ValueError" ∨ X = "TypeError") → Heap.NewExc s1.heap h' e X → E (.ref e) { s1 with heap := h', toks := tk }
section
variable {T : Th} {L : Addr} {A : Around} {E : Value → Shared → Prop} {s : Shared} {Q : List Value → Shared → Prop}
theorem unpack_six {l : Addr} {v1 v2 v3 : Value} {vs : List Value} (hh : A.handled = none) (hl : s.heap.IsList l (v1 :: v2 :: v3 :: vs).toArray) (hn : ∃ m, s.heap.Ns L m) (hE : Raised T L s E) : wpAny (model T.prog T.w) A (unpackItems (.ref l) 2 none) Q E s := by
  have hne : ∀ b o, s.heap.get? b = some o → b ≠ s.heap.objs.size := fun b o e q => by rw [q, get?_size] at e; cases e
  have hlt : l ≠ s.heap.objs.size := by obtain ⟨o, ho, _⟩ := hl; exact hne _ _ ho
  unfold unpackItems
  refine wpAny_bind ?_
  unfold notIterableAtAll
  refine wpAny_bind (wpAny_specialOf hl.typeIs slot_list_iter.lookup ?_)
  refine wpAny_pure ?_
  simp only [Bool.false_eq_true, if_false]
  refine wpAny_bind (wpAny_holding (wpAny_pyIter_list hl ?_))
  have it0 : (s.heap.push { cls := .type "list_iterator", data := .fields #[.ref l, .int 0 0] }).IsListIter s.heap.objs.size l 0 := ⟨_, Heap.get?_push_size _ rfl, rfl, rfl⟩
  refine wpAny_bind (wpAny_holding ?_)
  show wpAny _ _ (pyNext (.ref s.heap.objs.size) >>= _) _ _ _
  refine wpAny_bind (wpAny_pyNext_list_item it0 (hl.push _) (x := v1) rfl fun h₁ it₁ hs₁ => ?_)
  refine wpAny_bind (wpAny_holding ?_)
  show wpAny _ _ (pyNext (.ref s.heap.objs.size) >>= _) _ _ _
  have hl₁ := (hl.push { cls := .type "list_iterator", data := .fields #[.ref l, .int 0 0] }).extBut hs₁.extBut hlt
  refine wpAny_bind (wpAny_pyNext_list_item it₁ hl₁ (x := v2) rfl fun h₂ it₂ hs₂ => ?_)
  refine wpAny_bind (wpAny_holding (draw_zero (wpAny_pure (wpAny_pure ?_))))
  rw [if_neg (by simp)]
  refine wpAny_bind (wpAny_holding (wpAny_pyNext_list_item it₂ (hl₁.extBut hs₂.extBut hlt) (x := v3) rfl fun h₃ it₃ hs₃ => ?_))
  simp only [Option.isSome_some, if_true]
  have kp : Kp T s { s with heap := h₃ } := Kp.of (tk := s.toks) fun b o e => hs₃.extBut b o (hne b o e) (hs₂.extBut b o (hne b o e) (hs₁.extBut b o (hne b o e) (Heap.get?_push_of_some _ e)))
  refine wpAny_bind (wpAny_rule ?_)
  first
    | exact wpAny_raiseErrorMade plainExc_ValueError hh (fun h' tk e x => hE { s with heap := h₃ } h' tk e "ValueError" kp (let ⟨m, q⟩ := hn; ⟨m, kp.hk.ns q⟩) (.inl rfl) x) (by decide +kernel)
    | exact wpAny_bind (wpAny_raiseErrorMade plainExc_ValueError hh (fun h' tk e x => hE { s with heap := h₃ } h' tk e "ValueError" kp (let ⟨m, q⟩ := hn; ⟨m, kp.hk.ns q⟩) (.inl rfl) x) (by decide +kernel))
theorem unpack_nil {l : Addr} (hh : A.handled = none) (hl : IsTup s.heap l #[]) (hn : ∃ m, s.heap.Ns L m) (hE : Raised T L s E) : wpAny (model T.prog T.w) A (unpackItems (.ref l) 2 none) Q E s := by
  have hne : ∀ b o, s.heap.get? b = some o → b ≠ s.heap.objs.size := fun b o e q => by rw [q, get?_size] at e; cases e
  have hlt : l ≠ s.heap.objs.size := by obtain ⟨o, ho, _⟩ := hl; exact hne _ _ ho
  unfold unpackItems
  refine wpAny_bind ?_
  unfold notIterableAtAll
  refine wpAny_bind (wpAny_specialOf hl.typeIs slot_tuple_iter.lookup ?_)
  refine wpAny_pure ?_
  simp only [Bool.false_eq_true, if_false]
  refine wpAny_bind (wpAny_holding (iter_tuple hl ?_))
  refine wpAny_bind (wpAny_holding ?_)
  show wpAny _ _ (pyNext (.ref s.heap.objs.size) >>= _) _ _ _
  refine wpAny_bind (next_tuple_end hh ⟨_, Heap.get?_push_size _ rfl, rfl, rfl⟩ (hl.push _) rfl fun h₁ hb₁ => wpAny_pure ?_)
  rw [if_pos (by decide)]
  have kp : Kp T s { s with heap := h₁ } := Kp.of (tk := s.toks) fun b o e => hb₁ b o (hne b o e) (Heap.get?_push_of_some _ e)
  refine wpAny_bind (wpAny_rule ?_)
  first
    | exact wpAny_raiseErrorMade plainExc_ValueError hh (fun h' tk e x => hE { s with heap := h₁ } h' tk e "ValueError" kp (let ⟨m, q⟩ := hn; ⟨m, kp.hk.ns q⟩) (.inl rfl) x) (by decide +kernel)
    | exact wpAny_bind (wpAny_raiseErrorMade plainExc_ValueError hh (fun h' tk e x => hE { s with heap := h₁ } h' tk e "ValueError" kp (let ⟨m, q⟩ := hn; ⟨m, kp.hk.ns q⟩) (.inl rfl) x) (by decide +kernel))
theorem int_no_iter : typeLookup (.type "int") "__iter__" = pure none := by rw [typeLookup_type, builtinLookup_eq_fast]; kernel_rfl
theorem int_no_item : typeLookup (.type "int") "__getitem__" = pure none := by rw [typeLookup_type, builtinLookup_eq_fast]; kernel_rfl
theorem unpack_int {n : Int} {t : Tok} (hh : A.handled = none) (hn : ∃ m, s.heap.Ns L m) (hE : Raised T L s E) : wpAny (model T.prog T.w) A (unpackItems (.int n t) 2 none) Q E s := by
  have hT : s.TypeIs (.int n t) "int" := typeIs_int _ _ _
  unfold unpackItems
  refine wpAny_bind ?_
  unfold notIterableAtAll
  refine wpAny_bind (wpAny_specialOf hT int_no_iter ?_)
  simp only [Option.isSome_none, Bool.false_eq_true, if_false]
  refine wpAny_bind (wpAny_specialOf hT int_no_item ?_)
  refine wpAny_pure ?_
  simp only [if_true]
  refine wpAny_bind (wpAny_rule (wpAny_bind (wpAny_typeNameOf' hT (h := ?_))))
  first
    | exact wpAny_raiseErrorMade plainExc_TypeError hh (fun h' tk e x => hE s h' tk e "TypeError" .refl hn (.inr rfl) x) (by decide +kernel)
    | exact wpAny_bind (wpAny_raiseErrorMade plainExc_TypeError hh (fun h' tk e x => hE s h' tk e "TypeError" .refl hn (.inr rfl) x) (by decide +kernel))
theorem add_strlist {x : Str} {t : Tok} {l : Addr} {items : Array Value} {Q : Value → Shared → Prop} (hh : A.handled = none) (hl : s.heap.IsList l items) (hn : ∃ m, s.heap.Ns L m) (hE : Raised T L s E) : wpAny (model T.prog T.w) A (binaryOp .Add (.str x t) (.ref l)) Q E s := by
  unfold binaryOp
  refine wpAny_holding ?_
  refine wpAny_bind (m := binaryOp1 "add" (.str x t) (.ref l)) ?_
  simp only [binaryOp1]
  refine wpAny_bind (wpAny_typeOf (typeIs_str _ _ _) (wpAny_bind (wpAny_typeOf hl.typeIs (wpAny_bind (wpAny_of_eq PySem.noFill_str_add ?_)))))
  rw [if_neg (by decide)]
  refine wpAny_bind (wpAny_of_eq noFill_list_add ?_)
  simp only [Bool.false_and, Bool.and_false, Bool.false_eq_true, if_false, pure_bind]
  refine wpAny_pure ?_
  refine wpAny_bind (wpAny_typeOf (typeIs_str _ _ _) ?_)
  refine wpAny_bind (wpAny_of_eq PySem.seq_str_add ?_)
  refine wpAny_bind (wpAny_rule ?_)
  refine wpAny_call_entry F.slot_str_add (typeIs_str _ _ _) F.entry_str_add ?_ (F.args_str_add_2 _ _)
  obtain ⟨o, ho, hc, n, hd⟩ := id hl
  unfold Builtin.«str.__add__»
  refine wpAny_bind (wpAny_pure ?_)
  dsimp only [List.headD]
  unfold asStr?
  refine wpAny_bind (wpAny_bind (wpAny_load ho ?_))
  rw [hd]
  refine wpAny_pure ?_
  refine wpAny_bind (wpAny_rule (wpAny_bind (wpAny_typeNameOf' hl.typeIs (h := ?_))))
  first
    | exact wpAny_raiseErrorMade plainExc_TypeError hh (fun h' tk e x => hE s h' tk e "TypeError" .refl hn (.inr rfl) x) (by decide +kernel)
    | exact wpAny_bind (wpAny_raiseErrorMade plainExc_TypeError hh (fun h' tk e x => hE s h' tk e "TypeError" .refl hn (.inr rfl) x) (by decide +kernel))
end
end Mine

namespace Mine
noncomputable def tryBody : Stmt → List Stmt
  | .Try b _ _ _ _ => b
  | _ => []
section
variable {T : Th} {k : Nat} {A : Around} {E : Value → Shared → Prop} {Z : Zo} {s₀ s : Shared} {Q : Flow → Shared → Prop} {pm code doc : Value} {L a : Addr} {d : D} {ρ : Rho}
theorem Raised.from {s1 : Shared} (h : Raised T L s₀ E) (k : Kp T s₀ s1) : Raised T L s1 E := fun s2 h' tk e X k2 hn hX x => h s2 h' tk e X (k.trans k2) hn hX x
theorem assign_raises {x y : Str} {px py tp : Pos} {i : Nat} {v : Value} {Q : Unit → Shared → Prop} {env : Env} (h : wpAny (model T.prog T.w) A (unpackItems v 2 none) (fun _ _ => False) E s) :
    wpAny (model T.prog T.w) A (PySem.assign (.Tuple [.Name x px, .Name y py] i tp) env v) Q E s := by
  rw [arm_assign_Tuple]
  refine wpAny_bind (wpAny_standAt ?_)
  unfold unpack
  rw [show (assignEach [.Name x px, .Name y py] env).length = 2 from rfl, show (assignEach [.Name x px, .Name y py] env).findIdx? (·.1) = none from rfl]
  exact wpAny_bind (wpAny_holding (wpAny_mono h (fun _ _ f => f.elim) fun _ _ e => e))
theorem try_raises (hd : Ref d) (hA : OkN T k A) (lo : Low T) (P : St T Z (envAt 6 pm code doc L a) ρ s) (hρ : Lk ρ "localetuple" d) (k0 : Kp T s₀ s) (hfr : ∀ b, FrP (envAt 6 pm code doc L a) Z b → Fresh s₀ b) (hE : Raised T L s₀ E) :
    wpAny (model T.prog T.w) A (execs (tryBody ((bodyAt 6).getD 0 default)) (envAt 6 pm code doc L a)) Q E s := by
  cases hd with
  | six =>
    refine wpAny_execs_cons (PyProof.Rows.Assign_Tuple (Ev.name (T := T) (k := k) hρ rfl rfl A Z s _ _ hA P.toPre fun v s₁ k₁ r₁ => assign_raises ?_) rfl rfl)
    obtain ⟨l, vs, rfl, nx, hl, rl⟩ := r₁.lst_inv
    have hlen := rl.length
    match vs, hlen with
    | v1 :: v2 :: v3 :: vs, _ => exact unpack_six hA.1 hl (P.kp k₁).f.ns (hE.from (k0.trans k₁))
  | nil =>
    refine wpAny_execs_cons (PyProof.Rows.Assign_Tuple (Ev.name (T := T) (k := k) hρ rfl rfl A Z s _ _ hA P.toPre fun v s₁ k₁ r₁ => assign_raises ?_) rfl rfl)
    obtain ⟨l, vs, rfl, nx, hl, rl⟩ := r₁.tup_inv
    have hlen := rl.length
    match vs, hlen with
    | [], _ => exact unpack_nil hA.1 hl (P.kp k₁).f.ns (hE.from (k0.trans k₁))
  | five =>
    refine wpAny_execs_cons (PyProof.Rows.Assign_Tuple (Ev.name (T := T) (k := k) hρ rfl rfl A Z s _ _ hA P.toPre fun v s₁ k₁ r₁ => assign_raises ?_) rfl rfl)
    obtain ⟨t, rfl⟩ := r₁.int_inv
    exact unpack_int hA.1 (P.kp k₁).f.ns (hE.from (k0.trans k₁))
  | @enc x y hx =>
    refine wpAny_execs_cons (Ex1.unpackT (T := T) (k := k) (R := fun o => o = .next ((Str.ofString "encoding", .lst [.str y]) :: (Str.ofString "language", .str x) :: ρ)) (Ev.name hρ rfl rfl) rfl (.inl rfl) (.inl rfl) rfl rfl rfl A Z s _ _ hA lo P fun f s1 o ho mv is => ?_)
    subst ho
    obtain ⟨rfl, P1⟩ := is
    refine wpAny_execs_cons (Ex1.ife (T := T) (k := k) (c := false) (R := fun o => o = .next ((Str.ofString "encoding", .lst [.str y]) :: (Str.ofString "language", .str x) :: ρ)) (EvB.cmp (Ev.name (d := .str x) rfl rfl rfl) Ev.cnone CmpR.isNone rfl) (fun hc => by cases hc) (fun _ => Ex.nil rfl) A Z s1 _ _ hA lo P1 fun f s2 o ho mv2 is => ?_)
    subst ho
    obtain ⟨rfl, P2⟩ := is
    have kk : Kp T s₀ s2 := MvX.dropAll k0 hfr (mv.trans mv2)
    refine wpAny_execs_cons (wpAny_If (EvB.cmp (T := T) (k := k) (Ev.name (d := .lst [.str y]) rfl rfl rfl) Ev.cnone CmpR.isNone rfl A Z s2 _ _ hA P2.toPre fun s3 k3 => ?_))
    have P3 := P2.kp k3
    rw [if_neg (show ¬ (D.lst [D.str y]).isNone = true from Bool.false_ne_true)]
    have c1 : (Str.ofString ".").length = 1 := by decide +kernel
    refine wpAny_execs_cons (wpAny_Return_some (wpAny_BinOp ?_))
    refine Ev.bin (T := T) (k := k) (Ev.name (d := .str x) rfl rfl rfl) Ev.cstr (BinR.addS (by omega)) A Z s3 _ _ hA P3.toPre fun v4 s4 k4 r4 => ?_
    have P4 := P3.kp k4
    refine Ev.name (T := T) (k := k) (d := .lst [.str y]) rfl rfl rfl A Z s4 _ _ hA P4.toPre fun v5 s5 k5 r5 => ?_
    obtain ⟨t4, rfl⟩ := r4.str_inv
    obtain ⟨l, vs, rfl, nx, hl, rl⟩ := r5.lst_inv
    exact add_strlist hA.1 hl (P4.kp k5).f.ns (hE.from (((kk.trans k3).trans k4).trans k5))
/-- the words of the refusal -/
noncomputable def wordsIn : Str := match (bodyAt 6).getD 0 default with
  | .Try _ [.ExceptHandler _ _ [.Raise (some (.Call _ [.Constant (.str w) _ _] _ _)) _ _] _] _ _ _ => w
  | _ => Str.empty
theorem words_same : wordsIn = wordsAt := by decide +kernel
theorem build_raises {vs : List Value} {l : List Env} {Q : Value → Shared → Prop} (N : Nm T) (lo : Low T) (f : IsFn T 6 a) (hd : Ref d) (hA : OkN T (k + 1) A) (hl : A.frames = some l) (hfl : FrOk T s.heap l) (G : Gl T s.heap) (z : ZOk Z s.heap) (r : RepL Z s.heap vs [d])
    (hE : ∀ e2 t tok cv tb s', Exo T s e2 "TypeError" (.ref t) cv s' → FrOk T s'.heap l → IsTup s'.heap t #[.str wordsIn tok] → Hd s' e2 tb → E (.ref e2) s') : wpAny (model T.prog T.w) A (call (.ref a) vs) Q E s := by
  refine fn_raises (k := k) (ds := [d]) (W := wordsIn) (c2 := fun _ _ => True) lo sig6 f rfl (by cases hd <;> rfl) hA hl hfl G z r (fun pm code doc L Z' s₁ Q' E' hfr k1 st hfl' hA' hok hE' => ?_) hE
  refine wpAny_execs_cons (wpAny_Try_except (try_raises hd hok lo st rfl k1 hfr (fun s2 h' tk e X k2 hn hX x => ?_)))
  obtain ⟨ob, t, h1, h2, h3⟩ := x.there
  have hXc : ("code" : String) ≠ X := by rcases hX with rfl | rfl <;> decide
  have k3 : Kp T s2 { s2 with heap := h', toks := tk } := .of x.keeps
  have x0 : Exo T s e X t .none { s2 with heap := h', toks := tk } := ⟨k2.trans k3, Fresh.kp k2 (.none x.new), hXc, ob, _, .none, h1, h2, h3, by simp, rfl, rfl, rfl, .inl rfl⟩
  have f0 : FrOk T h' (envAt 6 pm code doc L a :: l) := fun en he => by
    rcases List.mem_cons.mp he with rfl | he
    · obtain ⟨m, q⟩ := hn
      exact ⟨sig6.kind, L, m, rfl, st.f.low, k3.hk.ns q⟩
    · exact (hfl.hk (k2.trans k3).hk) en he
  refine note_wp hA' rfl x0 f0 fun s4 tb x4 f4 hd4 _ => flight_wp x4 f4 hd4 fun s5 x5 f5 hd5 _ hk5 => ?_
  have hs1 : isSubtype (.type X) (.type "TypeError") = pure (X == "TypeError") := by
    rcases hX with rfl | rfl
    · rw [isSubtype_type]; kernel_rfl
    · rw [isSubtype_type]; kernel_rfl
  have hs2 : isSubtype (.type X) (.type "ValueError") = pure (X == "ValueError") := by
    rcases hX with rfl | rfl
    · rw [isSubtype_type]; kernel_rfl
    · rw [isSubtype_type]; kernel_rfl
  have hb : (X == "TypeError" || X == "ValueError") = true := by rcases hX with rfl | rfl <;> decide
  have G5 : Gl T s5.heap := G.kp x5.kp
  refine wpAny_handleBy_tup2 F.isExc_TypeError F.notTuple_TypeError F.isExc_ValueError F.notTuple_ValueError hs1 hs2 ?_
  refine wpAny_Tuple (wpAny_items_cons (eval_global ge_at G5 sig6.kind rfl rfl (N.gv (x := "TypeError") (v := .type "TypeError") (by decide) (by decide) (by decide +kernel)) (wpAny_items_cons (eval_global ge_at G5 sig6.kind rfl rfl (N.gv (x := "ValueError") (v := .type "ValueError") (by decide) (by decide) (by decide +kernel)) (wpAny_items_nil ⟨show 2 ≤ sizeLine by decide, ?_⟩)) rfl)) rfl)
  have k6 : Kp T s5 { s5 with heap := s5.heap.push { cls := .type "tuple", data := .seq [Value.type "TypeError", .type "ValueError"].toArray } } := .push
  have x6 := x5.more k6
  have f6 := f5.hk k6.hk
  obtain ⟨oe, es, hoe⟩ := id hd5
  have hd6 : Hd { s5 with heap := s5.heap.push { cls := .type "tuple", data := .seq [Value.type "TypeError", .type "ValueError"].toArray } } e tb := ⟨oe, es, Heap.get?_push_of_some _ hoe.1, hoe.2⟩
  obtain ⟨oe6, vs6, v6, g1, g2, g3, g4, g5, g6, g7, g8⟩ := id x6.obj
  refine ⟨_, rfl, ⟨_, Heap.get?_push_size _ rfl, rfl, _, rfl⟩, ⟨oe6, g1, g2⟩, ?_⟩
  rw [if_pos hb]
  refine flight_wp x6 f6 hd6 fun s7 x7 f7 hd7 _ hk7 => ?_
  obtain ⟨oe7, vs7, v7, j1, j2, j3, j4, j5, j6, j7, j8⟩ := id x7.obj
  refine wpAny_execs_cons (raise_wp (s₀ := s) (l := envAt 6 pm code doc L a :: l) N ge_at rfl sig6.kind rfl (G.kp x7.kp) j1 j3 j7 (by rw [j2]; intro q; injection q with q; rcases hX with rfl | rfl <;> exact absurd q (by decide)) x7.kp f7 fun e2 t2 tok s8 x8 f8 t8 hne => ?_)
  refine note_wp (A := (A.deeper (envAt 6 pm code doc L a)).mark (some (.ref e))) hA' rfl x8 f8 fun s9 tb9 x9 f9 hd9 hk9 => ?_
  refine back_wp rfl x9 f9 hd9 fun s10 x10 f10 hd10 ht10 hk10 => ?_
  refine hE' e2 t2 tok (.ref e) tb9 s10 x10 f10 ?_ hd10 ht10
  obtain ⟨o8, eo8, hc8, n8, hd8⟩ := t8
  have e9 : s9.heap.get? t2 = some o8 := by
    refine hk9.exact eo8 (.seq hd8) (fun q => ?_) (by rw [hd8]; nofun)
    rcases q with q | ⟨o', q1, q2⟩
    · obtain ⟨oe8, vs8, v8, m1, _, m3, _⟩ := x8.obj
      rw [q, m1] at eo8; cases eo8
      rw [m3] at hd8; cases hd8
    · rw [eo8] at q1; cases q1
      rw [hc8] at q2; injection q2 with q2
      exact absurd q2 (by decide)
  refine ⟨o8, hk10 _ _ (fun q => ?_) e9, hc8, n8, hd8⟩
  obtain ⟨oe9, vs9, v9, m1, _, m3, _, _, m6, _, m8⟩ := x9.obj
  obtain ⟨oe9', vs9', p1, p3, p6⟩ := hd9
  rw [m1] at p1; cases p1
  rw [m3] at p3; cases p3
  rw [m6] at p6; cases p6
  rcases m8 with m8 | ⟨tb', ot, tvs, q1, _, _, q4, _, q6, _⟩
  · cases m8
  · cases q1
    rw [q, q4] at e9; cases e9
    rw [q6] at hd8; cases hd8
end
end Mine

namespace Mine
section
variable {T : Th} {A : Around} {E : Value → Shared → Prop} {s₀ s s' : Shared} {e tb : Addr} {X : String} {a0 c2 : Value} {env : Env}
/-- a tuple stands while an exception is noted or marked -/
theorem tup_note {t : Addr} {vs : Array Value} (x : Exo T s₀ e X a0 c2 s) (t8 : IsTup s.heap t vs) (hk : HKx (fun b => b = e ∨ ∃ o, s.heap.get? b = some o ∧ o.cls = .type "traceback") T.n s.heap s'.heap) : IsTup s'.heap t vs := by
  obtain ⟨o8, eo8, hc8, n8, hd8⟩ := t8
  refine ⟨o8, hk.exact eo8 (.seq hd8) (fun q => ?_) (by rw [hd8]; nofun), hc8, n8, hd8⟩
  rcases q with q | ⟨o', q1, q2⟩
  · obtain ⟨oe8, vs8, v8, m1, _, m3, _⟩ := x.obj
    rw [q, m1] at eo8; cases eo8
    rw [m3] at hd8; cases hd8
  · rw [eo8] at q1; cases q1
    rw [hc8] at q2; injection q2 with q2
    exact absurd q2 (by decide)
theorem tup_mark {t : Addr} {vs : Array Value} (x : Exo T s₀ e X a0 c2 s) (hd : Hd s e tb) (t8 : IsTup s.heap t vs) (hk : ∀ b o, b ≠ tb → s.heap.get? b = some o → s'.heap.get? b = some o) : IsTup s'.heap t vs := by
  obtain ⟨o8, e9, hc8, n8, hd8⟩ := t8
  refine ⟨o8, hk _ _ (fun q => ?_) e9, hc8, n8, hd8⟩
  obtain ⟨oe9, vs9, v9, m1, _, m3, _, _, m6, _, m8⟩ := x.obj
  obtain ⟨oe9', vs9', p1, p3, p6⟩ := hd
  rw [m1] at p1; cases p1
  rw [m3] at p3; cases p3
  rw [m6] at p6; cases p6
  rcases m8 with m8 | ⟨tb', ot, tvs, q1, _, _, q4, _, q6, _⟩
  · cases m8
  · cases q1
    rw [q, q4] at e9; cases e9
    rw [q6] at hd8; cases hd8
/-- a store of any value into the frame -/
theorem store_raw {x : Str} {v : Value} {Q : Unit → Shared → Prop} (lo : Low T) (G : Gl T s.heap) (hk : env.scope.kind = .function) (hn0 : ∃ m, s.heap.Ns env.locals m) (low : T.n ≤ env.locals) (hl : env.kindOf x = some .local)
    (hQ : ∀ s', MvX T (fun b => b = env.locals) s s' → Gl T s'.heap → (∃ m, s'.heap.Ns env.locals m ∧ m x = some v) → Heap.ExtBut env.locals s.heap s'.heap → Q () s') : wpAny (model T.prog T.w) A (storeName env x v) Q E s := by
  obtain ⟨m, hn⟩ := hn0
  obtain ⟨oL, es, ep, eL, hdL, _⟩ := id hn
  have l : Loose T oL env.locals := .dict hdL low
  refine wpAny_storeName_local hl hn (fun h' hn' hs => ?_) (by rw [hk]; rfl)
  have hb := hs.extBut
  exact hQ _ ⟨h', _, rfl, fun b o e t nx => .inl (hb b o nx e), fun x => x.sameBut l eL hb⟩ (G.sameBut lo l eL hb fun q => ⟨_, q ▸ hn'⟩) ⟨_, hn', by simp⟩ hb
theorem goes_raw {x : Str} {pos : Pos} {Q : Unit → Shared → Prop} (lo : Low T) (G : Gl T s.heap) (hk : env.scope.kind = .function) (hn0 : ∃ m, s.heap.Ns env.locals m) (low : T.n ≤ env.locals) (hl : env.kindOf x = some .local)
    (hQ : ∀ s', MvX T (fun b => b = env.locals) s s' → Q () s') : wpAny (model T.prog T.w) A (do bindName env x .none; unbindBehindTheSuite env x pos) Q E s := by
  obtain ⟨m, hn⟩ := hn0
  obtain ⟨oL, es, ep, eL, hdL, _⟩ := id hn
  have l : Loose T oL env.locals := .dict hdL low
  refine wpAny_nameGoes hl hn (by rw [hk]; rfl) fun h' m' hn' hs => ?_
  have hb := hs.extBut
  exact hQ _ ⟨h', _, rfl, fun b o e t nx => .inl (hb b o nx e), fun x => x.sameBut l eL hb⟩
end

/-- a call of the text's own, its frames known -/
theorem fn_enterF {T : Th} {k n : Nat} {a : Addr} {names : List Str} {ds : List D} {d : D} (lo : Low T) (sg : Sig n names) (f : IsFn T n a) (hlen : ds.length = names.length) (hnm : nmL ds = true) (hdm : d.nm = true)
    {A : Around} {Z : Zo} {s : Shared} {vs : List Value} {Q : Value → Shared → Prop} {E : Value → Shared → Prop} {l : List Env} (hA : OkN T (k + 1) A) (hl : A.frames = some l) (hfl : FrOk T s.heap l) (G : Gl T s.heap) (z : ZOk Z s.heap) (r : RepL Z s.heap vs ds)
    (h : ∀ (pm code doc : Value) (L : Addr) (Z' : Zo) (s₁ : Shared) (Q' : Flow → Shared → Prop) (E' : Value → Shared → Prop), (∀ b, ¬ Z'.y b) → St T Z' (envAt n pm code doc L a) (names.zip ds) s₁ → FrOk T s₁.heap (envAt n pm code doc L a :: l) → (A.deeper (envAt n pm code doc L a)).frames = some (envAt n pm code doc L a :: l) → OkN T k (A.deeper (envAt n pm code doc L a)) →
      (∀ fl s', Mv T Z' (envAt n pm code doc L a) s₁ s' → Rep Z' s'.heap (match fl with | .ret v => v | _ => .none) d → Q' fl s') →
      wpAny (model T.prog T.w) (A.deeper (envAt n pm code doc L a)) (execs (bodyAt n) (envAt n pm code doc L a)) Q' E' s₁)
    (hQ : ∀ v s', Kp T s s' → Rep Z s'.heap v d → Q v s') :
    wpAny (model T.prog T.w) A (call (.ref a) vs) Q E s := by
  obtain ⟨o, pm, code, doc, h2, h3, h4, hcode⟩ : ∃ o pm code doc, s.heap.get? a = some o ∧ o.data = .func (fdAt n pm code doc) ∧ s.heap.CodeRec code (nameAt n) ∧ (n = 11 → code = .ref T.c) := by
    by_cases hn : n = 11
    · subst hn
      obtain ⟨a', o, pm, doc, dd, h0, h1, h2, h3, h4⟩ := G.kept
      have e := sg.of
      rw [h0] at e; cases e
      have : a' = a := by have := f; unfold IsFn nameAt at this; rw [h1] at this; cases this; rfl
      subst this
      exact ⟨o, pm, _, doc, h2, h3, h4, fun _ => rfl⟩
    · obtain ⟨a', o, pm, code, doc, h1, h2, h3, h4⟩ := G.fn n _ sg.of
      have : a' = a := by have := f; unfold IsFn nameAt at this; rw [h1] at this; cases this; rfl
      subst this
      exact ⟨o, pm, code, doc, h2, h3, h4, fun q => absurd q hn⟩
  have hvl : vs.length = names.length := by rw [r.length, hlen]
  have hfst : (names.zip vs).map (·.1) = names := by rw [zip_fst, hvl, List.take_length]
  have hmem : ∀ x ∈ names.zip vs, x.1 ∈ names := fun x hx => by rw [← hfst]; exact List.mem_map_of_mem hx
  refine wpAny_call (codeAny_call_cells (fd := fdAt n pm code doc) (body := bodyAt n) (binds := names.zip vs) (by have := hA.2.1; omega) h2 h3 G.lim h4 rfl (sg.bind vs pm code doc hvl) rfl
    (fun x hx => (sg.kinds x.1 (hmem x hx)).imp id fun q => ⟨q, cellsFrom_some _ _ _ (.inl q)⟩) (fun s₁ x => ?_) sg.co sg.gen sg.kind)
  obtain ⟨h₁, tk₁, rfl, keep⟩ := x.done
  have k1 : Kp T s { s with heap := h₁, toks := tk₁ } := .of keep
  have hL : T.n ≤ s.heap.objs.size := let ⟨m, hm⟩ := G.fr; Nat.le_of_lt hm.lt
  let Z' : Zo := ⟨Z.x, fun _ => False⟩
  have hfm : Fm T (envAt n pm code doc s.heap.objs.size a) h₁ := ⟨⟨_, x.toInCall.ns⟩, fun nm c q => ⟨_, x.cell nm c q⟩, x.apart, hL⟩
  have rl : RepL Z' h₁ vs ds := RepL.zone (Z := Z) (Z' := Z') (h := h₁) (fun b q _ => q) _ _ hnm (r.hk k1.hk)
  have st : St T Z' (envAt n pm code doc s.heap.objs.size a) (names.zip ds) { s with heap := h₁, toks := tk₁ } := by
    refine ⟨⟨G.kp k1, ⟨(z.hk k1.hk).x, fun b q => q.elim⟩, sg.kind, fun y d' e => ?_, hfm.cell⟩, hfm⟩
    obtain ⟨v, hm, hr⟩ := zip_lookup names ds vs rl e
    refine ⟨v, ?_, hr⟩
    have hnd : ((names.zip vs).map (·.1)).Nodup := by rw [hfst]; exact sg.nodup
    rcases sg.kinds y (hmem _ hm) with q | q
    · exact .inl ⟨q, _, x.toInCall.ns, bindL_get q _ _ hnd hm⟩
    · obtain ⟨c, hc⟩ := Option.isSome_iff_exists.mp (cellsFrom_some (x := y) (scopeAt n).names (s.heap.objs.size + 1) [] (.inl q))
      refine .inr ⟨.inl q, c, hc, ?_⟩
      have := x.cell y c hc
      rw [bindC_get q _ _ hnd hm] at this
      exact this
  have hfr : FrOk T h₁ (envAt n pm code doc s.heap.objs.size a :: l) := fun en he => by
    rcases List.mem_cons.mp he with rfl | he
    · exact ⟨sg.kind, _, _, rfl, hL, x.toInCall.ns⟩
    · exact (hfl.hk k1.hk) en he
  have hA' : (A.deeper (envAt n pm code doc s.heap.objs.size a)).frames = some (envAt n pm code doc s.heap.objs.size a :: l) := Around.frames_deeper hl
  refine h pm code doc s.heap.objs.size Z' { s with heap := h₁, toks := tk₁ } _ _ (fun b q => q) st hfr hA' (hA.deeper _) fun fl s' mv r' => ?_
  have kp : Kp T s s' := by
    obtain ⟨h', tk', rfl, hk, ht⟩ := mv
    refine ⟨h', tk', rfl, fun b ob e t => ?_, fun q => ht (k1.tab q)⟩
    have nf : ¬ FrP (envAt n pm code doc s.heap.objs.size a) Z' b := fun q => by
      have hlt := Heap.lt_size e
      rcases q with q | ⟨nm, q⟩ | q
      · have q' : b = s.heap.objs.size := q
        rw [q'] at hlt
        exact Nat.lt_irrefl _ hlt
      · have hc : s.heap.objs.size < b := x.above nm b (mem_of_lookup q)
        exact Nat.lt_asymm hc hlt
      · exact q
    rcases hk b ob (keep b ob e) t nf with w | ⟨w1, m, w2, w3⟩
    · exact .inl w
    · refine .inr ⟨w1, m, ?_, w3⟩
      obtain ⟨o', es, ep, e', rr⟩ := w2
      have e'' := keep b ob e
      rw [show ({ s with heap := h₁, toks := tk₁ } : Shared).heap.get? b = some ob from e''] at e'; cases e'
      exact ⟨ob, es, ep, e, rr⟩
  exact hQ _ _ kp (Rep.zone (Z := Z') (Z' := Z) (fun b q _ => q) _ _ hdm r')

/-- what _law_refusal answers -/
theorem fn_refusal {T : Th} {a6 a13 : Addr} {d : D} (N : Nm T) (lo : Low T) (f6 : IsFn T 6 a6) (f13 : IsFn T 13 a13) (hd : Ref d) : CallR T 40 (.ref a13) [d] (.str wordsAt) := fun A Z s vs Q E hA G z r hQ => by
  obtain ⟨e0, hl, hk0, hF0⟩ := hA.2.2.2.2 rfl
  have hdn : nmL [d] = true := by cases hd <;> rfl
  have hfl : FrOk T s.heap [e0] := fun en he => by
    rcases List.mem_cons.mp he with rfl | he
    · obtain ⟨m, hm⟩ := G.fr
      exact ⟨hk0, T.n, m, hF0, Nat.le_refl _, hm⟩
    · cases he
  refine fn_enterF (k := 39) (d := .str wordsAt) lo sig13 f13 rfl hdn rfl hA hl hfl G z r (fun pm code doc L Z' s₁ Q' E' hy st hfr hA' hok hQ' => ?_) hQ
  generalize henv : envAt 13 pm code doc L a13 = env at st hfr hA' hok hQ' ⊢
  have ge : GEnv env := by rw [← henv]; exact ge_at
  have hkind : env.scope.kind = .function := by rw [← henv]; rfl
  have kE : env.kindOf "error" = some .local := by rw [← henv]; rfl
  have kB : env.kindOf "_build_localename" = some .globalImplicit := by rw [← henv]; rfl
  have kT : env.kindOf "TypeError" = some .globalImplicit := by rw [← henv]; rfl
  have kS : env.kindOf "str" = some .globalImplicit := by rw [← henv]; rfl
  have hF : env.frame = some L := by rw [← henv]; rfl
  have hLoc : env.locals = L := by rw [← henv]; rfl
  have hint : interactive env = false := by rw [← henv]; rfl
  refine wpAny_execs_cons (wpAny_Try_except ?_)
  refine wpAny_execs_cons (wpAny_Expr (PyProof.Rows.Call_Name rfl (eval_global ge st.g hkind kB rfl (.inl f6) (callWith_of (f6.callee sig6) rfl rfl ((EvL.cons (Ev.name (T := T) (k := 39) (d := d) rfl rfl rfl) EvL.nil rfl) _ Z' s₁ _ _ _ hok st.toPre fun us s2 k2 r2 => ⟨(st.kp k2).g, ?_⟩)))) hint rfl)
  have st2 := st.kp k2
  refine build_raises (k := 38) N lo f6 hd hok hA' (hfr.hk k2.hk) st2.g st2.z r2 fun e2 t tok cv tb s3 x3 f3 t3 hd3 => ?_
  refine note_wp hA' hF x3 f3 fun s4 tb4 x4 f4 hd4 hk4 => ?_
  have t4 := tup_note x3 t3 hk4
  refine flight_wp x4 f4 hd4 fun s5 x5 f5 hd5 _ hk5 => ?_
  have t5 := tup_mark x4 hd4 t4 hk5
  have G5 : Gl T s5.heap := st2.g.kp x5.kp
  refine wpAny_handleBy_builtin_as (b := true) (T := "TypeError") (X := "TypeError") F.isExc_TypeError F.notTuple_TypeError (by rw [isSubtype_type]; kernel_rfl) ?_
  refine eval_global ge G5 hkind kT rfl (N.gv (x := "TypeError") (v := .type "TypeError") (by decide) (by decide) (by decide +kernel)) ?_
  obtain ⟨oe5, vs5, v5, g1, g2, _⟩ := id x5.obj
  refine ⟨rfl, ⟨oe5, g1, g2⟩, ?_⟩
  rw [if_pos rfl]
  refine flight_wp x5 f5 hd5 fun s6 x6 f6' hd6 _ hk6 => ?_
  have t6 := tup_mark x5 hd5 t5 hk6
  have G6 : Gl T s6.heap := st2.g.kp x6.kp
  have st6 := st2.kp x6.kp
  refine store_raw lo G6 hkind st6.f.ns st6.f.low kE fun s7 mv7 G7 hv7 hb7 => ?_
  obtain ⟨m7, n7, q7⟩ := hv7
  obtain ⟨oe6, vs6, v6, j1, j2, j3, j4, j5, _⟩ := id x6.obj
  obtain ⟨mL, nL⟩ := st6.f.ns
  have he7 : s7.heap.get? e2 = some oe6 := hb7 _ _ (fun q => by
    obtain ⟨es, ep, hdd⟩ := ns_dict j1 (q ▸ nL)
    rw [j3] at hdd; cases hdd) j1
  obtain ⟨ot, u1, u2, u3, u4⟩ := t6
  have ht7 : s7.heap.get? t = some ot := hb7 _ _ (fun q => by
    obtain ⟨es, ep, hdd⟩ := ns_dict u1 (q ▸ nL)
    rw [u4] at hdd; cases hdd) u1
  refine wpAny_execs_cons (wpAny_Return_some (PyProof.Rows.Call_Name rfl (eval_global ge G7 hkind kS rfl (N.gv (x := "str") (v := .type "str") (by decide) (by decide) (by decide +kernel)) (callWith_of (T := T) (.inr (.inl ⟨_, rfl⟩)) rfl rfl (wpAny_items_cons (wpAny_Name (wpAny_loadName_local hkind kE n7 q7 (wpAny_items_nil ⟨G7, ?_⟩)) rfl) rfl)))))
  have hu : ((A.deeper env).mark (some (.ref e2))).units + 2 < cLine := by have := hok.2.2.1; show (A.deeper env).units + 2 < cLine; omega
  refine P.str_of_exc_one (A := (A.deeper env).mark (some (.ref e2))) F.excStr_TypeError hu ⟨oe6, vs6, he7, j2, j3, j5⟩ ⟨ot, u3, ht7, u2, u4⟩ ?_
  refine goes_raw lo G7 hkind ⟨_, n7⟩ st6.f.low kE fun s8 mv8 => ?_
  refine hQ' _ s8 (MvX.trans (.of_kp (k2.trans x6.kp)) ((mv7.trans mv8).mono fun b q => .inl q)) ?_
  rw [← words_same]
  exact rep_str
end Mine

namespace Mine

noncomputable abbrev tabs1 : List (Addr × Addr) := [(67, 65)]
/-- the defs of the text -/
noncomputable def defNos : List Nat := [2, 3, 5, 6, 8, 9, 10, 11, 12, 13, 14]
/-- a program that bears the text's defs, each once -/
structure Bears (p : Program) : Prop where
  body : ∀ n ∈ defNos, stmtAt n ∈ p.main.body
  once : ∀ n ∈ defNos, p.theDef (nameAt n) = some (paramsAt n, bodyAt n, scopeAt n)
theorem Bears.of {p : Program} (h1 : p.main.body.drop 1 = defNos.map stmtAt) (h2 : (defNos.map fun n => p.theDef (nameAt n)) = defNos.map fun n => some (paramsAt n, bodyAt n, scopeAt n)) : Bears p where
  body := fun n hn => List.mem_of_mem_drop (by rw [h1]; exact List.mem_map_of_mem hn)
  once := fun n hn => by
    have := List.map_inj_left.mp h2 n hn
    exact this
theorem def_of : ∀ (n : Nat) (d : DefRec), DefRec.ofStmt? (stmtAt n) = some d → n ∈ defNos ∧ d = defAt n ∧ d.params.defaults = [] ∧ kwLiteralsOf? d.params.kwonlyargs d.params.kw_defaults = some [] := fun n d e => by
  by_cases hn : n < 15
  · match n, hn, e with
    | 0, _, e => cases e
    | 1, _, e => cases e
    | 2, _, e => cases e; exact ⟨by decide, rfl, rfl, rfl⟩
    | 3, _, e => cases e; exact ⟨by decide, rfl, rfl, rfl⟩
    | 4, _, e => cases e
    | 5, _, e => cases e; exact ⟨by decide, rfl, rfl, rfl⟩
    | 6, _, e => cases e; exact ⟨by decide, rfl, rfl, rfl⟩
    | 7, _, e => cases e
    | 8, _, e => cases e; exact ⟨by decide, rfl, rfl, rfl⟩
    | 9, _, e => cases e; exact ⟨by decide, rfl, rfl, rfl⟩
    | 10, _, e => cases e; exact ⟨by decide, rfl, rfl, rfl⟩
    | 11, _, e => cases e; exact ⟨by decide, rfl, rfl, rfl⟩
    | 12, _, e => cases e; exact ⟨by decide, rfl, rfl, rfl⟩
    | 13, _, e => cases e; exact ⟨by decide, rfl, rfl, rfl⟩
    | 14, _, e => cases e; exact ⟨by decide, rfl, rfl, rfl⟩
  · have hs : stmtAt n = default := by
      unfold stmtAt
      rw [List.getD_eq_getElem?_getD, List.getElem?_eq_none (Nat.le_of_not_lt hn)]
      rfl
    rw [hs] at e
    cases e
theorem recs_mem {p : Program} (hp : Bears p) (n : Nat) (d : DefRec) (e : DefRec.ofStmt? (stmtAt n) = some d) : d ∈ recsOf p := by
  obtain ⟨h1, h2, h3, h4⟩ := def_of n d e
  have h5 := hp.body n h1
  have h6 : p.theDef d.name = some (d.params, d.body, d.scope) := by rw [h2]; exact hp.once n h1
  unfold recsOf
  refine List.mem_filterMap.mpr ⟨stmtAt n, h5, ?_⟩
  clear h1 h2 h5
  generalize stmtAt n = st at e ⊢
  unfold DefRec.ofStmt? at e
  split at e
  · cases e
    dsimp only at h3 h4 h6 ⊢
    rw [h6]
    dsimp only
    rw [h3, h4]
  · cases e
noncomputable def freeNames : List Str := ["len", "sum", "range", "enumerate", "sorted", "isinstance", "bool", "list", "str", "TypeError", "ValueError"]

theorem rep_ints {Z : Zo} {h : Heap} : ∀ {ns : List Int} {vs : List Value}, IntsAre vs ns → RepL Z h vs (ns.map .int)
  | _, _, .nil => .nil
  | _, _, .cons n t r => .cons rep_int (rep_ints r)
theorem cells14 (L : Nat) : ((cellsFrom (L + 1) (scopeAt 14).names []).Pairwise fun x y => x.2 ≠ y.2) ∧ ∀ n c, (n, c) ∈ cellsFrom (L + 1) (scopeAt 14).names [] → L < c := by
  have e : ∃ a b c d f : Str, cellsFrom (L + 1) (scopeAt 14).names [] = [(a, L + 1 + 1 + 1 + 1 + 1), (b, L + 1 + 1 + 1 + 1), (c, L + 1 + 1 + 1), (d, L + 1 + 1), (f, L + 1)] := ⟨_, _, _, _, _, rfl⟩
  obtain ⟨a, b, c, d, f, e⟩ := e
  rw [e]
  constructor
  · have key : ∀ i j : Nat, i < j → ∀ x y : Str, ((x, L + j) : Str × Addr).2 ≠ ((y, L + i) : Str × Addr).2 := fun i j h x y q => by
      have : L + j = L + i := q
      omega
    refine .cons (fun p hp => ?_) (.cons (fun p hp => ?_) (.cons (fun p hp => ?_) (.cons (fun p hp => ?_) (.cons (fun p hp => ?_) .nil))))
    all_goals (
      simp only [List.mem_cons, List.not_mem_nil, or_false] at hp
      try (rcases hp with rfl | rfl | rfl | rfl)
      try (rcases hp with rfl | rfl | rfl)
      try (rcases hp with rfl | rfl)
      try subst hp)
    · exact key 4 5 (by decide) _ _
    · exact key 3 5 (by decide) _ _
    · exact key 2 5 (by decide) _ _
    · exact key 1 5 (by decide) _ _
    · exact key 3 4 (by decide) _ _
    · exact key 2 4 (by decide) _ _
    · exact key 1 4 (by decide) _ _
    · exact key 2 3 (by decide) _ _
    · exact key 1 3 (by decide) _ _
    · exact key 1 2 (by decide) _ _
  · intro n c' hm
    have key : ∀ i : Nat, 0 < i → c' = L + i → L < c' := fun i h q => by
      subst q
      exact Nat.lt_add_of_pos_right h
    simp only [List.mem_cons, List.not_mem_nil, or_false, Prod.mk.injEq] at hm
    rcases hm with ⟨_, q⟩ | ⟨_, q⟩ | ⟨_, q⟩ | ⟨_, q⟩ | ⟨_, q⟩
    · exact key 5 (by decide) q
    · exact key 4 (by decide) q
    · exact key 3 (by decide) q
    · exact key 2 (by decide) q
    · exact key 1 (by decide) q

theorem law_run {w : World} {prog p : Program} {loose : List Str} {K : Frag} {mean : ExcName → Option Value} {mg mb : Str → Option Value} {h₀ h₁ : Heap} {s : Shared} {tk : Nat} {m cm : Str → Option Value} {cells : List (Addr × Obj)} {l : Addr} {vs : List Value} {ns : List Int} {fa : Addr} {pm cd doc : Value} {Q : Flow → Shared → Prop} {E : Value → Shared → Prop}
    (hT : Top p loose mean mg mb h₀) (hX : K.In (ghostOf h₀ tabs1)) (hTab : TabsAt tabs1 h₀) (hF : Fr (ghostOf h₀ tabs1) h₀.objs.size h₁ m) (hN : News (ghostOf h₀ tabs1) h₀.objs.size h₁ (cells ++ [(65, tabObj #[])]))
    (hC : CellsAre cm (cellsFrom (h₀.objs.size + 1) (scopeAt 14).names []) cells) (hcm : cm "script" = some (.ref l)) (hl : h₀.IsList l vs.toArray) (hI : IntsAre vs ns) (hlen : ns.length ≤ 63)
    (hp : Bears p) (hfree : ∀ x ∈ freeNames, x ∉ startupNames ∧ x ∉ loose ∧ x ∉ (recsOf p).map (·.name) ∧ x ∉ (litsOf p).map (·.1) ∧ x ∉ (clssOf p loose).map (·.name)) (hmark : valOf p (Str.ofString "ELLIPSIS_MARKER") = some (.str (Str.ofString "..."))) (hK : tabIn K (Str.ofString "_law_kept") = some (67, 65))
    (hQ : ∀ h' tk', (∀ b o, (ghostOf h₀ tabs1).get? b = some o → h'.get? b = some o) → GrownAt 65 h' → Q (.ret (.bool true)) { s with heap := h', toks := tk' }) :
    wpAny (model prog w) (callerA.deeper (envAt 14 pm cd doc h₀.objs.size fa)) (execs (bodyAt 14) (envAt 14 pm cd doc h₀.objs.size fa)) Q E { s with heap := h₁, toks := tk } := by
  have t65 : h₀.get? 65 = some (tabObj #[]) := (hTab (67, 65) (.head _)).2
  have n65 : h₁.get? 65 = some (tabObj #[]) := (hN (65, tabObj #[]) (by simp)).1
  have keep : ∀ b o, h₀.get? b = some o → h₁.get? b = some o := fun b o e => by
    by_cases q : b = 65
    · subst q; rw [t65] at e; cases e; exact n65
    · exact hF.keep b o (ghost_ne e (by simpa using q))
  let T : Th := ⟨prog, w, mg, mb, 67, h₀.objs.size⟩
  have hT1 := hT.keeps keep
  have lo : Low T := ⟨hT.g.lt, hT.b.lt, let ⟨mc, a, b⟩ := hT.nolimit; a.lt⟩
  have cl : Cl h₀.objs.size (cellsFrom (h₀.objs.size + 1) (scopeAt 14).names []) h₁ cm :=
    Cl.of_news (own := []) (h₀ := ghostOf h₀ tabs1) (fun p hp => hN p (List.mem_append_left _ hp)) hC (cells14 _).1 (cells14 _).2
  have ns1 : ∀ {a mm}, h₁.Ns a mm → a ≠ 65 := fun x q => by
    obtain ⟨o, es, ep, e, hd, _⟩ := x
    rw [q, n65] at e; cases e; cases hd
  have G : Gl T h₁ := {
    g := hT1.g
    b := hT1.b
    lim := hT1.nolimit
    dig := hT1.nodigits
    fn := fun n d e => hT1.fn d (recs_mem hp n d e)
    bmain := by
      obtain ⟨bm, ob, a1, a2, a3, a4, a5, a6⟩ := hT1.bmain
      refine ⟨bm, ob, a1, a2, fun q => ?_, fun q => ?_, a3, a4, a5, a6⟩
      · obtain ⟨o, es, ep, e, hd, _⟩ := hT1.g
        rw [q, e] at a3; cases a3; rw [hd] at a6; cases a6
      · have q' : bm = 65 := q
        rw [q', n65] at a3; cases a3; cases a4
    kept := by
      obtain ⟨a, o, pm, code, doc, e1, e2, e3, e4⟩ := hT.fn (defAt 11) (recs_mem hp 11 (defAt 11) rfl)
      have hc := law_code (x := Str.ofString "_law_kept") (c := 67) (P := 65) hX (ghost_ns hTab hT.g) hK e1 (ghost_get hTab e2 fun q => by rw [q] at e3; cases e3) e3
      have hc' : code = .ref 67 := hc
      subst hc'
      exact ⟨a, o, pm, doc, defAt 11, rfl, e1, keep _ _ e2, e3, e4.keeps keep⟩
    hd := (hTab (67, 65) (.head _)).1.keeps keep
    ne := ns1 hT1.g
    tab := ⟨#[], n65, .inl rfl⟩
    fr := ⟨_, hF.ns⟩ }
  have N : Nm T := {
    mark := by
      obtain ⟨v, e1, e2⟩ := hT.const (Str.ofString "ELLIPSIS_MARKER") (.str (Str.ofString "...")) hmark
      have r := e2 h₀
      cases r with
      | str x t => exact ⟨t, e1⟩
    free := fun x hx => let ⟨f1, f2, f3, f4, f5⟩ := hfree x hx; hT.free x f1 f2 f3 f4 f5
    boot := hT.builtins }
  have fnOf : ∀ (n : Nat), DefRec.ofStmt? (stmtAt n) = some (defAt n) → ∃ a, IsFn T n a := fun n e => by
    obtain ⟨a, o, pm, code, doc, e1, _⟩ := hT.fn (defAt n) (recs_mem hp n _ e)
    exact ⟨a, e1⟩
  obtain ⟨a2, f2⟩ := fnOf 2 rfl
  obtain ⟨a3, f3⟩ := fnOf 3 rfl
  obtain ⟨a5, f5⟩ := fnOf 5 rfl
  obtain ⟨a6, f6⟩ := fnOf 6 rfl
  obtain ⟨a8, f8⟩ := fnOf 8 rfl
  obtain ⟨a9, f9⟩ := fnOf 9 rfl
  obtain ⟨a10, f10⟩ := fnOf 10 rfl
  obtain ⟨a11, f11⟩ := fnOf 11 rfl
  obtain ⟨a12, f12⟩ := fnOf 12 rfl
  obtain ⟨a13, f13⟩ := fnOf 13 rfl
  let Z : Zo := ⟨fun _ => False, fun _ => False⟩
  have kh : HK T.n h₀ h₁ := .of_keeps keep
  have st : St T Z (envAt 14 pm cd doc h₀.objs.size fa) [(Str.ofString "script", .lst (ns.map .int))] { s with heap := h₁, toks := tk } := by
    refine ⟨⟨G, ⟨fun _ q => q.elim, fun _ q => q⟩, rfl, fun y d e => ?_, fun n c e => ⟨_, cl.cell n c e⟩⟩, ⟨_, hF.ns⟩, fun n c e => ⟨_, cl.cell n c e⟩, (cells14 _).1, Nat.le_refl _⟩
    rw [List.lookup_cons] at e
    by_cases q : y = Str.ofString "script"
    · subst q
      simp only [beq_self_eq_true] at e
      cases e
      obtain ⟨c, hc⟩ := Option.isSome_iff_exists.mp (cellsFrom_some (x := Str.ofString "script") (scopeAt 14).names (h₀.objs.size + 1) [] (.inl rfl))
      refine ⟨.ref l, .inr ⟨.inl rfl, c, hc, ?_⟩, ?_⟩
      · rw [← hcm]; exact cl.cell _ _ hc
      · rw [Rep]
        exact ⟨l, vs, rfl, fun q => q, kh.isList hl, rep_ints hI⟩
    · have q' : (y == Str.ofString "script") = false := by simpa using q
      rw [q'] at e
      cases e
  have hA : OkN T 40 (callerA.deeper (envAt 14 pm cd doc h₀.objs.size fa)) :=
    ⟨rfl, (show 1 + claimMargin + 1 + 40 < recursionLimit by decide), (show 7 + 8 * 40 + 64 < cLine by decide), Nat.le_refl _, fun _ => ⟨_, Around.frames_deeper rfl, rfl, rfl⟩⟩
  refine @law_ex T fa pm cd doc h₀.objs.size _ N lo ⟨a2, f2, a3, f3, a5, f5, a6, f6, a8, f8, a9, f9, a10, f10, a11, f11, a12, f12, a13, f13⟩ (fun d hd => fn_refusal N lo f6 f13 hd) ns hlen rfl _ Z _ _ _ hA lo st fun fl s' o ho mv is => ?_
  subst ho
  obtain ⟨v, rfl, g', z', r⟩ := is
  rw [r.bool_inv]
  obtain ⟨h', tk', rfl, hk, ht⟩ := mv
  refine hQ h' tk' (fun b o e => ?_) ?_
  · have e0 : h₀.get? b = some o := of_hideAll _ e
    have hlt : b < h₀.objs.size := Heap.lt_size e0
    have nb : b ≠ 65 := fun q => by
      have : (ghostOf h₀ tabs1).get? 65 = none := hideAll_none _ (by simp)
      rw [q, this] at e; cases e
    have nf : ¬ FrP (envAt 14 pm cd doc h₀.objs.size fa) Z b := fun q => by
      rcases q with q | ⟨nm, q⟩ | q
      · have q' : b = h₀.objs.size := q
        rw [q'] at hlt
        exact Nat.lt_irrefl _ hlt
      · exact Nat.lt_asymm hlt (cl.above nm b (mem_of_lookup q))
      · exact q
    rcases hk b o (keep b o e0) (fun q => absurd q nb) nf with w1 | ⟨w1, _⟩
    · exact w1
    · exact absurd hlt (Nat.not_lt.mpr w1)
  · obtain ⟨ps, e, _⟩ := ht ⟨#[], n65, .inl rfl⟩
    exact ⟨ps, e⟩
end Mine

theorem PySem.Challenge.cw_pk0056_01_holds : PySem.Challenge.rw_pk0056_01.Holds := by
  w_on
  o_law
  k_head
  case hw => w_witness2
  k_go0
  show wpAny (model _ _) (callerA.deeper (Mine.envAt 14 .none _ .none _ _)) (execs (Mine.bodyAt 14) (Mine.envAt 14 .none _ .none _ _)) _ _ _
  refine Mine.law_run (by assumption) (by assumption) (by assumption) (by assumption) ?hN (by assumption) rfl (by assumption) (by assumption) (by omega) ?hp ?hfree ?hmark ?hK fun h' tk' hk hg => ?hQ
  case hN => assumption
  case hp => exact .of (by kernel_rfl) (by kernel_rfl)
  case hfree => decide +kernel
  case hmark => kernel_rfl
  case hK => kernel_rfl
  case hQ =>
    refine ⟨⟨.inl ⟨.bool true, .bool true, [], rfl, fun _ => rfl, .bool true, ?_, fun _ => ⟨.nil, fun a ha => by cases ha⟩⟩, hk, rfl, by assumption⟩, hg, trivial⟩
    kernel_rfl
